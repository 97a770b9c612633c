/-
  NARROWER THAN 'FOR EVERY INPUT', by the rows' own cells (each row's printed sentence says how): FnTxnDefault: loops · FnTxnFiltered: loops.
  DERIVED. THE GIVEN ROWS OF THIS SEAT. 6 by the template 'for every input the law returns true; each argument reads behind the call as it read before'; 0 by the template 'total and deterministic' (their statements: YtibopfemknnocaaTotals.lean).
  GIVEN WITH THE SEED: the statements are not yours to turn. If you find one false, say at which input.
  Laid BY PROGRAM, IN A SANDBOX (cutbox-rows.mjs): the forced cells as the released guide's own fill.sh prints them over the translation ac7751152fd25fb2… (all of the seat's roots in one cut). By AI agents, Wed Nov 11 2026. No macro, syntax, notation, axiom, sorry.
-/
import Derived.Test.YtibopfemknnocaaChecked
import GoSem.Claim
import GoSem.ClaimJoined
import GoSem.ClaimMapViews
import Derived.JoinedTies
import Derived.KernelRfl
namespace Go.Proofs.Ytibopfemknnocaa
/- THE CELL 'sum', in the pinned program and in every row, IS THE sha256 OF THE DUMP (.gsa) THAT YtibopfemknnocaaProg.lean LOADS. Nothing in Lean hashes anything: it is a label: what it is worth is what the hold of that sum in a sandbox is worth. -/
noncomputable def Try.pinned : Pinned := { name := "ytibopfemknnocaa", sum := "ac7751152fd25fb28bf9ea87a2121cccb73d58bc98dd19489beffe6a858082be", checked := Try.checked }
namespace Rows
def none {H : Type} : Left H := { results := [], args := [] }

/-- 'laws.FnTxnDefault': WHATEVER THE INPUT: true; the input reads as it did. -/
def fnTxnDefaultSpec : ChangeSpec := { name := "fnTxnDefault", fn := fun _ => fun
  | [d1, d2, d3] => { results := [.lit (.bool true)], args := [d1, d2, d3] }
  | _ => none }
def fnTxnDefaultRow : OpenClaim := { program := "ytibopfemknnocaa", sum := "ac7751152fd25fb28bf9ea87a2121cccb73d58bc98dd19489beffe6a858082be", func := "pub-stadtholder/laws.FnTxnDefault", spec := "fnTxnDefault", loops := true, apart := false }
def FnTxnDefaultSaid : Prop := fnTxnDefaultRow.holds Try.pinned (OpenSpec.ofChange fnTxnDefaultSpec)

/-- ITS FALSE NEIGHBOUR: 'it returns false'. Refute it at one input. -/
def fnTxnDefaultWrong : ChangeSpec := { name := "fnTxnDefault", fn := fun _ => fun
  | [d1, d2, d3] => { results := [.lit (.bool false)], args := [d1, d2, d3] }
  | _ => none }
def FnTxnDefaultWrongFalsely : Prop := fnTxnDefaultRow.holds Try.pinned (OpenSpec.ofChange fnTxnDefaultWrong)

/-- 'laws.FnAuthRange': WHATEVER THE INPUT: true; the input reads as it did. -/
def fnAuthRangeSpec : ChangeSpec := { name := "fnAuthRange", fn := fun _ => fun
  | [d1, d2] => { results := [.lit (.bool true)], args := [d1, d2] }
  | _ => none }
def fnAuthRangeRow : OpenClaim := { program := "ytibopfemknnocaa", sum := "ac7751152fd25fb28bf9ea87a2121cccb73d58bc98dd19489beffe6a858082be", func := "pub-stadtholder/laws.FnAuthRange", spec := "fnAuthRange", inPlace := ["internal/bytealg.Compare"], apart := false }
def FnAuthRangeSaid : Prop := fnAuthRangeRow.holds Try.pinned (OpenSpec.ofChange fnAuthRangeSpec)

/-- ITS FALSE NEIGHBOUR: 'it returns false'. Refute it at one input. -/
def fnAuthRangeWrong : ChangeSpec := { name := "fnAuthRange", fn := fun _ => fun
  | [d1, d2] => { results := [.lit (.bool false)], args := [d1, d2] }
  | _ => none }
def FnAuthRangeWrongFalsely : Prop := fnAuthRangeRow.holds Try.pinned (OpenSpec.ofChange fnAuthRangeWrong)

/-- 'laws.FnTxnFiltered': WHATEVER THE INPUT: true; the input reads as it did. -/
def fnTxnFilteredSpec : ChangeSpec := { name := "fnTxnFiltered", fn := fun _ => fun
  | [d1, d2] => { results := [.lit (.bool true)], args := [d1, d2] }
  | _ => none }
def fnTxnFilteredRow : OpenClaim := { program := "ytibopfemknnocaa", sum := "ac7751152fd25fb28bf9ea87a2121cccb73d58bc98dd19489beffe6a858082be", func := "pub-stadtholder/laws.FnTxnFiltered", spec := "fnTxnFiltered", unfollowed := true, recurses := true, loops := true, apart := false }
def FnTxnFilteredSaid : Prop := fnTxnFilteredRow.holds Try.pinned (OpenSpec.ofChange fnTxnFilteredSpec)

/-- ITS FALSE NEIGHBOUR: 'it returns false'. Refute it at one input. -/
def fnTxnFilteredWrong : ChangeSpec := { name := "fnTxnFiltered", fn := fun _ => fun
  | [d1, d2] => { results := [.lit (.bool false)], args := [d1, d2] }
  | _ => none }
def FnTxnFilteredWrongFalsely : Prop := fnTxnFilteredRow.holds Try.pinned (OpenSpec.ofChange fnTxnFilteredWrong)

/-- 'laws.FnTxnCompares': WHATEVER THE INPUT: true; the input reads as it did. -/
def fnTxnComparesSpec : ChangeSpec := { name := "fnTxnCompares", fn := fun _ => fun
  | [d1, d2] => { results := [.lit (.bool true)], args := [d1, d2] }
  | _ => none }
def fnTxnComparesRow : OpenClaim := { program := "ytibopfemknnocaa", sum := "ac7751152fd25fb28bf9ea87a2121cccb73d58bc98dd19489beffe6a858082be", func := "pub-stadtholder/laws.FnTxnCompares", spec := "fnTxnCompares", inPlace := ["internal/bytealg.Compare"], apart := false }
def FnTxnComparesSaid : Prop := fnTxnComparesRow.holds Try.pinned (OpenSpec.ofChange fnTxnComparesSpec)

/-- ITS FALSE NEIGHBOUR: 'it returns false'. Refute it at one input. -/
def fnTxnComparesWrong : ChangeSpec := { name := "fnTxnCompares", fn := fun _ => fun
  | [d1, d2] => { results := [.lit (.bool false)], args := [d1, d2] }
  | _ => none }
def FnTxnComparesWrongFalsely : Prop := fnTxnComparesRow.holds Try.pinned (OpenSpec.ofChange fnTxnComparesWrong)

/-- 'laws.FnRevOrder': WHATEVER THE INPUT: true; the input reads as it did. -/
def fnRevOrderSpec : ChangeSpec := { name := "fnRevOrder", fn := fun _ => fun
  | [d1, d2] => { results := [.lit (.bool true)], args := [d1, d2] }
  | _ => none }
def fnRevOrderRow : OpenClaim := { program := "ytibopfemknnocaa", sum := "ac7751152fd25fb28bf9ea87a2121cccb73d58bc98dd19489beffe6a858082be", func := "pub-stadtholder/laws.FnRevOrder", spec := "fnRevOrder", unfollowed := true, recurses := true, apart := false }
def FnRevOrderSaid : Prop := fnRevOrderRow.holds Try.pinned (OpenSpec.ofChange fnRevOrderSpec)

/-- ITS FALSE NEIGHBOUR: 'it returns false'. Refute it at one input. -/
def fnRevOrderWrong : ChangeSpec := { name := "fnRevOrder", fn := fun _ => fun
  | [d1, d2] => { results := [.lit (.bool false)], args := [d1, d2] }
  | _ => none }
def FnRevOrderWrongFalsely : Prop := fnRevOrderRow.holds Try.pinned (OpenSpec.ofChange fnRevOrderWrong)

/-- 'laws.FnBucketOne': WHATEVER THE INPUT: true; the input reads as it did. -/
def fnBucketOneSpec : ChangeSpec := { name := "fnBucketOne", fn := fun _ => fun
  | [d] => { results := [.lit (.bool true)], args := [d] }
  | _ => none }
def fnBucketOneRow : OpenClaim := { program := "ytibopfemknnocaa", sum := "ac7751152fd25fb28bf9ea87a2121cccb73d58bc98dd19489beffe6a858082be", func := "pub-stadtholder/laws.FnBucketOne", spec := "fnBucketOne", unfollowed := true, recurses := true, apart := false }
def FnBucketOneSaid : Prop := fnBucketOneRow.holds Try.pinned (OpenSpec.ofChange fnBucketOneSpec)

/-- ITS FALSE NEIGHBOUR: 'it returns false'. Refute it at one input. -/
def fnBucketOneWrong : ChangeSpec := { name := "fnBucketOne", fn := fun _ => fun
  | [d] => { results := [.lit (.bool false)], args := [d] }
  | _ => none }
def FnBucketOneWrongFalsely : Prop := fnBucketOneRow.holds Try.pinned (OpenSpec.ofChange fnBucketOneWrong)

/- THE SECOND FORM. 'bulk': how many values and letters a reading holds, each counted each time it is reached (what is shared counts as often as it is met; a slice's spare places count too). A statement '..UptoSaid' is the law's where the arguments, and the package variables that the reading takes, are together of bulk at most 1048576: NARROWER than '..Said'. Prove '..Said' where nothing that the law and all that it calls make is longer than what came in: it says more and counts as full. Else prove '..UptoSaid'. A law counts once. -/
mutual
def uptoBulk {H : Type} : DataW H → Nat
  | .lit (.string bytes) => bytes.length + 1
  | .lit _ => 1
  | .nil => 1
  | .ptr d => uptoBulk d + 1
  | .slice elems spare => uptoBulkAll elems + uptoBulkAll spare + 1
  | .agg parts => uptoBulkAll parts + 1
  | .iface _ d => uptoBulk d + 1
  | .map entries => uptoBulkEntries entries + 1
  | .held _ => 1
def uptoBulkAll {H : Type} : List (DataW H) → Nat
  | [] => 0
  | d :: r => uptoBulk d + uptoBulkAll r
def uptoBulkEntries {H : Type} : List (Lit × DataW H) → Nat
  | [] => 0
  | x :: r => uptoBulkEntry x + uptoBulkEntries r
def uptoBulkEntry {H : Type} : Lit × DataW H → Nat
  | (.string bytes, d) => bytes.length + uptoBulk d + 1
  | (_, d) => uptoBulk d + 1
 end
def uptoSmall : (H : Type) → List (DataW H) → Bool := fun _ ds => decide (uptoBulkAll ds ≤ 1048576)
def OpenSpec.upto (s : _root_.Go.ChangeSpec) : _root_.Go.OpenSpec := { _root_.Go.OpenSpec.ofChange s with cond := some uptoSmall }

/-- 'laws.FnTxnDefault', WHERE WHAT IT READS IS OF BULK AT MOST 1048576: true; the input reads as it did. -/
def fnTxnDefaultUptoRow : OpenClaim := { program := "ytibopfemknnocaa", sum := "ac7751152fd25fb28bf9ea87a2121cccb73d58bc98dd19489beffe6a858082be", func := "pub-stadtholder/laws.FnTxnDefault", spec := "fnTxnDefault", loops := true, apart := false, narrowed := true }
def FnTxnDefaultUptoSaid : Prop := fnTxnDefaultUptoRow.holds Try.pinned (OpenSpec.upto fnTxnDefaultSpec)

/-- 'laws.FnAuthRange', WHERE WHAT IT READS IS OF BULK AT MOST 1048576: true; the input reads as it did. -/
def fnAuthRangeUptoRow : OpenClaim := { program := "ytibopfemknnocaa", sum := "ac7751152fd25fb28bf9ea87a2121cccb73d58bc98dd19489beffe6a858082be", func := "pub-stadtholder/laws.FnAuthRange", spec := "fnAuthRange", inPlace := ["internal/bytealg.Compare"], apart := false, narrowed := true }
def FnAuthRangeUptoSaid : Prop := fnAuthRangeUptoRow.holds Try.pinned (OpenSpec.upto fnAuthRangeSpec)

/-- 'laws.FnTxnFiltered', WHERE WHAT IT READS IS OF BULK AT MOST 1048576: true; the input reads as it did. -/
def fnTxnFilteredUptoRow : OpenClaim := { program := "ytibopfemknnocaa", sum := "ac7751152fd25fb28bf9ea87a2121cccb73d58bc98dd19489beffe6a858082be", func := "pub-stadtholder/laws.FnTxnFiltered", spec := "fnTxnFiltered", unfollowed := true, recurses := true, loops := true, apart := false, narrowed := true }
def FnTxnFilteredUptoSaid : Prop := fnTxnFilteredUptoRow.holds Try.pinned (OpenSpec.upto fnTxnFilteredSpec)

/-- 'laws.FnTxnCompares', WHERE WHAT IT READS IS OF BULK AT MOST 1048576: true; the input reads as it did. -/
def fnTxnComparesUptoRow : OpenClaim := { program := "ytibopfemknnocaa", sum := "ac7751152fd25fb28bf9ea87a2121cccb73d58bc98dd19489beffe6a858082be", func := "pub-stadtholder/laws.FnTxnCompares", spec := "fnTxnCompares", inPlace := ["internal/bytealg.Compare"], apart := false, narrowed := true }
def FnTxnComparesUptoSaid : Prop := fnTxnComparesUptoRow.holds Try.pinned (OpenSpec.upto fnTxnComparesSpec)

/-- 'laws.FnRevOrder', WHERE WHAT IT READS IS OF BULK AT MOST 1048576: true; the input reads as it did. -/
def fnRevOrderUptoRow : OpenClaim := { program := "ytibopfemknnocaa", sum := "ac7751152fd25fb28bf9ea87a2121cccb73d58bc98dd19489beffe6a858082be", func := "pub-stadtholder/laws.FnRevOrder", spec := "fnRevOrder", unfollowed := true, recurses := true, apart := false, narrowed := true }
def FnRevOrderUptoSaid : Prop := fnRevOrderUptoRow.holds Try.pinned (OpenSpec.upto fnRevOrderSpec)

/-- 'laws.FnBucketOne', WHERE WHAT IT READS IS OF BULK AT MOST 1048576: true; the input reads as it did. -/
def fnBucketOneUptoRow : OpenClaim := { program := "ytibopfemknnocaa", sum := "ac7751152fd25fb28bf9ea87a2121cccb73d58bc98dd19489beffe6a858082be", func := "pub-stadtholder/laws.FnBucketOne", spec := "fnBucketOne", unfollowed := true, recurses := true, apart := false, narrowed := true }
def FnBucketOneUptoSaid : Prop := fnBucketOneUptoRow.holds Try.pinned (OpenSpec.upto fnBucketOneSpec)

end Rows
end Go.Proofs.Ytibopfemknnocaa
