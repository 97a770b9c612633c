/-
  NARROWER THAN 'FOR EVERY INPUT', by the rows' own cells (each row's printed sentence says how): FnCheckAll: loops.
  DERIVED. THE GIVEN ROWS OF THIS SEAT. 7 by the template 'for every input the law returns true; each argument reads behind the call as it read before'; 0 by the template 'total and deterministic' (their statements: YtbomnihiapjmpaaTotals.lean).
  GIVEN WITH THE SEED: the statements are not yours to turn. If you find one false, say at which input.
  Laid BY PROGRAM, IN A SANDBOX (cutbox-rows.mjs): the forced cells as the released guide's own fill.sh prints them over the translation c05554ca1a623618… (all of the seat's roots in one cut). By AI agents, Wed Nov 11 2026. No macro, syntax, notation, axiom, sorry.
-/
import Derived.Test.YtbomnihiapjmpaaChecked
import GoSem.Claim
import GoSem.ClaimJoined
import GoSem.ClaimMapViews
import Derived.JoinedTies
import Derived.KernelRfl
namespace Go.Proofs.Ytbomnihiapjmpaa
/- THE CELL 'sum', in the pinned program and in every row, IS THE sha256 OF THE DUMP (.gsa) THAT YtbomnihiapjmpaaProg.lean LOADS. Nothing in Lean hashes anything: it is a label: what it is worth is what the hold of that sum in a sandbox is worth. -/
noncomputable def Try.pinned : Pinned := { name := "ytbomnihiapjmpaa", sum := "c05554ca1a623618c7cc92db56389cd142ccfb78cdede8844d70d4309c3bc678", checked := Try.checked }
namespace Rows
def none {H : Type} : Left H := { results := [], args := [] }

/-- 'laws.FnCheckAll': WHATEVER THE INPUT: true; the input reads as it did. -/
def fnCheckAllSpec : ChangeSpec := { name := "fnCheckAll", fn := fun _ => fun
  | [d1, d2] => { results := [.lit (.bool true)], args := [d1, d2] }
  | _ => none }
def fnCheckAllRow : OpenClaim := { program := "ytbomnihiapjmpaa", sum := "c05554ca1a623618c7cc92db56389cd142ccfb78cdede8844d70d4309c3bc678", func := "pub-stadtholder/laws.FnCheckAll", spec := "fnCheckAll", unfollowed := true, recurses := true, loops := true, apart := false }
def FnCheckAllSaid : Prop := fnCheckAllRow.holds Try.pinned (OpenSpec.ofChange fnCheckAllSpec)

/-- ITS FALSE NEIGHBOUR: 'it returns false'. Refute it at one input. -/
def fnCheckAllWrong : ChangeSpec := { name := "fnCheckAll", fn := fun _ => fun
  | [d1, d2] => { results := [.lit (.bool false)], args := [d1, d2] }
  | _ => none }
def FnCheckAllWrongFalsely : Prop := fnCheckAllRow.holds Try.pinned (OpenSpec.ofChange fnCheckAllWrong)

/-- 'laws.FnAuthPermits': WHATEVER THE INPUT: true; the input reads as it did. -/
def fnAuthPermitsSpec : ChangeSpec := { name := "fnAuthPermits", fn := fun _ => fun
  | [d1, d2, d3, d4] => { results := [.lit (.bool true)], args := [d1, d2, d3, d4] }
  | _ => none }
def fnAuthPermitsRow : OpenClaim := { program := "ytbomnihiapjmpaa", sum := "c05554ca1a623618c7cc92db56389cd142ccfb78cdede8844d70d4309c3bc678", func := "pub-stadtholder/laws.FnAuthPermits", spec := "fnAuthPermits", unfollowed := true, recurses := true, apart := false }
def FnAuthPermitsSaid : Prop := fnAuthPermitsRow.holds Try.pinned (OpenSpec.ofChange fnAuthPermitsSpec)

/-- ITS FALSE NEIGHBOUR: 'it returns false'. Refute it at one input. -/
def fnAuthPermitsWrong : ChangeSpec := { name := "fnAuthPermits", fn := fun _ => fun
  | [d1, d2, d3, d4] => { results := [.lit (.bool false)], args := [d1, d2, d3, d4] }
  | _ => none }
def FnAuthPermitsWrongFalsely : Prop := fnAuthPermitsRow.holds Try.pinned (OpenSpec.ofChange fnAuthPermitsWrong)

/-- 'laws.FnAuthSplits': WHATEVER THE INPUT: true; the input reads as it did. -/
def fnAuthSplitsSpec : ChangeSpec := { name := "fnAuthSplits", fn := fun _ => fun
  | [d1, d2, d3, d4, d5, d6, d7] => { results := [.lit (.bool true)], args := [d1, d2, d3, d4, d5, d6, d7] }
  | _ => none }
def fnAuthSplitsRow : OpenClaim := { program := "ytbomnihiapjmpaa", sum := "c05554ca1a623618c7cc92db56389cd142ccfb78cdede8844d70d4309c3bc678", func := "pub-stadtholder/laws.FnAuthSplits", spec := "fnAuthSplits", unfollowed := true, recurses := true, apart := false }
def FnAuthSplitsSaid : Prop := fnAuthSplitsRow.holds Try.pinned (OpenSpec.ofChange fnAuthSplitsSpec)

/-- ITS FALSE NEIGHBOUR: 'it returns false'. Refute it at one input. -/
def fnAuthSplitsWrong : ChangeSpec := { name := "fnAuthSplits", fn := fun _ => fun
  | [d1, d2, d3, d4, d5, d6, d7] => { results := [.lit (.bool false)], args := [d1, d2, d3, d4, d5, d6, d7] }
  | _ => none }
def FnAuthSplitsWrongFalsely : Prop := fnAuthSplitsRow.holds Try.pinned (OpenSpec.ofChange fnAuthSplitsWrong)

/-- 'laws.FnTreeAnswers': WHATEVER THE INPUT: true; the input reads as it did. -/
def fnTreeAnswersSpec : ChangeSpec := { name := "fnTreeAnswers", fn := fun _ => fun
  | [d1, d2] => { results := [.lit (.bool true)], args := [d1, d2] }
  | _ => none }
def fnTreeAnswersRow : OpenClaim := { program := "ytbomnihiapjmpaa", sum := "c05554ca1a623618c7cc92db56389cd142ccfb78cdede8844d70d4309c3bc678", func := "pub-stadtholder/laws.FnTreeAnswers", spec := "fnTreeAnswers", unfollowed := true, recurses := true, apart := false }
def FnTreeAnswersSaid : Prop := fnTreeAnswersRow.holds Try.pinned (OpenSpec.ofChange fnTreeAnswersSpec)

/-- ITS FALSE NEIGHBOUR: 'it returns false'. Refute it at one input. -/
def fnTreeAnswersWrong : ChangeSpec := { name := "fnTreeAnswers", fn := fun _ => fun
  | [d1, d2] => { results := [.lit (.bool false)], args := [d1, d2] }
  | _ => none }
def FnTreeAnswersWrongFalsely : Prop := fnTreeAnswersRow.holds Try.pinned (OpenSpec.ofChange fnTreeAnswersWrong)

/-- 'laws.FnTreeDeletes': WHATEVER THE INPUT: true; the input reads as it did. -/
def fnTreeDeletesSpec : ChangeSpec := { name := "fnTreeDeletes", fn := fun _ => fun
  | [d1, d2, d3, d4] => { results := [.lit (.bool true)], args := [d1, d2, d3, d4] }
  | _ => none }
def fnTreeDeletesRow : OpenClaim := { program := "ytbomnihiapjmpaa", sum := "c05554ca1a623618c7cc92db56389cd142ccfb78cdede8844d70d4309c3bc678", func := "pub-stadtholder/laws.FnTreeDeletes", spec := "fnTreeDeletes", unfollowed := true, recurses := true, apart := false }
def FnTreeDeletesSaid : Prop := fnTreeDeletesRow.holds Try.pinned (OpenSpec.ofChange fnTreeDeletesSpec)

/-- ITS FALSE NEIGHBOUR: 'it returns false'. Refute it at one input. -/
def fnTreeDeletesWrong : ChangeSpec := { name := "fnTreeDeletes", fn := fun _ => fun
  | [d1, d2, d3, d4] => { results := [.lit (.bool false)], args := [d1, d2, d3, d4] }
  | _ => none }
def FnTreeDeletesWrongFalsely : Prop := fnTreeDeletesRow.holds Try.pinned (OpenSpec.ofChange fnTreeDeletesWrong)

/-- 'laws.FnTreeIntersects': WHATEVER THE INPUT: true; the input reads as it did. -/
def fnTreeIntersectsSpec : ChangeSpec := { name := "fnTreeIntersects", fn := fun _ => fun
  | [d1, d2, d3] => { results := [.lit (.bool true)], args := [d1, d2, d3] }
  | _ => none }
def fnTreeIntersectsRow : OpenClaim := { program := "ytbomnihiapjmpaa", sum := "c05554ca1a623618c7cc92db56389cd142ccfb78cdede8844d70d4309c3bc678", func := "pub-stadtholder/laws.FnTreeIntersects", spec := "fnTreeIntersects", unfollowed := true, recurses := true, apart := false }
def FnTreeIntersectsSaid : Prop := fnTreeIntersectsRow.holds Try.pinned (OpenSpec.ofChange fnTreeIntersectsSpec)

/-- ITS FALSE NEIGHBOUR: 'it returns false'. Refute it at one input. -/
def fnTreeIntersectsWrong : ChangeSpec := { name := "fnTreeIntersects", fn := fun _ => fun
  | [d1, d2, d3] => { results := [.lit (.bool false)], args := [d1, d2, d3] }
  | _ => none }
def FnTreeIntersectsWrongFalsely : Prop := fnTreeIntersectsRow.holds Try.pinned (OpenSpec.ofChange fnTreeIntersectsWrong)

/-- 'laws.FnEnds': WHATEVER THE INPUT: true; the input reads as it did. -/
def fnEndsSpec : ChangeSpec := { name := "fnEnds", fn := fun _ => fun
  | [d1, d2, d3, d4, d5] => { results := [.lit (.bool true)], args := [d1, d2, d3, d4, d5] }
  | _ => none }
def fnEndsRow : OpenClaim := { program := "ytbomnihiapjmpaa", sum := "c05554ca1a623618c7cc92db56389cd142ccfb78cdede8844d70d4309c3bc678", func := "pub-stadtholder/laws.FnEnds", spec := "fnEnds", inPlace := ["internal/bytealg.Compare"], unfollowed := true, recurses := true, apart := false }
def FnEndsSaid : Prop := fnEndsRow.holds Try.pinned (OpenSpec.ofChange fnEndsSpec)

/-- ITS FALSE NEIGHBOUR: 'it returns false'. Refute it at one input. -/
def fnEndsWrong : ChangeSpec := { name := "fnEnds", fn := fun _ => fun
  | [d1, d2, d3, d4, d5] => { results := [.lit (.bool false)], args := [d1, d2, d3, d4, d5] }
  | _ => none }
def FnEndsWrongFalsely : Prop := fnEndsRow.holds Try.pinned (OpenSpec.ofChange fnEndsWrong)

/- THE SECOND FORM. 'bulk': how many values and letters a reading holds, each counted each time it is reached (what is shared counts as often as it is met; a slice's spare places count too). A statement '..UptoSaid' is the law's where the arguments, and the package variables that the reading takes, are together of bulk at most 1048576: NARROWER than '..Said'. Prove '..Said' where nothing that the law and all that it calls make is longer than what came in: it says more and counts as full. Else prove '..UptoSaid'. A law counts once. -/
mutual
def uptoBulk {H : Type} : DataW H → Nat
  | .lit (.string bytes) => bytes.length + 1
  | .lit _ => 1
  | .nil => 1
  | .ptr d => uptoBulk d + 1
  | .slice elems spare => uptoBulkAll elems + uptoBulkAll spare + 1
  | .agg parts => uptoBulkAll parts + 1
  | .iface _ d => uptoBulk d + 1
  | .map entries => uptoBulkEntries entries + 1
  | .held _ => 1
def uptoBulkAll {H : Type} : List (DataW H) → Nat
  | [] => 0
  | d :: r => uptoBulk d + uptoBulkAll r
def uptoBulkEntries {H : Type} : List (Lit × DataW H) → Nat
  | [] => 0
  | x :: r => uptoBulkEntry x + uptoBulkEntries r
def uptoBulkEntry {H : Type} : Lit × DataW H → Nat
  | (.string bytes, d) => bytes.length + uptoBulk d + 1
  | (_, d) => uptoBulk d + 1
 end
def uptoSmall : (H : Type) → List (DataW H) → Bool := fun _ ds => decide (uptoBulkAll ds ≤ 1048576)
def OpenSpec.upto (s : _root_.Go.ChangeSpec) : _root_.Go.OpenSpec := { _root_.Go.OpenSpec.ofChange s with cond := some uptoSmall }

/-- 'laws.FnCheckAll', WHERE WHAT IT READS IS OF BULK AT MOST 1048576: true; the input reads as it did. -/
def fnCheckAllUptoRow : OpenClaim := { program := "ytbomnihiapjmpaa", sum := "c05554ca1a623618c7cc92db56389cd142ccfb78cdede8844d70d4309c3bc678", func := "pub-stadtholder/laws.FnCheckAll", spec := "fnCheckAll", unfollowed := true, recurses := true, loops := true, apart := false, narrowed := true }
def FnCheckAllUptoSaid : Prop := fnCheckAllUptoRow.holds Try.pinned (OpenSpec.upto fnCheckAllSpec)

/-- 'laws.FnAuthPermits', WHERE WHAT IT READS IS OF BULK AT MOST 1048576: true; the input reads as it did. -/
def fnAuthPermitsUptoRow : OpenClaim := { program := "ytbomnihiapjmpaa", sum := "c05554ca1a623618c7cc92db56389cd142ccfb78cdede8844d70d4309c3bc678", func := "pub-stadtholder/laws.FnAuthPermits", spec := "fnAuthPermits", unfollowed := true, recurses := true, apart := false, narrowed := true }
def FnAuthPermitsUptoSaid : Prop := fnAuthPermitsUptoRow.holds Try.pinned (OpenSpec.upto fnAuthPermitsSpec)

/-- 'laws.FnAuthSplits', WHERE WHAT IT READS IS OF BULK AT MOST 1048576: true; the input reads as it did. -/
def fnAuthSplitsUptoRow : OpenClaim := { program := "ytbomnihiapjmpaa", sum := "c05554ca1a623618c7cc92db56389cd142ccfb78cdede8844d70d4309c3bc678", func := "pub-stadtholder/laws.FnAuthSplits", spec := "fnAuthSplits", unfollowed := true, recurses := true, apart := false, narrowed := true }
def FnAuthSplitsUptoSaid : Prop := fnAuthSplitsUptoRow.holds Try.pinned (OpenSpec.upto fnAuthSplitsSpec)

/-- 'laws.FnTreeAnswers', WHERE WHAT IT READS IS OF BULK AT MOST 1048576: true; the input reads as it did. -/
def fnTreeAnswersUptoRow : OpenClaim := { program := "ytbomnihiapjmpaa", sum := "c05554ca1a623618c7cc92db56389cd142ccfb78cdede8844d70d4309c3bc678", func := "pub-stadtholder/laws.FnTreeAnswers", spec := "fnTreeAnswers", unfollowed := true, recurses := true, apart := false, narrowed := true }
def FnTreeAnswersUptoSaid : Prop := fnTreeAnswersUptoRow.holds Try.pinned (OpenSpec.upto fnTreeAnswersSpec)

/-- 'laws.FnTreeDeletes', WHERE WHAT IT READS IS OF BULK AT MOST 1048576: true; the input reads as it did. -/
def fnTreeDeletesUptoRow : OpenClaim := { program := "ytbomnihiapjmpaa", sum := "c05554ca1a623618c7cc92db56389cd142ccfb78cdede8844d70d4309c3bc678", func := "pub-stadtholder/laws.FnTreeDeletes", spec := "fnTreeDeletes", unfollowed := true, recurses := true, apart := false, narrowed := true }
def FnTreeDeletesUptoSaid : Prop := fnTreeDeletesUptoRow.holds Try.pinned (OpenSpec.upto fnTreeDeletesSpec)

/-- 'laws.FnTreeIntersects', WHERE WHAT IT READS IS OF BULK AT MOST 1048576: true; the input reads as it did. -/
def fnTreeIntersectsUptoRow : OpenClaim := { program := "ytbomnihiapjmpaa", sum := "c05554ca1a623618c7cc92db56389cd142ccfb78cdede8844d70d4309c3bc678", func := "pub-stadtholder/laws.FnTreeIntersects", spec := "fnTreeIntersects", unfollowed := true, recurses := true, apart := false, narrowed := true }
def FnTreeIntersectsUptoSaid : Prop := fnTreeIntersectsUptoRow.holds Try.pinned (OpenSpec.upto fnTreeIntersectsSpec)

/-- 'laws.FnEnds', WHERE WHAT IT READS IS OF BULK AT MOST 1048576: true; the input reads as it did. -/
def fnEndsUptoRow : OpenClaim := { program := "ytbomnihiapjmpaa", sum := "c05554ca1a623618c7cc92db56389cd142ccfb78cdede8844d70d4309c3bc678", func := "pub-stadtholder/laws.FnEnds", spec := "fnEnds", inPlace := ["internal/bytealg.Compare"], unfollowed := true, recurses := true, apart := false, narrowed := true }
def FnEndsUptoSaid : Prop := fnEndsUptoRow.holds Try.pinned (OpenSpec.upto fnEndsSpec)

end Rows
end Go.Proofs.Ytbomnihiapjmpaa
