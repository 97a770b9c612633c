/-
  NARROWER THAN 'FOR EVERY INPUT', by the rows' own cells (each row's printed sentence says how): FnCheckAll: loops.
  DERIVED. THE GIVEN ROWS OF THIS SEAT. 4 by the template 'for every input the law returns true; each argument reads behind the call as it read before'; 0 by the template 'total and deterministic' (their statements: YthicijpjpijdjaaTotals.lean).
  GIVEN WITH THE SEED: the statements are not yours to turn. If you find one false, say at which input.
  Laid BY PROGRAM, IN A SANDBOX (cutbox-rows.mjs): the forced cells as the released guide's own fill.sh prints them over the translation a07176f7e0fcab29… (all of the seat's roots in one cut). By AI agents, Wed Nov 11 2026. No macro, syntax, notation, axiom, sorry.
-/
import Derived.Test.YthicijpjpijdjaaChecked
import GoSem.Claim
import GoSem.ClaimJoined
import GoSem.ClaimMapViews
import Derived.JoinedTies
import Derived.KernelRfl
namespace Go.Proofs.Ythicijpjpijdjaa
/- THE CELL 'sum', in the pinned program and in every row, IS THE sha256 OF THE DUMP (.gsa) THAT YthicijpjpijdjaaProg.lean LOADS. Nothing in Lean hashes anything: it is a label: what it is worth is what the hold of that sum in a sandbox is worth. -/
noncomputable def Try.pinned : Pinned := { name := "ythicijpjpijdjaa", sum := "a07176f7e0fcab2972d0991ef39205c5dbf4800cf5744bc5a6e62fffc10227d5", checked := Try.checked }
namespace Rows
def none {H : Type} : Left H := { results := [], args := [] }

/-- 'laws.FnKeyCompact': WHATEVER THE INPUT: true; the input reads as it did. -/
def fnKeyCompactSpec : ChangeSpec := { name := "fnKeyCompact", fn := fun _ => fun
  | [d1, d2] => { results := [.lit (.bool true)], args := [d1, d2] }
  | _ => none }
def fnKeyCompactRow : OpenClaim := { program := "ythicijpjpijdjaa", sum := "a07176f7e0fcab2972d0991ef39205c5dbf4800cf5744bc5a6e62fffc10227d5", func := "pub-stadtholder/laws.FnKeyCompact", spec := "fnKeyCompact", unfollowed := true, recurses := true, plainKeys := false, apart := false }
def FnKeyCompactSaid : Prop := fnKeyCompactRow.holds Try.pinned (OpenSpec.ofChange fnKeyCompactSpec)

/-- ITS FALSE NEIGHBOUR: 'it returns false'. Refute it at one input. -/
def fnKeyCompactWrong : ChangeSpec := { name := "fnKeyCompact", fn := fun _ => fun
  | [d1, d2] => { results := [.lit (.bool false)], args := [d1, d2] }
  | _ => none }
def FnKeyCompactWrongFalsely : Prop := fnKeyCompactRow.holds Try.pinned (OpenSpec.ofChange fnKeyCompactWrong)

/-- 'laws.FnKeyRestores': WHATEVER THE INPUT: true; the input reads as it did. -/
def fnKeyRestoresSpec : ChangeSpec := { name := "fnKeyRestores", fn := fun _ => fun
  | [d1, d2, d3, d4, d5] => { results := [.lit (.bool true)], args := [d1, d2, d3, d4, d5] }
  | _ => none }
def fnKeyRestoresRow : OpenClaim := { program := "ythicijpjpijdjaa", sum := "a07176f7e0fcab2972d0991ef39205c5dbf4800cf5744bc5a6e62fffc10227d5", func := "pub-stadtholder/laws.FnKeyRestores", spec := "fnKeyRestores", unfollowed := true, recurses := true, plainKeys := false, apart := false }
def FnKeyRestoresSaid : Prop := fnKeyRestoresRow.holds Try.pinned (OpenSpec.ofChange fnKeyRestoresSpec)

/-- ITS FALSE NEIGHBOUR: 'it returns false'. Refute it at one input. -/
def fnKeyRestoresWrong : ChangeSpec := { name := "fnKeyRestores", fn := fun _ => fun
  | [d1, d2, d3, d4, d5] => { results := [.lit (.bool false)], args := [d1, d2, d3, d4, d5] }
  | _ => none }
def FnKeyRestoresWrongFalsely : Prop := fnKeyRestoresRow.holds Try.pinned (OpenSpec.ofChange fnKeyRestoresWrong)

/-- 'laws.FnFindGeneration': WHATEVER THE INPUT: true; the input reads as it did. -/
def fnFindGenerationSpec : ChangeSpec := { name := "fnFindGeneration", fn := fun _ => fun
  | [d1, d2] => { results := [.lit (.bool true)], args := [d1, d2] }
  | _ => none }
def fnFindGenerationRow : OpenClaim := { program := "ythicijpjpijdjaa", sum := "a07176f7e0fcab2972d0991ef39205c5dbf4800cf5744bc5a6e62fffc10227d5", func := "pub-stadtholder/laws.FnFindGeneration", spec := "fnFindGeneration", unfollowed := true, recurses := true, plainKeys := false, apart := false }
def FnFindGenerationSaid : Prop := fnFindGenerationRow.holds Try.pinned (OpenSpec.ofChange fnFindGenerationSpec)

/-- ITS FALSE NEIGHBOUR: 'it returns false'. Refute it at one input. -/
def fnFindGenerationWrong : ChangeSpec := { name := "fnFindGeneration", fn := fun _ => fun
  | [d1, d2] => { results := [.lit (.bool false)], args := [d1, d2] }
  | _ => none }
def FnFindGenerationWrongFalsely : Prop := fnFindGenerationRow.holds Try.pinned (OpenSpec.ofChange fnFindGenerationWrong)

/-- 'laws.FnCheckAll': WHATEVER THE INPUT: true; the input reads as it did. -/
def fnCheckAllSpec : ChangeSpec := { name := "fnCheckAll", fn := fun _ => fun
  | [d1, d2] => { results := [.lit (.bool true)], args := [d1, d2] }
  | _ => none }
def fnCheckAllRow : OpenClaim := { program := "ythicijpjpijdjaa", sum := "a07176f7e0fcab2972d0991ef39205c5dbf4800cf5744bc5a6e62fffc10227d5", func := "pub-stadtholder/laws.FnCheckAll", spec := "fnCheckAll", unfollowed := true, recurses := true, loops := true, plainKeys := false, apart := false }
def FnCheckAllSaid : Prop := fnCheckAllRow.holds Try.pinned (OpenSpec.ofChange fnCheckAllSpec)

/-- ITS FALSE NEIGHBOUR: 'it returns false'. Refute it at one input. -/
def fnCheckAllWrong : ChangeSpec := { name := "fnCheckAll", fn := fun _ => fun
  | [d1, d2] => { results := [.lit (.bool false)], args := [d1, d2] }
  | _ => none }
def FnCheckAllWrongFalsely : Prop := fnCheckAllRow.holds Try.pinned (OpenSpec.ofChange fnCheckAllWrong)

/- THE SECOND FORM. 'bulk': how many values and letters a reading holds, each counted each time it is reached (what is shared counts as often as it is met; a slice's spare places count too). A statement '..UptoSaid' is the law's where the arguments, and the package variables that the reading takes, are together of bulk at most 1048576: NARROWER than '..Said'. Prove '..Said' where nothing that the law and all that it calls make is longer than what came in: it says more and counts as full. Else prove '..UptoSaid'. A law counts once. -/
mutual
def uptoBulk {H : Type} : DataW H → Nat
  | .lit (.string bytes) => bytes.length + 1
  | .lit _ => 1
  | .nil => 1
  | .ptr d => uptoBulk d + 1
  | .slice elems spare => uptoBulkAll elems + uptoBulkAll spare + 1
  | .agg parts => uptoBulkAll parts + 1
  | .iface _ d => uptoBulk d + 1
  | .map entries => uptoBulkEntries entries + 1
  | .held _ => 1
def uptoBulkAll {H : Type} : List (DataW H) → Nat
  | [] => 0
  | d :: r => uptoBulk d + uptoBulkAll r
def uptoBulkEntries {H : Type} : List (Lit × DataW H) → Nat
  | [] => 0
  | x :: r => uptoBulkEntry x + uptoBulkEntries r
def uptoBulkEntry {H : Type} : Lit × DataW H → Nat
  | (.string bytes, d) => bytes.length + uptoBulk d + 1
  | (_, d) => uptoBulk d + 1
 end
def uptoSmall : (H : Type) → List (DataW H) → Bool := fun _ ds => decide (uptoBulkAll ds ≤ 1048576)
def OpenSpec.upto (s : _root_.Go.ChangeSpec) : _root_.Go.OpenSpec := { _root_.Go.OpenSpec.ofChange s with cond := some uptoSmall }

/-- 'laws.FnKeyCompact', WHERE WHAT IT READS IS OF BULK AT MOST 1048576: true; the input reads as it did. -/
def fnKeyCompactUptoRow : OpenClaim := { program := "ythicijpjpijdjaa", sum := "a07176f7e0fcab2972d0991ef39205c5dbf4800cf5744bc5a6e62fffc10227d5", func := "pub-stadtholder/laws.FnKeyCompact", spec := "fnKeyCompact", unfollowed := true, recurses := true, plainKeys := false, apart := false, narrowed := true }
def FnKeyCompactUptoSaid : Prop := fnKeyCompactUptoRow.holds Try.pinned (OpenSpec.upto fnKeyCompactSpec)

/-- 'laws.FnKeyRestores', WHERE WHAT IT READS IS OF BULK AT MOST 1048576: true; the input reads as it did. -/
def fnKeyRestoresUptoRow : OpenClaim := { program := "ythicijpjpijdjaa", sum := "a07176f7e0fcab2972d0991ef39205c5dbf4800cf5744bc5a6e62fffc10227d5", func := "pub-stadtholder/laws.FnKeyRestores", spec := "fnKeyRestores", unfollowed := true, recurses := true, plainKeys := false, apart := false, narrowed := true }
def FnKeyRestoresUptoSaid : Prop := fnKeyRestoresUptoRow.holds Try.pinned (OpenSpec.upto fnKeyRestoresSpec)

/-- 'laws.FnFindGeneration', WHERE WHAT IT READS IS OF BULK AT MOST 1048576: true; the input reads as it did. -/
def fnFindGenerationUptoRow : OpenClaim := { program := "ythicijpjpijdjaa", sum := "a07176f7e0fcab2972d0991ef39205c5dbf4800cf5744bc5a6e62fffc10227d5", func := "pub-stadtholder/laws.FnFindGeneration", spec := "fnFindGeneration", unfollowed := true, recurses := true, plainKeys := false, apart := false, narrowed := true }
def FnFindGenerationUptoSaid : Prop := fnFindGenerationUptoRow.holds Try.pinned (OpenSpec.upto fnFindGenerationSpec)

/-- 'laws.FnCheckAll', WHERE WHAT IT READS IS OF BULK AT MOST 1048576: true; the input reads as it did. -/
def fnCheckAllUptoRow : OpenClaim := { program := "ythicijpjpijdjaa", sum := "a07176f7e0fcab2972d0991ef39205c5dbf4800cf5744bc5a6e62fffc10227d5", func := "pub-stadtholder/laws.FnCheckAll", spec := "fnCheckAll", unfollowed := true, recurses := true, loops := true, plainKeys := false, apart := false, narrowed := true }
def FnCheckAllUptoSaid : Prop := fnCheckAllUptoRow.holds Try.pinned (OpenSpec.upto fnCheckAllSpec)

end Rows
end Go.Proofs.Ythicijpjpijdjaa
