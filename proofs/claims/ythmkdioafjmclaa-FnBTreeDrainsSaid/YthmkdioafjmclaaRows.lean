/-
  No cell of these rows narrows 'for every input' (looked for: loops, veiled, ifaces, maps, wideKeys, modest, calm, conditions, laid).
  DERIVED. THE GIVEN ROWS OF THIS SEAT. 6 by the template 'for every input the law returns true; each argument reads behind the call as it read before'; 0 by the template 'total and deterministic' (their statements: YthmkdioafjmclaaTotals.lean).
  GIVEN WITH THE SEED: the statements are not yours to turn. If you find one false, say at which input.
  Laid BY PROGRAM, IN A SANDBOX (cutbox-rows.mjs): the forced cells as the released guide's own fill.sh prints them over the translation 13f19e86416ba325… (all of the seat's roots in one cut). By AI agents, Wed Nov 11 2026. No macro, syntax, notation, axiom, sorry.
-/
import Derived.Test.YthmkdioafjmclaaChecked
import GoSem.Claim
import GoSem.ClaimJoined
import GoSem.ClaimMapViews
import Derived.JoinedTies
import Derived.KernelRfl
namespace Go.Proofs.Ythmkdioafjmclaa
/- THE CELL 'sum', in the pinned program and in every row, IS THE sha256 OF THE DUMP (.gsa) THAT YthmkdioafjmclaaProg.lean LOADS. Nothing in Lean hashes anything: it is a label: what it is worth is what the hold of that sum in a sandbox is worth. -/
noncomputable def Try.pinned : Pinned := { name := "ythmkdioafjmclaa", sum := "13f19e86416ba325d4903442edce0511dda4799a49138e679da050fae6fbc4f5", checked := Try.checked }
namespace Rows
def none {H : Type} : Left H := { results := [], args := [] }

/-- 'laws.FnPagesWaits': WHATEVER THE INPUT: true; the input reads as it did. -/
def fnPagesWaitsSpec : ChangeSpec := { name := "fnPagesWaits", fn := fun _ => fun
  | [d1, d2, d3, d4] => { results := [.lit (.bool true)], args := [d1, d2, d3, d4] }
  | _ => none }
def fnPagesWaitsRow : OpenClaim := { program := "ythmkdioafjmclaa", sum := "13f19e86416ba325d4903442edce0511dda4799a49138e679da050fae6fbc4f5", func := "pub-stadtholder/laws.FnPagesWaits", spec := "fnPagesWaits", unfollowed := true, recurses := true, plainKeys := false, apart := false }
def FnPagesWaitsSaid : Prop := fnPagesWaitsRow.holds Try.pinned (OpenSpec.ofChange fnPagesWaitsSpec)

/-- ITS FALSE NEIGHBOUR: 'it returns false'. Refute it at one input. -/
def fnPagesWaitsWrong : ChangeSpec := { name := "fnPagesWaits", fn := fun _ => fun
  | [d1, d2, d3, d4] => { results := [.lit (.bool false)], args := [d1, d2, d3, d4] }
  | _ => none }
def FnPagesWaitsWrongFalsely : Prop := fnPagesWaitsRow.holds Try.pinned (OpenSpec.ofChange fnPagesWaitsWrong)

/-- 'laws.FnQueueAnswers': WHATEVER THE INPUT: true; the input reads as it did. -/
def fnQueueAnswersSpec : ChangeSpec := { name := "fnQueueAnswers", fn := fun _ => fun
  | [d] => { results := [.lit (.bool true)], args := [d] }
  | _ => none }
def fnQueueAnswersRow : OpenClaim := { program := "ythmkdioafjmclaa", sum := "13f19e86416ba325d4903442edce0511dda4799a49138e679da050fae6fbc4f5", func := "pub-stadtholder/laws.FnQueueAnswers", spec := "fnQueueAnswers", unfollowed := true, recurses := true, plainKeys := false, apart := false }
def FnQueueAnswersSaid : Prop := fnQueueAnswersRow.holds Try.pinned (OpenSpec.ofChange fnQueueAnswersSpec)

/-- ITS FALSE NEIGHBOUR: 'it returns false'. Refute it at one input. -/
def fnQueueAnswersWrong : ChangeSpec := { name := "fnQueueAnswers", fn := fun _ => fun
  | [d] => { results := [.lit (.bool false)], args := [d] }
  | _ => none }
def FnQueueAnswersWrongFalsely : Prop := fnQueueAnswersRow.holds Try.pinned (OpenSpec.ofChange fnQueueAnswersWrong)

/-- 'laws.FnHasherKept': WHATEVER THE INPUT: true; the input reads as it did. -/
def fnHasherKeptSpec : ChangeSpec := { name := "fnHasherKept", fn := fun _ => fun
  | [d1, d2, d3, d4, d5] => { results := [.lit (.bool true)], args := [d1, d2, d3, d4, d5] }
  | _ => none }
def fnHasherKeptRow : OpenClaim := { program := "ythmkdioafjmclaa", sum := "13f19e86416ba325d4903442edce0511dda4799a49138e679da050fae6fbc4f5", func := "pub-stadtholder/laws.FnHasherKept", spec := "fnHasherKept", unfollowed := true, recurses := true, plainKeys := false, apart := false }
def FnHasherKeptSaid : Prop := fnHasherKeptRow.holds Try.pinned (OpenSpec.ofChange fnHasherKeptSpec)

/-- ITS FALSE NEIGHBOUR: 'it returns false'. Refute it at one input. -/
def fnHasherKeptWrong : ChangeSpec := { name := "fnHasherKept", fn := fun _ => fun
  | [d1, d2, d3, d4, d5] => { results := [.lit (.bool false)], args := [d1, d2, d3, d4, d5] }
  | _ => none }
def FnHasherKeptWrongFalsely : Prop := fnHasherKeptRow.holds Try.pinned (OpenSpec.ofChange fnHasherKeptWrong)

/-- 'laws.FnBTreeDrains': WHATEVER THE INPUT: true; the input reads as it did. -/
def fnBTreeDrainsSpec : ChangeSpec := { name := "fnBTreeDrains", fn := fun _ => fun
  | [d1, d2] => { results := [.lit (.bool true)], args := [d1, d2] }
  | _ => none }
def fnBTreeDrainsRow : OpenClaim := { program := "ythmkdioafjmclaa", sum := "13f19e86416ba325d4903442edce0511dda4799a49138e679da050fae6fbc4f5", func := "pub-stadtholder/laws.FnBTreeDrains", spec := "fnBTreeDrains", unfollowed := true, recurses := true, plainKeys := false, apart := false }
def FnBTreeDrainsSaid : Prop := fnBTreeDrainsRow.holds Try.pinned (OpenSpec.ofChange fnBTreeDrainsSpec)

/-- ITS FALSE NEIGHBOUR: 'it returns false'. Refute it at one input. -/
def fnBTreeDrainsWrong : ChangeSpec := { name := "fnBTreeDrains", fn := fun _ => fun
  | [d1, d2] => { results := [.lit (.bool false)], args := [d1, d2] }
  | _ => none }
def FnBTreeDrainsWrongFalsely : Prop := fnBTreeDrainsRow.holds Try.pinned (OpenSpec.ofChange fnBTreeDrainsWrong)

/-- 'laws.FnBTreeClears': WHATEVER THE INPUT: true; the input reads as it did. -/
def fnBTreeClearsSpec : ChangeSpec := { name := "fnBTreeClears", fn := fun _ => fun
  | [d1, d2, d3, d4] => { results := [.lit (.bool true)], args := [d1, d2, d3, d4] }
  | _ => none }
def fnBTreeClearsRow : OpenClaim := { program := "ythmkdioafjmclaa", sum := "13f19e86416ba325d4903442edce0511dda4799a49138e679da050fae6fbc4f5", func := "pub-stadtholder/laws.FnBTreeClears", spec := "fnBTreeClears", unfollowed := true, recurses := true, plainKeys := false, apart := false }
def FnBTreeClearsSaid : Prop := fnBTreeClearsRow.holds Try.pinned (OpenSpec.ofChange fnBTreeClearsSpec)

/-- ITS FALSE NEIGHBOUR: 'it returns false'. Refute it at one input. -/
def fnBTreeClearsWrong : ChangeSpec := { name := "fnBTreeClears", fn := fun _ => fun
  | [d1, d2, d3, d4] => { results := [.lit (.bool false)], args := [d1, d2, d3, d4] }
  | _ => none }
def FnBTreeClearsWrongFalsely : Prop := fnBTreeClearsRow.holds Try.pinned (OpenSpec.ofChange fnBTreeClearsWrong)

/-- 'laws.FnBTreeClones': WHATEVER THE INPUT: true; the input reads as it did. -/
def fnBTreeClonesSpec : ChangeSpec := { name := "fnBTreeClones", fn := fun _ => fun
  | [d1, d2, d3, d4] => { results := [.lit (.bool true)], args := [d1, d2, d3, d4] }
  | _ => none }
def fnBTreeClonesRow : OpenClaim := { program := "ythmkdioafjmclaa", sum := "13f19e86416ba325d4903442edce0511dda4799a49138e679da050fae6fbc4f5", func := "pub-stadtholder/laws.FnBTreeClones", spec := "fnBTreeClones", unfollowed := true, recurses := true, plainKeys := false, apart := false }
def FnBTreeClonesSaid : Prop := fnBTreeClonesRow.holds Try.pinned (OpenSpec.ofChange fnBTreeClonesSpec)

/-- ITS FALSE NEIGHBOUR: 'it returns false'. Refute it at one input. -/
def fnBTreeClonesWrong : ChangeSpec := { name := "fnBTreeClones", fn := fun _ => fun
  | [d1, d2, d3, d4] => { results := [.lit (.bool false)], args := [d1, d2, d3, d4] }
  | _ => none }
def FnBTreeClonesWrongFalsely : Prop := fnBTreeClonesRow.holds Try.pinned (OpenSpec.ofChange fnBTreeClonesWrong)

/- THE SECOND FORM. 'bulk': how many values and letters a reading holds, each counted each time it is reached (what is shared counts as often as it is met; a slice's spare places count too). A statement '..UptoSaid' is the law's where the arguments, and the package variables that the reading takes, are together of bulk at most 1048576: NARROWER than '..Said'. Prove '..Said' where nothing that the law and all that it calls make is longer than what came in: it says more and counts as full. Else prove '..UptoSaid'. A law counts once. -/
mutual
def uptoBulk {H : Type} : DataW H → Nat
  | .lit (.string bytes) => bytes.length + 1
  | .lit _ => 1
  | .nil => 1
  | .ptr d => uptoBulk d + 1
  | .slice elems spare => uptoBulkAll elems + uptoBulkAll spare + 1
  | .agg parts => uptoBulkAll parts + 1
  | .iface _ d => uptoBulk d + 1
  | .map entries => uptoBulkEntries entries + 1
  | .held _ => 1
def uptoBulkAll {H : Type} : List (DataW H) → Nat
  | [] => 0
  | d :: r => uptoBulk d + uptoBulkAll r
def uptoBulkEntries {H : Type} : List (Lit × DataW H) → Nat
  | [] => 0
  | x :: r => uptoBulkEntry x + uptoBulkEntries r
def uptoBulkEntry {H : Type} : Lit × DataW H → Nat
  | (.string bytes, d) => bytes.length + uptoBulk d + 1
  | (_, d) => uptoBulk d + 1
 end
def uptoSmall : (H : Type) → List (DataW H) → Bool := fun _ ds => decide (uptoBulkAll ds ≤ 1048576)
def OpenSpec.upto (s : _root_.Go.ChangeSpec) : _root_.Go.OpenSpec := { _root_.Go.OpenSpec.ofChange s with cond := some uptoSmall }

/-- 'laws.FnPagesWaits', WHERE WHAT IT READS IS OF BULK AT MOST 1048576: true; the input reads as it did. -/
def fnPagesWaitsUptoRow : OpenClaim := { program := "ythmkdioafjmclaa", sum := "13f19e86416ba325d4903442edce0511dda4799a49138e679da050fae6fbc4f5", func := "pub-stadtholder/laws.FnPagesWaits", spec := "fnPagesWaits", unfollowed := true, recurses := true, plainKeys := false, apart := false, narrowed := true }
def FnPagesWaitsUptoSaid : Prop := fnPagesWaitsUptoRow.holds Try.pinned (OpenSpec.upto fnPagesWaitsSpec)

/-- 'laws.FnQueueAnswers', WHERE WHAT IT READS IS OF BULK AT MOST 1048576: true; the input reads as it did. -/
def fnQueueAnswersUptoRow : OpenClaim := { program := "ythmkdioafjmclaa", sum := "13f19e86416ba325d4903442edce0511dda4799a49138e679da050fae6fbc4f5", func := "pub-stadtholder/laws.FnQueueAnswers", spec := "fnQueueAnswers", unfollowed := true, recurses := true, plainKeys := false, apart := false, narrowed := true }
def FnQueueAnswersUptoSaid : Prop := fnQueueAnswersUptoRow.holds Try.pinned (OpenSpec.upto fnQueueAnswersSpec)

/-- 'laws.FnHasherKept', WHERE WHAT IT READS IS OF BULK AT MOST 1048576: true; the input reads as it did. -/
def fnHasherKeptUptoRow : OpenClaim := { program := "ythmkdioafjmclaa", sum := "13f19e86416ba325d4903442edce0511dda4799a49138e679da050fae6fbc4f5", func := "pub-stadtholder/laws.FnHasherKept", spec := "fnHasherKept", unfollowed := true, recurses := true, plainKeys := false, apart := false, narrowed := true }
def FnHasherKeptUptoSaid : Prop := fnHasherKeptUptoRow.holds Try.pinned (OpenSpec.upto fnHasherKeptSpec)

/-- 'laws.FnBTreeDrains', WHERE WHAT IT READS IS OF BULK AT MOST 1048576: true; the input reads as it did. -/
def fnBTreeDrainsUptoRow : OpenClaim := { program := "ythmkdioafjmclaa", sum := "13f19e86416ba325d4903442edce0511dda4799a49138e679da050fae6fbc4f5", func := "pub-stadtholder/laws.FnBTreeDrains", spec := "fnBTreeDrains", unfollowed := true, recurses := true, plainKeys := false, apart := false, narrowed := true }
def FnBTreeDrainsUptoSaid : Prop := fnBTreeDrainsUptoRow.holds Try.pinned (OpenSpec.upto fnBTreeDrainsSpec)

/-- 'laws.FnBTreeClears', WHERE WHAT IT READS IS OF BULK AT MOST 1048576: true; the input reads as it did. -/
def fnBTreeClearsUptoRow : OpenClaim := { program := "ythmkdioafjmclaa", sum := "13f19e86416ba325d4903442edce0511dda4799a49138e679da050fae6fbc4f5", func := "pub-stadtholder/laws.FnBTreeClears", spec := "fnBTreeClears", unfollowed := true, recurses := true, plainKeys := false, apart := false, narrowed := true }
def FnBTreeClearsUptoSaid : Prop := fnBTreeClearsUptoRow.holds Try.pinned (OpenSpec.upto fnBTreeClearsSpec)

/-- 'laws.FnBTreeClones', WHERE WHAT IT READS IS OF BULK AT MOST 1048576: true; the input reads as it did. -/
def fnBTreeClonesUptoRow : OpenClaim := { program := "ythmkdioafjmclaa", sum := "13f19e86416ba325d4903442edce0511dda4799a49138e679da050fae6fbc4f5", func := "pub-stadtholder/laws.FnBTreeClones", spec := "fnBTreeClones", unfollowed := true, recurses := true, plainKeys := false, apart := false, narrowed := true }
def FnBTreeClonesUptoSaid : Prop := fnBTreeClonesUptoRow.holds Try.pinned (OpenSpec.upto fnBTreeClonesSpec)

end Rows
end Go.Proofs.Ythmkdioafjmclaa
