/-
  FnBTreeDrains: whatever the input, the btree behind the puts drains in order from either end: true; the input reads as it did.
-/
import Derived.Test.YthmkdioafjmclaaRows
import Derived.Test.YthmkdioafjmclaaBt20
import Derived.Test.YthmkdioafjmclaaSlRead
import Derived.WalkKit
import Derived.ProofKit
import Derived.OpenShut
import Derived.ShutString
import Derived.ChangeOld
import Derived.Below
namespace Go.Proofs.Ythmkdioafjmclaa.FnBTreeDrainsRow
open Go.ChangeShapes Go.WideShapes Go.ChangeAt Go.RowKit
open Go.ChangeMaps (open_string shut_string)
set_option linter.unusedVariables false

theorem open_el {w : World} {ds : List Value} (h : SlRead.Reads Try.prog w 55 ds) : ∃ x : Bt.El, ds = x.cells := by
  obtain ⟨h1, h2⟩ := h.fields Try.underlying55 (by kernel_rfl) (by kernel_rfl)
  match ds, h1 with
  | [x, y], _ =>
    obtain ⟨p, e1, w1⟩ := (h2 0 _ rfl x rfl).int Try.underlying3
    obtain ⟨q, e2, w2⟩ := (h2 1 _ rfl y rfl).int Try.underlying3
    simp only [List.cons.injEq, and_true] at e1 e2
    subst e1 e2
    exact ⟨⟨p, q⟩, rfl⟩
theorem c55 : Try.prog.cellsOf 55 = 2 := by kernel_rfl
theorem open_els {w : World} {a : Option Addr} {n c : Nat} (R : SlRead.Reads Try.prog w 52 [.slice a n c]) : ∃ l : List Bt.El, l.length = n ∧ n ≤ 9223372036854775807 ∧ Sl.Rd (Sl.Old w) 2 Bt.El.cells (.slice a n c) l := by
  obtain ⟨a', n', c', l, e, hnc, hc, -, hl, hk, hp⟩ := R.rows (k := 2) Bt.El.cells (fun _ => True) Try.underlying52 c55 (by omega) (fun ds h => by obtain ⟨x, h⟩ := open_el h; exact ⟨x, h, trivial⟩)
  simp only [List.cons.injEq, Value.slice.injEq, and_true] at e
  obtain ⟨rfl, rfl, rfl⟩ := e
  subst hl
  exact ⟨l, rfl, by unfold maxLen at hc; omega, Sl.rd_old hk⟩
theorem walk (w : World) (d : Int) (_ : (Lit.int .i64 d).wf = true) (a1 : Option Addr) (n1 c1 : Nat) (R1 : SlRead.Reads Try.prog w 52 [.slice a1 n1 c1]) :
    Calls Try.prog 6 #[.int .i64 d, .slice a1 n1 c1] w fun e w' => e = .returned (.bool true) ∧ Below w.heap.size w w' := by
  obtain ⟨l, rfl, b, h⟩ := open_els R1
  refine (Bt20.law_spec w d l b _ h w [] w (Sl.Sat.start w)).mono ?_
  rintro e w' ⟨v, L, rfl, ⟨rfl, rfl⟩, hs⟩
  exact ⟨rfl, hs.below⟩

theorem own : ownKnob Try.prog.godebug = none := by kernel_rfl
theorem laidOut : laidOutB Try.prog = true := by kernel_rfl

set_option maxRecDepth 100000 in
theorem lifted (os : Os) (started : os.Started) (H : Type) (enc : TypeId × Value → H) :
    ReturnsInHanded {} Try.checked os 6 .any (Rows.fnBTreeDrainsSpec.pre6 enc Try.prog Try.f6 Rows.fnBTreeDrainsRow.domain false) (Rows.fnBTreeDrainsSpec.post enc Try.prog Try.f6 false true false false) := by
  refine returnsInHanded_of_change (C := Try.checked) own started (by kernel_rfl) Try.func6
    (ChangeSpec.witness6 (enc := enc) (C := Try.checked) false ⟨#[], #[.int .i64 0, .slice none 0 0], []⟩ 8 (by kernel_rfl) (by kernel_rfl) (by kernel_rfl) (by kernel_rfl)) ?_
  intro W base args ds gs before hval0 hW hcnd _
  have hval : ∀ (j : Nat) t v, Try.f6.params[j]? = some t → args[j]? = some v → Value.okWide Try.prog W .any base t v := hval0
  have hW' := hW
  obtain ⟨p, q, hA0, hV, rfl, hfz, hnd⟩ := hW
  have hA : DataW.TrodAll enc Try.prog W 0 (fun _ => true) true Try.f6.params.toList args.toList ds p := hA0
  rw [Try.params6] at hA hval
  obtain ⟨v0, vs0, d0, ds0, p0, q0, hargs, rfl, rfl, h0, r0⟩ := trodAll_cons hA
  obtain ⟨v1, vs1, d1, ds1, p1, q1, rfl, rfl, rfl, h1, r1⟩ := trodAll_cons r0
  obtain ⟨rfl, rfl, rfl⟩ := trodAll_nil r1
  obtain rfl : args = #[v0, v1] := by cases args; simp_all
  obtain ⟨rfl, rfl⟩ := trodVars_none hV
  have k0 := h0
  have lt0 : ∀ x ∈ p0, x.block < W.heap.size := by obtain ⟨m, hm⟩ := k0; exact DataW.trod_lt m _ _ _ hm
  obtain ⟨a0, rfl, -, -, w0⟩ := open_int Try.underlying3 (hval 0 3 v0 rfl rfl) h0
  have k1 := h1
  have lt1 : ∀ x ∈ p1, x.block < W.heap.size := by obtain ⟨m, hm⟩ := k1; exact DataW.trod_lt m _ _ _ hm
  obtain ⟨a1, len1, cap1, rfl⟩ := okWide_slice Try.underlying52 (hval 1 52 v1 rfl rfl)
  have R1 : SlRead.Reads Try.prog W 52 [.slice a1 len1 cap1] := by obtain ⟨fuel, hf⟩ := k1; exact ⟨_, _, _, _, _, _, _, hf⟩
  clear hA0 hval0
  refine (walk W a0 w0 a1 len1 cap1 R1).mono fun e W' ⟨he, bel⟩ => ?_
  subst he
  exact ⟨_, rfl, _, _, _, [], _, [], hW', trodAll_mk1 (shut_bool Try.underlying4 _), (trodAll_cons_mk (Below.trod laidOut (by kernel_rfl) (of_decide_eq_true (by kernel_rfl)) k0 bel lt0) (trodAll_cons_mk (Below.trod laidOut (by kernel_rfl) (of_decide_eq_true (by kernel_rfl)) k1 bel lt1) trodAll_mk0)), rfl, bel.frame _, fun h => by cases h⟩

theorem over : Rows.fnBTreeDrainsRow.holds Try.pinned (OpenSpec.ofChange Rows.fnBTreeDrainsSpec) :=
  OpenClaim.holds_of_wide 6 Try.f6 rfl rfl rfl rfl rfl rfl rfl ⟨rfl, rfl, rfl, rfl, rfl⟩ rfl rfl rfl rfl rfl (by kernel_rfl) Try.func6 (by kernel_rfl)
    (of_decide_eq_true (by kernel_rfl)) (by unfold Func.isWrapper; first | (rw [if_pos (by decide +kernel)]; kernel_rfl) | (rw [if_neg (by decide +kernel)]; exact ⟨rfl, rfl⟩))
    (fun os started H enc _ => lifted os started H enc)

theorem fnBTreeDrains_holds : Rows.FnBTreeDrainsSaid := over
#print axioms fnBTreeDrains_holds
end Go.Proofs.Ythmkdioafjmclaa.FnBTreeDrainsRow
