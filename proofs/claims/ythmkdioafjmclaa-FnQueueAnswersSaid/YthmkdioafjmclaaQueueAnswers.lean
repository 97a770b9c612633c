/-
  FnQueueAnswers: the row, over the walk of the law (Qu).
-/
import Derived.Test.YthmkdioafjmclaaRows
import Derived.Test.YthmkdioafjmclaaQu
import Derived.Test.YthmkdioafjmclaaSlRead
import Derived.WalkKit
import Derived.ProofKit
import Derived.OpenShut
import Derived.ShutString
import Derived.ChangeOld
import Derived.Below
namespace Go.Proofs.Ythmkdioafjmclaa.FnQueueAnswersRow
open Go.ChangeShapes Go.WideShapes Go.ChangeAt Go.RowKit
open Go.ChangeMaps (open_string shut_string)
set_option linter.unusedVariables false

theorem walk (w : World) (a : Option Addr) (n c : Nat) (R0 : SlRead.Reads Try.prog w 33 [.slice a n c]) :
    Calls Try.prog 4 #[.slice a n c] w fun e w' => e = .returned (.bool true) ∧ Below w.heap.size w w' := by
  obtain ⟨a', n', c', l, e, hnc, -, -, hl, hk, -⟩ := R0.rows (k := 3) Qx.QOp.cells (fun _ => True) Try.underlying33 (by kernel_rfl) (by omega) (fun ds h => by
    obtain ⟨h1, h2⟩ := h.fields Try.underlying36 (by kernel_rfl) (by kernel_rfl)
    match ds, h1 with
    | [x, y, z], _ =>
      obtain ⟨p, e1, -⟩ := (h2 0 _ rfl x rfl).int Try.underlying3
      obtain ⟨q, e2, -⟩ := (h2 1 _ rfl y rfl).int Try.underlying2
      obtain ⟨r, e3, -⟩ := (h2 2 _ rfl z rfl).int Try.underlying2
      simp only [List.cons.injEq, and_true] at e1 e2 e3
      subst e1 e2 e3
      exact ⟨⟨p, q, r⟩, rfl, trivial⟩)
  simp only [List.cons.injEq, Value.slice.injEq, and_true] at e
  obtain ⟨rfl, rfl, rfl⟩ := e
  subst hl
  rcases Sl.rd_old (c := c) hk with ⟨b0, o0, c0, e, hr⟩ | ⟨rfl, a1, c1, e⟩
  · simp only [Value.slice.injEq, true_and] at e
    obtain ⟨rfl, rfl⟩ := e
    refine (Qu.law_row w l b0 o0 c hnc hr w [] w (Sl.Sat.start w)).mono ?_
    rintro e w' ⟨v, L, rfl, ⟨rfl, rfl⟩, hs⟩
    exact ⟨rfl, hs.below⟩
  · refine (Qu.law_nil w a c w [] w (Sl.Sat.start w)).mono ?_
    rintro e w' ⟨v, L, rfl, ⟨rfl, rfl⟩, hs⟩
    exact ⟨rfl, hs.below⟩

theorem own : ownKnob Try.prog.godebug = none := by kernel_rfl
theorem laidOut : laidOutB Try.prog = true := by kernel_rfl

set_option maxRecDepth 100000 in
theorem lifted (os : Os) (started : os.Started) (H : Type) (enc : TypeId × Value → H) :
    ReturnsInHanded {} Try.checked os 4 .any (Rows.fnQueueAnswersSpec.pre6 enc Try.prog Try.f4 Rows.fnQueueAnswersRow.domain false) (Rows.fnQueueAnswersSpec.post enc Try.prog Try.f4 false true false false) := by
  refine returnsInHanded_of_change (C := Try.checked) own started (by kernel_rfl) Try.func4
    (ChangeSpec.witness6 (enc := enc) (C := Try.checked) false ⟨#[], #[.slice none 0 0], []⟩ 8 (by kernel_rfl) (by kernel_rfl) (by kernel_rfl) (by kernel_rfl)) ?_
  intro W base args ds gs before hval0 hW hcnd _
  have hval : ∀ (j : Nat) t v, Try.f4.params[j]? = some t → args[j]? = some v → Value.okWide Try.prog W .any base t v := hval0
  have hW' := hW
  obtain ⟨p, q, hA0, hV, rfl, hfz, hnd⟩ := hW
  have hA : DataW.TrodAll enc Try.prog W 0 (fun _ => true) true Try.f4.params.toList args.toList ds p := hA0
  rw [Try.params4] at hA hval
  obtain ⟨v0, vs0, d0, ds0, p0, q0, hargs, rfl, rfl, h0, r0⟩ := trodAll_cons hA
  obtain ⟨rfl, rfl, rfl⟩ := trodAll_nil r0
  obtain rfl : args = #[v0] := by cases args; simp_all
  obtain ⟨rfl, rfl⟩ := trodVars_none hV
  have k0 := h0
  have lt0 : ∀ x ∈ p0, x.block < W.heap.size := by obtain ⟨m, hm⟩ := k0; exact DataW.trod_lt m _ _ _ hm
  obtain ⟨a0, len0, cap0, rfl⟩ := okWide_slice Try.underlying33 (hval 0 33 v0 rfl rfl)
  have R0 : SlRead.Reads Try.prog W 33 [.slice a0 len0 cap0] := by obtain ⟨fuel, hf⟩ := k0; exact ⟨_, _, _, _, _, _, _, hf⟩
  clear hA0 hval0
  refine (walk W a0 len0 cap0 R0).mono fun e W' ⟨he, bel⟩ => ?_
  subst he
  exact ⟨_, rfl, _, _, _, [], _, [], hW', trodAll_mk1 (shut_bool Try.underlying4 _), (trodAll_cons_mk (Below.trod laidOut (by kernel_rfl) (of_decide_eq_true (by kernel_rfl)) k0 bel lt0) trodAll_mk0), rfl, bel.frame _, fun h => by cases h⟩

theorem over : Rows.fnQueueAnswersRow.holds Try.pinned (OpenSpec.ofChange Rows.fnQueueAnswersSpec) :=
  OpenClaim.holds_of_wide 4 Try.f4 rfl rfl rfl rfl rfl rfl rfl ⟨rfl, rfl, rfl, rfl, rfl⟩ rfl rfl rfl rfl rfl (by kernel_rfl) Try.func4 (by kernel_rfl)
    (of_decide_eq_true (by kernel_rfl)) (by unfold Func.isWrapper; first | (rw [if_pos (by decide +kernel)]; kernel_rfl) | (rw [if_neg (by decide +kernel)]; exact ⟨rfl, rfl⟩))
    (fun os started H enc _ => lifted os started H enc)

theorem fnQueueAnswers_holds : Rows.FnQueueAnswersSaid := over
#print axioms fnQueueAnswers_holds
end Go.Proofs.Ythmkdioafjmclaa.FnQueueAnswersRow
