import Derived.Test.YtibopfemknnocaaOrder
import Derived.OpenShut
namespace Go.Proofs.Ytibopfemknnocaa.Opens44
open Go.RowKit Go.Lib Go.Proofs.Ytibopfemknnocaa.Open
theorem open44 {w : World} {cs : List Value} (h : Reads Try.prog w 44 cs) : ∃ (f0 : Int) (f1 : Int), cs = [.int .i64 f0, .int .i64 f1] ∧ (Lit.int .i64 f0).wf = true ∧ (Lit.int .i64 f1).wf = true := by
  obtain ⟨hl, hf⟩ := h.fields Try.underlying44 (by kernel_rfl) (by kernel_rfl)
  match cs, hl with
  | [c0, c1], _ =>
    obtain ⟨f0, e0, w0⟩ := (hf 0 _ rfl c0 rfl).int Try.underlying2
    simp only [List.cons.injEq, and_true] at e0; subst e0
    obtain ⟨f1, e1, w1⟩ := (hf 1 _ rfl c1 rfl).int Try.underlying2
    simp only [List.cons.injEq, and_true] at e1; subst e1
    exact ⟨f0, f1, rfl, w0, w1⟩

end Go.Proofs.Ytibopfemknnocaa.Opens44
