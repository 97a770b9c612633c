import Derived.Test.YtibopfemknnocaaFits
namespace Go.Proofs.Ytibopfemknnocaa.Opens
open Go.RowKit Go.Lib Go.Proofs.Ytibopfemknnocaa.Open Go.Proofs.Ytibopfemknnocaa.Fits
theorem open25 {w : World} {cs : List Value} (h : Reads Try.prog w 25 cs) : ∃ (f0 : Int) (f1 : ByteArray) (f2 : ByteArray) (f3 : ByteArray) (f4 : Int) (f5 : Int) (f6 : Int) (f7 : Int) (f8 : Int) (f9 : Int) (f10 : Int) (f11 : Int) (f12 : Int) (f13 : Bool) (f14 : Bool) (f15 : Bool) (f16 : Bool) (f17 : Bool) (f18a : Option Addr) (f18n f18c : Nat) (f19a : Option Addr) (f19n f19c : Nat) (f20a : Option Addr) (f20n f20c : Nat), cs = [.int .i64 f0, .string f1, .string f2, .string f3, .int .i64 f4, .int .i64 f5, .int .i64 f6, .int .i64 f7, .int .i64 f8, .int .i64 f9, .int .i64 f10, .int .i64 f11, .int .i64 f12, .bool f13, .bool f14, .bool f15, .bool f16, .bool f17, .slice f18a f18n f18c, .slice f19a f19n f19c, .slice f20a f20n f20c] ∧ (Lit.int .i64 f0).wf = true ∧ f1.size ≤ maxLen ∧ f2.size ≤ maxLen ∧ f3.size ≤ maxLen ∧ (Lit.int .i64 f4).wf = true ∧ (Lit.int .i64 f5).wf = true ∧ (Lit.int .i64 f6).wf = true ∧ (Lit.int .i64 f7).wf = true ∧ (Lit.int .i64 f8).wf = true ∧ (Lit.int .i64 f9).wf = true ∧ (Lit.int .i64 f10).wf = true ∧ (Lit.int .i64 f11).wf = true ∧ (Lit.int .i64 f12).wf = true ∧ Reads Try.prog w 22 [.slice f18a f18n f18c] ∧ Reads Try.prog w 23 [.slice f19a f19n f19c] ∧ Reads Try.prog w 23 [.slice f20a f20n f20c] := by
  obtain ⟨hl, hf⟩ := h.fields Try.underlying25 (by kernel_rfl) (by kernel_rfl)
  match cs, hl with
  | [c0, c1, c2, c3, c4, c5, c6, c7, c8, c9, c10, c11, c12, c13, c14, c15, c16, c17, c18, c19, c20], _ =>
    obtain ⟨f0, e0, w0⟩ := (hf 0 _ rfl c0 rfl).int Try.underlying3
    simp only [List.cons.injEq, and_true] at e0; subst e0
    obtain ⟨f1, e1, w1⟩ := (hf 1 _ rfl c1 rfl).string Try.underlying9
    simp only [List.cons.injEq, and_true] at e1; subst e1
    obtain ⟨f2, e2, w2⟩ := (hf 2 _ rfl c2 rfl).string Try.underlying9
    simp only [List.cons.injEq, and_true] at e2; subst e2
    obtain ⟨f3, e3, w3⟩ := (hf 3 _ rfl c3 rfl).string Try.underlying9
    simp only [List.cons.injEq, and_true] at e3; subst e3
    obtain ⟨f4, e4, w4⟩ := (hf 4 _ rfl c4 rfl).int Try.underlying2
    simp only [List.cons.injEq, and_true] at e4; subst e4
    obtain ⟨f5, e5, w5⟩ := (hf 5 _ rfl c5 rfl).int Try.underlying2
    simp only [List.cons.injEq, and_true] at e5; subst e5
    obtain ⟨f6, e6, w6⟩ := (hf 6 _ rfl c6 rfl).int Try.underlying2
    simp only [List.cons.injEq, and_true] at e6; subst e6
    obtain ⟨f7, e7, w7⟩ := (hf 7 _ rfl c7 rfl).int Try.underlying3
    simp only [List.cons.injEq, and_true] at e7; subst e7
    obtain ⟨f8, e8, w8⟩ := (hf 8 _ rfl c8 rfl).int Try.underlying3
    simp only [List.cons.injEq, and_true] at e8; subst e8
    obtain ⟨f9, e9, w9⟩ := (hf 9 _ rfl c9 rfl).int Try.underlying2
    simp only [List.cons.injEq, and_true] at e9; subst e9
    obtain ⟨f10, e10, w10⟩ := (hf 10 _ rfl c10 rfl).int Try.underlying2
    simp only [List.cons.injEq, and_true] at e10; subst e10
    obtain ⟨f11, e11, w11⟩ := (hf 11 _ rfl c11 rfl).int Try.underlying2
    simp only [List.cons.injEq, and_true] at e11; subst e11
    obtain ⟨f12, e12, w12⟩ := (hf 12 _ rfl c12 rfl).int Try.underlying2
    simp only [List.cons.injEq, and_true] at e12; subst e12
    obtain ⟨f13, e13⟩ := (hf 13 _ rfl c13 rfl).bool Try.underlying4
    simp only [List.cons.injEq, and_true] at e13; subst e13
    obtain ⟨f14, e14⟩ := (hf 14 _ rfl c14 rfl).bool Try.underlying4
    simp only [List.cons.injEq, and_true] at e14; subst e14
    obtain ⟨f15, e15⟩ := (hf 15 _ rfl c15 rfl).bool Try.underlying4
    simp only [List.cons.injEq, and_true] at e15; subst e15
    obtain ⟨f16, e16⟩ := (hf 16 _ rfl c16 rfl).bool Try.underlying4
    simp only [List.cons.injEq, and_true] at e16; subst e16
    obtain ⟨f17, e17⟩ := (hf 17 _ rfl c17 rfl).bool Try.underlying4
    simp only [List.cons.injEq, and_true] at e17; subst e17
    have r18 := hf 18 _ rfl c18 rfl
    obtain ⟨f18a, f18n, f18c, e18, -⟩ := r18.slice Try.underlying22 (of_decide_eq_true (by kernel_rfl))
    simp only [List.cons.injEq, and_true] at e18; subst e18
    have r19 := hf 19 _ rfl c19 rfl
    obtain ⟨f19a, f19n, f19c, e19, -⟩ := r19.slice Try.underlying23 (of_decide_eq_true (by kernel_rfl))
    simp only [List.cons.injEq, and_true] at e19; subst e19
    have r20 := hf 20 _ rfl c20 rfl
    obtain ⟨f20a, f20n, f20c, e20, -⟩ := r20.slice Try.underlying23 (of_decide_eq_true (by kernel_rfl))
    simp only [List.cons.injEq, and_true] at e20; subst e20
    exact ⟨f0, f1, f2, f3, f4, f5, f6, f7, f8, f9, f10, f11, f12, f13, f14, f15, f16, f17, f18a, f18n, f18c, f19a, f19n, f19c, f20a, f20n, f20c, rfl, w0, w1, w2, w3, w4, w5, w6, w7, w8, w9, w10, w11, w12, r18, r19, r20⟩

theorem open38 {w : World} {cs : List Value} (h : Reads Try.prog w 38 cs) : ∃ (f0 : Int) (f1 : Int) (f2 : ByteArray) (f3 : ByteArray) (f4 : Int) (f5 : ByteArray) (f6 : Bool), cs = [.int .i64 f0, .int .i64 f1, .string f2, .string f3, .int .i64 f4, .string f5, .bool f6] ∧ (Lit.int .i64 f0).wf = true ∧ (Lit.int .i64 f1).wf = true ∧ f2.size ≤ maxLen ∧ f3.size ≤ maxLen ∧ (Lit.int .i64 f4).wf = true ∧ f5.size ≤ maxLen := by
  obtain ⟨hl, hf⟩ := h.fields Try.underlying38 (by kernel_rfl) (by kernel_rfl)
  match cs, hl with
  | [c0, c1, c2, c3, c4, c5, c6], _ =>
    obtain ⟨f0, e0, w0⟩ := (hf 0 _ rfl c0 rfl).int Try.underlying3
    simp only [List.cons.injEq, and_true] at e0; subst e0
    obtain ⟨f1, e1, w1⟩ := (hf 1 _ rfl c1 rfl).int Try.underlying3
    simp only [List.cons.injEq, and_true] at e1; subst e1
    obtain ⟨f2, e2, w2⟩ := (hf 2 _ rfl c2 rfl).string Try.underlying9
    simp only [List.cons.injEq, and_true] at e2; subst e2
    obtain ⟨f3, e3, w3⟩ := (hf 3 _ rfl c3 rfl).string Try.underlying9
    simp only [List.cons.injEq, and_true] at e3; subst e3
    obtain ⟨f4, e4, w4⟩ := (hf 4 _ rfl c4 rfl).int Try.underlying2
    simp only [List.cons.injEq, and_true] at e4; subst e4
    obtain ⟨f5, e5, w5⟩ := (hf 5 _ rfl c5 rfl).string Try.underlying9
    simp only [List.cons.injEq, and_true] at e5; subst e5
    obtain ⟨f6, e6⟩ := (hf 6 _ rfl c6 rfl).bool Try.underlying4
    simp only [List.cons.injEq, and_true] at e6; subst e6
    exact ⟨f0, f1, f2, f3, f4, f5, f6, rfl, w0, w1, w2, w3, w4, w5⟩

theorem open34 {w : World} {cs : List Value} (h : Reads Try.prog w 34 cs) : ∃ (f0 : ByteArray) (f1 : ByteArray) (f2 : Int) (f3 : Int) (f4 : Int) (f5 : Int), cs = [.string f0, .string f1, .int .i64 f2, .int .i64 f3, .int .i64 f4, .int .i64 f5] ∧ f0.size ≤ maxLen ∧ f1.size ≤ maxLen ∧ (Lit.int .i64 f2).wf = true ∧ (Lit.int .i64 f3).wf = true ∧ (Lit.int .i64 f4).wf = true ∧ (Lit.int .i64 f5).wf = true := by
  obtain ⟨hl, hf⟩ := h.fields Try.underlying34 (by kernel_rfl) (by kernel_rfl)
  match cs, hl with
  | [c0, c1, c2, c3, c4, c5], _ =>
    obtain ⟨f0, e0, w0⟩ := (hf 0 _ rfl c0 rfl).string Try.underlying9
    simp only [List.cons.injEq, and_true] at e0; subst e0
    obtain ⟨f1, e1, w1⟩ := (hf 1 _ rfl c1 rfl).string Try.underlying9
    simp only [List.cons.injEq, and_true] at e1; subst e1
    obtain ⟨f2, e2, w2⟩ := (hf 2 _ rfl c2 rfl).int Try.underlying2
    simp only [List.cons.injEq, and_true] at e2; subst e2
    obtain ⟨f3, e3, w3⟩ := (hf 3 _ rfl c3 rfl).int Try.underlying2
    simp only [List.cons.injEq, and_true] at e3; subst e3
    obtain ⟨f4, e4, w4⟩ := (hf 4 _ rfl c4 rfl).int Try.underlying2
    simp only [List.cons.injEq, and_true] at e4; subst e4
    obtain ⟨f5, e5, w5⟩ := (hf 5 _ rfl c5 rfl).int Try.underlying2
    simp only [List.cons.injEq, and_true] at e5; subst e5
    exact ⟨f0, f1, f2, f3, f4, f5, rfl, w0, w1, w2, w3, w4, w5⟩

theorem cmpsAt {w : World} {a : Option Addr} {n c : Nat} (h : Reads Try.prog w 22 [.slice a n c]) : CmpsAt w a n ∧ n ≤ maxLen := by
  obtain ⟨a', n', c', e, h1, h2, h3, h4⟩ := h.slice Try.underlying22 (of_decide_eq_true (by kernel_rfl))
  simp only [List.cons.injEq, Value.slice.injEq, and_true] at e
  obtain ⟨rfl, rfl, rfl⟩ := e
  refine ⟨fun i hi => ?_, Nat.le_trans h1 h2⟩
  obtain ⟨ds, h5, h6, h7⟩ := h4 i hi
  have e7 : Try.prog.cellsOf 38 = 7 := by kernel_rfl
  rw [e7] at h5 h6
  obtain ⟨f0, f1, f2, f3, f4, f5, f6, rfl, _⟩ := open38 h7
  exact ⟨_, ⟨f0, f1, f2, f3, f4, f5, f6, rfl⟩, h6⟩
theorem req {w : World} {cs : List Value} (h : Reads Try.prog w 25 cs) : ∃ ca cn cc mm xm mc xc, IsReq cs ca cn cc mm xm mc xc ∧ CmpsAt w ca cn ∧ cn ≤ maxLen := by
  obtain ⟨f0, f1, f2, f3, f4, f5, f6, f7, f8, f9, f10, f11, f12, f13, f14, f15, f16, f17, f18a, f18n, f18c, f19a, f19n, f19c, f20a, f20n, f20c, rfl, _, _, _, _, _, _, _, _, _, _, _, _, _, r, _⟩ := open25 h
  obtain ⟨k1, k2⟩ := cmpsAt r
  exact ⟨_, _, _, _, _, _, _, ⟨f0, f1, f2, f3, f4, f5, f6, f7, f8, f13, f14, f15, f16, f17, f19a, f19n, f19c, f20a, f20n, f20c, rfl⟩, k1, k2⟩
end Go.Proofs.Ytibopfemknnocaa.Opens
