import Derived.Test.YthmkdioafjmclaaQs2
namespace Go.Proofs.Ythmkdioafjmclaa.Qt
open Go.RowKit Go.Proofs.Ythmkdioafjmclaa Go.Proofs.Ythmkdioafjmclaa.Sl Go.Proofs.Ythmkdioafjmclaa.Qm Go.Proofs.Ythmkdioafjmclaa.Qh Go.Proofs.Ythmkdioafjmclaa.Qh2 Go.Proofs.Ythmkdioafjmclaa.Qh3 Go.Proofs.Ythmkdioafjmclaa.Qh4 Go.Proofs.Ythmkdioafjmclaa.Qh5 Go.Proofs.Ythmkdioafjmclaa.Qh6 Go.Proofs.Ythmkdioafjmclaa.Qh7 Go.Proofs.Ythmkdioafjmclaa.Qx Go.Proofs.Ythmkdioafjmclaa.Qi Go.Proofs.Ythmkdioafjmclaa.Qs Go.Proofs.Ythmkdioafjmclaa.Qs2
set_option linter.unusedVariables false
set_option linter.unusedSimpArgs false
set_option linter.unusedSectionVars false


def QGd (x : QOp) : Prop := 1 ≤ x.k ∧ x.k ≤ 4 ∧ 0 ≤ x.at_ ∧ x.at_ ≤ 1152921504606846976
theorem gd_more {l : List QOp} {i : Nat} {x : QOp} (h : ∀ (j : Nat) x, j < i → l[j]? = some x → QGd x) (hx : l[i]? = some x) (g : QGd x) : ∀ (j : Nat) x, j < i + 1 → l[j]? = some x → QGd x := fun j y hj hy => by
  by_cases e : j = i
  · subst e; rw [hx] at hy; cases hy; exact g
  · exact h j y (by omega) hy
theorem gd_all {l : List QOp} (h : ∀ (j : Nat) x, j < l.length → l[j]? = some x → QGd x) : ∀ x ∈ l, QGd x := fun x hx => by
  obtain ⟨j, hj⟩ := List.getElem?_of_mem hx
  exact h j x (List.getElem?_eq_some_iff.1 hj).1 hj
/-- operations i and j have no time in common -/
def Pq (l : List QOp) (i j : Nat) : Prop := ∀ x y, l[i]? = some x → l[j]? = some y → x.k = 1 → y.k = 1 → x.at_ = y.at_ → x.id = y.id
theorem pq_of {l : List QOp} {i j : Nat} {x y : QOp} (hx : l[i]? = some x) (hy : l[j]? = some y) (h : x.k = 1 → y.k = 1 → x.at_ = y.at_ → x.id = y.id) : Pq l i j := fun x' y' h1 h2 => by
  rw [hx] at h1; rw [hy] at h2; cases h1; cases h2; exact h
theorem pq_more {l : List QOp} {i j : Nat} (h : ∀ b, b < j → Pq l i b) (g : Pq l i j) : ∀ b, b < j + 1 → Pq l i b := fun b hb => by
  by_cases e : b = j
  · subst e; exact g
  · exact h b (by omega)
theorem pq_next {l : List QOp} {i : Nat} (h : ∀ a b, a < i → b < a → Pq l a b) (g : ∀ b, b < i → Pq l i b) : ∀ a b, a < i + 1 → b < a → Pq l a b := fun a b ha hb => by
  by_cases e : a = i
  · subst e; exact g b hb
  · exact h a b (by omega) hb
theorem notie_of {l : List QOp} (h : ∀ a b, a < l.length → b < a → Pq l a b) : NoTie l := fun x hx y hy h1 h2 h3 => by
  obtain ⟨i, hi⟩ := List.getElem?_of_mem hx
  obtain ⟨j, hj⟩ := List.getElem?_of_mem hy
  have li := (List.getElem?_eq_some_iff.1 hi).1
  have lj := (List.getElem?_eq_some_iff.1 hj).1
  rcases Nat.lt_trichotomy i j with e | e | e
  · exact (h j i lj e y x hj hi h2 h1 h3.symm).symm
  · subst e; rw [hi] at hj; cases hj; rfl
  · exact h i j li e x y hi hj h1 h2 h3
def liveQ : List QOp := [⟨1, 1, 5⟩, ⟨1, 2, 3⟩, ⟨2, 0, 0⟩, ⟨1, 2, 9⟩, ⟨3, 0, 0⟩, ⟨4, 0, 0⟩]
theorem live_ans : answers ansI [] liveQ = [⟨true, 0, 0, 0⟩, ⟨true, 0, 0, 0⟩, ⟨true, 2, 3, 0⟩, ⟨true, 0, 0, 0⟩, ⟨true, 1, 5, 0⟩, ⟨true, 0, 0, 1⟩] := by rfl
theorem live_tie : NoTie liveQ := by unfold NoTie; decide
theorem live_at : ∀ x ∈ liveQ, 0 ≤ x.at_ ∧ x.at_ ≤ 1152921504606846976 := by
  intro a ha
  simp only [liveQ, List.mem_cons, List.not_mem_nil, or_false] at ha
  rcases ha with rfl | rfl | rfl | rfl | rfl | rfl <;> constructor <;> decide
set_option maxRecDepth 100000 in
set_option maxHeartbeats 1000000 in
theorem ops_nil (A : HProp) (a : Option Addr) (c : Nat) : Does Try.prog 13 [.slice a 0 c] [A] (fun v L => ∃ b : Bool, v = .bool b ∧ L = [A] ∧ (b = true → 0 ≤ 200 ∧ ∀ x ∈ ([] : List QOp), QGd x)) := by
  refine Does.enter 33 Try.func13 rfl rfl rfl fun W F => ?_
  show WPc _ _ _ _ _ [(0, .slice a 0 c)] (A :: F)
  refine WPc.seq ?_
  refine WPc.region ?_
  refine WP.val rfl rfl rfl (Val.assign rfl rfl) ?_
  refine WP.nil ?_
  refine Out.next ?_
  refine WPc.seq ?_
  refine WPc.seq ?_
  refine WPc.region ?_
  refine WP.val rfl rfl rfl (Val.move rfl rfl) ?_
  refine WP.val rfl rfl rfl (Val.len rfl Ty.sl33 rfl) ?_
  refine WP.val rfl rfl rfl (Val.move rfl rfl) ?_
  refine WP.nil ?_
  refine Out.next ?_
  refine WPc.block ?_
  refine WPc.loop (ι := Nat) (fun i => i ≤ (([] : List QOp)).length ∧ ∀ (j : Nat) x, j < i → (([] : List QOp))[j]? = some x → QGd x) (fun i => [(0, .slice a 0 c), (5, .slice a 0 c), (6, .int .i64 (((0 : Nat) : Int))), (7, .int .i64 (((i : Nat) : Int)))]) (fun i => A :: F) (fun i => (([] : List QOp)).length - i) 0 ⟨Nat.zero_le _, fun j x h => by omega⟩ ((Sub.cons rfl (Sub.cons rfl (Sub.cons rfl (Sub.cons rfl Sub.nil))))) (fun _ h => h) ?_
  rintro i ⟨hi, hG⟩
  show WPc _ _ _ _ _ [(0, .slice a 0 c), (5, .slice a 0 c), (6, .int .i64 (((0 : Nat) : Int))), (7, .int .i64 (((i : Nat) : Int)))] (A :: F)
  refine WPc.seq ?_
  refine WPc.region ?_
  refine WP.val rfl rfl rfl (Val.lss rfl rfl rfl) ?_
  refine WP.nil ?_
  refine Out.next ?_
  refine WPc.seq ?_
  refine WPc.ifP rfl (fun h1 => ?_) (fun h1 => ?_)
  · skip
    have h1 : (((i : Nat) : Int) < ((0 : Nat) : Int)) := h1
    exfalso; simp at *; omega
  · skip
    have h1 : ¬ (((i : Nat) : Int) < ((0 : Nat) : Int)) := h1
    refine WPc.exit ?_
    refine Out.then_exit ?_
    refine Out.then_exit ?_
    refine Out.block_exit ?_
    refine Out.next ?_
    refine WPc.seq ?_
    refine WPc.region ?_
    refine WP.val rfl rfl rfl (Val.move rfl rfl) ?_
    refine WP.val rfl rfl rfl (Val.len rfl Ty.sl33 rfl) ?_
    refine WP.val rfl rfl rfl (Val.leq rfl rfl rfl) ?_
    refine WP.val rfl rfl rfl (Val.assign rfl rfl) ?_
    refine WP.nil ?_
    refine Out.next ?_
    refine WPc.ret ?_
    have hil : i = (([] : List QOp)).length := by first | omega | (simp at *; omega)
    subst hil
    exact Out.ret1 (L' := _) Try.results13 rfl ⟨_, rfl, rfl, fun h => ⟨by first | (have := of_decide_eq_true h; omega) | (simp; done), gd_all hG⟩⟩ (fun _ h => h)

set_option maxRecDepth 100000 in
set_option maxHeartbeats 1000000 in
theorem ops_row (A : HProp) (l : List QOp) (hlm : l.length ≤ 2147483647) (b0 o0 c0 : Nat) (hr : ∀ w, Holds A w → ∀ i x, l[i]? = some x → w.rangeAt b0 (o0 + i * 3) (QOp.cells x)) : Does Try.prog 13 [.slice (some ⟨b0, o0, none⟩) l.length c0] [A] (fun v L => ∃ b : Bool, v = .bool b ∧ L = [A] ∧ (b = true → l.length ≤ 200 ∧ ∀ x ∈ l, QGd x)) := by
  refine Does.enter 33 Try.func13 rfl rfl rfl fun W F => ?_
  show WPc _ _ _ _ _ [(0, .slice (some ⟨b0, o0, none⟩) l.length c0)] (A :: F)
  refine WPc.seq ?_
  refine WPc.region ?_
  refine WP.val rfl rfl rfl (Val.assign rfl rfl) ?_
  refine WP.nil ?_
  refine Out.next ?_
  refine WPc.seq ?_
  refine WPc.seq ?_
  refine WPc.region ?_
  refine WP.val rfl rfl rfl (Val.move rfl rfl) ?_
  refine WP.val rfl rfl rfl (Val.len rfl Ty.sl33 rfl) ?_
  refine WP.val rfl rfl rfl (Val.move rfl rfl) ?_
  refine WP.nil ?_
  refine Out.next ?_
  refine WPc.block ?_
  refine WPc.loop (ι := Nat) (fun i => i ≤ (l).length ∧ ∀ (j : Nat) x, j < i → (l)[j]? = some x → QGd x) (fun i => [(0, .slice (some ⟨b0, o0, none⟩) l.length c0), (5, .slice (some ⟨b0, o0, none⟩) l.length c0), (6, .int .i64 (((l.length : Nat) : Int))), (7, .int .i64 (((i : Nat) : Int)))]) (fun i => A :: F) (fun i => (l).length - i) 0 ⟨Nat.zero_le _, fun j x h => by omega⟩ ((Sub.cons rfl (Sub.cons rfl (Sub.cons rfl (Sub.cons rfl Sub.nil))))) (fun _ h => h) ?_
  rintro i ⟨hi, hG⟩
  show WPc _ _ _ _ _ [(0, .slice (some ⟨b0, o0, none⟩) l.length c0), (5, .slice (some ⟨b0, o0, none⟩) l.length c0), (6, .int .i64 (((l.length : Nat) : Int))), (7, .int .i64 (((i : Nat) : Int)))] (A :: F)
  refine WPc.seq ?_
  refine WPc.region ?_
  refine WP.val rfl rfl rfl (Val.lss rfl rfl rfl) ?_
  refine WP.nil ?_
  refine Out.next ?_
  refine WPc.seq ?_
  refine WPc.ifP rfl (fun h1 => ?_) (fun h1 => ?_)
  · skip
    have h1 : (((i : Nat) : Int) < ((l.length : Nat) : Int)) := h1
    refine WPc.skip ?_
    refine Out.next ?_
    refine WPc.seq ?_
    refine WPc.block ?_
    refine WPc.seq ?_
    have hlt : i < l.length := by omega
    obtain ⟨x, hx⟩ : ∃ x, l[i]? = some x := ⟨_, List.getElem?_eq_getElem hlt⟩
    refine WPc.region ?_
    refine WP.val rfl rfl rfl (Val.indexAddr (j := i) (q := o0 + i * 3) rfl Ty.sl33 rfl rfl (by omega) (by omega) (by omega)) ?_
    refine WP.val rfl rfl rfl (Val.loadAgg (cs := (QOp.cells x)) rfl Ty.ag36 rfl (by rfl) (fun w h => hr w (h.at 0 rfl) i x hx)) ?_
    refine WP.eff rfl rfl rfl (Eff.alloc rfl Ty.z36) ?_
    rintro _ _ ⟨b1, rfl, rfl⟩
    refine WP.eff0 rfl rfl (Eff.storeAgg (cs := [.int .i64 (x.k), .int .i64 (x.id), .int .i64 (x.at_)]) (C' := [.int .i64 (x.k), .int .i64 (x.id), .int .i64 (x.at_)]) rfl Ty.ag36 rfl rfl rfl rfl (by simp) rfl) ?_
    rintro _ _ rfl
    refine WP.nil ?_
    refine Out.next ?_
    refine WPc.seq ?_
    refine WPc.region ?_
    refine WP.val rfl rfl rfl (Val.fieldAddr (j := 0) rfl Ty.fo36_0 rfl rfl) ?_
    refine WP.val rfl rfl rfl (Val.load rfl Ty.sc3 rfl (fun w h => h.cell 0 rfl rfl)) ?_
    refine WP.val rfl rfl rfl (Val.lss rfl rfl rfl) ?_
    refine WP.val rfl rfl rfl (Val.move rfl rfl) ?_
    refine WP.split 14 rfl (fun h2 => ?_) (fun h2 => ?_)
    · skip
      have h2 : (x.k < (1 : Int)) := h2
      refine WP.skip rfl rfl rfl rfl rfl rfl rfl ?_
      refine WP.skip rfl rfl rfl rfl rfl rfl rfl ?_
      refine WP.skip rfl rfl rfl rfl rfl rfl rfl ?_
      refine WP.val rfl rfl rfl (Val.pickT rfl rfl rfl) ?_
      refine WP.val rfl rfl rfl (Val.move rfl rfl) ?_
      refine WP.skip rfl rfl rfl rfl rfl rfl rfl ?_
      refine WP.skip rfl rfl rfl rfl rfl rfl rfl ?_
      refine WP.skip rfl rfl rfl rfl rfl rfl rfl ?_
      refine WP.val rfl rfl rfl (Val.pickT rfl rfl rfl) ?_
      refine WP.val rfl rfl rfl (Val.move rfl rfl) ?_
      refine WP.skip rfl rfl rfl rfl rfl rfl rfl ?_
      refine WP.skip rfl rfl rfl rfl rfl rfl rfl ?_
      refine WP.skip rfl rfl rfl rfl rfl rfl rfl ?_
      refine WP.val rfl rfl rfl (Val.pickT rfl rfl rfl) ?_
      refine WP.nil ?_
      refine Out.next ?_
      refine WPc.condT rfl rfl ?_
      refine WPc.seq ?_
      refine WPc.region ?_
      refine WP.val rfl rfl rfl (Val.assign rfl rfl) ?_
      refine WP.nil ?_
      refine Out.next ?_
      refine WPc.ret ?_
      refine Out.block_ret ?_
      refine Out.then_ret ?_
      refine Out.then_ret ?_
      refine Out.block_ret ?_
      refine Out.then_ret ?_
      refine Out.drop ?_
      exact Out.ret1 (L' := _) Try.results13 rfl ⟨false, rfl, rfl, fun h => by cases h⟩ (fun _ h => h)
    · skip
      have h2 : ¬ (x.k < (1 : Int)) := h2
      refine WP.valG rfl rfl rfl rfl rfl rfl rfl (Val.fieldAddr (j := 0) rfl Ty.fo36_0 rfl rfl) ?_
      refine WP.valG rfl rfl rfl rfl rfl rfl rfl (Val.load rfl Ty.sc3 rfl (fun w h => h.cell 0 rfl rfl)) ?_
      refine WP.valG rfl rfl rfl rfl rfl rfl rfl (Val.gtr rfl rfl rfl) ?_
      refine WP.val rfl rfl rfl (Val.pickF rfl rfl rfl) ?_
      refine WP.val rfl rfl rfl (Val.move rfl rfl) ?_
      refine WP.split 19 rfl (fun h3 => ?_) (fun h3 => ?_)
      · skip
        have h3 : ((4 : Int) < x.k) := h3
        refine WP.skip rfl rfl rfl rfl rfl rfl rfl ?_
        refine WP.skip rfl rfl rfl rfl rfl rfl rfl ?_
        refine WP.skip rfl rfl rfl rfl rfl rfl rfl ?_
        refine WP.val rfl rfl rfl (Val.pickT rfl rfl rfl) ?_
        refine WP.val rfl rfl rfl (Val.move rfl rfl) ?_
        refine WP.skip rfl rfl rfl rfl rfl rfl rfl ?_
        refine WP.skip rfl rfl rfl rfl rfl rfl rfl ?_
        refine WP.skip rfl rfl rfl rfl rfl rfl rfl ?_
        refine WP.val rfl rfl rfl (Val.pickT rfl rfl rfl) ?_
        refine WP.nil ?_
        refine Out.next ?_
        refine WPc.condT rfl rfl ?_
        refine WPc.seq ?_
        refine WPc.region ?_
        refine WP.val rfl rfl rfl (Val.assign rfl rfl) ?_
        refine WP.nil ?_
        refine Out.next ?_
        refine WPc.ret ?_
        refine Out.block_ret ?_
        refine Out.then_ret ?_
        refine Out.then_ret ?_
        refine Out.block_ret ?_
        refine Out.then_ret ?_
        refine Out.drop ?_
        exact Out.ret1 (L' := _) Try.results13 rfl ⟨false, rfl, rfl, fun h => by cases h⟩ (fun _ h => h)
      · skip
        have h3 : ¬ ((4 : Int) < x.k) := h3
        refine WP.valG rfl rfl rfl rfl rfl rfl rfl (Val.fieldAddr (j := 2) rfl Ty.fo36_2 rfl rfl) ?_
        refine WP.valG rfl rfl rfl rfl rfl rfl rfl (Val.load rfl Ty.sc2 rfl (fun w h => h.cell 0 rfl rfl)) ?_
        refine WP.valG rfl rfl rfl rfl rfl rfl rfl (Val.lss rfl rfl rfl) ?_
        refine WP.val rfl rfl rfl (Val.pickF rfl rfl rfl) ?_
        refine WP.val rfl rfl rfl (Val.move rfl rfl) ?_
        refine WP.split 24 rfl (fun h4 => ?_) (fun h4 => ?_)
        · skip
          have h4 : (x.at_ < (0 : Int)) := h4
          refine WP.skip rfl rfl rfl rfl rfl rfl rfl ?_
          refine WP.skip rfl rfl rfl rfl rfl rfl rfl ?_
          refine WP.skip rfl rfl rfl rfl rfl rfl rfl ?_
          refine WP.val rfl rfl rfl (Val.pickT rfl rfl rfl) ?_
          refine WP.nil ?_
          refine Out.next ?_
          refine WPc.condT rfl rfl ?_
          refine WPc.seq ?_
          refine WPc.region ?_
          refine WP.val rfl rfl rfl (Val.assign rfl rfl) ?_
          refine WP.nil ?_
          refine Out.next ?_
          refine WPc.ret ?_
          refine Out.block_ret ?_
          refine Out.then_ret ?_
          refine Out.then_ret ?_
          refine Out.block_ret ?_
          refine Out.then_ret ?_
          refine Out.drop ?_
          exact Out.ret1 (L' := _) Try.results13 rfl ⟨false, rfl, rfl, fun h => by cases h⟩ (fun _ h => h)
        · skip
          have h4 : ¬ (x.at_ < (0 : Int)) := h4
          refine WP.valG rfl rfl rfl rfl rfl rfl rfl (Val.fieldAddr (j := 2) rfl Ty.fo36_2 rfl rfl) ?_
          refine WP.valG rfl rfl rfl rfl rfl rfl rfl (Val.load rfl Ty.sc2 rfl (fun w h => h.cell 0 rfl rfl)) ?_
          refine WP.valG rfl rfl rfl rfl rfl rfl rfl (Val.gtr rfl rfl rfl) ?_
          refine WP.val rfl rfl rfl (Val.pickF rfl rfl rfl) ?_
          refine WP.nil ?_
          refine Out.next ?_
          refine WPc.ifP rfl (fun h5 => ?_) (fun h5 => ?_)
          · skip
            have h5 : ((1152921504606846976 : Int) < x.at_) := h5
            refine WPc.seq ?_
            refine WPc.region ?_
            refine WP.val rfl rfl rfl (Val.assign rfl rfl) ?_
            refine WP.nil ?_
            refine Out.next ?_
            refine WPc.ret ?_
            refine Out.block_ret ?_
            refine Out.then_ret ?_
            refine Out.then_ret ?_
            refine Out.block_ret ?_
            refine Out.then_ret ?_
            refine Out.drop ?_
            exact Out.ret1 (L' := _) Try.results13 rfl ⟨false, rfl, rfl, fun h => by cases h⟩ (fun _ h => h)
          · skip
            have h5 : ¬ ((1152921504606846976 : Int) < x.at_) := h5
            refine WPc.skip ?_
            refine Out.block ?_
            refine Out.next ?_
            refine WPc.region ?_
            refine WP.val rfl rfl rfl (Val.add (z := ((i + 1 : Nat) : Int)) rfl rfl rfl ((w64 (by omega) (by omega)).trans (by omega))) ?_
            refine WP.val rfl rfl rfl (Val.move rfl rfl) ?_
            refine WP.nil ?_
            refine Out.drop ?_
            refine Out.again (i + 1) ?_ ?_ ?_ ?_
            · exact ⟨by omega, gd_more hG hx ⟨by omega, by omega, by omega, by omega⟩⟩
            · first | omega | (dsimp only; omega)
            · exact (Sub.cons rfl (Sub.cons rfl (Sub.cons rfl (Sub.cons rfl Sub.nil))))
            · exact (fun _ h => h)
  · skip
    have h1 : ¬ (((i : Nat) : Int) < ((l.length : Nat) : Int)) := h1
    refine WPc.exit ?_
    refine Out.then_exit ?_
    refine Out.then_exit ?_
    refine Out.block_exit ?_
    refine Out.next ?_
    refine WPc.seq ?_
    refine WPc.region ?_
    refine WP.val rfl rfl rfl (Val.move rfl rfl) ?_
    refine WP.val rfl rfl rfl (Val.len rfl Ty.sl33 rfl) ?_
    refine WP.val rfl rfl rfl (Val.leq rfl rfl rfl) ?_
    refine WP.val rfl rfl rfl (Val.assign rfl rfl) ?_
    refine WP.nil ?_
    refine Out.next ?_
    refine WPc.ret ?_
    have hil : i = (l).length := by first | omega | (simp at *; omega)
    subst hil
    exact Out.ret1 (L' := _) Try.results13 rfl ⟨_, rfl, rfl, fun h => ⟨by first | (have := of_decide_eq_true h; omega) | (simp; done), gd_all hG⟩⟩ (fun _ h => h)

theorem ops_spec (A : HProp) (l : List QOp) (hlm : l.length ≤ 2147483647) (va : Value) (hva : Rd A 3 QOp.cells va l) : Does Try.prog 13 [va] [A] (fun v L => ∃ b : Bool, v = .bool b ∧ L = [A] ∧ (b = true → l.length ≤ 200 ∧ ∀ x ∈ l, QGd x)) := by
  rcases hva with ⟨b0, o0, c0, rfl, hr⟩ | ⟨rfl, a, c, rfl⟩
  · exact ops_row A l hlm b0 o0 c0 hr
  · exact ops_nil A a c
set_option maxRecDepth 100000 in
set_option maxHeartbeats 1000000 in
theorem live_spec : Does Try.prog 16 [] [] (fun v L => v = .bool true ∧ L = []) := by
  refine Does.enter 47 Try.func16 rfl rfl rfl fun W F => ?_
  show WPc _ _ _ _ _ [] (F)
  refine WPc.seq ?_
  refine WPc.region ?_
  refine WP.val rfl rfl rfl (Val.assign rfl rfl) ?_
  refine WP.nil ?_
  refine Out.next ?_
  refine WPc.seq ?_
  refine WPc.region ?_
  refine WP.val rfl rfl rfl (Val.mk (cs := [.int .i64 1, .int .i64 1, .int .i64 5]) rfl rfl (fun _ => by kernel_rfl)) ?_
  refine WP.val rfl rfl rfl (Val.mk (cs := [.int .i64 1, .int .i64 2, .int .i64 3]) rfl rfl (fun _ => by kernel_rfl)) ?_
  refine WP.val rfl rfl rfl (Val.mk (cs := [.int .i64 2, .int .i64 0, .int .i64 0]) rfl rfl (fun _ => by kernel_rfl)) ?_
  refine WP.val rfl rfl rfl (Val.mk (cs := [.int .i64 1, .int .i64 2, .int .i64 9]) rfl rfl (fun _ => by kernel_rfl)) ?_
  refine WP.val rfl rfl rfl (Val.mk (cs := [.int .i64 3, .int .i64 0, .int .i64 0]) rfl rfl (fun _ => by kernel_rfl)) ?_
  refine WP.val rfl rfl rfl (Val.mk (cs := [.int .i64 4, .int .i64 0, .int .i64 0]) rfl rfl (fun _ => by kernel_rfl)) ?_
  refine WP.eff rfl rfl rfl (Eff.mkSlice (C := [.int .i64 1, .int .i64 1, .int .i64 5, .int .i64 1, .int .i64 2, .int .i64 3, .int .i64 2, .int .i64 0, .int .i64 0, .int .i64 1, .int .i64 2, .int .i64 9, .int .i64 3, .int .i64 0, .int .i64 0, .int .i64 4, .int .i64 0, .int .i64 0]) rfl Ty.sl33 rfl (fun _ => by kernel_rfl)) ?_
  rintro _ _ ⟨b1, rfl, rfl⟩
  refine WP.eff rfl rfl rfl (Eff.call rfl rfl Try.call14 (impl_spec (Blk b1 (flatOf QOp.cells liveQ) 36) liveQ (by simp [liveQ]) live_at live_tie (.slice (some ⟨b1, 0, none⟩) 6 6) (rd_blk (cf := QOp.cells) (k := 3) (fun _ => rfl) b1 6 36 liveQ))) ?_
  rintro u _ ⟨_, rfl, rfl⟩
  show WP _ _ _ _ _ _ _ (Own 40 4 u liveQ.length (flatOf QA.cells (answers ansI [] liveQ)) :: Blk b1 (flatOf QOp.cells liveQ) 36 :: F)
  refine WP.val rfl rfl rfl (Val.assign rfl rfl) ?_
  refine WP.nil ?_
  refine Out.next ?_
  refine WPc.seq ?_
  rw [live_ans]
  refine WPc.conv (fun w h => h.seqMk) ?_
  show WPc _ _ _ _ _ _ (Seq u 6 ([.bool true, .int .i64 0, .int .i64 0, .int .i64 0, .bool true, .int .i64 0, .int .i64 0, .int .i64 0, .bool true, .int .i64 2, .int .i64 3, .int .i64 0, .bool true, .int .i64 0, .int .i64 0, .int .i64 0, .bool true, .int .i64 1, .int .i64 5, .int .i64 0, .bool true, .int .i64 0, .int .i64 0, .int .i64 1]) :: Blk b1 (flatOf QOp.cells liveQ) 36 :: F)
  refine WPc.open (fun w h => h.seqOpen (by omega)) ?_
  rintro ⟨g2, cg2, spg2, Tg2⟩
  refine WPc.pure (fun hvg2 => ?_)
  refine WPc.know 1 (.slice (some ⟨g2, 0, none⟩) 6 cg2) rfl hvg2.1 ?_
  show WPc _ _ _ _ _ _ (Ro (Blk g2 ([.bool true, .int .i64 0, .int .i64 0, .int .i64 0, .bool true, .int .i64 0, .int .i64 0, .int .i64 0, .bool true, .int .i64 2, .int .i64 3, .int .i64 0, .bool true, .int .i64 0, .int .i64 0, .int .i64 0, .bool true, .int .i64 1, .int .i64 5, .int .i64 0, .bool true, .int .i64 0, .int .i64 0, .int .i64 1] ++ spg2) Tg2) :: Seq u 6 ([.bool true, .int .i64 0, .int .i64 0, .int .i64 0, .bool true, .int .i64 0, .int .i64 0, .int .i64 0, .bool true, .int .i64 2, .int .i64 3, .int .i64 0, .bool true, .int .i64 0, .int .i64 0, .int .i64 0, .bool true, .int .i64 1, .int .i64 5, .int .i64 0, .bool true, .int .i64 0, .int .i64 0, .int .i64 1]) :: Blk b1 (flatOf QOp.cells liveQ) 36 :: F)
  refine WPc.region ?_
  refine WP.val rfl rfl rfl (Val.move rfl rfl) ?_
  refine WP.val rfl rfl rfl (Val.len rfl Ty.sl37 rfl) ?_
  refine WP.val rfl rfl rfl (Val.eql rfl rfl rfl) ?_
  refine WP.val rfl rfl rfl (Val.move rfl rfl) ?_
  refine WP.split 13 rfl (fun h1 => ?_) (fun h1 => ?_)
  · skip
    have h1 : ((6 : Int) = (6 : Int)) := h1
    refine WP.valG rfl rfl rfl rfl rfl rfl rfl (Val.move rfl rfl) ?_
    refine WP.valG rfl rfl rfl rfl rfl rfl rfl (Val.indexAddr (j := 2) (q := 8) rfl Ty.sl37 rfl rfl (by omega) (by omega) (by omega)) ?_
    refine WP.valG rfl rfl rfl rfl rfl rfl rfl (Val.fieldAddr (j := 8) rfl Ty.fo40_0 rfl rfl) ?_
    refine WP.valG rfl rfl rfl rfl rfl rfl rfl (Val.load rfl Ty.sc4 rfl (fun w h => h.cellRo 0 rfl rfl)) ?_
    refine WP.val rfl rfl rfl (Val.pickT rfl rfl rfl) ?_
    refine WP.val rfl rfl rfl (Val.move rfl rfl) ?_
    refine WP.valG rfl rfl rfl rfl rfl rfl rfl (Val.move rfl rfl) ?_
    refine WP.valG rfl rfl rfl rfl rfl rfl rfl (Val.indexAddr (j := 2) (q := 8) rfl Ty.sl37 rfl rfl (by omega) (by omega) (by omega)) ?_
    refine WP.valG rfl rfl rfl rfl rfl rfl rfl (Val.fieldAddr (j := 9) rfl Ty.fo40_1 rfl rfl) ?_
    refine WP.valG rfl rfl rfl rfl rfl rfl rfl (Val.load rfl Ty.sc2 rfl (fun w h => h.cellRo 0 rfl rfl)) ?_
    refine WP.valG rfl rfl rfl rfl rfl rfl rfl (Val.eql rfl rfl rfl) ?_
    refine WP.val rfl rfl rfl (Val.pickT rfl rfl rfl) ?_
    refine WP.val rfl rfl rfl (Val.move rfl rfl) ?_
    refine WP.split 26 rfl (fun h2 => ?_) (fun h2 => ?_)
    · skip
      have h2 : ((2 : Int) = (2 : Int)) := h2
      refine WP.valG rfl rfl rfl rfl rfl rfl rfl (Val.move rfl rfl) ?_
      refine WP.valG rfl rfl rfl rfl rfl rfl rfl (Val.indexAddr (j := 2) (q := 8) rfl Ty.sl37 rfl rfl (by omega) (by omega) (by omega)) ?_
      refine WP.valG rfl rfl rfl rfl rfl rfl rfl (Val.fieldAddr (j := 10) rfl Ty.fo40_2 rfl rfl) ?_
      refine WP.valG rfl rfl rfl rfl rfl rfl rfl (Val.load rfl Ty.sc2 rfl (fun w h => h.cellRo 0 rfl rfl)) ?_
      refine WP.valG rfl rfl rfl rfl rfl rfl rfl (Val.eql rfl rfl rfl) ?_
      refine WP.val rfl rfl rfl (Val.pickT rfl rfl rfl) ?_
      refine WP.val rfl rfl rfl (Val.move rfl rfl) ?_
      refine WP.split 33 rfl (fun h3 => ?_) (fun h3 => ?_)
      · skip
        have h3 : ((3 : Int) = (3 : Int)) := h3
        refine WP.valG rfl rfl rfl rfl rfl rfl rfl (Val.move rfl rfl) ?_
        refine WP.valG rfl rfl rfl rfl rfl rfl rfl (Val.indexAddr (j := 4) (q := 16) rfl Ty.sl37 rfl rfl (by omega) (by omega) (by omega)) ?_
        refine WP.valG rfl rfl rfl rfl rfl rfl rfl (Val.fieldAddr (j := 17) rfl Ty.fo40_1 rfl rfl) ?_
        refine WP.valG rfl rfl rfl rfl rfl rfl rfl (Val.load rfl Ty.sc2 rfl (fun w h => h.cellRo 0 rfl rfl)) ?_
        refine WP.valG rfl rfl rfl rfl rfl rfl rfl (Val.eql rfl rfl rfl) ?_
        refine WP.val rfl rfl rfl (Val.pickT rfl rfl rfl) ?_
        refine WP.val rfl rfl rfl (Val.move rfl rfl) ?_
        refine WP.split 40 rfl (fun h4 => ?_) (fun h4 => ?_)
        · skip
          have h4 : ((1 : Int) = (1 : Int)) := h4
          refine WP.valG rfl rfl rfl rfl rfl rfl rfl (Val.move rfl rfl) ?_
          refine WP.valG rfl rfl rfl rfl rfl rfl rfl (Val.indexAddr (j := 5) (q := 20) rfl Ty.sl37 rfl rfl (by omega) (by omega) (by omega)) ?_
          refine WP.valG rfl rfl rfl rfl rfl rfl rfl (Val.fieldAddr (j := 23) rfl Ty.fo40_3 rfl rfl) ?_
          refine WP.valG rfl rfl rfl rfl rfl rfl rfl (Val.load rfl Ty.sc3 rfl (fun w h => h.cellRo 0 rfl rfl)) ?_
          refine WP.valG rfl rfl rfl rfl rfl rfl rfl (Val.eql rfl rfl rfl) ?_
          refine WP.val rfl rfl rfl (Val.pickT rfl rfl rfl) ?_
          refine WP.val rfl rfl rfl (Val.assign rfl rfl) ?_
          refine WP.nil ?_
          refine Out.next ?_
          refine WPc.ret ?_
          refine Out.drop ?_
          refine Out.drop ?_
          refine Out.drop ?_
          exact Out.ret1 (L' := []) Try.results16 rfl ⟨rfl, rfl⟩ (fun _ h => h)
        · skip
          have h4 : ¬ ((1 : Int) = (1 : Int)) := h4
          exact absurd rfl h4
      · skip
        have h3 : ¬ ((3 : Int) = (3 : Int)) := h3
        exact absurd rfl h3
    · skip
      have h2 : ¬ ((2 : Int) = (2 : Int)) := h2
      exact absurd rfl h2
  · skip
    have h1 : ¬ ((6 : Int) = (6 : Int)) := h1
    exact absurd rfl h1

end Go.Proofs.Ythmkdioafjmclaa.Qt
