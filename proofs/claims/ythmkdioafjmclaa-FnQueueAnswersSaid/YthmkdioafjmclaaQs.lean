import Derived.Test.YthmkdioafjmclaaQi
namespace Go.Proofs.Ythmkdioafjmclaa.Qs
open Go.RowKit Go.Proofs.Ythmkdioafjmclaa Go.Proofs.Ythmkdioafjmclaa.Sl Go.Proofs.Ythmkdioafjmclaa.Qm Go.Proofs.Ythmkdioafjmclaa.Qh Go.Proofs.Ythmkdioafjmclaa.Qh2 Go.Proofs.Ythmkdioafjmclaa.Qh3 Go.Proofs.Ythmkdioafjmclaa.Qh4 Go.Proofs.Ythmkdioafjmclaa.Qh5 Go.Proofs.Ythmkdioafjmclaa.Qh6 Go.Proofs.Ythmkdioafjmclaa.Qh7 Go.Proofs.Ythmkdioafjmclaa.Qx Go.Proofs.Ythmkdioafjmclaa.Qi
set_option linter.unusedVariables false
set_option linter.unusedSimpArgs false
set_option linter.unusedSectionVars false


theorem own_rd {α : Type} {W w : World} {e : TypeId} {k : Nat} {v : Value} {cf : α → List Value} {l : List α} {L : List HProp} (hk : ∀ x, (cf x).length = k) (h : Sat W (Own e k v l.length (flatOf cf l) :: L) w) : ∃ A : HProp, Sat W (Pure (Rd A k cf v l) :: A :: L) w := by
  rcases h.own with ⟨rfl, h0, h1, h2⟩ | ⟨b, cap, sp, rfl, h1, h2, h3, h4, h5⟩
  · exact ⟨Pure True, Sat.pure_mk (.inr ⟨List.eq_nil_of_length_eq_zero h0, none, 0, rfl⟩) (Sat.pure_mk trivial h2)⟩
  · refine ⟨Blk b (flatOf cf l ++ sp) e, Sat.pure_mk (.inl ⟨b, 0, cap, rfl, fun w hw i x hx => ?_⟩) h5⟩
    rw [Nat.zero_add]
    exact hw.cell_range (flatOf_range hk hx)
theorem without_more {l : List QOp} {id : Int} {i : Nat} {x : QOp} (hx : l[i]? = some x) (h : x.id ≠ id) : without (l.take (i + 1)) id = without (l.take i) id ++ [x] := by
  rw [take_more hx]; simp [without, h]
theorem without_skip {l : List QOp} {id : Int} {i : Nat} {x : QOp} (hx : l[i]? = some x) (h : x.id = id) : without (l.take (i + 1)) id = without (l.take i) id := by
  rw [take_more hx]; simp [without, h]
theorem without_len (m : List QOp) (id : Int) : (without m id).length ≤ m.length := List.length_filter_le _ _
/-- the least of the first i -/
def Best (l : List QOp) (i : Nat) (b : Int) : Prop := (i = 0 ∧ b = -1) ∨ ∃ (j : Nat) (y : QOp), b = (j : Int) ∧ j < i ∧ l[j]? = some y ∧ ∀ (k : Nat) z, k < i → l[k]? = some z → y.at_ ≤ z.at_
theorem best_first {l : List QOp} {i : Nat} {x : QOp} (h0 : i = 0) (hx : l[i]? = some x) : Best l (i + 1) (i : Int) := .inr ⟨i, x, rfl, by omega, hx, fun k z hk hz => by
  have : k = i := by omega
  subst this
  rw [hx] at hz
  cases hz
  exact Int.le_refl _⟩
theorem best_new {l : List QOp} {i j : Nat} {x y : QOp} (hx : l[i]? = some x) (hmin : ∀ (k : Nat) z, k < i → l[k]? = some z → y.at_ ≤ z.at_) (h : x.at_ ≤ y.at_) : Best l (i + 1) (i : Int) := .inr ⟨i, x, rfl, by omega, hx, fun k z hk hz => by
  by_cases e : k = i
  · subst e; rw [hx] at hz; cases hz; exact Int.le_refl _
  · exact Int.le_trans h (hmin k z (by omega) hz)⟩
theorem best_keep {l : List QOp} {i j : Nat} {x y : QOp} (hx : l[i]? = some x) (hj : j < i) (hy : l[j]? = some y) (hmin : ∀ (k : Nat) z, k < i → l[k]? = some z → y.at_ ≤ z.at_) (h : y.at_ ≤ x.at_) : Best l (i + 1) (j : Int) := .inr ⟨j, y, rfl, by omega, hy, fun k z hk hz => by
  by_cases e : k = i
  · subst e; rw [hx] at hz; cases hz; exact h
  · exact hmin k z (by omega) hz⟩
theorem best_all {l : List QOp} {b : Int} (h : Best l l.length b) : (l = [] ∧ b = -1) ∨ ∃ (j : Nat) (y : QOp), b = (j : Int) ∧ j < l.length ∧ l[j]? = some y ∧ ∀ z ∈ l, y.at_ ≤ z.at_ := by
  rcases h with ⟨h1, h2⟩ | ⟨j, y, h1, h2, h3, h4⟩
  · exact .inl ⟨List.eq_nil_of_length_eq_zero h1, h2⟩
  · exact .inr ⟨j, y, h1, h2, h3, fun z hz => by
      obtain ⟨k, hk⟩ := List.getElem?_of_mem hz
      exact h4 k z (List.getElem?_eq_some_iff.1 hk).1 hk⟩
set_option maxRecDepth 100000 in
set_option maxHeartbeats 1000000 in
theorem wo_nil (A : HProp) (id : Int) (a : Option Addr) (c : Nat) : Does Try.prog 44 [.slice a 0 c, .int .i64 (id)] [A] (fun v L => L = [Own 36 3 v (without ([] : List QOp) id).length (flatOf QOp.cells (without ([] : List QOp) id)), A]) := by
  refine Does.enter 28 Try.func44 rfl rfl rfl fun W F => ?_
  show WPc _ _ _ _ _ [(0, .slice a 0 c), (1, .int .i64 (id))] (A :: F)
  refine WPc.seq ?_
  refine WPc.region ?_
  refine WP.val rfl rfl rfl (Val.assign rfl rfl) ?_
  refine WP.nil ?_
  refine Out.next ?_
  refine WPc.seq ?_
  refine WPc.region ?_
  refine WP.val rfl rfl rfl (Val.assign rfl rfl) ?_
  refine WP.nil ?_
  refine Out.next ?_
  refine WPc.seq ?_
  refine WPc.seq ?_
  refine WPc.conv (fun w h => h.ownNil (e := 36) (k := 3)) ?_
  show WPc _ _ _ _ _ _ (Own 36 3 (.slice none 0 0) 0 ([]) :: A :: F)
  refine WPc.region ?_
  refine WP.val rfl rfl rfl (Val.assign rfl rfl) ?_
  refine WP.nil ?_
  refine Out.next ?_
  refine WPc.block ?_
  refine WPc.loop (ι := Nat × Value) (fun ⟨i, v⟩ => i ≤ (([] : List QOp)).length) (fun ⟨i, v⟩ => [(0, .slice a 0 c), (1, .int .i64 (id)), (5, v), (6, .int .i64 (((i : Nat) : Int)))]) (fun ⟨i, v⟩ => Own 36 3 v ((without ((([] : List QOp)).take i) id).length) (flatOf QOp.cells (without ((([] : List QOp)).take i) id)) :: A :: F) (fun ⟨i, v⟩ => (([] : List QOp)).length - i) (0, .slice none 0 0) (Nat.zero_le _) ((Sub.cons rfl (Sub.cons rfl (Sub.cons rfl (Sub.cons rfl Sub.nil))))) (fun _ h => h) ?_
  rintro ⟨i, v⟩ hi
  show WPc _ _ _ _ _ [(0, .slice a 0 c), (1, .int .i64 (id)), (5, v), (6, .int .i64 (((i : Nat) : Int)))] (Own 36 3 v ((without ((([] : List QOp)).take i) id).length) (flatOf QOp.cells (without ((([] : List QOp)).take i) id)) :: A :: F)
  replace hi : i ≤ (([] : List QOp)).length := hi
  refine WPc.seq ?_
  refine WPc.seq ?_
  refine WPc.region ?_
  refine WP.val rfl rfl rfl (Val.move rfl rfl) ?_
  refine WP.val rfl rfl rfl (Val.move rfl rfl) ?_
  refine WP.val rfl rfl rfl (Val.len rfl Ty.sl33 rfl) ?_
  refine WP.val rfl rfl rfl (Val.lss rfl rfl rfl) ?_
  refine WP.nil ?_
  refine Out.next ?_
  refine WPc.ifP rfl (fun h1 => ?_) (fun h1 => ?_)
  · skip
    have h1 : (((i : Nat) : Int) < (0 : Int)) := h1
    exfalso; simp at *; omega
  · skip
    have h1 : ¬ (((i : Nat) : Int) < (0 : Int)) := h1
    refine WPc.exit ?_
    refine Out.then_exit ?_
    refine Out.then_exit ?_
    refine Out.block_exit ?_
    refine Out.next ?_
    refine WPc.seq ?_
    refine WPc.region ?_
    refine WP.val rfl rfl rfl (Val.move rfl rfl) ?_
    refine WP.val rfl rfl rfl (Val.assign rfl rfl) ?_
    refine WP.nil ?_
    refine Out.next ?_
    refine WPc.ret ?_
    have hti2 : (([] : List QOp)).take i = ([] : List QOp) := List.take_of_length_le (by first | omega | (simp at *; try omega))
    exact Out.ret1 (L' := _) Try.results44 rfl rfl (fun w h => by rw [hti2] at h; exact h)

set_option maxRecDepth 100000 in
set_option maxHeartbeats 1000000 in
theorem wo_row (A : HProp) (id : Int) (l : List QOp) (hl : l.length ≤ 100000) (b0 o0 c0 : Nat) (hr : ∀ w, Holds A w → ∀ i x, l[i]? = some x → w.rangeAt b0 (o0 + i * 3) (QOp.cells x)) : Does Try.prog 44 [.slice (some ⟨b0, o0, none⟩) l.length c0, .int .i64 (id)] [A] (fun v L => L = [Own 36 3 v (without l id).length (flatOf QOp.cells (without l id)), A]) := by
  refine Does.enter 28 Try.func44 rfl rfl rfl fun W F => ?_
  show WPc _ _ _ _ _ [(0, .slice (some ⟨b0, o0, none⟩) l.length c0), (1, .int .i64 (id))] (A :: F)
  refine WPc.seq ?_
  refine WPc.region ?_
  refine WP.val rfl rfl rfl (Val.assign rfl rfl) ?_
  refine WP.nil ?_
  refine Out.next ?_
  refine WPc.seq ?_
  refine WPc.region ?_
  refine WP.val rfl rfl rfl (Val.assign rfl rfl) ?_
  refine WP.nil ?_
  refine Out.next ?_
  refine WPc.seq ?_
  refine WPc.seq ?_
  refine WPc.conv (fun w h => h.ownNil (e := 36) (k := 3)) ?_
  show WPc _ _ _ _ _ _ (Own 36 3 (.slice none 0 0) 0 ([]) :: A :: F)
  refine WPc.region ?_
  refine WP.val rfl rfl rfl (Val.assign rfl rfl) ?_
  refine WP.nil ?_
  refine Out.next ?_
  refine WPc.block ?_
  refine WPc.loop (ι := Nat × Value) (fun ⟨i, v⟩ => i ≤ (l).length) (fun ⟨i, v⟩ => [(0, .slice (some ⟨b0, o0, none⟩) l.length c0), (1, .int .i64 (id)), (5, v), (6, .int .i64 (((i : Nat) : Int)))]) (fun ⟨i, v⟩ => Own 36 3 v ((without ((l).take i) id).length) (flatOf QOp.cells (without ((l).take i) id)) :: A :: F) (fun ⟨i, v⟩ => (l).length - i) (0, .slice none 0 0) (Nat.zero_le _) ((Sub.cons rfl (Sub.cons rfl (Sub.cons rfl (Sub.cons rfl Sub.nil))))) (fun _ h => h) ?_
  rintro ⟨i, v⟩ hi
  show WPc _ _ _ _ _ [(0, .slice (some ⟨b0, o0, none⟩) l.length c0), (1, .int .i64 (id)), (5, v), (6, .int .i64 (((i : Nat) : Int)))] (Own 36 3 v ((without ((l).take i) id).length) (flatOf QOp.cells (without ((l).take i) id)) :: A :: F)
  replace hi : i ≤ (l).length := hi
  refine WPc.seq ?_
  refine WPc.seq ?_
  refine WPc.region ?_
  refine WP.val rfl rfl rfl (Val.move rfl rfl) ?_
  refine WP.val rfl rfl rfl (Val.move rfl rfl) ?_
  refine WP.val rfl rfl rfl (Val.len rfl Ty.sl33 rfl) ?_
  refine WP.val rfl rfl rfl (Val.lss rfl rfl rfl) ?_
  refine WP.nil ?_
  refine Out.next ?_
  refine WPc.ifP rfl (fun h1 => ?_) (fun h1 => ?_)
  · skip
    have h1 : (((i : Nat) : Int) < ((l.length : Nat) : Int)) := h1
    refine WPc.skip ?_
    refine Out.next ?_
    refine WPc.seq ?_
    refine WPc.block ?_
    refine WPc.seq ?_
    have hlt : i < l.length := by omega
    obtain ⟨x, hx⟩ : ∃ x, l[i]? = some x := ⟨_, List.getElem?_eq_getElem hlt⟩
    have hwl := without_len (l.take i) id
    have hwt := List.length_take_le i l
    refine WPc.region ?_
    refine WP.val rfl rfl rfl (Val.move rfl rfl) ?_
    refine WP.val rfl rfl rfl (Val.move rfl rfl) ?_
    refine WP.val rfl rfl rfl (Val.indexAddr (j := i) (q := o0 + i * 3) rfl Ty.sl33 rfl rfl (by omega) (by omega) (by omega)) ?_
    refine WP.val rfl rfl rfl (Val.fieldAddr (j := o0 + i * 3 + 1) rfl Ty.fo36_1 rfl rfl) ?_
    refine WP.val rfl rfl rfl (Val.load (v := .int .i64 (x.id)) rfl Ty.sc2 rfl (fun w h => hr w (h.at 1 rfl) i x hx 1 _ rfl)) ?_
    refine WP.val rfl rfl rfl (Val.move rfl rfl) ?_
    refine WP.val rfl rfl rfl (Val.neq rfl rfl rfl) ?_
    refine WP.nil ?_
    refine Out.next ?_
    refine WPc.ifP rfl (fun h2 => ?_) (fun h2 => ?_)
    · skip
      have h2 : (x.id ≠ id) := h2
      refine WPc.region ?_
      refine WP.val rfl rfl rfl (Val.move rfl rfl) ?_
      refine WP.val rfl rfl rfl (Val.move rfl rfl) ?_
      refine WP.val rfl rfl rfl (Val.move rfl rfl) ?_
      refine WP.val rfl rfl rfl (Val.indexAddr (j := i) (q := o0 + i * 3) rfl Ty.sl33 rfl rfl (by omega) (by omega) (by omega)) ?_
      refine WP.val rfl rfl rfl (Val.loadAgg (cs := (QOp.cells x)) rfl Ty.ag36 rfl (by rfl) (fun w h => hr w (h.at 1 rfl) i x hx)) ?_
      refine WP.eff rfl rfl rfl (Eff.mkSlice (C := [.int .i64 (x.k), .int .i64 (x.id), .int .i64 (x.at_)]) rfl Ty.sl33 rfl (fun _ => by kernel_rfl)) ?_
      rintro _ _ ⟨b1, rfl, rfl⟩
      refine WP.perm pl1 ?_
      refine WP.eff rfl rfl rfl (Eff.append (m := 1) (n0 := (without ((l).take i) id).length) (news := [.int .i64 (x.k), .int .i64 (x.id), .int .i64 (x.at_)]) rfl Ty.sl33 Ty.z36 rfl rfl rfl (.slice Ty.sl33 rfl rfl (fun w h => cells_range (h.range 1 rfl rfl))) (by omega) (by omega)) ?_
      rintro v2 _ ⟨onev2, rfl⟩
      refine WP.val rfl rfl rfl (Val.assign rfl rfl) ?_
      refine WP.nil ?_
      refine Out.block ?_
      refine Out.next ?_
      refine WPc.region ?_
      refine WP.val rfl rfl rfl (Val.move rfl rfl) ?_
      refine WP.val rfl rfl rfl (Val.add (z := ((i + 1 : Nat) : Int)) rfl rfl rfl ((w64 (by omega) (by omega)).trans (by omega))) ?_
      refine WP.val rfl rfl rfl (Val.assign rfl rfl) ?_
      refine WP.nil ?_
      have he := without_more (id := id) hx (by omega)
      refine Out.perm pl1 ?_
      refine Out.drop ?_
      refine Out.again (i + 1, v2) ?_ ?_ ?_ ?_
      · exact (by first | omega | (dsimp only; omega))
      · (dsimp only; omega)
      · exact (Sub.cons rfl (Sub.cons rfl (Sub.cons rfl (Sub.cons rfl Sub.nil))))
      · exact (fun w h => by dsimp only; rw [he, flatOf_snoc, List.length_append]; exact h)
    · skip
      have h2 : ¬ (x.id ≠ id) := h2
      refine WPc.skip ?_
      refine Out.block ?_
      refine Out.next ?_
      refine WPc.region ?_
      refine WP.val rfl rfl rfl (Val.move rfl rfl) ?_
      refine WP.val rfl rfl rfl (Val.add (z := ((i + 1 : Nat) : Int)) rfl rfl rfl ((w64 (by omega) (by omega)).trans (by omega))) ?_
      refine WP.val rfl rfl rfl (Val.assign rfl rfl) ?_
      refine WP.nil ?_
      have he := without_skip (id := id) hx (by omega)
      refine Out.again (i + 1, v) ?_ ?_ ?_ ?_
      · exact (by first | omega | (dsimp only; omega))
      · (dsimp only; omega)
      · exact (Sub.cons rfl (Sub.cons rfl (Sub.cons rfl (Sub.cons rfl Sub.nil))))
      · exact (fun w h => by dsimp only; rw [he]; exact h)
  · skip
    have h1 : ¬ (((i : Nat) : Int) < ((l.length : Nat) : Int)) := h1
    refine WPc.exit ?_
    refine Out.then_exit ?_
    refine Out.then_exit ?_
    refine Out.block_exit ?_
    refine Out.next ?_
    refine WPc.seq ?_
    refine WPc.region ?_
    refine WP.val rfl rfl rfl (Val.move rfl rfl) ?_
    refine WP.val rfl rfl rfl (Val.assign rfl rfl) ?_
    refine WP.nil ?_
    refine Out.next ?_
    refine WPc.ret ?_
    have hti2 : (l).take i = l := List.take_of_length_le (by first | omega | (simp at *; try omega))
    exact Out.ret1 (L' := _) Try.results44 rfl rfl (fun w h => by rw [hti2] at h; exact h)

theorem wo_spec (A : HProp) (id : Int) (l : List QOp) (hl : l.length ≤ 100000) (va : Value) (hva : Rd A 3 QOp.cells va l) : Does Try.prog 44 [va, .int .i64 (id)] [A] (fun v L => L = [Own 36 3 v (without l id).length (flatOf QOp.cells (without l id)), A]) := by
  rcases hva with ⟨b0, o0, c0, rfl, hr⟩ | ⟨rfl, a, c, rfl⟩
  · exact wo_row A id l hl b0 o0 c0 hr
  · exact wo_nil A id a c
set_option maxRecDepth 100000 in
set_option maxHeartbeats 1000000 in
theorem first_nil (A : HProp) (a : Option Addr) (c : Nat) : Does Try.prog 45 [.slice a 0 c] [A] (fun v L => ∃ b : Int, ((([] : List QOp) = [] ∧ b = -1) ∨ ∃ (j : Nat) (y : QOp), b = (j : Int) ∧ j < 0 ∧ ([] : List QOp)[j]? = some y ∧ ∀ z ∈ ([] : List QOp), y.at_ ≤ z.at_) ∧ v = .int .i64 b ∧ L = [A]) := by
  refine Does.enter 54 Try.func45 rfl rfl rfl fun W F => ?_
  show WPc _ _ _ _ _ [(0, .slice a 0 c)] (A :: F)
  refine WPc.seq ?_
  refine WPc.region ?_
  refine WP.val rfl rfl rfl (Val.assign rfl rfl) ?_
  refine WP.nil ?_
  refine Out.next ?_
  refine WPc.seq ?_
  refine WPc.region ?_
  refine WP.val rfl rfl rfl (Val.assign rfl rfl) ?_
  refine WP.nil ?_
  refine Out.next ?_
  refine WPc.seq ?_
  refine WPc.seq ?_
  refine WPc.region ?_
  refine WP.val rfl rfl rfl (Val.assign rfl rfl) ?_
  refine WP.nil ?_
  refine Out.next ?_
  refine WPc.block ?_
  refine WPc.loop (ι := Nat × Int) (fun ⟨i, b⟩ => i ≤ (([] : List QOp)).length ∧ Best (([] : List QOp)) i b) (fun ⟨i, b⟩ => [(0, .slice a 0 c), (3, .int .i64 (b)), (4, .int .i64 (((i : Nat) : Int)))]) (fun ⟨i, b⟩ => A :: F) (fun ⟨i, b⟩ => (([] : List QOp)).length - i) (0, -1) ⟨Nat.zero_le _, .inl ⟨rfl, rfl⟩⟩ ((Sub.cons rfl (Sub.cons rfl (Sub.cons rfl Sub.nil)))) (fun _ h => h) ?_
  rintro ⟨i, b⟩ ⟨hi, hB⟩
  show WPc _ _ _ _ _ [(0, .slice a 0 c), (3, .int .i64 (b)), (4, .int .i64 (((i : Nat) : Int)))] (A :: F)
  refine WPc.seq ?_
  refine WPc.seq ?_
  refine WPc.region ?_
  refine WP.val rfl rfl rfl (Val.move rfl rfl) ?_
  refine WP.val rfl rfl rfl (Val.move rfl rfl) ?_
  refine WP.val rfl rfl rfl (Val.len rfl Ty.sl33 rfl) ?_
  refine WP.val rfl rfl rfl (Val.lss rfl rfl rfl) ?_
  refine WP.nil ?_
  refine Out.next ?_
  refine WPc.ifP rfl (fun h1 => ?_) (fun h1 => ?_)
  · skip
    have h1 : (((i : Nat) : Int) < (0 : Int)) := h1
    exfalso; simp at *; omega
  · skip
    have h1 : ¬ (((i : Nat) : Int) < (0 : Int)) := h1
    refine WPc.exit ?_
    refine Out.then_exit ?_
    refine Out.then_exit ?_
    refine Out.block_exit ?_
    refine Out.next ?_
    refine WPc.seq ?_
    refine WPc.region ?_
    refine WP.val rfl rfl rfl (Val.move rfl rfl) ?_
    refine WP.val rfl rfl rfl (Val.assign rfl rfl) ?_
    refine WP.nil ?_
    refine Out.next ?_
    refine WPc.ret ?_
    have hil : i = (([] : List QOp)).length := by first | omega | (simp at *; omega)
    subst hil
    exact Out.ret1 (L' := _) Try.results45 rfl ⟨b, best_all hB, rfl, rfl⟩ (fun _ h => h)

set_option maxRecDepth 100000 in
set_option maxHeartbeats 1000000 in
theorem first_row (A : HProp) (l : List QOp) (hl : l.length ≤ 100000) (b0 o0 c0 : Nat) (hr : ∀ w, Holds A w → ∀ i x, l[i]? = some x → w.rangeAt b0 (o0 + i * 3) (QOp.cells x)) : Does Try.prog 45 [.slice (some ⟨b0, o0, none⟩) l.length c0] [A] (fun v L => ∃ b : Int, ((l = [] ∧ b = -1) ∨ ∃ (j : Nat) (y : QOp), b = (j : Int) ∧ j < l.length ∧ l[j]? = some y ∧ ∀ z ∈ l, y.at_ ≤ z.at_) ∧ v = .int .i64 b ∧ L = [A]) := by
  refine Does.enter 54 Try.func45 rfl rfl rfl fun W F => ?_
  show WPc _ _ _ _ _ [(0, .slice (some ⟨b0, o0, none⟩) l.length c0)] (A :: F)
  refine WPc.seq ?_
  refine WPc.region ?_
  refine WP.val rfl rfl rfl (Val.assign rfl rfl) ?_
  refine WP.nil ?_
  refine Out.next ?_
  refine WPc.seq ?_
  refine WPc.region ?_
  refine WP.val rfl rfl rfl (Val.assign rfl rfl) ?_
  refine WP.nil ?_
  refine Out.next ?_
  refine WPc.seq ?_
  refine WPc.seq ?_
  refine WPc.region ?_
  refine WP.val rfl rfl rfl (Val.assign rfl rfl) ?_
  refine WP.nil ?_
  refine Out.next ?_
  refine WPc.block ?_
  refine WPc.loop (ι := Nat × Int) (fun ⟨i, b⟩ => i ≤ (l).length ∧ Best (l) i b) (fun ⟨i, b⟩ => [(0, .slice (some ⟨b0, o0, none⟩) l.length c0), (3, .int .i64 (b)), (4, .int .i64 (((i : Nat) : Int)))]) (fun ⟨i, b⟩ => A :: F) (fun ⟨i, b⟩ => (l).length - i) (0, -1) ⟨Nat.zero_le _, .inl ⟨rfl, rfl⟩⟩ ((Sub.cons rfl (Sub.cons rfl (Sub.cons rfl Sub.nil)))) (fun _ h => h) ?_
  rintro ⟨i, b⟩ ⟨hi, hB⟩
  show WPc _ _ _ _ _ [(0, .slice (some ⟨b0, o0, none⟩) l.length c0), (3, .int .i64 (b)), (4, .int .i64 (((i : Nat) : Int)))] (A :: F)
  refine WPc.seq ?_
  refine WPc.seq ?_
  refine WPc.region ?_
  refine WP.val rfl rfl rfl (Val.move rfl rfl) ?_
  refine WP.val rfl rfl rfl (Val.move rfl rfl) ?_
  refine WP.val rfl rfl rfl (Val.len rfl Ty.sl33 rfl) ?_
  refine WP.val rfl rfl rfl (Val.lss rfl rfl rfl) ?_
  refine WP.nil ?_
  refine Out.next ?_
  refine WPc.ifP rfl (fun h1 => ?_) (fun h1 => ?_)
  · skip
    have h1 : (((i : Nat) : Int) < ((l.length : Nat) : Int)) := h1
    refine WPc.skip ?_
    refine Out.next ?_
    refine WPc.seq ?_
    refine WPc.block ?_
    refine WPc.seq ?_
    have hlt : i < l.length := by omega
    obtain ⟨x, hx⟩ : ∃ x, l[i]? = some x := ⟨_, List.getElem?_eq_getElem hlt⟩
    rcases hB with ⟨hi0, rfl⟩ | ⟨j, y, rfl, hji, hy, hmin⟩
    · skip
      refine WPD.start (Sat W (A :: F)) Ty.mixed ?_
      refine WPD.takeM 0 rfl rfl rfl rfl (by kernel_rfl) (by kernel_rfl) (by kernel_rfl) (by kernel_rfl) (fun _ _ _ h => h) (fun _ h => h) (Val.move rfl rfl) ?_
      refine WPD.take 1 rfl rfl rfl rfl (by kernel_rfl) (by kernel_rfl) (by kernel_rfl) (by kernel_rfl) (fun _ _ _ h => h) (by kernel_rfl) (fun _ h => h) (Val.lss rfl rfl rfl) ?_
      refine WPD.takeM 2 rfl rfl rfl rfl (by kernel_rfl) (by kernel_rfl) (by kernel_rfl) (by kernel_rfl) (fun _ _ _ h => h) (fun _ h => h) (Val.move rfl rfl) ?_
      refine WPD.split 13 rfl (fun h2 => ?_) (fun h2 => ?_)
      · skip
        have h2 : ((-1 : Int) < (0 : Int)) := h2
        refine WPD.skip 3 rfl rfl rfl rfl rfl rfl rfl rfl (by kernel_rfl) (by kernel_rfl) (by kernel_rfl) (by kernel_rfl) (fun _ _ _ h => h) (fun _ h => h) ?_
        refine WPD.skip 4 rfl rfl rfl rfl rfl rfl rfl rfl (by kernel_rfl) (by kernel_rfl) (by kernel_rfl) (by kernel_rfl) (fun _ _ _ h => h) (fun _ h => h) ?_
        refine WPD.skip 5 rfl rfl rfl rfl rfl rfl rfl rfl (by kernel_rfl) (by kernel_rfl) (by kernel_rfl) (by kernel_rfl) (fun _ _ _ h => h) (fun _ h => h) ?_
        refine WPD.skip 6 rfl rfl rfl rfl rfl rfl rfl rfl (by kernel_rfl) (by kernel_rfl) (by kernel_rfl) (by kernel_rfl) (fun _ _ _ h => h) (fun _ h => h) ?_
        refine WPD.skip 7 rfl rfl rfl rfl rfl rfl rfl rfl (by kernel_rfl) (by kernel_rfl) (by kernel_rfl) (by kernel_rfl) (fun _ _ _ h => h) (fun _ h => h) ?_
        refine WPD.skip 8 rfl rfl rfl rfl rfl rfl rfl rfl (by kernel_rfl) (by kernel_rfl) (by kernel_rfl) (by kernel_rfl) (fun _ _ _ h => h) (fun _ h => h) ?_
        refine WPD.skip 9 rfl rfl rfl rfl rfl rfl rfl rfl (by kernel_rfl) (by kernel_rfl) (by kernel_rfl) (by kernel_rfl) (fun _ _ _ h => h) (fun _ h => h) ?_
        refine WPD.skip 10 rfl rfl rfl rfl rfl rfl rfl rfl (by kernel_rfl) (by kernel_rfl) (by kernel_rfl) (by kernel_rfl) (fun _ _ _ h => h) (fun _ h => h) ?_
        refine WPD.skip 11 rfl rfl rfl rfl rfl rfl rfl rfl (by kernel_rfl) (by kernel_rfl) (by kernel_rfl) (by kernel_rfl) (fun _ _ _ h => h) (fun _ h => h) ?_
        refine WPD.skip 12 rfl rfl rfl rfl rfl rfl rfl rfl (by kernel_rfl) (by kernel_rfl) (by kernel_rfl) (by kernel_rfl) (fun _ _ _ h => h) (fun _ h => h) ?_
        refine WPD.skip 13 rfl rfl rfl rfl rfl rfl rfl rfl (by kernel_rfl) (by kernel_rfl) (by kernel_rfl) (by kernel_rfl) (fun _ _ _ h => h) (fun _ h => h) ?_
        refine WPD.takeM 14 rfl rfl rfl rfl (by kernel_rfl) (by kernel_rfl) (by kernel_rfl) (by kernel_rfl) (fun _ _ _ h => h) (fun _ h => h) (Val.pickT rfl rfl rfl) ?_
        refine WPD.takeM 15 rfl rfl rfl rfl (by kernel_rfl) (by kernel_rfl) (by kernel_rfl) (by kernel_rfl) (fun _ _ _ h => h) (fun _ h => h) (Val.move rfl rfl) ?_
        refine WPD.skip 16 rfl rfl rfl rfl rfl rfl rfl rfl (by kernel_rfl) (by kernel_rfl) (by kernel_rfl) (by kernel_rfl) (fun _ _ _ h => h) (fun _ h => h) ?_
        refine WPD.skip 17 rfl rfl rfl rfl rfl rfl rfl rfl (by kernel_rfl) (by kernel_rfl) (by kernel_rfl) (by kernel_rfl) (fun _ _ _ h => h) (fun _ h => h) ?_
        refine WPD.skip 18 rfl rfl rfl rfl rfl rfl rfl rfl (by kernel_rfl) (by kernel_rfl) (by kernel_rfl) (by kernel_rfl) (fun _ _ _ h => h) (fun _ h => h) ?_
        refine WPD.skip 19 rfl rfl rfl rfl rfl rfl rfl rfl (by kernel_rfl) (by kernel_rfl) (by kernel_rfl) (by kernel_rfl) (fun _ _ _ h => h) (fun _ h => h) ?_
        refine WPD.skip 20 rfl rfl rfl rfl rfl rfl rfl rfl (by kernel_rfl) (by kernel_rfl) (by kernel_rfl) (by kernel_rfl) (fun _ _ _ h => h) (fun _ h => h) ?_
        refine WPD.skip 21 rfl rfl rfl rfl rfl rfl rfl rfl (by kernel_rfl) (by kernel_rfl) (by kernel_rfl) (by kernel_rfl) (fun _ _ _ h => h) (fun _ h => h) ?_
        refine WPD.skip 22 rfl rfl rfl rfl rfl rfl rfl rfl (by kernel_rfl) (by kernel_rfl) (by kernel_rfl) (by kernel_rfl) (fun _ _ _ h => h) (fun _ h => h) ?_
        refine WPD.skip 23 rfl rfl rfl rfl rfl rfl rfl rfl (by kernel_rfl) (by kernel_rfl) (by kernel_rfl) (by kernel_rfl) (fun _ _ _ h => h) (fun _ h => h) ?_
        refine WPD.skip 24 rfl rfl rfl rfl rfl rfl rfl rfl (by kernel_rfl) (by kernel_rfl) (by kernel_rfl) (by kernel_rfl) (fun _ _ _ h => h) (fun _ h => h) ?_
        refine WPD.skip 25 rfl rfl rfl rfl rfl rfl rfl rfl (by kernel_rfl) (by kernel_rfl) (by kernel_rfl) (by kernel_rfl) (fun _ _ _ h => h) (fun _ h => h) ?_
        refine WPD.skip 26 rfl rfl rfl rfl rfl rfl rfl rfl (by kernel_rfl) (by kernel_rfl) (by kernel_rfl) (by kernel_rfl) (fun _ _ _ h => h) (fun _ h => h) ?_
        refine WPD.skip 27 rfl rfl rfl rfl rfl rfl rfl rfl (by kernel_rfl) (by kernel_rfl) (by kernel_rfl) (by kernel_rfl) (fun _ _ _ h => h) (fun _ h => h) ?_
        refine WPD.skipU 28 rfl rfl rfl rfl rfl rfl rfl (by kernel_rfl) (by kernel_rfl) (by kernel_rfl) (by kernel_rfl) (fun _ _ _ h => h) (fun _ h => h) ?_
        refine WPD.skipU 29 rfl rfl rfl rfl rfl rfl rfl (by kernel_rfl) (by kernel_rfl) (by kernel_rfl) (by kernel_rfl) (fun _ _ _ h => h) (fun _ h => h) ?_
        refine WPD.skipU 30 rfl rfl rfl rfl rfl rfl rfl (by kernel_rfl) (by kernel_rfl) (by kernel_rfl) (by kernel_rfl) (fun _ _ _ h => h) (fun _ h => h) ?_
        refine WPD.skipU 31 rfl rfl rfl rfl rfl rfl rfl (by kernel_rfl) (by kernel_rfl) (by kernel_rfl) (by kernel_rfl) (fun _ _ _ h => h) (fun _ h => h) ?_
        refine WPD.skipU 32 rfl rfl rfl rfl rfl rfl rfl (by kernel_rfl) (by kernel_rfl) (by kernel_rfl) (by kernel_rfl) (fun _ _ _ h => h) (fun _ h => h) ?_
        refine WPD.skipU 33 rfl rfl rfl rfl rfl rfl rfl (by kernel_rfl) (by kernel_rfl) (by kernel_rfl) (by kernel_rfl) (fun _ _ _ h => h) (fun _ h => h) ?_
        refine WPD.skipU 34 rfl rfl rfl rfl rfl rfl rfl (by kernel_rfl) (by kernel_rfl) (by kernel_rfl) (by kernel_rfl) (fun _ _ _ h => h) (fun _ h => h) ?_
        refine WPD.skipU 35 rfl rfl rfl rfl rfl rfl rfl (by kernel_rfl) (by kernel_rfl) (by kernel_rfl) (by kernel_rfl) (fun _ _ _ h => h) (fun _ h => h) ?_
        refine WPD.skipU 36 rfl rfl rfl rfl rfl rfl rfl (by kernel_rfl) (by kernel_rfl) (by kernel_rfl) (by kernel_rfl) (fun _ _ _ h => h) (fun _ h => h) ?_
        refine WPD.skipU 37 rfl rfl rfl rfl rfl rfl rfl (by kernel_rfl) (by kernel_rfl) (by kernel_rfl) (by kernel_rfl) (fun _ _ _ h => h) (fun _ h => h) ?_
        refine WPD.skipU 38 rfl rfl rfl rfl rfl rfl rfl (by kernel_rfl) (by kernel_rfl) (by kernel_rfl) (by kernel_rfl) (fun _ _ _ h => h) (fun _ h => h) ?_
        refine WPD.skip 39 rfl rfl rfl rfl rfl rfl rfl rfl (by kernel_rfl) (by kernel_rfl) (by kernel_rfl) (by kernel_rfl) (fun _ _ _ h => h) (fun _ h => h) ?_
        refine WPD.takeM 40 rfl rfl rfl rfl (by kernel_rfl) (by kernel_rfl) (by kernel_rfl) (by kernel_rfl) (fun _ _ _ h => h) (fun _ h => h) (Val.pickT rfl rfl rfl) ?_
        refine WPD.done (by kernel_rfl) ?_
        refine Out.next ?_
        refine WPc.condT rfl rfl ?_
        refine WPc.region ?_
        refine WP.val rfl rfl rfl (Val.move rfl rfl) ?_
        refine WP.val rfl rfl rfl (Val.assign rfl rfl) ?_
        refine WP.nil ?_
        refine Out.block ?_
        refine Out.next ?_
        refine WPc.region ?_
        refine WP.val rfl rfl rfl (Val.move rfl rfl) ?_
        refine WP.val rfl rfl rfl (Val.add (z := ((i + 1 : Nat) : Int)) rfl rfl rfl ((w64 (by omega) (by omega)).trans (by omega))) ?_
        refine WP.val rfl rfl rfl (Val.assign rfl rfl) ?_
        refine WP.nil ?_
        refine Out.again (i + 1, (i : Int)) ?_ ?_ ?_ ?_
        · exact ⟨by omega, best_first hi0 hx⟩
        · (dsimp only; omega)
        · exact (Sub.cons rfl (Sub.cons rfl (Sub.cons rfl Sub.nil)))
        · exact (fun _ h => h)
      · skip
        have h2 : ¬ ((-1 : Int) < (0 : Int)) := h2
        exfalso; omega
    · skip
      refine WPD.start (Sat W (A :: F)) Ty.mixed ?_
      refine WPD.takeM 0 rfl rfl rfl rfl (by kernel_rfl) (by kernel_rfl) (by kernel_rfl) (by kernel_rfl) (fun _ _ _ h => h) (fun _ h => h) (Val.move rfl rfl) ?_
      refine WPD.take 1 rfl rfl rfl rfl (by kernel_rfl) (by kernel_rfl) (by kernel_rfl) (by kernel_rfl) (fun _ _ _ h => h) (by kernel_rfl) (fun _ h => h) (Val.lss rfl rfl rfl) ?_
      refine WPD.takeM 2 rfl rfl rfl rfl (by kernel_rfl) (by kernel_rfl) (by kernel_rfl) (by kernel_rfl) (fun _ _ _ h => h) (fun _ h => h) (Val.move rfl rfl) ?_
      refine WPD.split 13 rfl (fun h3 => ?_) (fun h3 => ?_)
      · skip
        have h3 : (((j : Nat) : Int) < (0 : Int)) := h3
        exfalso; omega
      · skip
        have h3 : ¬ (((j : Nat) : Int) < (0 : Int)) := h3
        refine WPD.takeGM 3 rfl rfl rfl rfl rfl rfl rfl rfl (by kernel_rfl) (by kernel_rfl) (by kernel_rfl) (by kernel_rfl) (fun _ _ _ h => h) (fun _ h => h) (Val.move rfl rfl) ?_
        refine WPD.takeGM 4 rfl rfl rfl rfl rfl rfl rfl rfl (by kernel_rfl) (by kernel_rfl) (by kernel_rfl) (by kernel_rfl) (fun _ _ _ h => h) (fun _ h => h) (Val.move rfl rfl) ?_
        refine WPD.takeGM 5 rfl rfl rfl rfl rfl rfl rfl rfl (by kernel_rfl) (by kernel_rfl) (by kernel_rfl) (by kernel_rfl) (fun _ _ _ h => h) (fun _ h => h) (Val.indexAddr (j := i) (q := o0 + i * 3) rfl Ty.sl33 rfl rfl (by omega) (by omega) (by omega)) ?_
        refine WPD.takeGM 6 rfl rfl rfl rfl rfl rfl rfl rfl (by kernel_rfl) (by kernel_rfl) (by kernel_rfl) (by kernel_rfl) (fun _ _ _ h => h) (fun _ h => h) (Val.fieldAddr (j := o0 + i * 3 + 2) rfl Ty.fo36_2 rfl rfl) ?_
        refine WPD.takeG 7 rfl rfl rfl rfl rfl rfl rfl rfl (by kernel_rfl) (by kernel_rfl) (by kernel_rfl) (by kernel_rfl) (fun _ _ _ h => h) (by kernel_rfl) (fun _ h => h) (Val.load (v := .int .i64 (x.at_)) rfl Ty.sc2 rfl (fun w h => hr w (h.at 0 rfl) i x hx 2 _ rfl)) ?_
        refine WPD.takeGM 8 rfl rfl rfl rfl rfl rfl rfl rfl (by kernel_rfl) (by kernel_rfl) (by kernel_rfl) (by kernel_rfl) (fun _ _ _ h => h) (fun _ h => h) (Val.move rfl rfl) ?_
        refine WPD.takeGM 9 rfl rfl rfl rfl rfl rfl rfl rfl (by kernel_rfl) (by kernel_rfl) (by kernel_rfl) (by kernel_rfl) (fun _ _ _ h => h) (fun _ h => h) (Val.move rfl rfl) ?_
        refine WPD.takeGM 10 rfl rfl rfl rfl rfl rfl rfl rfl (by kernel_rfl) (by kernel_rfl) (by kernel_rfl) (by kernel_rfl) (fun _ _ _ h => h) (fun _ h => h) (Val.indexAddr (j := j) (q := o0 + j * 3) rfl Ty.sl33 rfl rfl (by omega) (by omega) (by omega)) ?_
        refine WPD.takeGM 11 rfl rfl rfl rfl rfl rfl rfl rfl (by kernel_rfl) (by kernel_rfl) (by kernel_rfl) (by kernel_rfl) (fun _ _ _ h => h) (fun _ h => h) (Val.fieldAddr (j := o0 + j * 3 + 2) rfl Ty.fo36_2 rfl rfl) ?_
        refine WPD.takeG 12 rfl rfl rfl rfl rfl rfl rfl rfl (by kernel_rfl) (by kernel_rfl) (by kernel_rfl) (by kernel_rfl) (fun _ _ _ h => h) (by kernel_rfl) (fun _ h => h) (Val.load (v := .int .i64 (y.at_)) rfl Ty.sc2 rfl (fun w h => hr w (h.at 0 rfl) j y hy 2 _ rfl)) ?_
        refine WPD.takeG 13 rfl rfl rfl rfl rfl rfl rfl rfl (by kernel_rfl) (by kernel_rfl) (by kernel_rfl) (by kernel_rfl) (fun _ _ _ h => h) (by kernel_rfl) (fun _ h => h) (Val.lss rfl rfl rfl) ?_
        refine WPD.takeM 14 rfl rfl rfl rfl (by kernel_rfl) (by kernel_rfl) (by kernel_rfl) (by kernel_rfl) (fun _ _ _ h => h) (fun _ h => h) (Val.pickF rfl rfl rfl) ?_
        refine WPD.takeM 15 rfl rfl rfl rfl (by kernel_rfl) (by kernel_rfl) (by kernel_rfl) (by kernel_rfl) (fun _ _ _ h => h) (fun _ h => h) (Val.move rfl rfl) ?_
        refine WPD.split 26 rfl (fun h4 => ?_) (fun h4 => ?_)
        · skip
          have h4 : (x.at_ < y.at_) := h4
          refine WPD.skip 16 rfl rfl rfl rfl rfl rfl rfl rfl (by kernel_rfl) (by kernel_rfl) (by kernel_rfl) (by kernel_rfl) (fun _ _ _ h => h) (fun _ h => h) ?_
          refine WPD.skip 17 rfl rfl rfl rfl rfl rfl rfl rfl (by kernel_rfl) (by kernel_rfl) (by kernel_rfl) (by kernel_rfl) (fun _ _ _ h => h) (fun _ h => h) ?_
          refine WPD.skip 18 rfl rfl rfl rfl rfl rfl rfl rfl (by kernel_rfl) (by kernel_rfl) (by kernel_rfl) (by kernel_rfl) (fun _ _ _ h => h) (fun _ h => h) ?_
          refine WPD.skip 19 rfl rfl rfl rfl rfl rfl rfl rfl (by kernel_rfl) (by kernel_rfl) (by kernel_rfl) (by kernel_rfl) (fun _ _ _ h => h) (fun _ h => h) ?_
          refine WPD.skip 20 rfl rfl rfl rfl rfl rfl rfl rfl (by kernel_rfl) (by kernel_rfl) (by kernel_rfl) (by kernel_rfl) (fun _ _ _ h => h) (fun _ h => h) ?_
          refine WPD.skip 21 rfl rfl rfl rfl rfl rfl rfl rfl (by kernel_rfl) (by kernel_rfl) (by kernel_rfl) (by kernel_rfl) (fun _ _ _ h => h) (fun _ h => h) ?_
          refine WPD.skip 22 rfl rfl rfl rfl rfl rfl rfl rfl (by kernel_rfl) (by kernel_rfl) (by kernel_rfl) (by kernel_rfl) (fun _ _ _ h => h) (fun _ h => h) ?_
          refine WPD.skip 23 rfl rfl rfl rfl rfl rfl rfl rfl (by kernel_rfl) (by kernel_rfl) (by kernel_rfl) (by kernel_rfl) (fun _ _ _ h => h) (fun _ h => h) ?_
          refine WPD.skip 24 rfl rfl rfl rfl rfl rfl rfl rfl (by kernel_rfl) (by kernel_rfl) (by kernel_rfl) (by kernel_rfl) (fun _ _ _ h => h) (fun _ h => h) ?_
          refine WPD.skip 25 rfl rfl rfl rfl rfl rfl rfl rfl (by kernel_rfl) (by kernel_rfl) (by kernel_rfl) (by kernel_rfl) (fun _ _ _ h => h) (fun _ h => h) ?_
          refine WPD.skip 26 rfl rfl rfl rfl rfl rfl rfl rfl (by kernel_rfl) (by kernel_rfl) (by kernel_rfl) (by kernel_rfl) (fun _ _ _ h => h) (fun _ h => h) ?_
          refine WPD.skip 27 rfl rfl rfl rfl rfl rfl rfl rfl (by kernel_rfl) (by kernel_rfl) (by kernel_rfl) (by kernel_rfl) (fun _ _ _ h => h) (fun _ h => h) ?_
          refine WPD.skipU 28 rfl rfl rfl rfl rfl rfl rfl (by kernel_rfl) (by kernel_rfl) (by kernel_rfl) (by kernel_rfl) (fun _ _ _ h => h) (fun _ h => h) ?_
          refine WPD.skipU 29 rfl rfl rfl rfl rfl rfl rfl (by kernel_rfl) (by kernel_rfl) (by kernel_rfl) (by kernel_rfl) (fun _ _ _ h => h) (fun _ h => h) ?_
          refine WPD.skipU 30 rfl rfl rfl rfl rfl rfl rfl (by kernel_rfl) (by kernel_rfl) (by kernel_rfl) (by kernel_rfl) (fun _ _ _ h => h) (fun _ h => h) ?_
          refine WPD.skipU 31 rfl rfl rfl rfl rfl rfl rfl (by kernel_rfl) (by kernel_rfl) (by kernel_rfl) (by kernel_rfl) (fun _ _ _ h => h) (fun _ h => h) ?_
          refine WPD.skipU 32 rfl rfl rfl rfl rfl rfl rfl (by kernel_rfl) (by kernel_rfl) (by kernel_rfl) (by kernel_rfl) (fun _ _ _ h => h) (fun _ h => h) ?_
          refine WPD.skipU 33 rfl rfl rfl rfl rfl rfl rfl (by kernel_rfl) (by kernel_rfl) (by kernel_rfl) (by kernel_rfl) (fun _ _ _ h => h) (fun _ h => h) ?_
          refine WPD.skipU 34 rfl rfl rfl rfl rfl rfl rfl (by kernel_rfl) (by kernel_rfl) (by kernel_rfl) (by kernel_rfl) (fun _ _ _ h => h) (fun _ h => h) ?_
          refine WPD.skipU 35 rfl rfl rfl rfl rfl rfl rfl (by kernel_rfl) (by kernel_rfl) (by kernel_rfl) (by kernel_rfl) (fun _ _ _ h => h) (fun _ h => h) ?_
          refine WPD.skipU 36 rfl rfl rfl rfl rfl rfl rfl (by kernel_rfl) (by kernel_rfl) (by kernel_rfl) (by kernel_rfl) (fun _ _ _ h => h) (fun _ h => h) ?_
          refine WPD.skipU 37 rfl rfl rfl rfl rfl rfl rfl (by kernel_rfl) (by kernel_rfl) (by kernel_rfl) (by kernel_rfl) (fun _ _ _ h => h) (fun _ h => h) ?_
          refine WPD.skipU 38 rfl rfl rfl rfl rfl rfl rfl (by kernel_rfl) (by kernel_rfl) (by kernel_rfl) (by kernel_rfl) (fun _ _ _ h => h) (fun _ h => h) ?_
          refine WPD.skip 39 rfl rfl rfl rfl rfl rfl rfl rfl (by kernel_rfl) (by kernel_rfl) (by kernel_rfl) (by kernel_rfl) (fun _ _ _ h => h) (fun _ h => h) ?_
          refine WPD.takeM 40 rfl rfl rfl rfl (by kernel_rfl) (by kernel_rfl) (by kernel_rfl) (by kernel_rfl) (fun _ _ _ h => h) (fun _ h => h) (Val.pickT rfl rfl rfl) ?_
          refine WPD.done (by kernel_rfl) ?_
          refine Out.next ?_
          refine WPc.condT rfl rfl ?_
          refine WPc.region ?_
          refine WP.val rfl rfl rfl (Val.move rfl rfl) ?_
          refine WP.val rfl rfl rfl (Val.assign rfl rfl) ?_
          refine WP.nil ?_
          refine Out.block ?_
          refine Out.next ?_
          refine WPc.region ?_
          refine WP.val rfl rfl rfl (Val.move rfl rfl) ?_
          refine WP.val rfl rfl rfl (Val.add (z := ((i + 1 : Nat) : Int)) rfl rfl rfl ((w64 (by omega) (by omega)).trans (by omega))) ?_
          refine WP.val rfl rfl rfl (Val.assign rfl rfl) ?_
          refine WP.nil ?_
          refine Out.again (i + 1, (i : Int)) ?_ ?_ ?_ ?_
          · exact ⟨by omega, best_new (j := j) hx hmin (by omega)⟩
          · (dsimp only; omega)
          · exact (Sub.cons rfl (Sub.cons rfl (Sub.cons rfl Sub.nil)))
          · exact (fun _ h => h)
        · skip
          have h4 : ¬ (x.at_ < y.at_) := h4
          refine WPD.takeGM 16 rfl rfl rfl rfl rfl rfl rfl rfl (by kernel_rfl) (by kernel_rfl) (by kernel_rfl) (by kernel_rfl) (fun _ _ _ h => h) (fun _ h => h) (Val.move rfl rfl) ?_
          refine WPD.takeGM 17 rfl rfl rfl rfl rfl rfl rfl rfl (by kernel_rfl) (by kernel_rfl) (by kernel_rfl) (by kernel_rfl) (fun _ _ _ h => h) (fun _ h => h) (Val.move rfl rfl) ?_
          refine WPD.takeGM 18 rfl rfl rfl rfl rfl rfl rfl rfl (by kernel_rfl) (by kernel_rfl) (by kernel_rfl) (by kernel_rfl) (fun _ _ _ h => h) (fun _ h => h) (Val.indexAddr (j := i) (q := o0 + i * 3) rfl Ty.sl33 rfl rfl (by omega) (by omega) (by omega)) ?_
          refine WPD.takeGM 19 rfl rfl rfl rfl rfl rfl rfl rfl (by kernel_rfl) (by kernel_rfl) (by kernel_rfl) (by kernel_rfl) (fun _ _ _ h => h) (fun _ h => h) (Val.fieldAddr (j := o0 + i * 3 + 2) rfl Ty.fo36_2 rfl rfl) ?_
          refine WPD.takeG 20 rfl rfl rfl rfl rfl rfl rfl rfl (by kernel_rfl) (by kernel_rfl) (by kernel_rfl) (by kernel_rfl) (fun _ _ _ h => h) (by kernel_rfl) (fun _ h => h) (Val.load (v := .int .i64 (x.at_)) rfl Ty.sc2 rfl (fun w h => hr w (h.at 0 rfl) i x hx 2 _ rfl)) ?_
          refine WPD.takeGM 21 rfl rfl rfl rfl rfl rfl rfl rfl (by kernel_rfl) (by kernel_rfl) (by kernel_rfl) (by kernel_rfl) (fun _ _ _ h => h) (fun _ h => h) (Val.move rfl rfl) ?_
          refine WPD.takeGM 22 rfl rfl rfl rfl rfl rfl rfl rfl (by kernel_rfl) (by kernel_rfl) (by kernel_rfl) (by kernel_rfl) (fun _ _ _ h => h) (fun _ h => h) (Val.move rfl rfl) ?_
          refine WPD.takeGM 23 rfl rfl rfl rfl rfl rfl rfl rfl (by kernel_rfl) (by kernel_rfl) (by kernel_rfl) (by kernel_rfl) (fun _ _ _ h => h) (fun _ h => h) (Val.indexAddr (j := j) (q := o0 + j * 3) rfl Ty.sl33 rfl rfl (by omega) (by omega) (by omega)) ?_
          refine WPD.takeGM 24 rfl rfl rfl rfl rfl rfl rfl rfl (by kernel_rfl) (by kernel_rfl) (by kernel_rfl) (by kernel_rfl) (fun _ _ _ h => h) (fun _ h => h) (Val.fieldAddr (j := o0 + j * 3 + 2) rfl Ty.fo36_2 rfl rfl) ?_
          refine WPD.takeG 25 rfl rfl rfl rfl rfl rfl rfl rfl (by kernel_rfl) (by kernel_rfl) (by kernel_rfl) (by kernel_rfl) (fun _ _ _ h => h) (by kernel_rfl) (fun _ h => h) (Val.load (v := .int .i64 (y.at_)) rfl Ty.sc2 rfl (fun w h => hr w (h.at 0 rfl) j y hy 2 _ rfl)) ?_
          refine WPD.takeG 26 rfl rfl rfl rfl rfl rfl rfl rfl (by kernel_rfl) (by kernel_rfl) (by kernel_rfl) (by kernel_rfl) (fun _ _ _ h => h) (by kernel_rfl) (fun _ h => h) (Val.eql rfl rfl rfl) ?_
          refine WPD.takeGM 27 rfl rfl rfl rfl rfl rfl rfl rfl (by kernel_rfl) (by kernel_rfl) (by kernel_rfl) (by kernel_rfl) (fun _ _ _ h => h) (fun _ h => h) (Val.move rfl rfl) ?_
          refine WPD.split 38 rfl (fun h5 => ?_) (fun h5 => ?_)
          · skip
            have h5 : (x.at_ = y.at_) := h5
            refine WPD.takeGM 28 rfl rfl rfl rfl rfl rfl rfl rfl (by kernel_rfl) (by kernel_rfl) (by kernel_rfl) (by kernel_rfl) (fun _ _ _ h => h) (fun _ h => h) (Val.move rfl rfl) ?_
            refine WPD.takeGM 29 rfl rfl rfl rfl rfl rfl rfl rfl (by kernel_rfl) (by kernel_rfl) (by kernel_rfl) (by kernel_rfl) (fun _ _ _ h => h) (fun _ h => h) (Val.move rfl rfl) ?_
            refine WPD.takeGM 30 rfl rfl rfl rfl rfl rfl rfl rfl (by kernel_rfl) (by kernel_rfl) (by kernel_rfl) (by kernel_rfl) (fun _ _ _ h => h) (fun _ h => h) (Val.indexAddr (j := i) (q := o0 + i * 3) rfl Ty.sl33 rfl rfl (by omega) (by omega) (by omega)) ?_
            refine WPD.takeGM 31 rfl rfl rfl rfl rfl rfl rfl rfl (by kernel_rfl) (by kernel_rfl) (by kernel_rfl) (by kernel_rfl) (fun _ _ _ h => h) (fun _ h => h) (Val.fieldAddr (j := o0 + i * 3 + 1) rfl Ty.fo36_1 rfl rfl) ?_
            refine WPD.takeG 32 rfl rfl rfl rfl rfl rfl rfl rfl (by kernel_rfl) (by kernel_rfl) (by kernel_rfl) (by kernel_rfl) (fun _ _ _ h => h) (by kernel_rfl) (fun _ h => h) (Val.load (v := .int .i64 (x.id)) rfl Ty.sc2 rfl (fun w h => hr w (h.at 0 rfl) i x hx 1 _ rfl)) ?_
            refine WPD.takeGM 33 rfl rfl rfl rfl rfl rfl rfl rfl (by kernel_rfl) (by kernel_rfl) (by kernel_rfl) (by kernel_rfl) (fun _ _ _ h => h) (fun _ h => h) (Val.move rfl rfl) ?_
            refine WPD.takeGM 34 rfl rfl rfl rfl rfl rfl rfl rfl (by kernel_rfl) (by kernel_rfl) (by kernel_rfl) (by kernel_rfl) (fun _ _ _ h => h) (fun _ h => h) (Val.move rfl rfl) ?_
            refine WPD.takeGM 35 rfl rfl rfl rfl rfl rfl rfl rfl (by kernel_rfl) (by kernel_rfl) (by kernel_rfl) (by kernel_rfl) (fun _ _ _ h => h) (fun _ h => h) (Val.indexAddr (j := j) (q := o0 + j * 3) rfl Ty.sl33 rfl rfl (by omega) (by omega) (by omega)) ?_
            refine WPD.takeGM 36 rfl rfl rfl rfl rfl rfl rfl rfl (by kernel_rfl) (by kernel_rfl) (by kernel_rfl) (by kernel_rfl) (fun _ _ _ h => h) (fun _ h => h) (Val.fieldAddr (j := o0 + j * 3 + 1) rfl Ty.fo36_1 rfl rfl) ?_
            refine WPD.takeG 37 rfl rfl rfl rfl rfl rfl rfl rfl (by kernel_rfl) (by kernel_rfl) (by kernel_rfl) (by kernel_rfl) (fun _ _ _ h => h) (by kernel_rfl) (fun _ h => h) (Val.load (v := .int .i64 (y.id)) rfl Ty.sc2 rfl (fun w h => hr w (h.at 0 rfl) j y hy 1 _ rfl)) ?_
            refine WPD.takeG 38 rfl rfl rfl rfl rfl rfl rfl rfl (by kernel_rfl) (by kernel_rfl) (by kernel_rfl) (by kernel_rfl) (fun _ _ _ h => h) (by kernel_rfl) (fun _ h => h) (Val.lss rfl rfl rfl) ?_
            refine WPD.takeGM 39 rfl rfl rfl rfl rfl rfl rfl rfl (by kernel_rfl) (by kernel_rfl) (by kernel_rfl) (by kernel_rfl) (fun _ _ _ h => h) (fun _ h => h) (Val.pickT rfl rfl rfl) ?_
            refine WPD.takeM 40 rfl rfl rfl rfl (by kernel_rfl) (by kernel_rfl) (by kernel_rfl) (by kernel_rfl) (fun _ _ _ h => h) (fun _ h => h) (Val.pickF rfl rfl rfl) ?_
            refine WPD.done (by kernel_rfl) ?_
            refine Out.next ?_
            refine WPc.ifP rfl (fun h6 => ?_) (fun h6 => ?_)
            · skip
              have h6 : (x.id < y.id) := h6
              refine WPc.region ?_
              refine WP.val rfl rfl rfl (Val.move rfl rfl) ?_
              refine WP.val rfl rfl rfl (Val.assign rfl rfl) ?_
              refine WP.nil ?_
              refine Out.block ?_
              refine Out.next ?_
              refine WPc.region ?_
              refine WP.val rfl rfl rfl (Val.move rfl rfl) ?_
              refine WP.val rfl rfl rfl (Val.add (z := ((i + 1 : Nat) : Int)) rfl rfl rfl ((w64 (by omega) (by omega)).trans (by omega))) ?_
              refine WP.val rfl rfl rfl (Val.assign rfl rfl) ?_
              refine WP.nil ?_
              refine Out.again (i + 1, (i : Int)) ?_ ?_ ?_ ?_
              · exact ⟨by omega, best_new (j := j) hx hmin (by omega)⟩
              · (dsimp only; omega)
              · exact (Sub.cons rfl (Sub.cons rfl (Sub.cons rfl Sub.nil)))
              · exact (fun _ h => h)
            · skip
              have h6 : ¬ (x.id < y.id) := h6
              refine WPc.skip ?_
              refine Out.block ?_
              refine Out.next ?_
              refine WPc.region ?_
              refine WP.val rfl rfl rfl (Val.move rfl rfl) ?_
              refine WP.val rfl rfl rfl (Val.add (z := ((i + 1 : Nat) : Int)) rfl rfl rfl ((w64 (by omega) (by omega)).trans (by omega))) ?_
              refine WP.val rfl rfl rfl (Val.assign rfl rfl) ?_
              refine WP.nil ?_
              refine Out.again (i + 1, (j : Int)) ?_ ?_ ?_ ?_
              · exact ⟨by omega, best_keep hx hji hy hmin (by omega)⟩
              · (dsimp only; omega)
              · exact (Sub.cons rfl (Sub.cons rfl (Sub.cons rfl Sub.nil)))
              · exact (fun _ h => h)
          · skip
            have h5 : ¬ (x.at_ = y.at_) := h5
            refine WPD.skip 28 rfl rfl rfl rfl rfl rfl rfl rfl (by kernel_rfl) (by kernel_rfl) (by kernel_rfl) (by kernel_rfl) (fun _ _ _ h => h) (fun _ h => h) ?_
            refine WPD.skip 29 rfl rfl rfl rfl rfl rfl rfl rfl (by kernel_rfl) (by kernel_rfl) (by kernel_rfl) (by kernel_rfl) (fun _ _ _ h => h) (fun _ h => h) ?_
            refine WPD.skip 30 rfl rfl rfl rfl rfl rfl rfl rfl (by kernel_rfl) (by kernel_rfl) (by kernel_rfl) (by kernel_rfl) (fun _ _ _ h => h) (fun _ h => h) ?_
            refine WPD.skip 31 rfl rfl rfl rfl rfl rfl rfl rfl (by kernel_rfl) (by kernel_rfl) (by kernel_rfl) (by kernel_rfl) (fun _ _ _ h => h) (fun _ h => h) ?_
            refine WPD.skip 32 rfl rfl rfl rfl rfl rfl rfl rfl (by kernel_rfl) (by kernel_rfl) (by kernel_rfl) (by kernel_rfl) (fun _ _ _ h => h) (fun _ h => h) ?_
            refine WPD.skip 33 rfl rfl rfl rfl rfl rfl rfl rfl (by kernel_rfl) (by kernel_rfl) (by kernel_rfl) (by kernel_rfl) (fun _ _ _ h => h) (fun _ h => h) ?_
            refine WPD.skip 34 rfl rfl rfl rfl rfl rfl rfl rfl (by kernel_rfl) (by kernel_rfl) (by kernel_rfl) (by kernel_rfl) (fun _ _ _ h => h) (fun _ h => h) ?_
            refine WPD.skip 35 rfl rfl rfl rfl rfl rfl rfl rfl (by kernel_rfl) (by kernel_rfl) (by kernel_rfl) (by kernel_rfl) (fun _ _ _ h => h) (fun _ h => h) ?_
            refine WPD.skip 36 rfl rfl rfl rfl rfl rfl rfl rfl (by kernel_rfl) (by kernel_rfl) (by kernel_rfl) (by kernel_rfl) (fun _ _ _ h => h) (fun _ h => h) ?_
            refine WPD.skip 37 rfl rfl rfl rfl rfl rfl rfl rfl (by kernel_rfl) (by kernel_rfl) (by kernel_rfl) (by kernel_rfl) (fun _ _ _ h => h) (fun _ h => h) ?_
            refine WPD.skip 38 rfl rfl rfl rfl rfl rfl rfl rfl (by kernel_rfl) (by kernel_rfl) (by kernel_rfl) (by kernel_rfl) (fun _ _ _ h => h) (fun _ h => h) ?_
            refine WPD.takeGM 39 rfl rfl rfl rfl rfl rfl rfl rfl (by kernel_rfl) (by kernel_rfl) (by kernel_rfl) (by kernel_rfl) (fun _ _ _ h => h) (fun _ h => h) (Val.pickF rfl rfl rfl) ?_
            refine WPD.takeM 40 rfl rfl rfl rfl (by kernel_rfl) (by kernel_rfl) (by kernel_rfl) (by kernel_rfl) (fun _ _ _ h => h) (fun _ h => h) (Val.pickF rfl rfl rfl) ?_
            refine WPD.done (by kernel_rfl) ?_
            refine Out.next ?_
            refine WPc.condF rfl rfl ?_
            refine WPc.skip ?_
            refine Out.block ?_
            refine Out.next ?_
            refine WPc.region ?_
            refine WP.val rfl rfl rfl (Val.move rfl rfl) ?_
            refine WP.val rfl rfl rfl (Val.add (z := ((i + 1 : Nat) : Int)) rfl rfl rfl ((w64 (by omega) (by omega)).trans (by omega))) ?_
            refine WP.val rfl rfl rfl (Val.assign rfl rfl) ?_
            refine WP.nil ?_
            refine Out.again (i + 1, (j : Int)) ?_ ?_ ?_ ?_
            · exact ⟨by omega, best_keep hx hji hy hmin (by omega)⟩
            · (dsimp only; omega)
            · exact (Sub.cons rfl (Sub.cons rfl (Sub.cons rfl Sub.nil)))
            · exact (fun _ h => h)
  · skip
    have h1 : ¬ (((i : Nat) : Int) < ((l.length : Nat) : Int)) := h1
    refine WPc.exit ?_
    refine Out.then_exit ?_
    refine Out.then_exit ?_
    refine Out.block_exit ?_
    refine Out.next ?_
    refine WPc.seq ?_
    refine WPc.region ?_
    refine WP.val rfl rfl rfl (Val.move rfl rfl) ?_
    refine WP.val rfl rfl rfl (Val.assign rfl rfl) ?_
    refine WP.nil ?_
    refine Out.next ?_
    refine WPc.ret ?_
    have hil : i = (l).length := by first | omega | (simp at *; omega)
    subst hil
    exact Out.ret1 (L' := _) Try.results45 rfl ⟨b, best_all hB, rfl, rfl⟩ (fun _ h => h)

theorem first_spec (A : HProp) (l : List QOp) (hl : l.length ≤ 100000) (va : Value) (hva : Rd A 3 QOp.cells va l) : Does Try.prog 45 [va] [A] (fun v L => ∃ b : Int, ((l = [] ∧ b = -1) ∨ ∃ (j : Nat) (y : QOp), b = (j : Int) ∧ j < l.length ∧ l[j]? = some y ∧ ∀ z ∈ l, y.at_ ≤ z.at_) ∧ v = .int .i64 b ∧ L = [A]) := by
  rcases hva with ⟨b0, o0, c0, rfl, hr⟩ | ⟨rfl, a, c, rfl⟩
  · exact first_row A l hl b0 o0 c0 hr
  · exact first_nil A a c

end Go.Proofs.Ythmkdioafjmclaa.Qs
