import Derived.Test.YthmkdioafjmclaaHw
namespace Go.Proofs.Ythmkdioafjmclaa.Hl
open Go.RowKit Go.Proofs.Ythmkdioafjmclaa Go.Proofs.Ythmkdioafjmclaa.Sl Go.Proofs.Ythmkdioafjmclaa.Hc Go.Proofs.Ythmkdioafjmclaa.Hp Go.Proofs.Ythmkdioafjmclaa.Hm Go.Proofs.Ythmkdioafjmclaa.Hb Go.Proofs.Ythmkdioafjmclaa.Hk Go.Proofs.Ythmkdioafjmclaa.Hr Go.Proofs.Ythmkdioafjmclaa.Hy Go.Proofs.Ythmkdioafjmclaa.Hn Go.Proofs.Ythmkdioafjmclaa.Hw
set_option linter.unusedVariables false
set_option linter.unusedSimpArgs false
set_option linter.unusedSectionVars false


structure Rv where
  m : Int
  s : Int
def Rv.cells (x : Rv) : List Value := [.int .i64 x.m, .int .i64 x.s]
theorem Rv.len (x : Rv) : x.cells.length = 2 := rfl
set_option maxRecDepth 100000 in
set_option maxHeartbeats 1000000 in
theorem revs_nil (A : HProp) (a : Option Addr) (c : Nat) : Does Try.prog 50 [.slice a 0 c] [A] (fun v L => L = [Own 144 2 v 0 (flatOf Rv.cells ([] : List Rv)), A]) := by
  refine Does.enter 20 Try.func50 rfl rfl rfl fun W F => ?_
  show WPc _ _ _ _ _ [(0, .slice a 0 c)] (A :: F)
  refine WPc.seq ?_
  refine WPc.region ?_
  refine WP.val rfl rfl rfl (Val.assign rfl rfl) ?_
  refine WP.nil ?_
  refine Out.next ?_
  refine WPc.seq ?_
  refine WPc.region ?_
  refine WP.val rfl rfl rfl (Val.assign rfl rfl) ?_
  refine WP.nil ?_
  refine Out.next ?_
  refine WPc.seq ?_
  refine WPc.seq ?_
  refine WPc.conv (fun w h => h.ownNil (e := 144) (k := 2)) ?_
  show WPc _ _ _ _ _ _ (Own 144 2 (.slice none 0 0) 0 ([]) :: A :: F)
  refine WPc.region ?_
  refine WP.val rfl rfl rfl (Val.assign rfl rfl) ?_
  refine WP.nil ?_
  refine Out.next ?_
  refine WPc.block ?_
  refine WPc.loop (ι := Nat × Value) (fun ⟨i, v⟩ => i ≤ (([] : List Rv)).length) (fun ⟨i, v⟩ => [(0, .slice a 0 c), (3, v), (4, .int .i64 (((i : Nat) : Int)))]) (fun ⟨i, v⟩ => Own 144 2 v i (flatOf Rv.cells ((([] : List Rv)).take i)) :: A :: F) (fun ⟨i, v⟩ => (([] : List Rv)).length - i) (0, .slice none 0 0) (Nat.zero_le _) ((Sub.cons rfl (Sub.cons rfl (Sub.cons rfl Sub.nil)))) (fun _ h => h) ?_
  rintro ⟨i, v⟩ hi
  show WPc _ _ _ _ _ [(0, .slice a 0 c), (3, v), (4, .int .i64 (((i : Nat) : Int)))] (Own 144 2 v i (flatOf Rv.cells ((([] : List Rv)).take i)) :: A :: F)
  replace hi : i ≤ (([] : List Rv)).length := hi
  refine WPc.seq ?_
  refine WPc.seq ?_
  refine WPc.region ?_
  refine WP.val rfl rfl rfl (Val.move rfl rfl) ?_
  refine WP.val rfl rfl rfl (Val.move rfl rfl) ?_
  refine WP.val rfl rfl rfl (Val.len rfl Ty.sl41 rfl) ?_
  refine WP.val rfl rfl rfl (Val.lss rfl rfl rfl) ?_
  refine WP.nil ?_
  refine Out.next ?_
  refine WPc.ifP rfl (fun h1 => ?_) (fun h1 => ?_)
  · skip
    have h1 : (((i : Nat) : Int) < (0 : Int)) := h1
    exfalso; simp at *; omega
  · skip
    have h1 : ¬ (((i : Nat) : Int) < (0 : Int)) := h1
    refine WPc.exit ?_
    refine Out.then_exit ?_
    refine Out.then_exit ?_
    refine Out.block_exit ?_
    refine Out.next ?_
    refine WPc.seq ?_
    refine WPc.region ?_
    refine WP.val rfl rfl rfl (Val.move rfl rfl) ?_
    refine WP.val rfl rfl rfl (Val.assign rfl rfl) ?_
    refine WP.nil ?_
    refine Out.next ?_
    refine WPc.ret ?_
    have hil : i = (([] : List Rv)).length := by first | omega | (simp at *; omega)
    have hti2 : (([] : List Rv)).take i = ([] : List Rv) := List.take_of_length_le (by first | omega | (simp at *; try omega))
    exact Out.ret1 (L' := _) Try.results50 rfl rfl (fun w h => by rw [hti2, hil] at h; exact h)

set_option maxRecDepth 100000 in
set_option maxHeartbeats 1000000 in
theorem revs_row (A : HProp) (l : List Rv) (hl : l.length ≤ 100000) (b0 o0 c0 : Nat) (hr : ∀ w, Holds A w → ∀ i x, l[i]? = some x → w.rangeAt b0 (o0 + i * 2) (Rv.cells x)) : Does Try.prog 50 [.slice (some ⟨b0, o0, none⟩) l.length c0] [A] (fun v L => L = [Own 144 2 v l.length (flatOf Rv.cells l), A]) := by
  refine Does.enter 20 Try.func50 rfl rfl rfl fun W F => ?_
  show WPc _ _ _ _ _ [(0, .slice (some ⟨b0, o0, none⟩) l.length c0)] (A :: F)
  refine WPc.seq ?_
  refine WPc.region ?_
  refine WP.val rfl rfl rfl (Val.assign rfl rfl) ?_
  refine WP.nil ?_
  refine Out.next ?_
  refine WPc.seq ?_
  refine WPc.region ?_
  refine WP.val rfl rfl rfl (Val.assign rfl rfl) ?_
  refine WP.nil ?_
  refine Out.next ?_
  refine WPc.seq ?_
  refine WPc.seq ?_
  refine WPc.conv (fun w h => h.ownNil (e := 144) (k := 2)) ?_
  show WPc _ _ _ _ _ _ (Own 144 2 (.slice none 0 0) 0 ([]) :: A :: F)
  refine WPc.region ?_
  refine WP.val rfl rfl rfl (Val.assign rfl rfl) ?_
  refine WP.nil ?_
  refine Out.next ?_
  refine WPc.block ?_
  refine WPc.loop (ι := Nat × Value) (fun ⟨i, v⟩ => i ≤ (l).length) (fun ⟨i, v⟩ => [(0, .slice (some ⟨b0, o0, none⟩) l.length c0), (3, v), (4, .int .i64 (((i : Nat) : Int)))]) (fun ⟨i, v⟩ => Own 144 2 v i (flatOf Rv.cells ((l).take i)) :: A :: F) (fun ⟨i, v⟩ => (l).length - i) (0, .slice none 0 0) (Nat.zero_le _) ((Sub.cons rfl (Sub.cons rfl (Sub.cons rfl Sub.nil)))) (fun _ h => h) ?_
  rintro ⟨i, v⟩ hi
  show WPc _ _ _ _ _ [(0, .slice (some ⟨b0, o0, none⟩) l.length c0), (3, v), (4, .int .i64 (((i : Nat) : Int)))] (Own 144 2 v i (flatOf Rv.cells ((l).take i)) :: A :: F)
  replace hi : i ≤ (l).length := hi
  refine WPc.seq ?_
  refine WPc.seq ?_
  refine WPc.region ?_
  refine WP.val rfl rfl rfl (Val.move rfl rfl) ?_
  refine WP.val rfl rfl rfl (Val.move rfl rfl) ?_
  refine WP.val rfl rfl rfl (Val.len rfl Ty.sl41 rfl) ?_
  refine WP.val rfl rfl rfl (Val.lss rfl rfl rfl) ?_
  refine WP.nil ?_
  refine Out.next ?_
  refine WPc.ifP rfl (fun h1 => ?_) (fun h1 => ?_)
  · skip
    have h1 : (((i : Nat) : Int) < ((l.length : Nat) : Int)) := h1
    refine WPc.skip ?_
    refine Out.next ?_
    refine WPc.seq ?_
    refine WPc.block ?_
    have hlt : i < l.length := by omega
    obtain ⟨x, hx⟩ : ∃ x, l[i]? = some x := ⟨_, List.getElem?_eq_getElem hlt⟩
    refine WPc.region ?_
    refine WP.val rfl rfl rfl (Val.move rfl rfl) ?_
    refine WP.val rfl rfl rfl (Val.move rfl rfl) ?_
    refine WP.val rfl rfl rfl (Val.move rfl rfl) ?_
    refine WP.val rfl rfl rfl (Val.indexAddr (j := i) (q := o0 + i * 2) rfl Ty.sl41 rfl rfl (by omega) (by omega) (by omega)) ?_
    refine WP.val rfl rfl rfl (Val.loadAgg (cs := (Rv.cells x)) rfl Ty.ag47 rfl (by rfl) (fun w h => hr w (h.at 1 rfl) i x hx)) ?_
    refine WP.eff rfl rfl rfl (Eff.call rfl rfl Try.call69 (revin_spec x.m x.s)) ?_
    rintro _ _ ⟨_, ⟨rfl, rfl⟩, rfl⟩
    show WP _ _ _ _ _ _ _ (Own 144 2 v i (flatOf Rv.cells ((l).take i)) :: A :: F)
    refine WP.eff rfl rfl rfl (Eff.mkSlice (C := [.int .i64 (x.m), .int .i64 (x.s)]) rfl Ty.sl111 rfl (fun _ => by kernel_rfl)) ?_
    rintro _ _ ⟨b1, rfl, rfl⟩
    refine WP.perm pl1 ?_
    refine WP.eff rfl rfl rfl (Eff.append (m := 1) (n0 := i) (news := [.int .i64 (x.m), .int .i64 (x.s)]) rfl Ty.sl111 Ty.z144 rfl rfl rfl (.slice Ty.sl111 rfl rfl (fun w h => cells_range (h.range 1 rfl rfl))) (by omega) (by omega)) ?_
    rintro v2 _ ⟨onev2, rfl⟩
    refine WP.val rfl rfl rfl (Val.assign rfl rfl) ?_
    refine WP.nil ?_
    refine Out.block ?_
    refine Out.next ?_
    refine WPc.region ?_
    refine WP.val rfl rfl rfl (Val.move rfl rfl) ?_
    refine WP.val rfl rfl rfl (Val.add (z := ((i + 1 : Nat) : Int)) rfl rfl rfl ((w64 (by omega) (by omega)).trans (by omega))) ?_
    refine WP.val rfl rfl rfl (Val.assign rfl rfl) ?_
    refine WP.nil ?_
    refine Out.perm pl1 ?_
    refine Out.drop ?_
    refine Out.again (i + 1, v2) ?_ ?_ ?_ ?_
    · exact (by first | omega | (dsimp only; omega))
    · (dsimp only; omega)
    · exact (Sub.cons rfl (Sub.cons rfl (Sub.cons rfl Sub.nil)))
    · exact (fun w h => by dsimp only; rw [take_more hx, flatOf_snoc]; exact h)
  · skip
    have h1 : ¬ (((i : Nat) : Int) < ((l.length : Nat) : Int)) := h1
    refine WPc.exit ?_
    refine Out.then_exit ?_
    refine Out.then_exit ?_
    refine Out.block_exit ?_
    refine Out.next ?_
    refine WPc.seq ?_
    refine WPc.region ?_
    refine WP.val rfl rfl rfl (Val.move rfl rfl) ?_
    refine WP.val rfl rfl rfl (Val.assign rfl rfl) ?_
    refine WP.nil ?_
    refine Out.next ?_
    refine WPc.ret ?_
    have hil : i = (l).length := by first | omega | (simp at *; omega)
    have hti2 : (l).take i = l := List.take_of_length_le (by first | omega | (simp at *; try omega))
    exact Out.ret1 (L' := _) Try.results50 rfl rfl (fun w h => by rw [hti2, hil] at h; exact h)

theorem revs_spec (A : HProp) (l : List Rv) (hl : l.length ≤ 100000) (va : Value) (hva : Rd A 2 Rv.cells va l) : Does Try.prog 50 [va] [A] (fun v L => L = [Own 144 2 v l.length (flatOf Rv.cells l), A]) := by
  rcases hva with ⟨b0, o0, c0, rfl, hr⟩ | ⟨rfl, a, c, rfl⟩
  · exact revs_row A l hl b0 o0 c0 hr
  · exact revs_nil A a c

end Go.Proofs.Ythmkdioafjmclaa.Hl
