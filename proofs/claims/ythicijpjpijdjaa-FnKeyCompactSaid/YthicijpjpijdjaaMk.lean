import Derived.Test.YthicijpjpijdjaaMj
namespace Go.Proofs.Ythicijpjpijdjaa.Kt
open Go.RowKit Go.Proofs.Ythicijpjpijdjaa Go.Proofs.Ythicijpjpijdjaa.Sl Go.Proofs.Ythicijpjpijdjaa.KyP Go.Proofs.Ythicijpjpijdjaa.Ka Go.Proofs.Ythicijpjpijdjaa.Kb Go.Proofs.Ythicijpjpijdjaa.Kc Go.Proofs.Ythicijpjpijdjaa.Kd Go.Proofs.Ythicijpjpijdjaa.Ke Go.Proofs.Ythicijpjpijdjaa.Kf Go.Proofs.Ythicijpjpijdjaa.Kg Go.Proofs.Ythicijpjpijdjaa.Kh Go.Proofs.Ythicijpjpijdjaa.Ki Go.Proofs.Ythicijpjpijdjaa.Kj Go.Proofs.Ythicijpjpijdjaa.Kk Go.Proofs.Ythicijpjpijdjaa.Kl Go.Proofs.Ythicijpjpijdjaa.Km Go.Proofs.Ythicijpjpijdjaa.Kn Go.Proofs.Ythicijpjpijdjaa.Ko Go.Proofs.Ythicijpjpijdjaa.Kp Go.Proofs.Ythicijpjpijdjaa.Kq Go.Proofs.Ythicijpjpijdjaa.Kr Go.Proofs.Ythicijpjpijdjaa.Ks
set_option linter.unusedVariables false
set_option linter.unusedSimpArgs false
set_option linter.unusedSectionVars false


theorem less_lt {a b : Rv} : decide (less a b) = decide (a.m < b.m ∨ (a.m = b.m ∧ a.s < b.s)) := rfl
set_option maxRecDepth 100000 in
set_option maxHeartbeats 2000000 in
theorem gt_spec (a b : Rv) : Does Try.prog 111 [.agg #[.int .i64 (a.m), .int .i64 (a.s)], .agg #[.int .i64 (b.m), .int .i64 (b.s)]] [] (fun v L => v = .bool (decide (less b a)) ∧ L = []) := by
  refine Does.enter 20 Try.func111 rfl rfl rfl fun W F => ?_
  show WPc _ _ _ _ _ [(0, .agg #[.int .i64 (a.m), .int .i64 (a.s)]), (1, .agg #[.int .i64 (b.m), .int .i64 (b.s)])] (F)
  refine WPc.seq ?_
  refine WPc.region ?_
  refine WP.eff rfl rfl rfl (Eff.box (C := [.int .i64 (a.m), .int .i64 (a.s)]) rfl rfl rfl) ?_
  rintro _ _ ⟨b1, rfl, rfl⟩
  refine WP.eff rfl rfl rfl (Eff.box (C := [.int .i64 (b.m), .int .i64 (b.s)]) rfl rfl rfl) ?_
  rintro _ _ ⟨b2, rfl, rfl⟩
  refine WP.val rfl rfl rfl (Val.assign rfl rfl) ?_
  refine WP.nil ?_
  refine Out.next ?_
  refine WPc.seq ?_
  refine WPc.seq ?_
  refine WPc.region ?_
  refine WP.val rfl rfl rfl (Val.fieldAddr (j := 0) rfl Ty.fo81_0 rfl rfl) ?_
  refine WP.val rfl rfl rfl (Val.load rfl Ty.sc2 rfl (fun w h => h.cell 1 rfl rfl)) ?_
  refine WP.val rfl rfl rfl (Val.fieldAddr (j := 0) rfl Ty.fo81_0 rfl rfl) ?_
  refine WP.val rfl rfl rfl (Val.load rfl Ty.sc2 rfl (fun w h => h.cell 0 rfl rfl)) ?_
  refine WP.val rfl rfl rfl (Val.gtr rfl rfl rfl) ?_
  refine WP.nil ?_
  refine Out.next ?_
  refine WPc.ifP rfl (fun h1 => ?_) (fun h1 => ?_)
  · skip
    have h1 : (b.m < a.m) := h1
    refine WPc.seq ?_
    refine WPc.region ?_
    refine WP.val rfl rfl rfl (Val.assign rfl rfl) ?_
    refine WP.nil ?_
    refine Out.next ?_
    refine WPc.ret ?_
    refine Out.then_ret ?_
    refine Out.drop ?_
    refine Out.drop ?_
    exact Out.ret1 (L' := []) Try.results111 rfl ⟨congrArg Value.bool (show _ = decide (less b a) by rw [decide_eq_true (by unfold less; omega)]), rfl⟩ (fun _ h => h)
  · skip
    have h1 : ¬ (b.m < a.m) := h1
    refine WPc.skip ?_
    refine Out.next ?_
    refine WPc.seq ?_
    refine WPc.seq ?_
    refine WPc.region ?_
    refine WP.val rfl rfl rfl (Val.fieldAddr (j := 0) rfl Ty.fo81_0 rfl rfl) ?_
    refine WP.val rfl rfl rfl (Val.load rfl Ty.sc2 rfl (fun w h => h.cell 1 rfl rfl)) ?_
    refine WP.val rfl rfl rfl (Val.fieldAddr (j := 0) rfl Ty.fo81_0 rfl rfl) ?_
    refine WP.val rfl rfl rfl (Val.load rfl Ty.sc2 rfl (fun w h => h.cell 0 rfl rfl)) ?_
    refine WP.val rfl rfl rfl (Val.lss rfl rfl rfl) ?_
    refine WP.nil ?_
    refine Out.next ?_
    refine WPc.ifP rfl (fun h2 => ?_) (fun h2 => ?_)
    · skip
      have h2 : (a.m < b.m) := h2
      refine WPc.seq ?_
      refine WPc.region ?_
      refine WP.val rfl rfl rfl (Val.assign rfl rfl) ?_
      refine WP.nil ?_
      refine Out.next ?_
      refine WPc.ret ?_
      refine Out.then_ret ?_
      refine Out.drop ?_
      refine Out.drop ?_
      exact Out.ret1 (L' := []) Try.results111 rfl ⟨congrArg Value.bool (show _ = decide (less b a) by rw [decide_eq_false (by unfold less; omega)]), rfl⟩ (fun _ h => h)
    · skip
      have h2 : ¬ (a.m < b.m) := h2
      refine WPc.skip ?_
      refine Out.next ?_
      refine WPc.seq ?_
      refine WPc.region ?_
      refine WP.val rfl rfl rfl (Val.fieldAddr (j := 1) rfl Ty.fo81_1 rfl rfl) ?_
      refine WP.val rfl rfl rfl (Val.load rfl Ty.sc2 rfl (fun w h => h.cell 1 rfl rfl)) ?_
      refine WP.val rfl rfl rfl (Val.fieldAddr (j := 1) rfl Ty.fo81_1 rfl rfl) ?_
      refine WP.val rfl rfl rfl (Val.load rfl Ty.sc2 rfl (fun w h => h.cell 0 rfl rfl)) ?_
      refine WP.val rfl rfl rfl (Val.gtr rfl rfl rfl) ?_
      refine WP.val rfl rfl rfl (Val.assign rfl rfl) ?_
      refine WP.nil ?_
      refine Out.next ?_
      refine WPc.ret ?_
      refine Out.drop ?_
      refine Out.drop ?_
      exact Out.ret1 (L' := []) Try.results111 rfl ⟨congrArg Value.bool (show _ = decide (less b a) by exact decide_eq_decide.2 (by unfold less; omega)), rfl⟩ (fun _ h => h)
set_option maxRecDepth 100000 in
set_option maxHeartbeats 2000000 in
theorem revout_spec (r : Rv) : Does Try.prog 71 [.agg #[.int .i64 (r.m), .int .i64 (r.s)]] [] (fun v L => v = rk r ∧ L = []) := by
  refine Does.enter 8 Try.func71 rfl rfl rfl fun W F => ?_
  show WPc _ _ _ _ _ [(0, .agg #[.int .i64 (r.m), .int .i64 (r.s)])] (F)
  refine WPc.seq ?_
  refine WPc.region ?_
  refine WP.eff rfl rfl rfl (Eff.box (C := [.int .i64 (r.m), .int .i64 (r.s)]) rfl rfl rfl) ?_
  rintro _ _ ⟨b1, rfl, rfl⟩
  refine WP.eff rfl rfl rfl (Eff.alloc rfl Ty.z32) ?_
  rintro _ _ ⟨b2, rfl, rfl⟩
  refine WP.nil ?_
  refine Out.next ?_
  refine WPc.seq ?_
  refine WPc.region ?_
  refine WP.val rfl rfl rfl (Val.fieldAddr (j := 0) rfl Ty.fo81_0 rfl rfl) ?_
  refine WP.val rfl rfl rfl (Val.load rfl Ty.sc2 rfl (fun w h => h.cell 1 rfl rfl)) ?_
  refine WP.val rfl rfl rfl (Val.fieldAddr (j := 1) rfl Ty.fo81_1 rfl rfl) ?_
  refine WP.val rfl rfl rfl (Val.load rfl Ty.sc2 rfl (fun w h => h.cell 1 rfl rfl)) ?_
  refine WP.val rfl rfl rfl (Val.mk (cs := [.int .i64 (r.m), .int .i64 (r.s)]) rfl rfl (fun _ => by kernel_rfl)) ?_
  refine WP.eff0 rfl rfl (Eff.storeAgg (cs := [.int .i64 (r.m), .int .i64 (r.s)]) (C' := [.int .i64 (r.m), .int .i64 (r.s)]) rfl Ty.ag32 rfl rfl rfl rfl (by simp) rfl) ?_
  rintro _ _ rfl
  refine WP.nil ?_
  refine Out.next ?_
  refine WPc.ret ?_
  refine Out.perm pl1 ?_
  refine Out.drop ?_
  exact Out.retRun (L' := []) (results_cell (cs := _) Try.results71 Ty.ag32 rfl rfl (fun w h => h.range 0 rfl rfl)) ⟨rfl, rfl⟩ (fun w h => h.drop)
set_option maxRecDepth 100000 in
set_option maxHeartbeats 1000000 in
theorem revsout_nil (A : HProp) (a : Option Addr) (c : Nat) : Does Try.prog 72 [.slice a 0 c] [A] (fun v L => L = [Own 32 2 v 0 (flatOf Rv.cells ([] : List Rv)), A]) := by
  refine Does.enter 20 Try.func72 rfl rfl rfl fun W F => ?_
  show WPc _ _ _ _ _ [(0, .slice a 0 c)] (A :: F)
  refine WPc.seq ?_
  refine WPc.region ?_
  refine WP.val rfl rfl rfl (Val.assign rfl rfl) ?_
  refine WP.nil ?_
  refine Out.next ?_
  refine WPc.seq ?_
  refine WPc.region ?_
  refine WP.val rfl rfl rfl (Val.assign rfl rfl) ?_
  refine WP.nil ?_
  refine Out.next ?_
  refine WPc.seq ?_
  refine WPc.seq ?_
  refine WPc.conv (fun w h => h.ownNil (e := 32) (k := 2)) ?_
  show WPc _ _ _ _ _ _ (Own 32 2 (.slice none 0 0) 0 ([]) :: A :: F)
  refine WPc.region ?_
  refine WP.val rfl rfl rfl (Val.assign rfl rfl) ?_
  refine WP.nil ?_
  refine Out.next ?_
  refine WPc.block ?_
  refine WPc.loop (ι := Nat × Value) (fun ⟨i, v⟩ => i ≤ 0) (fun ⟨i, v⟩ => [(0, .slice a 0 c), (3, v), (4, .int .i64 (((i : Nat) : Int)))]) (fun ⟨i, v⟩ => Own 32 2 v ((([] : List Rv).take i).length) (flatOf Rv.cells (([] : List Rv).take i)) :: A :: F) (fun ⟨i, v⟩ => 0 - i) (0, .slice none 0 0) (Nat.zero_le _) ((Sub.cons rfl (Sub.cons rfl (Sub.cons rfl Sub.nil)))) (fun _ h => h) ?_
  rintro ⟨i, v⟩ hi
  show WPc _ _ _ _ _ [(0, .slice a 0 c), (3, v), (4, .int .i64 (((i : Nat) : Int)))] (Own 32 2 v ((([] : List Rv).take i).length) (flatOf Rv.cells (([] : List Rv).take i)) :: A :: F)
  replace hi : i ≤ 0 := hi
  have htl : (([] : List Rv).take i).length ≤ i := by rw [List.length_take]; omega
  refine WPc.seq ?_
  refine WPc.seq ?_
  refine WPc.region ?_
  refine WP.val rfl rfl rfl (Val.move rfl rfl) ?_
  refine WP.val rfl rfl rfl (Val.move rfl rfl) ?_
  refine WP.val rfl rfl rfl (Val.len rfl Ty.sl132 rfl) ?_
  refine WP.val rfl rfl rfl (Val.lss rfl rfl rfl) ?_
  refine WP.nil ?_
  refine Out.next ?_
  refine WPc.ifP rfl (fun h1 => ?_) (fun h1 => ?_)
  · skip
    have h1 : (((i : Nat) : Int) < (0 : Int)) := h1
    exfalso; omega
  · skip
    have h1 : ¬ (((i : Nat) : Int) < (0 : Int)) := h1
    refine WPc.exit ?_
    refine Out.then_exit ?_
    refine Out.then_exit ?_
    refine Out.block_exit ?_
    refine Out.next ?_
    refine WPc.seq ?_
    refine WPc.region ?_
    refine WP.val rfl rfl rfl (Val.move rfl rfl) ?_
    refine WP.val rfl rfl rfl (Val.assign rfl rfl) ?_
    refine WP.nil ?_
    refine Out.next ?_
    refine WPc.ret ?_
    have hil : i = 0 := by omega
    exact Out.ret1 (L' := _) Try.results72 rfl rfl (fun w h => by rw [hil] at h; exact h)

set_option maxRecDepth 100000 in
set_option maxHeartbeats 1000000 in
theorem revsout_row (A : HProp) (l : List Rv) (hl : l.length ≤ 200000) (b0 o0 c0 : Nat) (hr : ∀ w, Holds A w → ∀ i x, l[i]? = some x → w.rangeAt b0 (o0 + i * 2) (Rv.cells x)) : Does Try.prog 72 [.slice (some ⟨b0, o0, none⟩) l.length c0] [A] (fun v L => L = [Own 32 2 v l.length (flatOf Rv.cells l), A]) := by
  refine Does.enter 20 Try.func72 rfl rfl rfl fun W F => ?_
  show WPc _ _ _ _ _ [(0, .slice (some ⟨b0, o0, none⟩) l.length c0)] (A :: F)
  refine WPc.seq ?_
  refine WPc.region ?_
  refine WP.val rfl rfl rfl (Val.assign rfl rfl) ?_
  refine WP.nil ?_
  refine Out.next ?_
  refine WPc.seq ?_
  refine WPc.region ?_
  refine WP.val rfl rfl rfl (Val.assign rfl rfl) ?_
  refine WP.nil ?_
  refine Out.next ?_
  refine WPc.seq ?_
  refine WPc.seq ?_
  refine WPc.conv (fun w h => h.ownNil (e := 32) (k := 2)) ?_
  show WPc _ _ _ _ _ _ (Own 32 2 (.slice none 0 0) 0 ([]) :: A :: F)
  refine WPc.region ?_
  refine WP.val rfl rfl rfl (Val.assign rfl rfl) ?_
  refine WP.nil ?_
  refine Out.next ?_
  refine WPc.block ?_
  refine WPc.loop (ι := Nat × Value) (fun ⟨i, v⟩ => i ≤ l.length) (fun ⟨i, v⟩ => [(0, .slice (some ⟨b0, o0, none⟩) l.length c0), (3, v), (4, .int .i64 (((i : Nat) : Int)))]) (fun ⟨i, v⟩ => Own 32 2 v ((l.take i).length) (flatOf Rv.cells (l.take i)) :: A :: F) (fun ⟨i, v⟩ => l.length - i) (0, .slice none 0 0) (Nat.zero_le _) ((Sub.cons rfl (Sub.cons rfl (Sub.cons rfl Sub.nil)))) (fun _ h => h) ?_
  rintro ⟨i, v⟩ hi
  show WPc _ _ _ _ _ [(0, .slice (some ⟨b0, o0, none⟩) l.length c0), (3, v), (4, .int .i64 (((i : Nat) : Int)))] (Own 32 2 v ((l.take i).length) (flatOf Rv.cells (l.take i)) :: A :: F)
  replace hi : i ≤ l.length := hi
  have htl : (l.take i).length ≤ i := by rw [List.length_take]; omega
  refine WPc.seq ?_
  refine WPc.seq ?_
  refine WPc.region ?_
  refine WP.val rfl rfl rfl (Val.move rfl rfl) ?_
  refine WP.val rfl rfl rfl (Val.move rfl rfl) ?_
  refine WP.val rfl rfl rfl (Val.len rfl Ty.sl132 rfl) ?_
  refine WP.val rfl rfl rfl (Val.lss rfl rfl rfl) ?_
  refine WP.nil ?_
  refine Out.next ?_
  refine WPc.ifP rfl (fun h1 => ?_) (fun h1 => ?_)
  · skip
    have h1 : (((i : Nat) : Int) < ((l.length : Nat) : Int)) := h1
    refine WPc.skip ?_
    refine Out.next ?_
    refine WPc.seq ?_
    refine WPc.block ?_
    have hlt : i < l.length := by omega
    obtain ⟨x, hx⟩ : ∃ x, l[i]? = some x := ⟨_, List.getElem?_eq_getElem hlt⟩
    refine WPc.region ?_
    refine WP.val rfl rfl rfl (Val.move rfl rfl) ?_
    refine WP.val rfl rfl rfl (Val.move rfl rfl) ?_
    refine WP.val rfl rfl rfl (Val.move rfl rfl) ?_
    refine WP.val rfl rfl rfl (Val.indexAddr (j := i) (q := o0 + i * 2) rfl Ty.sl132 rfl rfl (by omega) (by omega) (by omega)) ?_
    refine WP.val rfl rfl rfl (Val.loadAgg (cs := (Rv.cells x)) rfl Ty.ag81 rfl (by rfl) (fun w h => hr w (h.at 1 rfl) i x hx)) ?_
    refine WP.eff rfl rfl rfl (Eff.call rfl rfl Try.call71 (revout_spec ⟨x.m, x.s⟩)) ?_
    rintro _ _ ⟨_, ⟨rfl, rfl⟩, rfl⟩
    show WP _ _ _ _ _ _ _ (Own 32 2 v ((l.take i).length) (flatOf Rv.cells (l.take i)) :: A :: F)
    refine WP.eff rfl rfl rfl (Eff.mkSlice (C := [.int .i64 (x.m), .int .i64 (x.s)]) rfl Ty.sl40 rfl (fun _ => by kernel_rfl)) ?_
    rintro _ _ ⟨b1, rfl, rfl⟩
    refine WP.perm pl1 ?_
    refine WP.eff rfl rfl rfl (Eff.append (m := 1) (n0 := (l.take i).length) (news := [.int .i64 (x.m), .int .i64 (x.s)]) rfl Ty.sl40 Ty.z32 rfl rfl rfl (.slice Ty.sl40 rfl rfl (fun w h => cells_range (h.range 1 rfl rfl))) (by omega) (by omega)) ?_
    rintro v2 _ ⟨onev2, rfl⟩
    refine WP.val rfl rfl rfl (Val.assign rfl rfl) ?_
    refine WP.nil ?_
    refine Out.block ?_
    refine Out.next ?_
    refine WPc.region ?_
    refine WP.val rfl rfl rfl (Val.move rfl rfl) ?_
    refine WP.val rfl rfl rfl (Val.add (z := ((i + 1 : Nat) : Int)) rfl rfl rfl ((w64 (by omega) (by omega)).trans (by omega))) ?_
    refine WP.val rfl rfl rfl (Val.assign rfl rfl) ?_
    refine WP.nil ?_
    refine Out.perm pl1 ?_
    refine Out.drop ?_
    refine Out.again (i + 1, v2) ?_ ?_ ?_ ?_
    · exact (by show i + 1 ≤ l.length; omega)
    · (dsimp only; omega)
    · exact (Sub.cons rfl (Sub.cons rfl (Sub.cons rfl Sub.nil)))
    · exact (fun w h => by dsimp only; rw [take_more hx, flatOf_append, flatOf_one, List.length_append]; exact h)
  · skip
    have h1 : ¬ (((i : Nat) : Int) < ((l.length : Nat) : Int)) := h1
    refine WPc.exit ?_
    refine Out.then_exit ?_
    refine Out.then_exit ?_
    refine Out.block_exit ?_
    refine Out.next ?_
    refine WPc.seq ?_
    refine WPc.region ?_
    refine WP.val rfl rfl rfl (Val.move rfl rfl) ?_
    refine WP.val rfl rfl rfl (Val.assign rfl rfl) ?_
    refine WP.nil ?_
    refine Out.next ?_
    refine WPc.ret ?_
    have hil : i = l.length := by omega
    exact Out.ret1 (L' := _) Try.results72 rfl rfl (fun w h => by rw [hil, List.take_length] at h; exact h)

theorem revsout_spec (A : HProp) (l : List Rv) (hl : l.length ≤ 200000) (va : Value) (hva : Rd A 2 Rv.cells va l) : Does Try.prog 72 [va] [A] (fun v L => L = [Own 32 2 v l.length (flatOf Rv.cells l), A]) := by
  rcases hva with ⟨b0, o0, c0, rfl, hr⟩ | ⟨rfl, a, c, rfl⟩
  · exact revsout_row A l hl b0 o0 c0 hr
  · exact revsout_nil A a c

theorem againF {W w : World} {e e2 : TypeId} {v : Value} {gi : List GV} {c : List Value} {n : Nat} {p : GV} {L : List HProp} (h : Sat W (Own e 4 v n c :: GVPe e2 p :: Kds (GVPe e2) gi :: L) w) : Sat W (Own e 4 v n c :: Kds (GVPe e2) (gi ++ [p]) :: L) w := by
  have h1 : Sat W (GVPe e2 p :: Kds (GVPe e2) gi :: Own e 4 v n c :: L) w := h.perm ((List.Perm.swap _ _ _).trans (List.Perm.cons _ (List.Perm.swap _ _ _)))
  have h2 := Sat.kPerm (R := GVPe e2) (ms := gi ++ [p]) (by simpa using (List.perm_append_comm (l₁ := [p]) (l₂ := gi))) h1.kConsMk
  exact h2.perm (List.Perm.swap _ _ _)
set_option maxRecDepth 100000 in
set_option maxHeartbeats 2000000 in
theorem zzout_nil (A : HProp) (b : Nat) (ka : Option Addr) (kn kc : Nat) (md : Rv) (a : Option Addr) (c : Nat) : Does Try.prog 106 [.pointer (some ⟨b, 0, none⟩)] [Blk b [.slice ka kn kc, .int .i64 (md.m), .int .i64 (md.s), .slice a 0 c] 153, A] (fun v L => ∃ (v2 : Value) (g2 : List GV), v = .agg #[.int .i64 md.m, .int .i64 md.s, v2] ∧ g2.map (·.1) = ([] : List GV).map (·.1) ∧ L = [Own 135 4 v2 g2.length (flatOf GV.cells g2), Kds (GVPe 81) g2, Blk b [.slice ka kn kc, .int .i64 md.m, .int .i64 md.s, (.slice a 0 c)] 153, A]) := by
  refine Does.enter 35 Try.func106 rfl rfl rfl fun W F => ?_
  show WPc _ _ _ _ _ [(0, .pointer (some ⟨b, 0, none⟩))] (Blk b [.slice ka kn kc, .int .i64 (md.m), .int .i64 (md.s), .slice a 0 c] 153 :: A :: F)
  refine WPc.seq ?_
  refine WPc.region ?_
  refine WP.eff rfl rfl rfl (Eff.alloc rfl Ty.z84) ?_
  rintro _ _ ⟨b1, rfl, rfl⟩
  refine WP.nil ?_
  refine Out.next ?_
  refine WPc.seq ?_
  refine WPc.region ?_
  refine WP.val rfl rfl rfl (Val.move rfl rfl) ?_
  refine WP.val rfl rfl rfl (Val.nilCheck rfl rfl) ?_
  refine WP.val rfl rfl rfl (Val.fieldAddr (j := 1) rfl Ty.fo153_1 rfl rfl) ?_
  refine WP.val rfl rfl rfl (Val.loadAgg (cs := [.int .i64 (md.m), .int .i64 (md.s)]) rfl Ty.ag81 rfl rfl (fun w h => h.range 1 rfl rfl)) ?_
  refine WP.val rfl rfl rfl (Val.mk (cs := [.int .i64 (md.m), .int .i64 (md.s), .slice none 0 0]) rfl rfl (fun _ => by kernel_rfl)) ?_
  refine WP.eff rfl rfl rfl (Eff.alloc rfl Ty.z84) ?_
  rintro _ _ ⟨b2, rfl, rfl⟩
  refine WP.eff0 rfl rfl (Eff.storeAgg (cs := [.int .i64 (md.m), .int .i64 (md.s), .slice none 0 0]) (C' := [.int .i64 (md.m), .int .i64 (md.s), .slice none 0 0]) rfl Ty.ag84 rfl rfl rfl rfl (by simp) rfl) ?_
  rintro _ _ rfl
  refine WP.nil ?_
  refine Out.next ?_
  refine WPc.seq ?_
  refine WPc.seq ?_
  refine WPc.conv (fun w h => Sat.kNil (R := GVPe 81) h) ?_
  refine WPc.conv (fun w h => h.ownNil (e := 135) (k := 4)) ?_
  show WPc _ _ _ _ _ _ (Own 135 4 (.slice none 0 0) 0 ([]) :: Kds (GVPe 81) [] :: Blk b2 [.int .i64 (md.m), .int .i64 (md.s), .slice none 0 0] 84 :: Blk b1 [.int .i64 0, .int .i64 0, .slice none 0 0] 84 :: Blk b [.slice ka kn kc, .int .i64 (md.m), .int .i64 (md.s), .slice a 0 c] 153 :: A :: F)
  refine WPc.region ?_
  refine WP.val rfl rfl rfl (Val.move rfl rfl) ?_
  refine WP.val rfl rfl rfl (Val.nilCheck rfl rfl) ?_
  refine WP.val rfl rfl rfl (Val.fieldAddr (j := 3) rfl Ty.fo153_2 rfl rfl) ?_
  refine WP.val rfl rfl rfl (Val.load rfl Ty.sc151 rfl (fun w h => h.cell 4 rfl rfl)) ?_
  refine WP.val rfl rfl rfl (Val.len rfl Ty.sl151 rfl) ?_
  refine WP.val rfl rfl rfl (Val.move rfl rfl) ?_
  refine WP.nil ?_
  refine Out.next ?_
  refine WPc.block ?_
  refine WPc.loop (ι := Nat × Value × List GV) (fun ⟨i, v3, g2⟩ => i ≤ 0 ∧ g2.map (·.1) = (([] : List GV).take i).map (·.1)) (fun ⟨i, v3, g2⟩ => [(2, .pointer (some ⟨b1, 0, none⟩)), (3, .pointer (some ⟨b2, 0, none⟩)), (14, .slice a 0 c), (15, .int .i64 0), (16, .int .i64 (((i : Nat) : Int)))]) (fun ⟨i, v3, g2⟩ => Own 135 4 v3 g2.length (flatOf GV.cells g2) :: Kds (GVPe 81) g2 :: Blk b2 [.int .i64 (md.m), .int .i64 (md.s), v3] 84 :: Blk b1 [.int .i64 0, .int .i64 0, .slice none 0 0] 84 :: Blk b [.slice ka kn kc, .int .i64 (md.m), .int .i64 (md.s), .slice a 0 c] 153 :: A :: F) (fun ⟨i, v3, g2⟩ => 0 - i) (0, .slice none 0 0, []) ⟨Nat.zero_le _, rfl⟩ ((Sub.cons rfl (Sub.cons rfl (Sub.cons rfl (Sub.cons rfl (Sub.cons rfl Sub.nil)))))) (fun _ h => h) ?_
  rintro ⟨i, v3, g2⟩ ⟨hi, hg2⟩
  show WPc _ _ _ _ _ [(2, .pointer (some ⟨b1, 0, none⟩)), (3, .pointer (some ⟨b2, 0, none⟩)), (14, .slice a 0 c), (15, .int .i64 0), (16, .int .i64 (((i : Nat) : Int)))] (Own 135 4 v3 g2.length (flatOf GV.cells g2) :: Kds (GVPe 81) g2 :: Blk b2 [.int .i64 (md.m), .int .i64 (md.s), v3] 84 :: Blk b1 [.int .i64 0, .int .i64 0, .slice none 0 0] 84 :: Blk b [.slice ka kn kc, .int .i64 (md.m), .int .i64 (md.s), .slice a 0 c] 153 :: A :: F)
  replace hi : i ≤ 0 := hi
  replace hg2 : g2.map (·.1) = (([] : List GV).take i).map (·.1) := hg2
  have hgn := congrArg List.length hg2
  rw [List.length_map, List.length_map, List.length_take] at hgn
  refine WPc.seq ?_
  refine WPc.region ?_
  refine WP.val rfl rfl rfl (Val.lss rfl rfl rfl) ?_
  refine WP.nil ?_
  refine Out.next ?_
  refine WPc.seq ?_
  refine WPc.ifP rfl (fun h1 => ?_) (fun h1 => ?_)
  · skip
    have h1 : (((i : Nat) : Int) < (0 : Int)) := h1
    exfalso; omega
  · skip
    have h1 : ¬ (((i : Nat) : Int) < (0 : Int)) := h1
    refine WPc.exit ?_
    refine Out.then_exit ?_
    refine Out.then_exit ?_
    refine Out.block_exit ?_
    refine Out.next ?_
    refine WPc.seq ?_
    refine WPc.fact (fun w h => own_oneCell h) (fun on3 => ?_)
    refine WPc.region ?_
    refine WP.val rfl rfl rfl (Val.loadAgg (cs := [.int .i64 (md.m), .int .i64 (md.s), v3]) rfl Ty.ag84 rfl rfl (fun w h => h.range 2 rfl rfl)) ?_
    refine WP.perm pl3 ?_
    refine WP.eff0 rfl rfl (Eff.storeAgg (cs := [.int .i64 (md.m), .int .i64 (md.s), v3]) (C' := [.int .i64 (md.m), .int .i64 (md.s), v3]) rfl Ty.ag84 rfl rfl rfl (by simp only [List.all_cons, List.all_nil, Bool.and_true, oc_int, oc_str, oc_bool, oc_ptr, oc_slice, oc_iface, oc_map, on3]) (by simp) rfl) ?_
    rintro _ _ rfl
    refine WP.nil ?_
    refine Out.next ?_
    refine WPc.ret ?_
    have hil : i = 0 := by omega
    rw [hil] at hg2
    refine Out.perm pl3 ?_
    refine Out.drop ?_
    exact Out.retRun (L' := _) (results_cell (cs := _) Try.results106 Ty.ag84 rfl rfl (fun w h => h.range 0 rfl rfl)) ⟨v3, g2, rfl, hg2, rfl⟩ (fun w h => h.drop)

set_option maxRecDepth 100000 in
set_option maxHeartbeats 2000000 in
theorem zzout_row (A : HProp) (b : Nat) (ka : Option Addr) (kn kc : Nat) (md : Rv) (l : List GV) (hsm : Small (l.map (·.1))) (hin : ∀ p ∈ l, Rd A 2 Rv.cells p.2 p.1.revs) (b0 o0 c0 : Nat) (hr : ∀ w, Holds A w → ∀ i x, l[i]? = some x → w.rangeAt b0 (o0 + i * 4) (GV.cells x)) : Does Try.prog 106 [.pointer (some ⟨b, 0, none⟩)] [Blk b [.slice ka kn kc, .int .i64 (md.m), .int .i64 (md.s), .slice (some ⟨b0, o0, none⟩) l.length c0] 153, A] (fun v L => ∃ (v2 : Value) (g2 : List GV), v = .agg #[.int .i64 md.m, .int .i64 md.s, v2] ∧ g2.map (·.1) = l.map (·.1) ∧ L = [Own 135 4 v2 g2.length (flatOf GV.cells g2), Kds (GVPe 81) g2, Blk b [.slice ka kn kc, .int .i64 md.m, .int .i64 md.s, (.slice (some ⟨b0, o0, none⟩) l.length c0)] 153, A]) := by
  refine Does.enter 35 Try.func106 rfl rfl rfl fun W F => ?_
  show WPc _ _ _ _ _ [(0, .pointer (some ⟨b, 0, none⟩))] (Blk b [.slice ka kn kc, .int .i64 (md.m), .int .i64 (md.s), .slice (some ⟨b0, o0, none⟩) l.length c0] 153 :: A :: F)
  refine WPc.seq ?_
  refine WPc.region ?_
  refine WP.eff rfl rfl rfl (Eff.alloc rfl Ty.z84) ?_
  rintro _ _ ⟨b1, rfl, rfl⟩
  refine WP.nil ?_
  refine Out.next ?_
  refine WPc.seq ?_
  refine WPc.region ?_
  refine WP.val rfl rfl rfl (Val.move rfl rfl) ?_
  refine WP.val rfl rfl rfl (Val.nilCheck rfl rfl) ?_
  refine WP.val rfl rfl rfl (Val.fieldAddr (j := 1) rfl Ty.fo153_1 rfl rfl) ?_
  refine WP.val rfl rfl rfl (Val.loadAgg (cs := [.int .i64 (md.m), .int .i64 (md.s)]) rfl Ty.ag81 rfl rfl (fun w h => h.range 1 rfl rfl)) ?_
  refine WP.val rfl rfl rfl (Val.mk (cs := [.int .i64 (md.m), .int .i64 (md.s), .slice none 0 0]) rfl rfl (fun _ => by kernel_rfl)) ?_
  refine WP.eff rfl rfl rfl (Eff.alloc rfl Ty.z84) ?_
  rintro _ _ ⟨b2, rfl, rfl⟩
  refine WP.eff0 rfl rfl (Eff.storeAgg (cs := [.int .i64 (md.m), .int .i64 (md.s), .slice none 0 0]) (C' := [.int .i64 (md.m), .int .i64 (md.s), .slice none 0 0]) rfl Ty.ag84 rfl rfl rfl rfl (by simp) rfl) ?_
  rintro _ _ rfl
  refine WP.nil ?_
  refine Out.next ?_
  refine WPc.seq ?_
  refine WPc.seq ?_
  refine WPc.conv (fun w h => Sat.kNil (R := GVPe 81) h) ?_
  refine WPc.conv (fun w h => h.ownNil (e := 135) (k := 4)) ?_
  show WPc _ _ _ _ _ _ (Own 135 4 (.slice none 0 0) 0 ([]) :: Kds (GVPe 81) [] :: Blk b2 [.int .i64 (md.m), .int .i64 (md.s), .slice none 0 0] 84 :: Blk b1 [.int .i64 0, .int .i64 0, .slice none 0 0] 84 :: Blk b [.slice ka kn kc, .int .i64 (md.m), .int .i64 (md.s), .slice (some ⟨b0, o0, none⟩) l.length c0] 153 :: A :: F)
  refine WPc.region ?_
  refine WP.val rfl rfl rfl (Val.move rfl rfl) ?_
  refine WP.val rfl rfl rfl (Val.nilCheck rfl rfl) ?_
  refine WP.val rfl rfl rfl (Val.fieldAddr (j := 3) rfl Ty.fo153_2 rfl rfl) ?_
  refine WP.val rfl rfl rfl (Val.load rfl Ty.sc151 rfl (fun w h => h.cell 4 rfl rfl)) ?_
  refine WP.val rfl rfl rfl (Val.len rfl Ty.sl151 rfl) ?_
  refine WP.val rfl rfl rfl (Val.move rfl rfl) ?_
  refine WP.nil ?_
  refine Out.next ?_
  refine WPc.block ?_
  refine WPc.loop (ι := Nat × Value × List GV) (fun ⟨i, v3, g2⟩ => i ≤ l.length ∧ g2.map (·.1) = (l.take i).map (·.1)) (fun ⟨i, v3, g2⟩ => [(2, .pointer (some ⟨b1, 0, none⟩)), (3, .pointer (some ⟨b2, 0, none⟩)), (14, .slice (some ⟨b0, o0, none⟩) l.length c0), (15, .int .i64 (((l.length : Nat) : Int))), (16, .int .i64 (((i : Nat) : Int)))]) (fun ⟨i, v3, g2⟩ => Own 135 4 v3 g2.length (flatOf GV.cells g2) :: Kds (GVPe 81) g2 :: Blk b2 [.int .i64 (md.m), .int .i64 (md.s), v3] 84 :: Blk b1 [.int .i64 0, .int .i64 0, .slice none 0 0] 84 :: Blk b [.slice ka kn kc, .int .i64 (md.m), .int .i64 (md.s), .slice (some ⟨b0, o0, none⟩) l.length c0] 153 :: A :: F) (fun ⟨i, v3, g2⟩ => l.length - i) (0, .slice none 0 0, []) ⟨Nat.zero_le _, rfl⟩ ((Sub.cons rfl (Sub.cons rfl (Sub.cons rfl (Sub.cons rfl (Sub.cons rfl Sub.nil)))))) (fun _ h => h) ?_
  rintro ⟨i, v3, g2⟩ ⟨hi, hg2⟩
  show WPc _ _ _ _ _ [(2, .pointer (some ⟨b1, 0, none⟩)), (3, .pointer (some ⟨b2, 0, none⟩)), (14, .slice (some ⟨b0, o0, none⟩) l.length c0), (15, .int .i64 (((l.length : Nat) : Int))), (16, .int .i64 (((i : Nat) : Int)))] (Own 135 4 v3 g2.length (flatOf GV.cells g2) :: Kds (GVPe 81) g2 :: Blk b2 [.int .i64 (md.m), .int .i64 (md.s), v3] 84 :: Blk b1 [.int .i64 0, .int .i64 0, .slice none 0 0] 84 :: Blk b [.slice ka kn kc, .int .i64 (md.m), .int .i64 (md.s), .slice (some ⟨b0, o0, none⟩) l.length c0] 153 :: A :: F)
  replace hi : i ≤ l.length := hi
  replace hg2 : g2.map (·.1) = (l.take i).map (·.1) := hg2
  have hgn := congrArg List.length hg2
  rw [List.length_map, List.length_map, List.length_take] at hgn
  have hlen := hsm.len
  refine WPc.seq ?_
  refine WPc.region ?_
  refine WP.val rfl rfl rfl (Val.lss rfl rfl rfl) ?_
  refine WP.nil ?_
  refine Out.next ?_
  refine WPc.seq ?_
  refine WPc.ifP rfl (fun h1 => ?_) (fun h1 => ?_)
  · skip
    have h1 : (((i : Nat) : Int) < ((l.length : Nat) : Int)) := h1
    refine WPc.skip ?_
    refine Out.next ?_
    refine WPc.seq ?_
    refine WPc.block ?_
    refine WPc.seq ?_
    have hlt : i < l.length := by omega
    obtain ⟨x, hx⟩ : ∃ x, l[i]? = some x := ⟨_, List.getElem?_eq_getElem hlt⟩
    have hxm : x ∈ l := List.mem_iff_getElem?.2 ⟨_, hx⟩
    have onx := Rd.one (hin x hxm)
    have hsx := hsm.inn hxm
    refine WPc.region ?_
    refine WP.val rfl rfl rfl (Val.indexAddr (j := i) (q := o0 + i * 4) rfl Ty.sl151 rfl rfl (by omega) (by omega) (by omega)) ?_
    refine WP.val rfl rfl rfl (Val.loadAgg (cs := (GV.cells x)) rfl Ty.ag155 rfl (by rfl) (fun w h => hr w (h.at 5 rfl) i x hx)) ?_
    refine WP.eff rfl rfl rfl (Eff.alloc rfl Ty.z155) ?_
    rintro _ _ ⟨b3, rfl, rfl⟩
    refine WP.eff0 rfl rfl (Eff.storeAgg (cs := [.int .i64 (x.1.v), .int .i64 (x.1.c.m), .int .i64 (x.1.c.s), x.2]) (C' := [.int .i64 (x.1.v), .int .i64 (x.1.c.m), .int .i64 (x.1.c.s), x.2]) rfl Ty.ag155 rfl rfl rfl (by simp only [List.all_cons, List.all_nil, Bool.and_true, oc_int, oc_str, oc_bool, oc_ptr, oc_slice, oc_iface, oc_map, onx]) (by simp) rfl) ?_
    rintro _ _ rfl
    refine WP.nil ?_
    refine Out.next ?_
    refine WPD.start (Sat W [Blk b2 [.int .i64 (md.m), .int .i64 (md.s), v3] 84, Blk b3 [.int .i64 (x.1.v), .int .i64 (x.1.c.m), .int .i64 (x.1.c.s), x.2] 155]) Ty.mixed ?_
    refine WPD.takeM 0 rfl rfl rfl rfl (by kernel_rfl) (by kernel_rfl) (by kernel_rfl) (by kernel_rfl) (fun _ _ _ h => h) (fun w h => ((h.perm pl3)).dropEnd (L := [_, _])) (Val.fieldAddr (j := 2) rfl Ty.fo84_1 rfl rfl) ?_
    refine WPD.take 1 rfl rfl rfl rfl (by kernel_rfl) (by kernel_rfl) (by kernel_rfl) (by kernel_rfl) (fun _ _ _ h => h) (by kernel_rfl) (fun w h => ((h.perm pl3)).dropEnd (L := [_, _])) (Val.load rfl Ty.sc82 rfl (fun w h => h.cell 0 rfl rfl)) ?_
    refine WPD.takeM 2 rfl rfl rfl rfl (by kernel_rfl) (by kernel_rfl) (by kernel_rfl) (by kernel_rfl) (fun _ _ _ h => h) (fun w h => ((h.perm pl3)).dropEnd (L := [_, _])) (Val.fieldAddr (j := 0) rfl Ty.fo155_0 rfl rfl) ?_
    refine WPD.take 3 rfl rfl rfl rfl (by kernel_rfl) (by kernel_rfl) (by kernel_rfl) (by kernel_rfl) (fun _ _ _ h => h) (by kernel_rfl) (fun w h => ((h.perm pl3)).dropEnd (L := [_, _])) (Val.load rfl Ty.sc2 rfl (fun w h => h.cell 1 rfl rfl)) ?_
    refine WPD.takeM 4 rfl rfl rfl rfl (by kernel_rfl) (by kernel_rfl) (by kernel_rfl) (by kernel_rfl) (fun _ _ _ h => h) (fun w h => ((h.perm pl3)).dropEnd (L := [_, _])) (Val.fieldAddr (j := 1) rfl Ty.fo155_1 rfl rfl) ?_
    refine WPD.take 5 rfl rfl rfl rfl (by kernel_rfl) (by kernel_rfl) (by kernel_rfl) (by kernel_rfl) (fun _ _ _ h => h) (by kernel_rfl) (fun w h => ((h.perm pl3)).dropEnd (L := [_, _])) (Val.loadAgg (cs := [.int .i64 (x.1.c.m), .int .i64 (x.1.c.s)]) rfl Ty.ag81 rfl rfl (fun w h => h.range 1 rfl rfl)) ?_
    refine WPD.takeM 6 rfl rfl rfl rfl (by kernel_rfl) (by kernel_rfl) (by kernel_rfl) (by kernel_rfl) (fun _ _ _ h => h) (fun w h => ((h.perm pl3)).dropEnd (L := [_, _])) (Val.fieldAddr (j := 3) rfl Ty.fo155_2 rfl rfl) ?_
    refine WPD.take 7 rfl rfl rfl rfl (by kernel_rfl) (by kernel_rfl) (by kernel_rfl) (by kernel_rfl) (fun _ _ _ h => h) (by kernel_rfl) (fun w h => ((h.perm pl3)).dropEnd (L := [_, _])) (Val.load rfl Ty.sc132 rfl (fun w h => h.cell 1 rfl rfl)) ?_
    refine WPD.conv (fun w h => h.ownNil (e := 81) (k := 2)) ?_
    show WPD _ _ _ _ _ _ _ _ _ (Own 81 2 (.slice none 0 0) 0 ([]) :: Blk b3 [.int .i64 (x.1.v), .int .i64 (x.1.c.m), .int .i64 (x.1.c.s), x.2] 155 :: Own 135 4 v3 g2.length (flatOf GV.cells g2) :: Kds (GVPe 81) g2 :: Blk b2 [.int .i64 (md.m), .int .i64 (md.s), v3] 84 :: Blk b1 [.int .i64 0, .int .i64 0, .slice none 0 0] 84 :: Blk b [.slice ka kn kc, .int .i64 (md.m), .int .i64 (md.s), .slice (some ⟨b0, o0, none⟩) l.length c0] 153 :: A :: F)
    refine WPD.step 8 (by kernel_rfl) rfl rfl rfl rfl (Eff.append (m := x.1.revs.length) (n0 := 0) (news := flatOf Rv.cells x.1.revs) rfl Ty.sl132 Ty.z81 rfl rfl rfl (Srcs.rdR Ty.sl132 Rv.len (rv_one _) (hin x hxm) 7 rfl) (by omega) (by omega)) ?_
    rintro v4 _ ⟨onev4, rfl⟩
    refine ⟨(fun w h => (((h.perm pl1).perm pl4)).dropEnd (L := [_, _])), ?_⟩
    refine WPD.fact (fun w h => own_slice h) (fun hsl5 => ?_)
    obtain ⟨a5, k5, rfl⟩ := hsl5
    show WPD _ _ _ _ _ _ _ _ _ (Own 81 2 (.slice a5 (0 + x.1.revs.length) k5) (0 + x.1.revs.length) (([]) ++ (flatOf Rv.cells x.1.revs)) :: Blk b3 [.int .i64 (x.1.v), .int .i64 (x.1.c.m), .int .i64 (x.1.c.s), x.2] 155 :: Own 135 4 v3 g2.length (flatOf GV.cells g2) :: Kds (GVPe 81) g2 :: Blk b2 [.int .i64 (md.m), .int .i64 (md.s), v3] 84 :: Blk b1 [.int .i64 0, .int .i64 0, .slice none 0 0] 84 :: Blk b [.slice ka kn kc, .int .i64 (md.m), .int .i64 (md.s), .slice (some ⟨b0, o0, none⟩) l.length c0] 153 :: A :: F)
    refine WPD.takeM 9 rfl rfl rfl rfl (by kernel_rfl) (by kernel_rfl) (by kernel_rfl) (by kernel_rfl) (fun _ _ _ h => h) (fun w h => (((h.perm pl1).perm pl4)).dropEnd (L := [_, _])) (Val.mk (cs := [.int .i64 (x.1.v), .int .i64 (x.1.c.m), .int .i64 (x.1.c.s), .slice a5 (0 + x.1.revs.length) k5]) rfl rfl (fun _ => by kernel_rfl)) ?_
    refine WPD.step 10 (by kernel_rfl) rfl rfl rfl rfl (Eff.mkSlice (C := [.int .i64 (x.1.v), .int .i64 (x.1.c.m), .int .i64 (x.1.c.s), .slice a5 (0 + x.1.revs.length) k5]) rfl Ty.sl82 rfl (fun _ => by kernel_rfl)) ?_
    rintro _ _ ⟨b6, rfl, rfl⟩
    refine ⟨(fun w h => (((h.perm pl2).perm pl5)).dropEnd (L := [_, _])), ?_⟩
    refine WPD.perm pl3 ?_
    refine WPD.stepC 11 (by kernel_rfl) rfl rfl rfl rfl (by kernel_rfl) (Eff.append (m := 1) (n0 := g2.length) (news := [.int .i64 (x.1.v), .int .i64 (x.1.c.m), .int .i64 (x.1.c.s), .slice a5 (0 + x.1.revs.length) k5]) rfl Ty.sl82 Ty.z135 rfl rfl rfl (.slice Ty.sl82 rfl rfl (fun w h => cells_range (h.range 1 rfl rfl))) (by omega) (by omega)) ?_
    rintro v7 _ ⟨onev7, rfl⟩
    refine ⟨(Sat W (Own 135 4 v7 (g2.length + 1) ((flatOf GV.cells g2) ++ ([.int .i64 (x.1.v), .int .i64 (x.1.c.m), .int .i64 (x.1.c.s), .slice a5 (0 + x.1.revs.length) k5])) :: Blk b6 [.int .i64 (x.1.v), .int .i64 (x.1.c.m), .int .i64 (x.1.c.s), .slice a5 (0 + x.1.revs.length) k5] 135 :: Own 81 2 (.slice a5 (0 + x.1.revs.length) k5) (0 + x.1.revs.length) (([]) ++ (flatOf Rv.cells x.1.revs)) :: Blk b3 [.int .i64 (x.1.v), .int .i64 (x.1.c.m), .int .i64 (x.1.c.s), x.2] 155 :: Kds (GVPe 81) g2 :: Blk b2 [.int .i64 (md.m), .int .i64 (md.s), v3] 84 :: Blk b1 [.int .i64 0, .int .i64 0, .slice none 0 0] 84 :: Blk b [.slice ka kn kc, .int .i64 (md.m), .int .i64 (md.s), .slice (some ⟨b0, o0, none⟩) l.length c0] 153 :: A :: F)), (fun _ h => h), ?_⟩
    refine WPD.takeM 12 rfl rfl rfl rfl (by kernel_rfl) (by kernel_rfl) (by kernel_rfl) (by kernel_rfl) (fun _ _ _ h => h) (fun _ h => h) (Val.fieldAddr (j := 2) rfl Ty.fo84_1 rfl rfl) ?_
    refine WPD.perm pl5 ?_
    refine WPD.stepC0 13 (by kernel_rfl) rfl rfl rfl (by kernel_rfl) (Eff.store rfl Ty.sc82 rfl rfl onev7 (by simp) st2) ?_
    rintro _ _ rfl
    refine ⟨(Sat W (Blk b2 [.int .i64 (md.m), .int .i64 (md.s), v7] 84 :: Own 135 4 v7 (g2.length + 1) ((flatOf GV.cells g2) ++ ([.int .i64 (x.1.v), .int .i64 (x.1.c.m), .int .i64 (x.1.c.s), .slice a5 (0 + x.1.revs.length) k5])) :: Blk b6 [.int .i64 (x.1.v), .int .i64 (x.1.c.m), .int .i64 (x.1.c.s), .slice a5 (0 + x.1.revs.length) k5] 135 :: Own 81 2 (.slice a5 (0 + x.1.revs.length) k5) (0 + x.1.revs.length) (([]) ++ (flatOf Rv.cells x.1.revs)) :: Blk b3 [.int .i64 (x.1.v), .int .i64 (x.1.c.m), .int .i64 (x.1.c.s), x.2] 155 :: Kds (GVPe 81) g2 :: Blk b1 [.int .i64 0, .int .i64 0, .slice none 0 0] 84 :: Blk b [.slice ka kn kc, .int .i64 (md.m), .int .i64 (md.s), .slice (some ⟨b0, o0, none⟩) l.length c0] 153 :: A :: F)), (fun _ h => h), ?_⟩
    refine WPD.done (by kernel_rfl) ?_
    refine Out.block ?_
    refine Out.next ?_
    refine WPc.region ?_
    refine WP.val rfl rfl rfl (Val.add (z := ((i + 1 : Nat) : Int)) rfl rfl rfl ((w64 (by omega) (by omega)).trans (by omega))) ?_
    refine WP.val rfl rfl rfl (Val.move rfl rfl) ?_
    refine WP.nil ?_
    refine Out.perm pl2 ?_
    refine Out.drop ?_
    refine Out.perm pl3 ?_
    refine Out.drop ?_
    refine Out.perm pl6 ?_
    refine Out.perm pl6 ?_
    refine Out.perm pl6 ?_
    refine Out.perm pl3 ?_
    refine Out.perm pl6 ?_
    refine Out.perm pl6 ?_
    refine Out.perm pl6 ?_
    refine Out.again (i + 1, v7, g2 ++ [(x.1, .slice a5 x.1.revs.length k5)]) ?_ ?_ ?_ ?_
    · exact (by show i + 1 ≤ l.length ∧ (g2 ++ [(x.1, _)] : List GV).map (·.1) = (l.take (i + 1)).map (·.1); rw [take_more hx, List.map_append, List.map_append, hg2]; exact ⟨by omega, rfl⟩)
    · (dsimp only; omega)
    · exact (Sub.cons rfl (Sub.cons rfl (Sub.cons rfl (Sub.cons rfl (Sub.cons rfl Sub.nil)))))
    · exact (fun w h => againF (p := (x.1, _)) (by (try simp only [Nat.zero_add, List.nil_append] at h); rw [flatOf_append, flatOf_one, List.length_append]; exact h))
  · skip
    have h1 : ¬ (((i : Nat) : Int) < ((l.length : Nat) : Int)) := h1
    refine WPc.exit ?_
    refine Out.then_exit ?_
    refine Out.then_exit ?_
    refine Out.block_exit ?_
    refine Out.next ?_
    refine WPc.seq ?_
    refine WPc.fact (fun w h => own_oneCell h) (fun on3 => ?_)
    refine WPc.region ?_
    refine WP.val rfl rfl rfl (Val.loadAgg (cs := [.int .i64 (md.m), .int .i64 (md.s), v3]) rfl Ty.ag84 rfl rfl (fun w h => h.range 2 rfl rfl)) ?_
    refine WP.perm pl3 ?_
    refine WP.eff0 rfl rfl (Eff.storeAgg (cs := [.int .i64 (md.m), .int .i64 (md.s), v3]) (C' := [.int .i64 (md.m), .int .i64 (md.s), v3]) rfl Ty.ag84 rfl rfl rfl (by simp only [List.all_cons, List.all_nil, Bool.and_true, oc_int, oc_str, oc_bool, oc_ptr, oc_slice, oc_iface, oc_map, on3]) (by simp) rfl) ?_
    rintro _ _ rfl
    refine WP.nil ?_
    refine Out.next ?_
    refine WPc.ret ?_
    have hil : i = l.length := by omega
    rw [hil, List.take_length] at hg2
    refine Out.perm pl3 ?_
    refine Out.drop ?_
    exact Out.retRun (L' := _) (results_cell (cs := _) Try.results106 Ty.ag84 rfl rfl (fun w h => h.range 0 rfl rfl)) ⟨v3, g2, rfl, hg2, rfl⟩ (fun w h => h.drop)

theorem zzout_spec (A : HProp) (b : Nat) (ka : Option Addr) (kn kc : Nat) (md : Rv) (l : List GV) (hsm : Small (l.map (·.1))) (hin : ∀ p ∈ l, Rd A 2 Rv.cells p.2 p.1.revs) (va : Value) (hva : Rd A 4 GV.cells va l) : Does Try.prog 106 [.pointer (some ⟨b, 0, none⟩)] [Blk b [.slice ka kn kc, .int .i64 (md.m), .int .i64 (md.s), va] 153, A] (fun v L => ∃ (v2 : Value) (g2 : List GV), v = .agg #[.int .i64 md.m, .int .i64 md.s, v2] ∧ g2.map (·.1) = l.map (·.1) ∧ L = [Own 135 4 v2 g2.length (flatOf GV.cells g2), Kds (GVPe 81) g2, Blk b [.slice ka kn kc, .int .i64 md.m, .int .i64 md.s, va] 153, A]) := by
  rcases hva with ⟨b0, o0, c0, rfl, hr⟩ | ⟨rfl, a, c, rfl⟩
  · exact zzout_row A b ka kn kc md l hsm hin b0 o0 c0 hr
  · exact zzout_nil A b ka kn kc md a c
set_option maxRecDepth 100000 in
set_option maxHeartbeats 2000000 in
theorem dumpout_nil (A : HProp) (md : Rv) (a : Option Addr) (c : Nat) : Does Try.prog 78 [.agg #[.int .i64 (md.m), .int .i64 (md.s), .slice a 0 c]] [A] (fun v L => ∃ (v2 : Value) (g2 : List GV), v = .agg #[.int .i64 md.m, .int .i64 md.s, v2] ∧ g2.map (·.1) = ([] : List GV).map (·.1) ∧ L = [Own 53 4 v2 g2.length (flatOf GV.cells g2), Kds (GVPe 32) g2, A]) := by
  refine Does.enter 37 Try.func78 rfl rfl rfl fun W F => ?_
  show WPc _ _ _ _ _ [(0, .agg #[.int .i64 (md.m), .int .i64 (md.s), .slice a 0 c])] (A :: F)
  refine WPc.seq ?_
  refine WPc.region ?_
  refine WP.eff rfl rfl rfl (Eff.box (C := [.int .i64 (md.m), .int .i64 (md.s), .slice a 0 c]) rfl rfl rfl) ?_
  rintro _ _ ⟨b1, rfl, rfl⟩
  refine WP.eff rfl rfl rfl (Eff.alloc rfl Ty.z35) ?_
  rintro _ _ ⟨b2, rfl, rfl⟩
  refine WP.nil ?_
  refine Out.next ?_
  refine WPc.seq ?_
  refine WPc.region ?_
  refine WP.val rfl rfl rfl (Val.fieldAddr (j := 0) rfl Ty.fo84_0 rfl rfl) ?_
  refine WP.val rfl rfl rfl (Val.loadAgg (cs := [.int .i64 (md.m), .int .i64 (md.s)]) rfl Ty.ag81 rfl rfl (fun w h => h.range 1 rfl rfl)) ?_
  refine WP.eff rfl rfl rfl (Eff.call rfl rfl Try.call71 (revout_spec ⟨md.m, md.s⟩)) ?_
  rintro _ _ ⟨_, ⟨rfl, rfl⟩, rfl⟩
  show WP _ _ _ _ _ _ _ (Blk b2 [.int .i64 0, .int .i64 0, .slice none 0 0] 35 :: Blk b1 [.int .i64 (md.m), .int .i64 (md.s), .slice a 0 c] 84 :: A :: F)
  refine WP.val rfl rfl rfl (Val.mk (cs := [.int .i64 (md.m), .int .i64 (md.s), .slice none 0 0]) rfl rfl (fun _ => by kernel_rfl)) ?_
  refine WP.eff rfl rfl rfl (Eff.alloc rfl Ty.z35) ?_
  rintro _ _ ⟨b3, rfl, rfl⟩
  refine WP.eff0 rfl rfl (Eff.storeAgg (cs := [.int .i64 (md.m), .int .i64 (md.s), .slice none 0 0]) (C' := [.int .i64 (md.m), .int .i64 (md.s), .slice none 0 0]) rfl Ty.ag35 rfl rfl rfl rfl (by simp) rfl) ?_
  rintro _ _ rfl
  refine WP.nil ?_
  refine Out.next ?_
  refine WPc.seq ?_
  refine WPc.seq ?_
  refine WPc.conv (fun w h => Sat.kNil (R := GVPe 32) h) ?_
  refine WPc.conv (fun w h => h.ownNil (e := 53) (k := 4)) ?_
  show WPc _ _ _ _ _ _ (Own 53 4 (.slice none 0 0) 0 ([]) :: Kds (GVPe 32) [] :: Blk b3 [.int .i64 (md.m), .int .i64 (md.s), .slice none 0 0] 35 :: Blk b2 [.int .i64 0, .int .i64 0, .slice none 0 0] 35 :: Blk b1 [.int .i64 (md.m), .int .i64 (md.s), .slice a 0 c] 84 :: A :: F)
  refine WPc.region ?_
  refine WP.val rfl rfl rfl (Val.assign rfl rfl) ?_
  refine WP.nil ?_
  refine Out.next ?_
  refine WPc.block ?_
  refine WPc.loop (ι := Nat × Value × List GV) (fun ⟨i, v3, g2⟩ => i ≤ 0 ∧ g2.map (·.1) = (([] : List GV).take i).map (·.1)) (fun ⟨i, v3, g2⟩ => [(1, .pointer (some ⟨b1, 0, none⟩)), (2, .pointer (some ⟨b2, 0, none⟩)), (3, .pointer (some ⟨b3, 0, none⟩)), (4, .int .i64 (((i : Nat) : Int)))]) (fun ⟨i, v3, g2⟩ => Own 53 4 v3 g2.length (flatOf GV.cells g2) :: Kds (GVPe 32) g2 :: Blk b3 [.int .i64 (md.m), .int .i64 (md.s), v3] 35 :: Blk b2 [.int .i64 0, .int .i64 0, .slice none 0 0] 35 :: Blk b1 [.int .i64 (md.m), .int .i64 (md.s), .slice a 0 c] 84 :: A :: F) (fun ⟨i, v3, g2⟩ => 0 - i) (0, .slice none 0 0, []) ⟨Nat.zero_le _, rfl⟩ ((Sub.cons rfl (Sub.cons rfl (Sub.cons rfl (Sub.cons rfl Sub.nil))))) (fun _ h => h) ?_
  rintro ⟨i, v3, g2⟩ ⟨hi, hg2⟩
  show WPc _ _ _ _ _ [(1, .pointer (some ⟨b1, 0, none⟩)), (2, .pointer (some ⟨b2, 0, none⟩)), (3, .pointer (some ⟨b3, 0, none⟩)), (4, .int .i64 (((i : Nat) : Int)))] (Own 53 4 v3 g2.length (flatOf GV.cells g2) :: Kds (GVPe 32) g2 :: Blk b3 [.int .i64 (md.m), .int .i64 (md.s), v3] 35 :: Blk b2 [.int .i64 0, .int .i64 0, .slice none 0 0] 35 :: Blk b1 [.int .i64 (md.m), .int .i64 (md.s), .slice a 0 c] 84 :: A :: F)
  replace hi : i ≤ 0 := hi
  replace hg2 : g2.map (·.1) = (([] : List GV).take i).map (·.1) := hg2
  have hgn := congrArg List.length hg2
  rw [List.length_map, List.length_map, List.length_take] at hgn
  refine WPc.seq ?_
  refine WPc.seq ?_
  refine WPc.region ?_
  refine WP.val rfl rfl rfl (Val.move rfl rfl) ?_
  refine WP.val rfl rfl rfl (Val.fieldAddr (j := 2) rfl Ty.fo84_1 rfl rfl) ?_
  refine WP.val rfl rfl rfl (Val.load rfl Ty.sc82 rfl (fun w h => h.cell 4 rfl rfl)) ?_
  refine WP.val rfl rfl rfl (Val.len rfl Ty.sl82 rfl) ?_
  refine WP.val rfl rfl rfl (Val.lss rfl rfl rfl) ?_
  refine WP.nil ?_
  refine Out.next ?_
  refine WPc.ifP rfl (fun h1 => ?_) (fun h1 => ?_)
  · skip
    have h1 : (((i : Nat) : Int) < (0 : Int)) := h1
    exfalso; omega
  · skip
    have h1 : ¬ (((i : Nat) : Int) < (0 : Int)) := h1
    refine WPc.exit ?_
    refine Out.then_exit ?_
    refine Out.then_exit ?_
    refine Out.block_exit ?_
    refine Out.next ?_
    refine WPc.seq ?_
    refine WPc.fact (fun w h => own_oneCell h) (fun on3 => ?_)
    refine WPc.region ?_
    refine WP.val rfl rfl rfl (Val.loadAgg (cs := [.int .i64 (md.m), .int .i64 (md.s), v3]) rfl Ty.ag35 rfl rfl (fun w h => h.range 2 rfl rfl)) ?_
    refine WP.perm pl3 ?_
    refine WP.eff0 rfl rfl (Eff.storeAgg (cs := [.int .i64 (md.m), .int .i64 (md.s), v3]) (C' := [.int .i64 (md.m), .int .i64 (md.s), v3]) rfl Ty.ag35 rfl rfl rfl (by simp only [List.all_cons, List.all_nil, Bool.and_true, oc_int, oc_str, oc_bool, oc_ptr, oc_slice, oc_iface, oc_map, on3]) (by simp) rfl) ?_
    rintro _ _ rfl
    refine WP.nil ?_
    refine Out.next ?_
    refine WPc.ret ?_
    have hil : i = 0 := by omega
    rw [hil] at hg2
    refine Out.perm pl3 ?_
    refine Out.drop ?_
    refine Out.perm pl3 ?_
    refine Out.drop ?_
    exact Out.retRun (L' := _) (results_cell (cs := _) Try.results78 Ty.ag35 rfl rfl (fun w h => h.range 0 rfl rfl)) ⟨v3, g2, rfl, hg2, rfl⟩ (fun w h => h.drop)

set_option maxRecDepth 100000 in
set_option maxHeartbeats 2000000 in
theorem dumpout_row (A : HProp) (md : Rv) (l : List GV) (hsm : Small (l.map (·.1))) (hin : ∀ p ∈ l, Rd A 2 Rv.cells p.2 p.1.revs) (b0 o0 c0 : Nat) (hr : ∀ w, Holds A w → ∀ i x, l[i]? = some x → w.rangeAt b0 (o0 + i * 4) (GV.cells x)) : Does Try.prog 78 [.agg #[.int .i64 (md.m), .int .i64 (md.s), .slice (some ⟨b0, o0, none⟩) l.length c0]] [A] (fun v L => ∃ (v2 : Value) (g2 : List GV), v = .agg #[.int .i64 md.m, .int .i64 md.s, v2] ∧ g2.map (·.1) = l.map (·.1) ∧ L = [Own 53 4 v2 g2.length (flatOf GV.cells g2), Kds (GVPe 32) g2, A]) := by
  refine Does.enter 37 Try.func78 rfl rfl rfl fun W F => ?_
  show WPc _ _ _ _ _ [(0, .agg #[.int .i64 (md.m), .int .i64 (md.s), .slice (some ⟨b0, o0, none⟩) l.length c0])] (A :: F)
  refine WPc.seq ?_
  refine WPc.region ?_
  refine WP.eff rfl rfl rfl (Eff.box (C := [.int .i64 (md.m), .int .i64 (md.s), .slice (some ⟨b0, o0, none⟩) l.length c0]) rfl rfl rfl) ?_
  rintro _ _ ⟨b1, rfl, rfl⟩
  refine WP.eff rfl rfl rfl (Eff.alloc rfl Ty.z35) ?_
  rintro _ _ ⟨b2, rfl, rfl⟩
  refine WP.nil ?_
  refine Out.next ?_
  refine WPc.seq ?_
  refine WPc.region ?_
  refine WP.val rfl rfl rfl (Val.fieldAddr (j := 0) rfl Ty.fo84_0 rfl rfl) ?_
  refine WP.val rfl rfl rfl (Val.loadAgg (cs := [.int .i64 (md.m), .int .i64 (md.s)]) rfl Ty.ag81 rfl rfl (fun w h => h.range 1 rfl rfl)) ?_
  refine WP.eff rfl rfl rfl (Eff.call rfl rfl Try.call71 (revout_spec ⟨md.m, md.s⟩)) ?_
  rintro _ _ ⟨_, ⟨rfl, rfl⟩, rfl⟩
  show WP _ _ _ _ _ _ _ (Blk b2 [.int .i64 0, .int .i64 0, .slice none 0 0] 35 :: Blk b1 [.int .i64 (md.m), .int .i64 (md.s), .slice (some ⟨b0, o0, none⟩) l.length c0] 84 :: A :: F)
  refine WP.val rfl rfl rfl (Val.mk (cs := [.int .i64 (md.m), .int .i64 (md.s), .slice none 0 0]) rfl rfl (fun _ => by kernel_rfl)) ?_
  refine WP.eff rfl rfl rfl (Eff.alloc rfl Ty.z35) ?_
  rintro _ _ ⟨b3, rfl, rfl⟩
  refine WP.eff0 rfl rfl (Eff.storeAgg (cs := [.int .i64 (md.m), .int .i64 (md.s), .slice none 0 0]) (C' := [.int .i64 (md.m), .int .i64 (md.s), .slice none 0 0]) rfl Ty.ag35 rfl rfl rfl rfl (by simp) rfl) ?_
  rintro _ _ rfl
  refine WP.nil ?_
  refine Out.next ?_
  refine WPc.seq ?_
  refine WPc.seq ?_
  refine WPc.conv (fun w h => Sat.kNil (R := GVPe 32) h) ?_
  refine WPc.conv (fun w h => h.ownNil (e := 53) (k := 4)) ?_
  show WPc _ _ _ _ _ _ (Own 53 4 (.slice none 0 0) 0 ([]) :: Kds (GVPe 32) [] :: Blk b3 [.int .i64 (md.m), .int .i64 (md.s), .slice none 0 0] 35 :: Blk b2 [.int .i64 0, .int .i64 0, .slice none 0 0] 35 :: Blk b1 [.int .i64 (md.m), .int .i64 (md.s), .slice (some ⟨b0, o0, none⟩) l.length c0] 84 :: A :: F)
  refine WPc.region ?_
  refine WP.val rfl rfl rfl (Val.assign rfl rfl) ?_
  refine WP.nil ?_
  refine Out.next ?_
  refine WPc.block ?_
  refine WPc.loop (ι := Nat × Value × List GV) (fun ⟨i, v3, g2⟩ => i ≤ l.length ∧ g2.map (·.1) = (l.take i).map (·.1)) (fun ⟨i, v3, g2⟩ => [(1, .pointer (some ⟨b1, 0, none⟩)), (2, .pointer (some ⟨b2, 0, none⟩)), (3, .pointer (some ⟨b3, 0, none⟩)), (4, .int .i64 (((i : Nat) : Int)))]) (fun ⟨i, v3, g2⟩ => Own 53 4 v3 g2.length (flatOf GV.cells g2) :: Kds (GVPe 32) g2 :: Blk b3 [.int .i64 (md.m), .int .i64 (md.s), v3] 35 :: Blk b2 [.int .i64 0, .int .i64 0, .slice none 0 0] 35 :: Blk b1 [.int .i64 (md.m), .int .i64 (md.s), .slice (some ⟨b0, o0, none⟩) l.length c0] 84 :: A :: F) (fun ⟨i, v3, g2⟩ => l.length - i) (0, .slice none 0 0, []) ⟨Nat.zero_le _, rfl⟩ ((Sub.cons rfl (Sub.cons rfl (Sub.cons rfl (Sub.cons rfl Sub.nil))))) (fun _ h => h) ?_
  rintro ⟨i, v3, g2⟩ ⟨hi, hg2⟩
  show WPc _ _ _ _ _ [(1, .pointer (some ⟨b1, 0, none⟩)), (2, .pointer (some ⟨b2, 0, none⟩)), (3, .pointer (some ⟨b3, 0, none⟩)), (4, .int .i64 (((i : Nat) : Int)))] (Own 53 4 v3 g2.length (flatOf GV.cells g2) :: Kds (GVPe 32) g2 :: Blk b3 [.int .i64 (md.m), .int .i64 (md.s), v3] 35 :: Blk b2 [.int .i64 0, .int .i64 0, .slice none 0 0] 35 :: Blk b1 [.int .i64 (md.m), .int .i64 (md.s), .slice (some ⟨b0, o0, none⟩) l.length c0] 84 :: A :: F)
  replace hi : i ≤ l.length := hi
  replace hg2 : g2.map (·.1) = (l.take i).map (·.1) := hg2
  have hgn := congrArg List.length hg2
  rw [List.length_map, List.length_map, List.length_take] at hgn
  have hlen := hsm.len
  refine WPc.seq ?_
  refine WPc.seq ?_
  refine WPc.region ?_
  refine WP.val rfl rfl rfl (Val.move rfl rfl) ?_
  refine WP.val rfl rfl rfl (Val.fieldAddr (j := 2) rfl Ty.fo84_1 rfl rfl) ?_
  refine WP.val rfl rfl rfl (Val.load rfl Ty.sc82 rfl (fun w h => h.cell 4 rfl rfl)) ?_
  refine WP.val rfl rfl rfl (Val.len rfl Ty.sl82 rfl) ?_
  refine WP.val rfl rfl rfl (Val.lss rfl rfl rfl) ?_
  refine WP.nil ?_
  refine Out.next ?_
  refine WPc.ifP rfl (fun h1 => ?_) (fun h1 => ?_)
  · skip
    have h1 : (((i : Nat) : Int) < ((l.length : Nat) : Int)) := h1
    refine WPc.skip ?_
    refine Out.next ?_
    refine WPc.seq ?_
    refine WPc.block ?_
    refine WPc.seq ?_
    have hlt : i < l.length := by omega
    obtain ⟨x, hx⟩ : ∃ x, l[i]? = some x := ⟨_, List.getElem?_eq_getElem hlt⟩
    have hxm : x ∈ l := List.mem_iff_getElem?.2 ⟨_, hx⟩
    have onx := Rd.one (hin x hxm)
    have hsx := hsm.inn hxm
    refine WPc.region ?_
    refine WP.val rfl rfl rfl (Val.fieldAddr (j := 2) rfl Ty.fo84_1 rfl rfl) ?_
    refine WP.val rfl rfl rfl (Val.load rfl Ty.sc82 rfl (fun w h => h.cell 4 rfl rfl)) ?_
    refine WP.val rfl rfl rfl (Val.move rfl rfl) ?_
    refine WP.val rfl rfl rfl (Val.indexAddr (j := i) (q := o0 + i * 4) rfl Ty.sl82 rfl rfl (by omega) (by omega) (by omega)) ?_
    refine WP.val rfl rfl rfl (Val.loadAgg (cs := (GV.cells x)) rfl Ty.ag135 rfl (by rfl) (fun w h => hr w (h.at 5 rfl) i x hx)) ?_
    refine WP.eff rfl rfl rfl (Eff.alloc rfl Ty.z135) ?_
    rintro _ _ ⟨b4, rfl, rfl⟩
    refine WP.eff0 rfl rfl (Eff.storeAgg (cs := [.int .i64 (x.1.v), .int .i64 (x.1.c.m), .int .i64 (x.1.c.s), x.2]) (C' := [.int .i64 (x.1.v), .int .i64 (x.1.c.m), .int .i64 (x.1.c.s), x.2]) rfl Ty.ag135 rfl rfl rfl (by simp only [List.all_cons, List.all_nil, Bool.and_true, oc_int, oc_str, oc_bool, oc_ptr, oc_slice, oc_iface, oc_map, onx]) (by simp) rfl) ?_
    rintro _ _ rfl
    refine WP.nil ?_
    refine Out.next ?_
    refine WPD.start (Sat W [Blk b3 [.int .i64 (md.m), .int .i64 (md.s), v3] 35, Blk b4 [.int .i64 (x.1.v), .int .i64 (x.1.c.m), .int .i64 (x.1.c.s), x.2] 135]) Ty.mixed ?_
    refine WPD.takeM 0 rfl rfl rfl rfl (by kernel_rfl) (by kernel_rfl) (by kernel_rfl) (by kernel_rfl) (fun _ _ _ h => h) (fun w h => ((h.perm pl3)).dropEnd (L := [_, _])) (Val.fieldAddr (j := 2) rfl Ty.fo35_1 rfl rfl) ?_
    refine WPD.take 1 rfl rfl rfl rfl (by kernel_rfl) (by kernel_rfl) (by kernel_rfl) (by kernel_rfl) (fun _ _ _ h => h) (by kernel_rfl) (fun w h => ((h.perm pl3)).dropEnd (L := [_, _])) (Val.load rfl Ty.sc33 rfl (fun w h => h.cell 0 rfl rfl)) ?_
    refine WPD.takeM 2 rfl rfl rfl rfl (by kernel_rfl) (by kernel_rfl) (by kernel_rfl) (by kernel_rfl) (fun _ _ _ h => h) (fun w h => ((h.perm pl3)).dropEnd (L := [_, _])) (Val.fieldAddr (j := 0) rfl Ty.fo135_0 rfl rfl) ?_
    refine WPD.take 3 rfl rfl rfl rfl (by kernel_rfl) (by kernel_rfl) (by kernel_rfl) (by kernel_rfl) (fun _ _ _ h => h) (by kernel_rfl) (fun w h => ((h.perm pl3)).dropEnd (L := [_, _])) (Val.load rfl Ty.sc2 rfl (fun w h => h.cell 1 rfl rfl)) ?_
    refine WPD.takeM 4 rfl rfl rfl rfl (by kernel_rfl) (by kernel_rfl) (by kernel_rfl) (by kernel_rfl) (fun _ _ _ h => h) (fun w h => ((h.perm pl3)).dropEnd (L := [_, _])) (Val.fieldAddr (j := 1) rfl Ty.fo135_1 rfl rfl) ?_
    refine WPD.take 5 rfl rfl rfl rfl (by kernel_rfl) (by kernel_rfl) (by kernel_rfl) (by kernel_rfl) (fun _ _ _ h => h) (by kernel_rfl) (fun w h => ((h.perm pl3)).dropEnd (L := [_, _])) (Val.loadAgg (cs := [.int .i64 (x.1.c.m), .int .i64 (x.1.c.s)]) rfl Ty.ag81 rfl rfl (fun w h => h.range 1 rfl rfl)) ?_
    refine WPD.takeM 7 rfl rfl rfl rfl (by kernel_rfl) (by kernel_rfl) (by kernel_rfl) (by kernel_rfl) (fun _ _ _ h => h) (fun w h => ((h.perm pl3)).dropEnd (L := [_, _])) (Val.fieldAddr (j := 3) rfl Ty.fo135_2 rfl rfl) ?_
    refine WPD.take 8 rfl rfl rfl rfl (by kernel_rfl) (by kernel_rfl) (by kernel_rfl) (by kernel_rfl) (fun _ _ _ h => h) (by kernel_rfl) (fun w h => ((h.perm pl3)).dropEnd (L := [_, _])) (Val.load rfl Ty.sc132 rfl (fun w h => h.cell 1 rfl rfl)) ?_
    refine WPD.step 6 (by kernel_rfl) rfl rfl rfl rfl (Eff.call rfl rfl Try.call71 (revout_spec ⟨x.1.c.m, x.1.c.s⟩)) ?_
    rintro _ _ ⟨_, ⟨rfl, rfl⟩, rfl⟩
    refine ⟨(fun w h => ((h.perm pl3)).dropEnd (L := [_, _])), ?_⟩
    show WPD _ _ _ _ _ _ _ _ _ (Blk b4 [.int .i64 (x.1.v), .int .i64 (x.1.c.m), .int .i64 (x.1.c.s), x.2] 135 :: Own 53 4 v3 g2.length (flatOf GV.cells g2) :: Kds (GVPe 32) g2 :: Blk b3 [.int .i64 (md.m), .int .i64 (md.s), v3] 35 :: Blk b2 [.int .i64 0, .int .i64 0, .slice none 0 0] 35 :: Blk b1 [.int .i64 (md.m), .int .i64 (md.s), .slice (some ⟨b0, o0, none⟩) l.length c0] 84 :: A :: F)
    refine WPD.perm pl6 ?_
    refine WPD.step 9 (by kernel_rfl) rfl rfl rfl rfl (Eff.call rfl rfl Try.call72 (revsout_spec A x.1.revs hsx x.2 (hin x hxm))) ?_
    rintro vr _ ⟨_, rfl, rfl⟩
    refine ⟨(fun w h => (((h.perm pl2).perm pl5)).dropEnd (L := [_, _])), ?_⟩
    show WPD _ _ _ _ _ _ _ _ _ (Own 32 2 vr x.1.revs.length (flatOf Rv.cells x.1.revs) :: A :: Blk b4 [.int .i64 (x.1.v), .int .i64 (x.1.c.m), .int .i64 (x.1.c.s), x.2] 135 :: Own 53 4 v3 g2.length (flatOf GV.cells g2) :: Kds (GVPe 32) g2 :: Blk b3 [.int .i64 (md.m), .int .i64 (md.s), v3] 35 :: Blk b2 [.int .i64 0, .int .i64 0, .slice none 0 0] 35 :: Blk b1 [.int .i64 (md.m), .int .i64 (md.s), .slice (some ⟨b0, o0, none⟩) l.length c0] 84 :: F)
    refine WPD.fact (fun w h => own_slice h) (fun hsl5 => ?_)
    obtain ⟨a5, k5, rfl⟩ := hsl5
    show WPD _ _ _ _ _ _ _ _ _ (Own 32 2 (.slice a5 x.1.revs.length k5) x.1.revs.length (flatOf Rv.cells x.1.revs) :: A :: Blk b4 [.int .i64 (x.1.v), .int .i64 (x.1.c.m), .int .i64 (x.1.c.s), x.2] 135 :: Own 53 4 v3 g2.length (flatOf GV.cells g2) :: Kds (GVPe 32) g2 :: Blk b3 [.int .i64 (md.m), .int .i64 (md.s), v3] 35 :: Blk b2 [.int .i64 0, .int .i64 0, .slice none 0 0] 35 :: Blk b1 [.int .i64 (md.m), .int .i64 (md.s), .slice (some ⟨b0, o0, none⟩) l.length c0] 84 :: F)
    refine WPD.takeM 10 rfl rfl rfl rfl (by kernel_rfl) (by kernel_rfl) (by kernel_rfl) (by kernel_rfl) (fun _ _ _ h => h) (fun w h => (((h.perm pl2).perm pl5)).dropEnd (L := [_, _])) (Val.mk (cs := [.int .i64 (x.1.v), .int .i64 (x.1.c.m), .int .i64 (x.1.c.s), .slice a5 x.1.revs.length k5]) rfl rfl (fun _ => by kernel_rfl)) ?_
    refine WPD.step 11 (by kernel_rfl) rfl rfl rfl rfl (Eff.mkSlice (C := [.int .i64 (x.1.v), .int .i64 (x.1.c.m), .int .i64 (x.1.c.s), .slice a5 x.1.revs.length k5]) rfl Ty.sl33 rfl (fun _ => by kernel_rfl)) ?_
    rintro _ _ ⟨b6, rfl, rfl⟩
    refine ⟨(fun w h => (((h.perm pl3).perm pl6)).dropEnd (L := [_, _])), ?_⟩
    refine WPD.perm pl4 ?_
    refine WPD.stepC 12 (by kernel_rfl) rfl rfl rfl rfl (by kernel_rfl) (Eff.append (m := 1) (n0 := g2.length) (news := [.int .i64 (x.1.v), .int .i64 (x.1.c.m), .int .i64 (x.1.c.s), .slice a5 x.1.revs.length k5]) rfl Ty.sl33 Ty.z53 rfl rfl rfl (.slice Ty.sl33 rfl rfl (fun w h => cells_range (h.range 1 rfl rfl))) (by omega) (by omega)) ?_
    rintro v7 _ ⟨onev7, rfl⟩
    refine ⟨(Sat W (Own 53 4 v7 (g2.length + 1) ((flatOf GV.cells g2) ++ ([.int .i64 (x.1.v), .int .i64 (x.1.c.m), .int .i64 (x.1.c.s), .slice a5 x.1.revs.length k5])) :: Blk b6 [.int .i64 (x.1.v), .int .i64 (x.1.c.m), .int .i64 (x.1.c.s), .slice a5 x.1.revs.length k5] 53 :: Own 32 2 (.slice a5 x.1.revs.length k5) x.1.revs.length (flatOf Rv.cells x.1.revs) :: A :: Blk b4 [.int .i64 (x.1.v), .int .i64 (x.1.c.m), .int .i64 (x.1.c.s), x.2] 135 :: Kds (GVPe 32) g2 :: Blk b3 [.int .i64 (md.m), .int .i64 (md.s), v3] 35 :: Blk b2 [.int .i64 0, .int .i64 0, .slice none 0 0] 35 :: Blk b1 [.int .i64 (md.m), .int .i64 (md.s), .slice (some ⟨b0, o0, none⟩) l.length c0] 84 :: F)), (fun _ h => h), ?_⟩
    refine WPD.takeM 13 rfl rfl rfl rfl (by kernel_rfl) (by kernel_rfl) (by kernel_rfl) (by kernel_rfl) (fun _ _ _ h => h) (fun _ h => h) (Val.fieldAddr (j := 2) rfl Ty.fo35_1 rfl rfl) ?_
    refine WPD.perm pl6 ?_
    refine WPD.stepC0 14 (by kernel_rfl) rfl rfl rfl (by kernel_rfl) (Eff.store rfl Ty.sc33 rfl rfl onev7 (by simp) st2) ?_
    rintro _ _ rfl
    refine ⟨(Sat W (Blk b3 [.int .i64 (md.m), .int .i64 (md.s), v7] 35 :: Own 53 4 v7 (g2.length + 1) ((flatOf GV.cells g2) ++ ([.int .i64 (x.1.v), .int .i64 (x.1.c.m), .int .i64 (x.1.c.s), .slice a5 x.1.revs.length k5])) :: Blk b6 [.int .i64 (x.1.v), .int .i64 (x.1.c.m), .int .i64 (x.1.c.s), .slice a5 x.1.revs.length k5] 53 :: Own 32 2 (.slice a5 x.1.revs.length k5) x.1.revs.length (flatOf Rv.cells x.1.revs) :: A :: Blk b4 [.int .i64 (x.1.v), .int .i64 (x.1.c.m), .int .i64 (x.1.c.s), x.2] 135 :: Kds (GVPe 32) g2 :: Blk b2 [.int .i64 0, .int .i64 0, .slice none 0 0] 35 :: Blk b1 [.int .i64 (md.m), .int .i64 (md.s), .slice (some ⟨b0, o0, none⟩) l.length c0] 84 :: F)), (fun _ h => h), ?_⟩
    refine WPD.done (by kernel_rfl) ?_
    refine Out.block ?_
    refine Out.next ?_
    refine WPc.region ?_
    refine WP.val rfl rfl rfl (Val.move rfl rfl) ?_
    refine WP.val rfl rfl rfl (Val.add (z := ((i + 1 : Nat) : Int)) rfl rfl rfl ((w64 (by omega) (by omega)).trans (by omega))) ?_
    refine WP.val rfl rfl rfl (Val.assign rfl rfl) ?_
    refine WP.nil ?_
    refine Out.perm pl2 ?_
    refine Out.drop ?_
    refine Out.perm pl4 ?_
    refine Out.drop ?_
    refine Out.perm pl3 ?_
    refine Out.perm pl6 ?_
    refine Out.perm pl6 ?_
    refine Out.perm pl3 ?_
    refine Out.perm pl6 ?_
    refine Out.perm pl6 ?_
    refine Out.perm pl6 ?_
    refine Out.again (i + 1, v7, g2 ++ [(x.1, .slice a5 x.1.revs.length k5)]) ?_ ?_ ?_ ?_
    · exact (by show i + 1 ≤ l.length ∧ (g2 ++ [(x.1, _)] : List GV).map (·.1) = (l.take (i + 1)).map (·.1); rw [take_more hx, List.map_append, List.map_append, hg2]; exact ⟨by omega, rfl⟩)
    · (dsimp only; omega)
    · exact (Sub.cons rfl (Sub.cons rfl (Sub.cons rfl (Sub.cons rfl Sub.nil))))
    · exact (fun w h => againF (p := (x.1, _)) (by (try simp only [Nat.zero_add, List.nil_append] at h); rw [flatOf_append, flatOf_one, List.length_append]; exact h))
  · skip
    have h1 : ¬ (((i : Nat) : Int) < ((l.length : Nat) : Int)) := h1
    refine WPc.exit ?_
    refine Out.then_exit ?_
    refine Out.then_exit ?_
    refine Out.block_exit ?_
    refine Out.next ?_
    refine WPc.seq ?_
    refine WPc.fact (fun w h => own_oneCell h) (fun on3 => ?_)
    refine WPc.region ?_
    refine WP.val rfl rfl rfl (Val.loadAgg (cs := [.int .i64 (md.m), .int .i64 (md.s), v3]) rfl Ty.ag35 rfl rfl (fun w h => h.range 2 rfl rfl)) ?_
    refine WP.perm pl3 ?_
    refine WP.eff0 rfl rfl (Eff.storeAgg (cs := [.int .i64 (md.m), .int .i64 (md.s), v3]) (C' := [.int .i64 (md.m), .int .i64 (md.s), v3]) rfl Ty.ag35 rfl rfl rfl (by simp only [List.all_cons, List.all_nil, Bool.and_true, oc_int, oc_str, oc_bool, oc_ptr, oc_slice, oc_iface, oc_map, on3]) (by simp) rfl) ?_
    rintro _ _ rfl
    refine WP.nil ?_
    refine Out.next ?_
    refine WPc.ret ?_
    have hil : i = l.length := by omega
    rw [hil, List.take_length] at hg2
    refine Out.perm pl3 ?_
    refine Out.drop ?_
    refine Out.perm pl3 ?_
    refine Out.drop ?_
    exact Out.retRun (L' := _) (results_cell (cs := _) Try.results78 Ty.ag35 rfl rfl (fun w h => h.range 0 rfl rfl)) ⟨v3, g2, rfl, hg2, rfl⟩ (fun w h => h.drop)

theorem dumpout_spec (A : HProp) (md : Rv) (l : List GV) (hsm : Small (l.map (·.1))) (hin : ∀ p ∈ l, Rd A 2 Rv.cells p.2 p.1.revs) (va : Value) (hva : Rd A 4 GV.cells va l) : Does Try.prog 78 [.agg #[.int .i64 (md.m), .int .i64 (md.s), va]] [A] (fun v L => ∃ (v2 : Value) (g2 : List GV), v = .agg #[.int .i64 md.m, .int .i64 md.s, v2] ∧ g2.map (·.1) = l.map (·.1) ∧ L = [Own 53 4 v2 g2.length (flatOf GV.cells g2), Kds (GVPe 32) g2, A]) := by
  rcases hva with ⟨b0, o0, c0, rfl, hr⟩ | ⟨rfl, a, c, rfl⟩
  · exact dumpout_row A md l hsm hin b0 o0 c0 hr
  · exact dumpout_nil A md a c

end Go.Proofs.Ythicijpjpijdjaa.Kt

namespace Go.Proofs.Ythicijpjpijdjaa.Ku
open Go.RowKit Go.Proofs.Ythicijpjpijdjaa Go.Proofs.Ythicijpjpijdjaa.Sl Go.Proofs.Ythicijpjpijdjaa.KyP Go.Proofs.Ythicijpjpijdjaa.Ka Go.Proofs.Ythicijpjpijdjaa.Kb Go.Proofs.Ythicijpjpijdjaa.Kc Go.Proofs.Ythicijpjpijdjaa.Kd Go.Proofs.Ythicijpjpijdjaa.Ke Go.Proofs.Ythicijpjpijdjaa.Kf Go.Proofs.Ythicijpjpijdjaa.Kg Go.Proofs.Ythicijpjpijdjaa.Kh Go.Proofs.Ythicijpjpijdjaa.Ki Go.Proofs.Ythicijpjpijdjaa.Kj Go.Proofs.Ythicijpjpijdjaa.Kk Go.Proofs.Ythicijpjpijdjaa.Kl Go.Proofs.Ythicijpjpijdjaa.Km Go.Proofs.Ythicijpjpijdjaa.Kn Go.Proofs.Ythicijpjpijdjaa.Ko Go.Proofs.Ythicijpjpijdjaa.Kp Go.Proofs.Ythicijpjpijdjaa.Kq Go.Proofs.Ythicijpjpijdjaa.Kr Go.Proofs.Ythicijpjpijdjaa.Ks Go.Proofs.Ythicijpjpijdjaa.Kt
set_option linter.unusedVariables false
set_option linter.unusedSimpArgs false
set_option linter.unusedSectionVars false


/-- a key's index: its last revision and its lives -/
structure KI where
  md : Rv
  gs : List Gn
def GVO (p : GV) : HProp := OwnO 81 2 p.2 p.1.revs.length (flatOf Rv.cells p.1.revs)
abbrev kcells (ka : Option Addr) (kn kc : Nat) (md : Rv) (vg : Value) : List Value := [.slice ka kn kc, .int .i64 md.m, .int .i64 md.s, vg]
/-- it stands in memory, at b -/
def KIs (b : Nat) (ka : Option Addr) (kn kc : Nat) (s : KI) : HProp := Ex fun q : Value × List GV => Sep [Pure (q.2.map (·.1) = s.gs), Blk b (kcells ka kn kc s.md q.1) 153, OwnO 155 4 q.1 q.2.length (flatOf GV.cells q.2), Kds GVO q.2]
theorem kdsO_rdB {W : World} : ∀ (gl : List GV) (w : World) (L : List HProp), Sat W (Kds GVO gl :: L) w → ∃ E : HProp, (∀ p ∈ gl, Rd E 2 Rv.cells p.2 p.1.revs) ∧ Sat W (E :: L) w ∧ ∀ w L, Sat W (E :: L) w → Sat W (Kds GVO gl :: L) w
  | [], w, L, h => ⟨Pure True, fun p hp => (by cases hp), Sat.pure_mk trivial h.drop, fun w L h => Sat.kNil h.drop⟩
  | p :: gl, w, L, h => by
    have h1 := h.kCons
    obtain ⟨A, hA, h2, h3⟩ := ownO_rdB (cf := Rv.cells) (l := p.1.revs) Rv.len h1
    obtain ⟨E, hE, h4, h5⟩ := kdsO_rdB gl w (A :: L) (h2.perm (List.Perm.swap _ _ _))
    refine ⟨Sep [A, E], ?_, Sat.sep_mk (M := [A, E]) (h4.perm (List.Perm.swap _ _ _)), fun w L h => ?_⟩
    · intro q hq
      rcases List.mem_cons.1 hq with rfl | hq
      · exact hA.mono (fun w hw => Holds.sep2a hw)
      · exact (hE q hq).mono (fun w hw => Holds.sep2b hw)
    · have h6 : Sat W (A :: E :: L) w := h.sep
      have h7 := h5 w (A :: L) (h6.perm (List.Perm.swap _ _ _))
      exact (h3 w (Kds GVO gl :: L) (h7.perm (List.Perm.swap _ _ _))).kConsMk
theorem gensO_rd {W w : World} {e : TypeId} {vg : Value} {gl : List GV} {L : List HProp} (h : Sat W (OwnO e 4 vg gl.length (flatOf GV.cells gl) :: Kds GVO gl :: L) w) : ∃ E : HProp, RdG E vg gl ∧ Sat W (E :: L) w ∧ ∀ w L, Sat W (E :: L) w → Sat W (OwnO e 4 vg gl.length (flatOf GV.cells gl) :: Kds GVO gl :: L) w := by
  obtain ⟨A, hA, h2, h3⟩ := ownO_rdB GV.len h
  obtain ⟨E, hE, h4, h5⟩ := kdsO_rdB gl w (A :: L) (h2.perm (List.Perm.swap _ _ _))
  refine ⟨Sep [A, E], ⟨hA.mono (fun w hw => Holds.sep2a hw), fun p hp => (hE p hp).mono (fun w hw => Holds.sep2b hw)⟩, Sat.sep_mk (M := [A, E]) (h4.perm (List.Perm.swap _ _ _)), fun w L h => ?_⟩
  have h6 : Sat W (A :: E :: L) w := h.sep
  have h7 := h5 w (A :: L) (h6.perm (List.Perm.swap _ _ _))
  exact h3 w (Kds GVO gl :: L) (h7.perm (List.Perm.swap _ _ _))
theorem kds_toO {W : World} : ∀ (gl : List GV) (w : World) (L : List HProp), Sat W (Kds (GVPe 81) gl :: L) w → Sat W (Kds GVO gl :: L) w
  | [], w, L, h => Sat.kNil h.drop
  | p :: gl, w, L, h => by
    have h1 : Sat W (GVO p :: Kds (GVPe 81) gl :: L) w := (h.kCons).ownToO
    have h2 := kds_toO gl w (GVO p :: L) (h1.perm (List.Perm.swap _ _ _))
    exact (h2.perm (List.Perm.swap _ _ _)).kConsMk
theorem kis_mk {W w : World} {b : Nat} {ka : Option Addr} {kn kc : Nat} {s : KI} {vg : Value} {gl : List GV} {L : List HProp} (hg : gl.map (·.1) = s.gs) (h : Sat W (Blk b (kcells ka kn kc s.md vg) 153 :: OwnO 155 4 vg gl.length (flatOf GV.cells gl) :: Kds GVO gl :: L) w) : Sat W (KIs b ka kn kc s :: L) w :=
  Sat.ex_mk (vg, gl) (Sat.sep_mk (M := [Pure (gl.map (·.1) = s.gs), Blk b (kcells ka kn kc s.md vg) 153, OwnO 155 4 vg gl.length (flatOf GV.cells gl), Kds GVO gl]) (Sat.pure_mk hg h))
theorem kis_new {W w : World} {b : Nat} {ka : Option Addr} {kn kc : Nat} {s : KI} {vg : Value} {gl : List GV} {L : List HProp} (hg : gl.map (·.1) = s.gs) (h : Sat W (Blk b (kcells ka kn kc s.md vg) 153 :: Own 155 4 vg gl.length (flatOf GV.cells gl) :: Kds (GVPe 81) gl :: L) w) : Sat W (KIs b ka kn kc s :: L) w := by
  have h1 := (h.perm (List.Perm.swap _ _ _)).ownToO
  have h2 : Sat W (Kds (GVPe 81) gl :: Blk b (kcells ka kn kc s.md vg) 153 :: OwnO 155 4 vg gl.length (flatOf GV.cells gl) :: L) w := h1.perm (by
    refine List.Perm.trans ?_ (List.Perm.trans (List.Perm.cons _ (List.Perm.swap _ _ _)) (List.Perm.swap _ _ _)) |>.symm.symm
    exact List.Perm.swap _ _ _)
  have h3 := kds_toO gl w _ h2
  exact kis_mk hg (h3.perm ((List.Perm.swap _ _ _).trans (List.Perm.cons _ (List.Perm.swap _ _ _))))
theorem kis_own {W w : World} {b : Nat} {ka : Option Addr} {kn kc : Nat} {s : KI} {L : List HProp} (h : Sat W (KIs b ka kn kc s :: L) w) : ∃ q : Value × List GV, Sat W (Pure (q.2.map (·.1) = s.gs) :: Blk b (kcells ka kn kc s.md q.1) 153 :: OwnO 155 4 q.1 q.2.length (flatOf GV.cells q.2) :: Kds GVO q.2 :: L) w := by
  obtain ⟨q, h⟩ := h.ex
  exact ⟨q, h.sep⟩
theorem kis_rd {W w : World} {b : Nat} {ka : Option Addr} {kn kc : Nat} {s : KI} {L : List HProp} (h : Sat W (KIs b ka kn kc s :: L) w) : ∃ q : Value × List GV × HProp, Sat W (Pure (q.2.1.map (·.1) = s.gs ∧ RdG q.2.2 q.1 q.2.1 ∧ ∀ w L, Sat W (Blk b (kcells ka kn kc s.md q.1) 153 :: q.2.2 :: L) w → Sat W (KIs b ka kn kc s :: L) w) :: Blk b (kcells ka kn kc s.md q.1) 153 :: q.2.2 :: L) w := by
  obtain ⟨q, h⟩ := kis_own h
  have hg := h.pure
  have h1 := h.drop
  have h2 : Sat W (OwnO 155 4 q.1 q.2.length (flatOf GV.cells q.2) :: Kds GVO q.2 :: Blk b (kcells ka kn kc s.md q.1) 153 :: L) w := h1.perm ((List.Perm.swap _ _ _).trans (List.Perm.cons _ (List.Perm.swap _ _ _)))
  obtain ⟨E, hE, h3, h4⟩ := gensO_rd h2
  refine ⟨(q.1, q.2, E), Sat.pure_mk ⟨hg, hE, fun w L h => ?_⟩ (h3.perm (List.Perm.swap _ _ _))⟩
  have h5 := h4 w _ (h.perm (List.Perm.swap _ _ _))
  exact kis_mk hg (h5.perm ((List.Perm.cons _ (List.Perm.swap _ _ _)).trans (List.Perm.swap _ _ _)))
def emp (gs : List Gn) : Bool := match gs with
  | [g] => decide (g.revs.length = 0)
  | _ => false
theorem emp_no {gs : List Gn} (h : gs.length ≠ 1) : emp gs = false := by
  unfold emp
  split
  · exact absurd rfl h
  · rfl
theorem emp_one {gs : List Gn} {g : Gn} (h1 : gs.length = 1) (h : gs[0]? = some g) : emp gs = decide (g.revs.length = 0) := by
  match gs, h1, h with
  | [x], _, h => obtain rfl : x = g := by simpa using h
                 rfl
set_option maxRecDepth 100000 in
set_option maxHeartbeats 2000000 in
theorem kidump_spec (b : Nat) (ka : Option Addr) (kn kc : Nat) (s : KI) (hsm : Small s.gs) : Does Try.prog 79 [.agg #[.pointer (some ⟨b, 0, none⟩)]] [KIs b ka kn kc s] (fun v L => ∃ (v2 : Value) (g2 : List GV), v = .agg #[.int .i64 s.md.m, .int .i64 s.md.s, v2] ∧ g2.map (·.1) = s.gs ∧ L = [Own 135 4 v2 g2.length (flatOf GV.cells g2), Kds (GVPe 81) g2, KIs b ka kn kc s]) := by
  refine Does.enter 6 Try.func79 rfl rfl rfl fun W F => ?_
  show WPc _ _ _ _ _ [(0, .agg #[.pointer (some ⟨b, 0, none⟩)])] (KIs b ka kn kc s :: F)
  refine WPc.seq ?_
  refine WPc.region ?_
  refine WP.eff rfl rfl rfl (Eff.box (C := [.pointer (some ⟨b, 0, none⟩)]) rfl rfl rfl) ?_
  rintro _ _ ⟨b1, rfl, rfl⟩
  refine WP.eff rfl rfl rfl (Eff.alloc rfl Ty.z84) ?_
  rintro _ _ ⟨b2, rfl, rfl⟩
  refine WP.nil ?_
  refine Out.next ?_
  refine WPc.seq ?_
  refine WPc.perm pl2 ?_
  refine WPc.open (fun w h => kis_rd h) ?_
  rintro ⟨vg, gl, E⟩
  refine WPc.pure (fun hkis => ?_)
  obtain ⟨hgl, hG, back⟩ := hkis
  dsimp only at hgl hG back
  have hsg : Small (gl.map (·.1)) := by rw [hgl]; exact hsm
  show WPc _ _ _ _ _ _ (Blk b [.slice ka kn kc, .int .i64 (s.md.m), .int .i64 (s.md.s), vg] 153 :: E :: Blk b2 [.int .i64 0, .int .i64 0, .slice none 0 0] 84 :: Blk b1 [.pointer (some ⟨b, 0, none⟩)] 78 :: F)
  refine WPc.region ?_
  refine WP.val rfl rfl rfl (Val.fieldAddr (j := 0) rfl Ty.fo78_0 rfl rfl) ?_
  refine WP.val rfl rfl rfl (Val.load rfl Ty.sc76 rfl (fun w h => h.cell 3 rfl rfl)) ?_
  refine WP.perm pl1 ?_
  refine WP.perm pl1 ?_
  refine WP.eff rfl rfl rfl (Eff.call rfl rfl Try.call106 (zzout_spec E b ka kn kc s.md gl hsg hG.inn vg hG.rd)) ?_
  rintro _ _ ⟨_, ⟨v2, g2, rfl, hg2, rfl⟩, rfl⟩
  show WP _ _ _ _ _ _ _ (Own 135 4 v2 g2.length (flatOf GV.cells g2) :: Kds (GVPe 81) g2 :: Blk b [.slice ka kn kc, .int .i64 (s.md.m), .int .i64 (s.md.s), vg] 153 :: E :: Blk b2 [.int .i64 0, .int .i64 0, .slice none 0 0] 84 :: Blk b1 [.pointer (some ⟨b, 0, none⟩)] 78 :: F)
  refine WP.perm pl3 ?_
  refine WP.perm pl3 ?_
  refine WP.conv (fun w h => back w _ h) ?_
  show WP _ _ _ _ _ _ _ (KIs b ka kn kc s :: Own 135 4 v2 g2.length (flatOf GV.cells g2) :: Kds (GVPe 81) g2 :: Blk b2 [.int .i64 0, .int .i64 0, .slice none 0 0] 84 :: Blk b1 [.pointer (some ⟨b, 0, none⟩)] 78 :: F)
  refine WP.perm pl1 ?_
  refine WP.fact (fun w h => own_oneCell h) (fun on2 => ?_)
  refine WP.perm pl3 ?_
  refine WP.eff0 rfl rfl (Eff.storeAgg (cs := [.int .i64 (s.md.m), .int .i64 (s.md.s), v2]) (C' := [.int .i64 (s.md.m), .int .i64 (s.md.s), v2]) rfl Ty.ag84 rfl rfl rfl (by simp only [List.all_cons, List.all_nil, Bool.and_true, oc_int, oc_str, oc_bool, oc_ptr, oc_slice, oc_iface, oc_map, on2]) (by simp) rfl) ?_
  rintro _ _ rfl
  refine WP.nil ?_
  refine Out.next ?_
  refine WPc.ret ?_
  refine Out.perm pl4 ?_
  refine Out.drop ?_
  refine Out.perm pl2 ?_
  refine Out.perm pl3 ?_
  refine Out.perm pl3 ?_
  refine Out.perm pl3 ?_
  exact Out.retRun (L' := _) (results_cell (cs := _) Try.results79 Ty.ag84 rfl rfl (fun w h => h.range 0 rfl rfl)) ⟨v2, g2, rfl, hg2.trans hgl, rfl⟩ (fun w h => h.drop)
set_option maxRecDepth 100000 in
set_option maxHeartbeats 2000000 in
theorem gempty_nil (z : Nat) : Does Try.prog 112 [.pointer none] [] (fun v L => v = .bool true ∧ L = []) := by
  refine Does.enter 13 Try.func112 rfl rfl rfl fun W F => ?_
  show WPc _ _ _ _ _ [(0, .pointer none)] (F)
  refine WPc.seq ?_
  refine WPc.region ?_
  refine WP.val rfl rfl rfl (Val.assign rfl rfl) ?_
  refine WP.nil ?_
  refine Out.next ?_
  refine WPc.seq ?_
  refine WPc.region ?_
  refine WP.val rfl rfl rfl (Val.move rfl rfl) ?_
  refine WP.val rfl rfl rfl (Val.nilP rfl Ty.ip149 rfl rfl) ?_
  refine WP.val rfl rfl rfl (Val.move rfl rfl) ?_
  refine WP.skip rfl rfl rfl rfl rfl rfl rfl ?_
  refine WP.skip rfl rfl rfl rfl rfl rfl rfl ?_
  refine WP.skip rfl rfl rfl rfl rfl rfl rfl ?_
  refine WP.skip rfl rfl rfl rfl rfl rfl rfl ?_
  refine WP.skip rfl rfl rfl rfl rfl rfl rfl ?_
  refine WP.skip rfl rfl rfl rfl rfl rfl rfl ?_
  refine WP.val rfl rfl rfl (Val.pickT rfl rfl rfl) ?_
  refine WP.val rfl rfl rfl (Val.assign rfl rfl) ?_
  refine WP.nil ?_
  refine Out.next ?_
  refine WPc.ret ?_
  exact Out.ret1 (L' := []) Try.results112 rfl ⟨rfl, rfl⟩ (fun _ h => h)
set_option maxRecDepth 100000 in
set_option maxHeartbeats 2000000 in
theorem gempty_row (A : HProp) (l : List GV) (b0 o0 : Nat) (hr : ∀ w, Holds A w → ∀ i x, l[i]? = some x → w.rangeAt b0 (o0 + i * 4) (GV.cells x)) (k : Nat) (g : Gn) (u : Value) (hx : l[k]? = some (g, u)) (hin1 : Rd A 2 Rv.cells u g.revs) : Does Try.prog 112 [.pointer (some ⟨b0, o0 + k * 4, none⟩)] [A] (fun v L => v = .bool (decide (g.revs.length = 0)) ∧ L = [A]) := by
  refine Does.enter 13 Try.func112 rfl rfl rfl fun W F => ?_
  show WPc _ _ _ _ _ [(0, .pointer (some ⟨b0, o0 + k * 4, none⟩))] (A :: F)
  refine WPc.seq ?_
  refine WPc.region ?_
  refine WP.val rfl rfl rfl (Val.assign rfl rfl) ?_
  refine WP.nil ?_
  refine Out.next ?_
  refine WPc.seq ?_
  refine WPc.region ?_
  refine WP.val rfl rfl rfl (Val.move rfl rfl) ?_
  refine WP.val rfl rfl rfl (Val.nilP rfl Ty.ip149 rfl rfl) ?_
  refine WP.val rfl rfl rfl (Val.move rfl rfl) ?_
  refine WP.valG rfl rfl rfl rfl rfl rfl rfl (Val.move rfl rfl) ?_
  refine WP.valG rfl rfl rfl rfl rfl rfl rfl (Val.nilCheck rfl rfl) ?_
  refine WP.valG rfl rfl rfl rfl rfl rfl rfl (Val.fieldAddr (j := o0 + k * 4 + 3) rfl Ty.fo155_2 rfl rfl) ?_
  refine WP.valG rfl rfl rfl rfl rfl rfl rfl (Val.load (v := u) rfl Ty.sc132 rfl (fun w h => hr w (h.at 0 rfl) k (g, u) hx 3 _ rfl)) ?_
  refine WP.valG rfl rfl rfl rfl rfl rfl rfl (Rd.len hin1 rfl Ty.sl132 rfl) ?_
  refine WP.valG rfl rfl rfl rfl rfl rfl rfl (Val.eql rfl rfl rfl) ?_
  refine WP.val rfl rfl rfl (Val.pickF rfl rfl rfl) ?_
  refine WP.val rfl rfl rfl (Val.assign rfl rfl) ?_
  refine WP.nil ?_
  refine Out.next ?_
  refine WPc.ret ?_
  exact Out.ret1 (L' := _) Try.results112 rfl ⟨congrArg Value.bool (decide_eq_decide.2 (by omega)), rfl⟩ (fun _ h => h)

end Go.Proofs.Ythicijpjpijdjaa.Ku

