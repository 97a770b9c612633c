import Derived.Test.YthicijpjpijdjaaKk
namespace Go.Proofs.Ythicijpjpijdjaa.Kl
open Go.RowKit Go.Proofs.Ythicijpjpijdjaa Go.Proofs.Ythicijpjpijdjaa.Sl Go.Proofs.Ythicijpjpijdjaa.KyP Go.Proofs.Ythicijpjpijdjaa.Ka Go.Proofs.Ythicijpjpijdjaa.Kb Go.Proofs.Ythicijpjpijdjaa.Kc Go.Proofs.Ythicijpjpijdjaa.Kd Go.Proofs.Ythicijpjpijdjaa.Ke Go.Proofs.Ythicijpjpijdjaa.Kf Go.Proofs.Ythicijpjpijdjaa.Kg Go.Proofs.Ythicijpjpijdjaa.Kh Go.Proofs.Ythicijpjpijdjaa.Ki Go.Proofs.Ythicijpjpijdjaa.Kj Go.Proofs.Ythicijpjpijdjaa.Kk
set_option linter.unusedVariables false
set_option linter.unusedSimpArgs false
set_option linter.unusedSectionVars false


abbrev GV : Type := Gn × Value
def GV.cells (p : GV) : List Value := [.int .i64 p.1.v, .int .i64 p.1.c.m, .int .i64 p.1.c.s, p.2]
theorem GV.len (p : GV) : (GV.cells p).length = 4 := rfl
/-- a life's revisions, a row of one's own -/
def GVP (p : GV) : HProp := Own 32 2 p.2 p.1.revs.length (flatOf Rv.cells p.1.revs)
def dpre (q : List Gn × Bool) (x : Vn) : List Gn := if q.2 then q.1 else q.1 ++ [⟨0, x.c, []⟩]
theorem snoc_inj {α : Type} {a b : List α} {x y : α} (h : a ++ [x] = b ++ [y]) : a = b ∧ x = y := by
  have h1 := congrArg List.reverse h
  rw [List.reverse_append, List.reverse_append] at h1
  have h2 : x :: a.reverse = y :: b.reverse := h1
  injection h2 with h3 h4
  exact ⟨List.reverse_inj.1 h4, h3⟩
theorem dstep_pre {q : List Gn × Bool} {x : Vn} {P : List Gn} {g : Gn} (h : P ++ [g] = dpre q x) : dstep q x = (P ++ [⟨x.v, g.c, g.revs ++ [x.r]⟩], !x.g) := by
  unfold dpre at h
  unfold dstep
  cases hb : q.2 with
  | true =>
    rw [hb, if_pos rfl] at h
    rw [← h]
    simp
  | false =>
    rw [hb, if_neg Bool.noConfusion] at h
    obtain ⟨rfl, rfl⟩ := snoc_inj h
    simp
theorem dgo_snoc (m : List Vn) (x : Vn) : dgo (m ++ [x]) = dstep (dgo m) x := by unfold dgo; rw [List.foldl_append]; rfl
theorem dgo_ne {m : List Vn} (h : (dgo m).2 = true) : (dgo m).1 ≠ [] := by
  rcases List.eq_nil_or_concat m with rfl | ⟨a, x, rfl⟩
  · cases h
  · rw [List.concat_eq_append, dgo_snoc]
    unfold dstep
    dsimp only
    split
    · exact fun h => by simp at h
    · exact fun h => by simp at h
theorem snoc_of {α : Type} {l : List α} (h : l ≠ []) : ∃ gi p, l = gi ++ [p] := by
  rcases List.eq_nil_or_concat l with rfl | ⟨a, x, rfl⟩
  · exact absurd rfl h
  · exact ⟨a, x, List.concat_eq_append⟩
theorem set_mid {A B : List Value} {v : Value} {j : Nat} {c : Value} {C : List Value} (h : A.length = j) : (A ++ c :: C ++ B).set j v = A ++ v :: C ++ B := by
  subst h; simp
theorem gv_set0 (gi : List GV) (g : Gn) (u : Value) (sp : List Value) (v : Int) : (flatOf GV.cells gi ++ GV.cells (g, u) ++ sp).set (gi.length * 4) (.int .i64 v) = flatOf GV.cells gi ++ GV.cells (⟨v, g.c, g.revs⟩, u) ++ sp :=
  set_mid (flatOf_length GV.len gi)
theorem gv_set3 (gi : List GV) (g : Gn) (u : Value) (sp : List Value) (v : Value) : (flatOf GV.cells gi ++ GV.cells (g, u) ++ sp).set (gi.length * 4 + 3) v = flatOf GV.cells gi ++ GV.cells (g, v) ++ sp := by
  have h := set_mid (A := flatOf GV.cells gi ++ [.int .i64 g.v, .int .i64 g.c.m, .int .i64 g.c.s]) (B := sp) (v := v) (c := u) (C := []) (j := gi.length * 4 + 3) (by rw [List.length_append, flatOf_length GV.len gi]; rfl)
  simp only [List.append_assoc, GV.cells] at h ⊢
  exact h
theorem gv_at3 (gi : List GV) (g : Gn) (u : Value) (sp : List Value) : (flatOf GV.cells gi ++ GV.cells (g, u) ++ sp)[gi.length * 4 + 3]? = some u := by
  rw [List.append_assoc, List.getElem?_append_right (by rw [flatOf_length GV.len gi]; omega), flatOf_length GV.len gi, show gi.length * 4 + 3 - gi.length * 4 = 3 from by omega]
  rfl
theorem gv_lt (gi : List GV) (p : GV) (sp : List Value) (j : Nat) (h : j < 4) : gi.length * 4 + j < (flatOf GV.cells gi ++ GV.cells p ++ sp).length := by
  rw [List.length_append, List.length_append, flatOf_length GV.len gi, GV.len]; omega
theorem dgo_len : ∀ m : List Vn, (dgo m).1.length ≤ m.length := by
  intro m
  generalize hn : m.length = n
  induction n generalizing m with
  | zero => rw [List.eq_nil_of_length_eq_zero hn]; exact Nat.le_refl _
  | succ n ih =>
    rcases List.eq_nil_or_concat m with rfl | ⟨a, x, rfl⟩
    · cases hn
    · rw [List.concat_eq_append] at hn ⊢
      rw [dgo_snoc]
      have h := ih a (by simpa using hn)
      unfold dstep
      dsimp only
      split
      · simp; omega
      · simp; omega
theorem inner_len : ∀ m : List Vn, ∀ g ∈ (dgo m).1, g.revs.length ≤ m.length := by
  intro m
  generalize hn : m.length = n
  induction n generalizing m with
  | zero => rw [List.eq_nil_of_length_eq_zero hn]; exact fun g hg => by cases hg
  | succ n ih =>
    rcases List.eq_nil_or_concat m with rfl | ⟨a, x, rfl⟩
    · cases hn
    · rw [List.concat_eq_append] at hn ⊢
      rw [dgo_snoc]
      have h := ih a (by simpa using hn)
      unfold dstep
      dsimp only
      split
      · rename_i g0 _ hg0
        intro g hg
        rcases List.mem_append.1 hg with hg | hg
        · exact Nat.le_succ_of_le (h g (List.mem_of_mem_take hg))
        · obtain rfl := List.mem_singleton.1 hg
          have := h g0 (List.mem_iff_getElem?.2 ⟨_, hg0⟩)
          simp; omega
      · intro g hg
        rcases List.mem_append.1 hg with hg | hg
        · exact Nat.le_succ_of_le (h g hg)
        · obtain rfl := List.mem_singleton.1 hg
          simp
theorem dpre_inner {m : List Vn} {x : Vn} {P : List Gn} {g : Gn} (h : P ++ [g] = dpre (dgo m) x) : g.revs.length ≤ m.length ∧ P.length ≤ m.length := by
  have h1 := dgo_len m
  have h2 := inner_len m
  unfold dpre at h
  split at h
  · rw [← h] at h1 h2
    exact ⟨h2 g (by simp), by simp at h1; omega⟩
  · obtain ⟨rfl, rfl⟩ := snoc_inj h
    exact ⟨Nat.zero_le _, h1⟩

theorem meetA {W w : World} {vg : Value} {gi : List GV} {p : GV} {L : List HProp} {n : Nat} {c : List Value} (h : Sat W (Own 53 4 vg n c :: Kds GVP (gi ++ [p]) :: L) w) : Sat W (Own 53 4 vg n c :: GVP p :: Kds GVP gi :: L) w := by
  have h1 := (h.perm (List.Perm.swap _ _ _)).kApp
  have h2 := (h1.perm (List.Perm.swap _ _ _)).kCons
  have h3 : Sat W (GVP p :: Kds GVP gi :: Own 53 4 vg n c :: L) w := by
    have h4 := (h2.perm (show List.Perm (GVP p :: Kds GVP [] :: Kds GVP gi :: Own 53 4 vg n c :: L) (Kds GVP [] :: GVP p :: Kds GVP gi :: Own 53 4 vg n c :: L) from List.Perm.swap _ _ _)).drop
    exact h4
  exact h3.perm ((List.Perm.cons _ (List.Perm.swap _ _ _)).trans (List.Perm.swap _ _ _))
theorem meetB {W w : World} {v : Value} {gi : List GV} {c : List Value} {n : Nat} {g : Gn} {L : List HProp} (hg : g.revs = []) (h : Sat W (Own 53 4 v n c :: Kds GVP gi :: L) w) : Sat W (Own 53 4 v n c :: GVP (g, Value.slice none 0 0) :: Kds GVP gi :: L) w := by
  have h1 := h.ownNil (e := 32) (k := 2)
  have h2 : Sat W (GVP (g, Value.slice none 0 0) :: Own 53 4 v n c :: Kds GVP gi :: L) w := by
    unfold GVP; rw [hg]; exact h1
  exact h2.perm (List.Perm.swap _ _ _)
theorem againL {W w : World} {v : Value} {gi : List GV} {c : List Value} {n : Nat} {p : GV} {L : List HProp} (h : Sat W (Own 53 4 v n c :: GVP p :: Kds GVP gi :: L) w) : Sat W (Own 53 4 v n c :: Kds GVP (gi ++ [p]) :: L) w := by
  have h1 : Sat W (GVP p :: Kds GVP gi :: Own 53 4 v n c :: L) w := h.perm ((List.Perm.swap _ _ _).trans (List.Perm.cons _ (List.Perm.swap _ _ _)))
  have h2 := Sat.kPerm (R := GVP) (ms := gi ++ [p]) (by simpa using (List.perm_append_comm (l₁ := [p]) (l₂ := gi))) h1.kConsMk
  exact h2.perm (List.Perm.swap _ _ _)
theorem tailL {W w : World} {v : Value} {gi : List GV} {g : Gn} {L : List HProp} (hg : g.revs = []) (h : Sat W (Own 53 4 v (gi.length + 1) (flatOf GV.cells gi ++ GV.cells (g, Value.slice none 0 0)) :: Kds GVP gi :: L) w) : Sat W (Own 53 4 v (gi ++ [(g, Value.slice none 0 0)]).length (flatOf GV.cells (gi ++ [(g, Value.slice none 0 0)])) :: Kds GVP (gi ++ [(g, Value.slice none 0 0)]) :: L) w := by
  rw [flatOf_append, flatOf_one, List.length_append]
  exact againL (meetB hg h)
set_option maxRecDepth 100000 in
set_option maxHeartbeats 1000000 in
theorem dump_nil (A : HProp) (a : Option Addr) (c : Nat) : Does Try.prog 11 [.slice a 0 c] [A] (fun v L => ∃ (vg : Value) (gl : List GV), v = .agg #[.int .i64 (modi ([] : List Vn)).m, .int .i64 (modi ([] : List Vn)).s, vg] ∧ gl.map (·.1) = dgens ([] : List Vn) ∧ L = [Own 53 4 vg gl.length (flatOf GV.cells gl), Kds GVP gl, A]) := by
  refine Does.enter 69 Try.func11 rfl rfl rfl fun W F => ?_
  show WPc _ _ _ _ _ [(0, .slice a 0 c)] (A :: F)
  refine WPc.seq ?_
  refine WPc.region ?_
  refine WP.eff rfl rfl rfl (Eff.alloc rfl Ty.z35) ?_
  rintro _ _ ⟨b1, rfl, rfl⟩
  refine WP.nil ?_
  refine Out.next ?_
  refine WPc.seq ?_
  refine WPc.region ?_
  refine WP.val rfl rfl rfl (Val.move rfl rfl) ?_
  refine WP.perm pl1 ?_
  refine WP.eff rfl rfl rfl (Eff.call rfl rfl Try.call28 (mod_spec A [] (by simp) (.slice a 0 c) (.inr ⟨rfl, a, c, rfl⟩))) ?_
  rintro _ _ ⟨_, ⟨rfl, rfl⟩, rfl⟩
  show WP _ _ _ _ _ _ _ (A :: Blk b1 [.int .i64 0, .int .i64 0, .slice none 0 0] 35 :: F)
  refine WP.val rfl rfl rfl (Val.mk (cs := [.int .i64 ((modi []).m), .int .i64 ((modi []).s), .slice none 0 0]) rfl rfl (fun _ => by kernel_rfl)) ?_
  refine WP.eff rfl rfl rfl (Eff.alloc rfl Ty.z35) ?_
  rintro _ _ ⟨b2, rfl, rfl⟩
  refine WP.eff0 rfl rfl (Eff.storeAgg (cs := [.int .i64 ((modi []).m), .int .i64 ((modi []).s), .slice none 0 0]) (C' := [.int .i64 ((modi []).m), .int .i64 ((modi []).s), .slice none 0 0]) rfl Ty.ag35 rfl rfl rfl rfl (by simp) rfl) ?_
  rintro _ _ rfl
  refine WP.nil ?_
  refine Out.next ?_
  refine WPc.seq ?_
  refine WPc.conv (fun w h => Sat.kNil (R := GVP) h) ?_
  refine WPc.conv (fun w h => h.ownNil (e := 53) (k := 4)) ?_
  show WPc _ _ _ _ _ _ (Own 53 4 (.slice none 0 0) 0 ([]) :: Kds GVP [] :: Blk b2 [.int .i64 ((modi []).m), .int .i64 ((modi []).s), .slice none 0 0] 35 :: A :: Blk b1 [.int .i64 0, .int .i64 0, .slice none 0 0] 35 :: F)
  refine WPc.region ?_
  refine WP.val rfl rfl rfl (Val.assign rfl rfl) ?_
  refine WP.nil ?_
  refine Out.next ?_
  refine WPc.seq ?_
  refine WPc.seq ?_
  refine WPc.region ?_
  refine WP.val rfl rfl rfl (Val.move rfl rfl) ?_
  refine WP.val rfl rfl rfl (Val.len rfl Ty.sl23 rfl) ?_
  refine WP.val rfl rfl rfl (Val.move rfl rfl) ?_
  refine WP.nil ?_
  refine Out.next ?_
  refine WPc.block ?_
  refine WPc.perm pl3 ?_
  refine WPc.perm pl4 ?_
  refine WPc.perm pl4 ?_
  refine WPc.perm pl4 ?_
  refine WPc.perm pl4 ?_
  refine WPc.loop (ι := Nat × Bool × Value × List GV) (fun ⟨i, bg, vg, gl⟩ => i ≤ 0 ∧ gl.map (·.1) = (dgo (([] : List Vn).take i)).1 ∧ bg = (dgo (([] : List Vn).take i)).2) (fun ⟨i, bg, vg, gl⟩ => [(0, .slice a 0 c), (2, .pointer (some ⟨b1, 0, none⟩)), (3, .pointer (some ⟨b2, 0, none⟩)), (4, .bool (bg)), (11, .slice a 0 c), (12, .int .i64 0), (13, .int .i64 (((i : Nat) : Int)))]) (fun ⟨i, bg, vg, gl⟩ => Own 53 4 vg gl.length (flatOf GV.cells gl) :: Kds GVP gl :: Blk b2 [.int .i64 ((modi ([] : List Vn)).m), .int .i64 ((modi ([] : List Vn)).s), vg] 35 :: Blk b1 [.int .i64 0, .int .i64 0, .slice none 0 0] 35 :: A :: F) (fun ⟨i, bg, vg, gl⟩ => 0 - i) (0, false, .slice none 0 0, []) ⟨Nat.zero_le _, rfl, rfl⟩ ((Sub.cons rfl (Sub.cons rfl (Sub.cons rfl (Sub.cons rfl (Sub.cons rfl (Sub.cons rfl (Sub.cons rfl Sub.nil)))))))) (fun _ h => h) ?_
  rintro ⟨i, bg, vg, gl⟩ ⟨hi, hgl, hbg⟩
  show WPc _ _ _ _ _ [(0, .slice a 0 c), (2, .pointer (some ⟨b1, 0, none⟩)), (3, .pointer (some ⟨b2, 0, none⟩)), (4, .bool (bg)), (11, .slice a 0 c), (12, .int .i64 0), (13, .int .i64 (((i : Nat) : Int)))] (Own 53 4 vg gl.length (flatOf GV.cells gl) :: Kds GVP gl :: Blk b2 [.int .i64 ((modi ([] : List Vn)).m), .int .i64 ((modi ([] : List Vn)).s), vg] 35 :: Blk b1 [.int .i64 0, .int .i64 0, .slice none 0 0] 35 :: A :: F)
  replace hi : i ≤ 0 := hi
  replace hgl : gl.map (·.1) = _ := hgl
  replace hbg : bg = _ := hbg
  have hgn0 := congrArg List.length hgl
  have hdl0 := dgo_len (([] : List Vn).take i)
  rw [List.length_map] at hgn0
  rw [List.length_take] at hdl0
  refine WPc.seq ?_
  refine WPc.region ?_
  refine WP.val rfl rfl rfl (Val.lss rfl rfl rfl) ?_
  refine WP.nil ?_
  refine Out.next ?_
  refine WPc.seq ?_
  refine WPc.ifP rfl (fun h1 => ?_) (fun h1 => ?_)
  · skip
    have h1 : (((i : Nat) : Int) < (0 : Int)) := h1
    exfalso; omega
  · skip
    have h1 : ¬ (((i : Nat) : Int) < (0 : Int)) := h1
    refine WPc.exit ?_
    refine Out.then_exit ?_
    refine Out.then_exit ?_
    refine Out.block_exit ?_
    refine Out.next ?_
    refine WPc.seq ?_
    refine WPc.seq ?_
    have hil : i = 0 := by omega
    rw [hil] at hgl
    have hgn := congrArg List.length hgl
    rw [List.length_map] at hgn
    have hdl := dgo_len ([] : List Vn)
    simp only [List.length_nil] at hdl
    refine WPc.region ?_
    refine WP.val rfl rfl rfl (Val.move rfl rfl) ?_
    refine WP.val rfl rfl rfl (Val.len rfl Ty.sl23 rfl) ?_
    refine WP.val rfl rfl rfl (Val.gtr rfl rfl rfl) ?_
    refine WP.val rfl rfl rfl (Val.move rfl rfl) ?_
    refine WP.split 57 rfl (fun h2 => ?_) (fun h2 => ?_)
    · skip
      have h2 : ((0 : Int) < (0 : Int)) := h2
      exfalso; omega
    · skip
      have h2 : ¬ ((0 : Int) < (0 : Int)) := h2
      refine WP.skip rfl rfl rfl rfl rfl rfl rfl ?_
      refine WP.skip rfl rfl rfl rfl rfl rfl rfl ?_
      refine WP.skip rfl rfl rfl rfl rfl rfl rfl ?_
      refine WP.val rfl rfl rfl (Val.pickF rfl rfl rfl) ?_
      refine WP.nil ?_
      refine Out.next ?_
      refine WPc.condF rfl rfl ?_
      refine WPc.skip ?_
      refine Out.next ?_
      refine WPc.seq ?_
      refine WPc.fact (fun w h => own_oneCell h) (fun onvg => ?_)
      refine WPc.region ?_
      refine WP.val rfl rfl rfl (Val.loadAgg (cs := [.int .i64 ((modi ([] : List Vn)).m), .int .i64 ((modi ([] : List Vn)).s), vg]) rfl Ty.ag35 rfl rfl (fun w h => h.range 2 rfl rfl)) ?_
      refine WP.perm pl3 ?_
      refine WP.eff0 rfl rfl (Eff.storeAgg (cs := [.int .i64 ((modi ([] : List Vn)).m), .int .i64 ((modi ([] : List Vn)).s), vg]) (C' := [.int .i64 ((modi ([] : List Vn)).m), .int .i64 ((modi ([] : List Vn)).s), vg]) rfl Ty.ag35 rfl rfl rfl (by simp only [List.all_cons, List.all_nil, Bool.and_true, oc_int, oc_str, oc_bool, oc_ptr, oc_slice, oc_iface, oc_map, onvg]) (by simp) rfl) ?_
      rintro _ _ rfl
      refine WP.nil ?_
      refine Out.next ?_
      refine WPc.ret ?_
      refine Out.perm pl3 ?_
      refine Out.drop ?_
      exact Out.retRun (L' := _) (results_cell (cs := _) Try.results11 Ty.ag35 rfl rfl (fun w h => h.range 0 rfl rfl)) ⟨vg, gl, rfl, by rw [hgl]; rfl, rfl⟩ (fun w h => h.drop)

set_option maxRecDepth 100000 in
set_option maxHeartbeats 1000000 in
theorem dump_row (A : HProp) (l : List Vn) (hl : l.length ≤ 100000) (b0 o0 c0 : Nat) (hr : ∀ w, Holds A w → ∀ i x, l[i]? = some x → w.rangeAt b0 (o0 + i * 6) (Vn.cells x)) : Does Try.prog 11 [.slice (some ⟨b0, o0, none⟩) l.length c0] [A] (fun v L => ∃ (vg : Value) (gl : List GV), v = .agg #[.int .i64 (modi l).m, .int .i64 (modi l).s, vg] ∧ gl.map (·.1) = dgens l ∧ L = [Own 53 4 vg gl.length (flatOf GV.cells gl), Kds GVP gl, A]) := by
  refine Does.enter 69 Try.func11 rfl rfl rfl fun W F => ?_
  show WPc _ _ _ _ _ [(0, .slice (some ⟨b0, o0, none⟩) l.length c0)] (A :: F)
  refine WPc.seq ?_
  refine WPc.region ?_
  refine WP.eff rfl rfl rfl (Eff.alloc rfl Ty.z35) ?_
  rintro _ _ ⟨b1, rfl, rfl⟩
  refine WP.nil ?_
  refine Out.next ?_
  refine WPc.seq ?_
  refine WPc.region ?_
  refine WP.val rfl rfl rfl (Val.move rfl rfl) ?_
  refine WP.perm pl1 ?_
  refine WP.eff rfl rfl rfl (Eff.call rfl rfl Try.call28 (mod_spec A l hl (.slice (some ⟨b0, o0, none⟩) l.length c0) (.inl ⟨b0, o0, c0, rfl, hr⟩))) ?_
  rintro _ _ ⟨_, ⟨rfl, rfl⟩, rfl⟩
  show WP _ _ _ _ _ _ _ (A :: Blk b1 [.int .i64 0, .int .i64 0, .slice none 0 0] 35 :: F)
  refine WP.val rfl rfl rfl (Val.mk (cs := [.int .i64 ((modi l).m), .int .i64 ((modi l).s), .slice none 0 0]) rfl rfl (fun _ => by kernel_rfl)) ?_
  refine WP.eff rfl rfl rfl (Eff.alloc rfl Ty.z35) ?_
  rintro _ _ ⟨b2, rfl, rfl⟩
  refine WP.eff0 rfl rfl (Eff.storeAgg (cs := [.int .i64 ((modi l).m), .int .i64 ((modi l).s), .slice none 0 0]) (C' := [.int .i64 ((modi l).m), .int .i64 ((modi l).s), .slice none 0 0]) rfl Ty.ag35 rfl rfl rfl rfl (by simp) rfl) ?_
  rintro _ _ rfl
  refine WP.nil ?_
  refine Out.next ?_
  refine WPc.seq ?_
  refine WPc.conv (fun w h => Sat.kNil (R := GVP) h) ?_
  refine WPc.conv (fun w h => h.ownNil (e := 53) (k := 4)) ?_
  show WPc _ _ _ _ _ _ (Own 53 4 (.slice none 0 0) 0 ([]) :: Kds GVP [] :: Blk b2 [.int .i64 ((modi l).m), .int .i64 ((modi l).s), .slice none 0 0] 35 :: A :: Blk b1 [.int .i64 0, .int .i64 0, .slice none 0 0] 35 :: F)
  refine WPc.region ?_
  refine WP.val rfl rfl rfl (Val.assign rfl rfl) ?_
  refine WP.nil ?_
  refine Out.next ?_
  refine WPc.seq ?_
  refine WPc.seq ?_
  refine WPc.region ?_
  refine WP.val rfl rfl rfl (Val.move rfl rfl) ?_
  refine WP.val rfl rfl rfl (Val.len rfl Ty.sl23 rfl) ?_
  refine WP.val rfl rfl rfl (Val.move rfl rfl) ?_
  refine WP.nil ?_
  refine Out.next ?_
  refine WPc.block ?_
  refine WPc.perm pl3 ?_
  refine WPc.perm pl4 ?_
  refine WPc.perm pl4 ?_
  refine WPc.perm pl4 ?_
  refine WPc.perm pl4 ?_
  refine WPc.loop (ι := Nat × Bool × Value × List GV) (fun ⟨i, bg, vg, gl⟩ => i ≤ l.length ∧ gl.map (·.1) = (dgo (l.take i)).1 ∧ bg = (dgo (l.take i)).2) (fun ⟨i, bg, vg, gl⟩ => [(0, .slice (some ⟨b0, o0, none⟩) l.length c0), (2, .pointer (some ⟨b1, 0, none⟩)), (3, .pointer (some ⟨b2, 0, none⟩)), (4, .bool (bg)), (11, .slice (some ⟨b0, o0, none⟩) l.length c0), (12, .int .i64 (((l.length : Nat) : Int))), (13, .int .i64 (((i : Nat) : Int)))]) (fun ⟨i, bg, vg, gl⟩ => Own 53 4 vg gl.length (flatOf GV.cells gl) :: Kds GVP gl :: Blk b2 [.int .i64 ((modi l).m), .int .i64 ((modi l).s), vg] 35 :: Blk b1 [.int .i64 0, .int .i64 0, .slice none 0 0] 35 :: A :: F) (fun ⟨i, bg, vg, gl⟩ => l.length - i) (0, false, .slice none 0 0, []) ⟨Nat.zero_le _, rfl, rfl⟩ ((Sub.cons rfl (Sub.cons rfl (Sub.cons rfl (Sub.cons rfl (Sub.cons rfl (Sub.cons rfl (Sub.cons rfl Sub.nil)))))))) (fun _ h => h) ?_
  rintro ⟨i, bg, vg, gl⟩ ⟨hi, hgl, hbg⟩
  show WPc _ _ _ _ _ [(0, .slice (some ⟨b0, o0, none⟩) l.length c0), (2, .pointer (some ⟨b1, 0, none⟩)), (3, .pointer (some ⟨b2, 0, none⟩)), (4, .bool (bg)), (11, .slice (some ⟨b0, o0, none⟩) l.length c0), (12, .int .i64 (((l.length : Nat) : Int))), (13, .int .i64 (((i : Nat) : Int)))] (Own 53 4 vg gl.length (flatOf GV.cells gl) :: Kds GVP gl :: Blk b2 [.int .i64 ((modi l).m), .int .i64 ((modi l).s), vg] 35 :: Blk b1 [.int .i64 0, .int .i64 0, .slice none 0 0] 35 :: A :: F)
  replace hi : i ≤ l.length := hi
  replace hgl : gl.map (·.1) = _ := hgl
  replace hbg : bg = _ := hbg
  have hgn0 := congrArg List.length hgl
  have hdl0 := dgo_len (l.take i)
  rw [List.length_map] at hgn0
  rw [List.length_take] at hdl0
  refine WPc.seq ?_
  refine WPc.region ?_
  refine WP.val rfl rfl rfl (Val.lss rfl rfl rfl) ?_
  refine WP.nil ?_
  refine Out.next ?_
  refine WPc.seq ?_
  refine WPc.ifP rfl (fun h1 => ?_) (fun h1 => ?_)
  · skip
    have h1 : (((i : Nat) : Int) < ((l.length : Nat) : Int)) := h1
    refine WPc.skip ?_
    refine Out.next ?_
    refine WPc.seq ?_
    refine WPc.block ?_
    refine WPc.seq ?_
    have hlt : i < l.length := by omega
    obtain ⟨x, hx⟩ : ∃ x, l[i]? = some x := ⟨_, List.getElem?_eq_getElem hlt⟩
    refine WPc.region ?_
    refine WP.val rfl rfl rfl (Val.indexAddr (j := i) (q := o0 + i * 6) rfl Ty.sl23 rfl rfl (by omega) (by omega) (by omega)) ?_
    refine WP.val rfl rfl rfl (Val.loadAgg (cs := (Vn.cells x)) rfl Ty.ag47 rfl (by rfl) (fun w h => hr w (h.at 4 rfl) i x hx)) ?_
    refine WP.eff rfl rfl rfl (Eff.alloc rfl Ty.z47) ?_
    rintro _ _ ⟨b3, rfl, rfl⟩
    refine WP.eff0 rfl rfl (Eff.storeAgg (cs := [.int .i64 (x.r.m), .int .i64 (x.r.s), .int .i64 (x.c.m), .int .i64 (x.c.s), .int .i64 (x.v), .bool (x.g)]) (C' := [.int .i64 (x.r.m), .int .i64 (x.r.s), .int .i64 (x.c.m), .int .i64 (x.c.s), .int .i64 (x.v), .bool (x.g)]) rfl Ty.ag47 rfl rfl rfl rfl (by simp) rfl) ?_
    rintro _ _ rfl
    refine WP.nil ?_
    refine Out.next ?_
    refine WPc.cut (ι := Value × List GV × GV) (fun ⟨v1, gi, p⟩ => gi.map (·.1) ++ [p.1] = dpre (dgo (l.take i)) x) (fun ⟨v1, gi, p⟩ => [(0, .slice (some ⟨b0, o0, none⟩) l.length c0), (2, .pointer (some ⟨b1, 0, none⟩)), (3, .pointer (some ⟨b2, 0, none⟩)), (6, .pointer (some ⟨b3, 0, none⟩)), (11, .slice (some ⟨b0, o0, none⟩) l.length c0), (12, .int .i64 (((l.length : Nat) : Int))), (13, .int .i64 (((i : Nat) : Int)))]) (fun ⟨v1, gi, p⟩ => Own 53 4 v1 (gi.length + 1) (flatOf GV.cells gi ++ GV.cells p) :: GVP p :: Kds GVP gi :: Blk b2 [.int .i64 ((modi l).m), .int .i64 ((modi l).s), v1] 35 :: Blk b3 [.int .i64 (x.r.m), .int .i64 (x.r.s), .int .i64 (x.c.m), .int .i64 (x.c.s), .int .i64 (x.v), .bool (x.g)] 47 :: Blk b1 [.int .i64 0, .int .i64 0, .slice none 0 0] 35 :: A :: F) ?_ ?_
    · skip
      refine WPc.seq ?_
      refine WPc.region ?_
      refine WP.val rfl rfl rfl (Val.move rfl rfl) ?_
      refine WP.val rfl rfl rfl (Val.not rfl rfl) ?_
      refine WP.nil ?_
      refine Out.next ?_
      refine WPc.cond rfl (fun h2 => ?_) (fun h2 => ?_)
      · skip
        have h2 : (!bg) = true := h2
        refine WPc.region ?_
        refine WP.val rfl rfl rfl (Val.fieldAddr (j := 2) rfl Ty.fo35_1 rfl rfl) ?_
        refine WP.val rfl rfl rfl (Val.load rfl Ty.sc33 rfl (fun w h => h.cell 3 rfl rfl)) ?_
        refine WP.val rfl rfl rfl (Val.fieldAddr (j := 2) rfl Ty.fo47_1 rfl rfl) ?_
        refine WP.val rfl rfl rfl (Val.loadAgg (cs := [.int .i64 (x.c.m), .int .i64 (x.c.s)]) rfl Ty.ag32 rfl rfl (fun w h => h.range 0 rfl rfl)) ?_
        refine WP.val rfl rfl rfl (Val.mk (cs := [.int .i64 0, .int .i64 (x.c.m), .int .i64 (x.c.s), .slice none 0 0]) rfl rfl (fun _ => by kernel_rfl)) ?_
        refine WP.eff rfl rfl rfl (Eff.mkSlice (C := [.int .i64 0, .int .i64 (x.c.m), .int .i64 (x.c.s), .slice none 0 0]) rfl Ty.sl33 rfl (fun _ => by kernel_rfl)) ?_
        rintro _ _ ⟨b4, rfl, rfl⟩
        refine WP.perm pl2 ?_
        refine WP.eff rfl rfl rfl (Eff.append (m := 1) (n0 := gl.length) (news := [.int .i64 0, .int .i64 (x.c.m), .int .i64 (x.c.s), .slice none 0 0]) rfl Ty.sl33 Ty.z53 rfl rfl rfl (.slice Ty.sl33 rfl rfl (fun w h => cells_range (h.range 1 rfl rfl))) (by omega) (by omega)) ?_
        rintro v5 _ ⟨onev5, rfl⟩
        refine WP.val rfl rfl rfl (Val.fieldAddr (j := 2) rfl Ty.fo35_1 rfl rfl) ?_
        refine WP.perm pl4 ?_
        refine WP.eff0 rfl rfl (Eff.store rfl Ty.sc33 rfl rfl onev5 (by simp) st2) ?_
        rintro _ _ rfl
        refine WP.nil ?_
        refine Out.perm pl2 ?_
        refine Out.drop ?_
        refine Out.perm pl5 ?_
        refine Out.perm pl5 ?_
        refine Out.perm pl4 ?_
        refine Out.perm pl3 ?_
        refine Out.perm pl5 ?_
        refine Out.perm pl5 ?_
        refine Out.meet (v5, gl, (Gn.mk 0 x.c [], Value.slice none 0 0)) ?_ ?_ ?_
        · exact (show gl.map (·.1) ++ [⟨0, x.c, []⟩] = dpre (dgo (l.take i)) x by unfold dpre; rw [← hbg, show bg = false by cases bg <;> simp_all, if_neg Bool.noConfusion, ← hgl])
        · exact (Sub.cons rfl (Sub.cons rfl (Sub.cons rfl (Sub.cons rfl (Sub.cons rfl (Sub.cons rfl (Sub.cons rfl Sub.nil)))))))
        · exact (fun w h => meetB rfl h)
      · skip
        have h2 : (!bg) = false := h2
        refine WPc.skip ?_
        have hbt : bg = true := by cases bg <;> simp_all
        have hne : gl ≠ [] := fun h0 => dgo_ne (hbg.symm.trans hbt) (by rw [← hgl, h0]; rfl)
        obtain ⟨gi, p, rfl⟩ := snoc_of hne
        refine Out.perm pl5 ?_
        refine Out.perm pl5 ?_
        refine Out.perm pl2 ?_
        refine Out.perm pl5 ?_
        refine Out.perm pl5 ?_
        refine Out.perm pl5 ?_
        refine Out.meet (vg, gi, p) ?_ ?_ ?_
        · exact (show gi.map (·.1) ++ [p.1] = dpre (dgo (l.take i)) x by unfold dpre; rw [← hbg, hbt, if_pos rfl, ← hgl]; simp)
        · exact (Sub.cons rfl (Sub.cons rfl (Sub.cons rfl (Sub.cons rfl (Sub.cons rfl (Sub.cons rfl (Sub.cons rfl Sub.nil)))))))
        · exact (fun w h => meetA (by rw [flatOf_append, flatOf_one, List.length_append] at h; exact h))
    · skip
      rintro ⟨v1, gi, p⟩ hp
      show WPc _ _ _ _ _ [(0, .slice (some ⟨b0, o0, none⟩) l.length c0), (2, .pointer (some ⟨b1, 0, none⟩)), (3, .pointer (some ⟨b2, 0, none⟩)), (6, .pointer (some ⟨b3, 0, none⟩)), (11, .slice (some ⟨b0, o0, none⟩) l.length c0), (12, .int .i64 (((l.length : Nat) : Int))), (13, .int .i64 (((i : Nat) : Int)))] (Own 53 4 v1 (gi.length + 1) (flatOf GV.cells gi ++ GV.cells p) :: GVP p :: Kds GVP gi :: Blk b2 [.int .i64 ((modi l).m), .int .i64 ((modi l).s), v1] 35 :: Blk b3 [.int .i64 (x.r.m), .int .i64 (x.r.s), .int .i64 (x.c.m), .int .i64 (x.c.s), .int .i64 (x.v), .bool (x.g)] 47 :: Blk b1 [.int .i64 0, .int .i64 0, .slice none 0 0] 35 :: A :: F)
      obtain ⟨g, u⟩ := p
      have hpl := dpre_inner hp
      rw [List.length_take, List.length_map] at hpl
      dsimp only at hpl
      refine WPc.seq ?_
      show WPc _ _ _ _ _ _ (Own 53 4 v1 (gi.length + 1) (flatOf GV.cells gi ++ GV.cells (g, u)) :: Own 32 2 u g.revs.length (flatOf Rv.cells g.revs) :: Kds GVP gi :: Blk b2 [.int .i64 ((modi l).m), .int .i64 ((modi l).s), v1] 35 :: Blk b3 [.int .i64 (x.r.m), .int .i64 (x.r.s), .int .i64 (x.c.m), .int .i64 (x.c.s), .int .i64 (x.v), .bool (x.g)] 47 :: Blk b1 [.int .i64 0, .int .i64 0, .slice none 0 0] 35 :: A :: F)
      refine WPc.open (fun w h => h.ownPos (by omega)) ?_
      rintro ⟨g6, cg6, spg6⟩
      refine WPc.pure (fun hvg6 => ?_)
      obtain ⟨rfl, hng6, hlg6, hsg6, hcg6⟩ := hvg6
      dsimp only at hng6 hlg6 hsg6 hcg6
      show WPc _ _ _ _ _ _ (Blk g6 (flatOf GV.cells gi ++ GV.cells (g, u) ++ spg6) 53 :: Own 32 2 u g.revs.length (flatOf Rv.cells g.revs) :: Kds GVP gi :: Blk b2 [.int .i64 ((modi l).m), .int .i64 ((modi l).s), .slice (some ⟨g6, 0, none⟩) (gi.length + 1) cg6] 35 :: Blk b3 [.int .i64 (x.r.m), .int .i64 (x.r.s), .int .i64 (x.c.m), .int .i64 (x.c.s), .int .i64 (x.v), .bool (x.g)] 47 :: Blk b1 [.int .i64 0, .int .i64 0, .slice none 0 0] 35 :: A :: F)
      refine WPc.region ?_
      refine WP.val rfl rfl rfl (Val.fieldAddr (j := 2) rfl Ty.fo35_1 rfl rfl) ?_
      refine WP.val rfl rfl rfl (Val.load rfl Ty.sc33 rfl (fun w h => h.cell 3 rfl rfl)) ?_
      refine WP.val rfl rfl rfl (Val.fieldAddr (j := 2) rfl Ty.fo35_1 rfl rfl) ?_
      refine WP.val rfl rfl rfl (Val.load rfl Ty.sc33 rfl (fun w h => h.cell 3 rfl rfl)) ?_
      refine WP.val rfl rfl rfl (Val.len rfl Ty.sl33 rfl) ?_
      refine WP.val rfl rfl rfl (Val.sub (z := ((gi.length : Nat) : Int)) rfl rfl rfl ((w64 (by omega) (by omega)).trans (by omega))) ?_
      refine WP.val rfl rfl rfl (Val.indexAddr (j := gi.length) (q := gi.length * 4) rfl Ty.sl33 rfl rfl (by omega) (by omega) (by omega)) ?_
      refine WP.val rfl rfl rfl (Val.assign rfl rfl) ?_
      refine WP.nil ?_
      refine Out.next ?_
      refine WPc.seq ?_
      refine WPc.region ?_
      refine WP.val rfl rfl rfl (Val.move rfl rfl) ?_
      refine WP.val rfl rfl rfl (Val.fieldAddr (j := 4) rfl Ty.fo47_2 rfl rfl) ?_
      refine WP.val rfl rfl rfl (Val.load rfl Ty.sc2 rfl (fun w h => h.cell 4 rfl rfl)) ?_
      refine WP.val rfl rfl rfl (Val.nilCheck rfl rfl) ?_
      refine WP.val rfl rfl rfl (Val.fieldAddr (j := gi.length * 4) rfl Ty.fo53_0 rfl rfl) ?_
      refine WP.eff0 rfl rfl (Eff.store (C' := flatOf GV.cells gi ++ GV.cells (⟨x.v, g.c, g.revs⟩, u) ++ spg6) rfl Ty.sc2 rfl rfl rfl (gv_lt gi _ _ 0 (by omega)) (gv_set0 gi g u _ _)) ?_
      rintro _ _ rfl
      refine WP.nil ?_
      refine Out.next ?_
      refine WPc.seq ?_
      refine WPD.start (Sat W [Blk g6 (flatOf GV.cells gi ++ GV.cells (⟨x.v, g.c, g.revs⟩, u) ++ spg6) 53, Blk b3 [.int .i64 (x.r.m), .int .i64 (x.r.s), .int .i64 (x.c.m), .int .i64 (x.c.s), .int .i64 (x.v), .bool (x.g)] 47]) Ty.mixed ?_
      refine WPD.takeM 0 rfl rfl rfl rfl (by kernel_rfl) (by kernel_rfl) (by kernel_rfl) (by kernel_rfl) (fun _ _ _ h => h) (fun w h => (((h.perm pl4).perm pl1)).dropEnd (L := [_, _])) (Val.move rfl rfl) ?_
      refine WPD.takeM 1 rfl rfl rfl rfl (by kernel_rfl) (by kernel_rfl) (by kernel_rfl) (by kernel_rfl) (fun _ _ _ h => h) (fun w h => (((h.perm pl4).perm pl1)).dropEnd (L := [_, _])) (Val.move rfl rfl) ?_
      refine WPD.takeM 2 rfl rfl rfl rfl (by kernel_rfl) (by kernel_rfl) (by kernel_rfl) (by kernel_rfl) (fun _ _ _ h => h) (fun w h => (((h.perm pl4).perm pl1)).dropEnd (L := [_, _])) (Val.nilCheck rfl rfl) ?_
      refine WPD.takeM 3 rfl rfl rfl rfl (by kernel_rfl) (by kernel_rfl) (by kernel_rfl) (by kernel_rfl) (fun _ _ _ h => h) (fun w h => (((h.perm pl4).perm pl1)).dropEnd (L := [_, _])) (Val.fieldAddr (j := gi.length * 4 + 3) rfl Ty.fo53_2 rfl rfl) ?_
      refine WPD.take 4 rfl rfl rfl rfl (by kernel_rfl) (by kernel_rfl) (by kernel_rfl) (by kernel_rfl) (fun _ _ _ h => h) (by kernel_rfl) (fun w h => (((h.perm pl4).perm pl1)).dropEnd (L := [_, _])) (Val.load (v := u) rfl Ty.sc40 rfl (fun w h => ((h.at 0 rfl).cell _).trans (gv_at3 gi _ u _))) ?_
      refine WPD.takeM 5 rfl rfl rfl rfl (by kernel_rfl) (by kernel_rfl) (by kernel_rfl) (by kernel_rfl) (fun _ _ _ h => h) (fun w h => (((h.perm pl4).perm pl1)).dropEnd (L := [_, _])) (Val.fieldAddr (j := 0) rfl Ty.fo47_0 rfl rfl) ?_
      refine WPD.take 6 rfl rfl rfl rfl (by kernel_rfl) (by kernel_rfl) (by kernel_rfl) (by kernel_rfl) (fun _ _ _ h => h) (by kernel_rfl) (fun w h => (((h.perm pl4).perm pl1)).dropEnd (L := [_, _])) (Val.loadAgg (cs := [.int .i64 (x.r.m), .int .i64 (x.r.s)]) rfl Ty.ag32 rfl rfl (fun w h => h.range 1 rfl rfl)) ?_
      refine WPD.step 7 (by kernel_rfl) rfl rfl rfl rfl (Eff.mkSlice (C := [.int .i64 (x.r.m), .int .i64 (x.r.s)]) rfl Ty.sl40 rfl (fun _ => by kernel_rfl)) ?_
      rintro _ _ ⟨b7, rfl, rfl⟩
      refine ⟨(fun w h => (((h.perm pl5).perm pl2)).dropEnd (L := [_, _])), ?_⟩
      refine WPD.perm pl2 ?_
      refine WPD.stepC 8 (by kernel_rfl) rfl rfl rfl rfl (by kernel_rfl) (Eff.append (m := 1) (n0 := g.revs.length) (news := [.int .i64 (x.r.m), .int .i64 (x.r.s)]) rfl Ty.sl40 Ty.z32 rfl rfl rfl (.slice Ty.sl40 rfl rfl (fun w h => cells_range (h.range 1 rfl rfl))) (by omega) (by omega)) ?_
      rintro v8 _ ⟨onev8, rfl⟩
      refine ⟨(Sat W (Own 32 2 v8 (g.revs.length + 1) ((flatOf Rv.cells g.revs) ++ ([.int .i64 (x.r.m), .int .i64 (x.r.s)])) :: Blk b7 [.int .i64 (x.r.m), .int .i64 (x.r.s)] 32 :: Blk g6 (flatOf GV.cells gi ++ GV.cells (⟨x.v, g.c, g.revs⟩, u) ++ spg6) 53 :: Kds GVP gi :: Blk b2 [.int .i64 ((modi l).m), .int .i64 ((modi l).s), .slice (some ⟨g6, 0, none⟩) (gi.length + 1) cg6] 35 :: Blk b3 [.int .i64 (x.r.m), .int .i64 (x.r.s), .int .i64 (x.c.m), .int .i64 (x.c.s), .int .i64 (x.v), .bool (x.g)] 47 :: Blk b1 [.int .i64 0, .int .i64 0, .slice none 0 0] 35 :: A :: F)), (fun _ h => h), ?_⟩
      refine WPD.takeM 9 rfl rfl rfl rfl (by kernel_rfl) (by kernel_rfl) (by kernel_rfl) (by kernel_rfl) (fun _ _ _ h => h) (fun _ h => h) (Val.nilCheck rfl rfl) ?_
      refine WPD.takeM 10 rfl rfl rfl rfl (by kernel_rfl) (by kernel_rfl) (by kernel_rfl) (by kernel_rfl) (fun _ _ _ h => h) (fun _ h => h) (Val.fieldAddr (j := gi.length * 4 + 3) rfl Ty.fo53_2 rfl rfl) ?_
      refine WPD.perm pl2 ?_
      refine WPD.stepC0 11 (by kernel_rfl) rfl rfl rfl (by kernel_rfl) (Eff.store (C' := flatOf GV.cells gi ++ GV.cells (⟨x.v, g.c, g.revs⟩, v8) ++ spg6) rfl Ty.sc40 rfl rfl onev8 (gv_lt gi _ _ 3 (by omega)) (gv_set3 gi _ u _ _)) ?_
      rintro _ _ rfl
      refine ⟨(Sat W (Blk g6 (flatOf GV.cells gi ++ GV.cells (⟨x.v, g.c, g.revs⟩, v8) ++ spg6) 53 :: Own 32 2 v8 (g.revs.length + 1) ((flatOf Rv.cells g.revs) ++ ([.int .i64 (x.r.m), .int .i64 (x.r.s)])) :: Blk b7 [.int .i64 (x.r.m), .int .i64 (x.r.s)] 32 :: Kds GVP gi :: Blk b2 [.int .i64 ((modi l).m), .int .i64 ((modi l).s), .slice (some ⟨g6, 0, none⟩) (gi.length + 1) cg6] 35 :: Blk b3 [.int .i64 (x.r.m), .int .i64 (x.r.s), .int .i64 (x.c.m), .int .i64 (x.c.s), .int .i64 (x.v), .bool (x.g)] 47 :: Blk b1 [.int .i64 0, .int .i64 0, .slice none 0 0] 35 :: A :: F)), (fun _ h => h), ?_⟩
      refine WPD.done (by kernel_rfl) ?_
      refine Out.next ?_
      refine WPc.region ?_
      refine WP.val rfl rfl rfl (Val.fieldAddr (j := 5) rfl Ty.fo47_3 rfl rfl) ?_
      refine WP.val rfl rfl rfl (Val.load rfl Ty.sc4 rfl (fun w h => h.cell 5 rfl rfl)) ?_
      refine WP.val rfl rfl rfl (Val.not rfl rfl) ?_
      refine WP.val rfl rfl rfl (Val.assign rfl rfl) ?_
      refine WP.nil ?_
      refine Out.block ?_
      refine Out.next ?_
      refine WPc.region ?_
      refine WP.val rfl rfl rfl (Val.add (z := ((i + 1 : Nat) : Int)) rfl rfl rfl ((w64 (by omega) (by omega)).trans (by omega))) ?_
      refine WP.val rfl rfl rfl (Val.move rfl rfl) ?_
      refine WP.nil ?_
      refine Out.conv (fun w h => Sat.ownMk (e := 53) (k := 4) (b := g6) (m := (gi ++ [(Gn.mk x.v g.c (g.revs ++ [x.r]), v8)]).length) (cap := cg6) (xs := flatOf GV.cells (gi ++ [(Gn.mk x.v g.c (g.revs ++ [x.r]), v8)])) (sp := spg6) (by rw [flatOf_append, flatOf_one]; exact h) (by rw [List.length_append]; simp only [List.length_singleton]; omega) (by rw [flatOf_length GV.len]) (by rw [hsg6, List.length_append]; rfl) hcg6) ?_
      refine Out.perm pl2 ?_
      refine Out.drop ?_
      refine Out.perm pl4 ?_
      refine Out.drop ?_
      refine Out.again (i + 1, !x.g, .slice (some ⟨g6, 0, none⟩) ((gi ++ [(Gn.mk x.v g.c (g.revs ++ [x.r]), v8)]).length) cg6, (gi ++ [(Gn.mk x.v g.c (g.revs ++ [x.r]), v8)])) ?_ ?_ ?_ ?_
      · exact (by show i + 1 ≤ l.length ∧ (gi ++ [(Gn.mk x.v g.c (g.revs ++ [x.r]), v8)]).map (·.1) = (dgo (l.take (i + 1))).1 ∧ (!x.g) = (dgo (l.take (i + 1))).2; rw [take_more hx, dgo_snoc, dstep_pre hp]; exact ⟨by omega, by simp, rfl⟩)
      · (dsimp only; omega)
      · exact (Sub.cons rfl (Sub.cons rfl (Sub.cons rfl (Sub.cons rfl (Sub.cons rfl (Sub.cons rfl (Sub.cons rfl Sub.nil)))))))
      · exact (fun w h => againL (by rw [List.length_append]; simp only [GVP, List.length_append, List.length_singleton, flatOf_append, flatOf_one] at h ⊢; exact h))
  · skip
    have h1 : ¬ (((i : Nat) : Int) < ((l.length : Nat) : Int)) := h1
    refine WPc.exit ?_
    refine Out.then_exit ?_
    refine Out.then_exit ?_
    refine Out.block_exit ?_
    refine Out.next ?_
    refine WPc.seq ?_
    refine WPc.seq ?_
    have hil : i = l.length := by omega
    rw [hil] at hgl
    rw [List.take_length] at hgl
    have hgn := congrArg List.length hgl
    rw [List.length_map] at hgn
    have hdl := dgo_len l
    refine WPc.region ?_
    refine WP.val rfl rfl rfl (Val.move rfl rfl) ?_
    refine WP.val rfl rfl rfl (Val.len rfl Ty.sl23 rfl) ?_
    refine WP.val rfl rfl rfl (Val.gtr rfl rfl rfl) ?_
    refine WP.val rfl rfl rfl (Val.move rfl rfl) ?_
    refine WP.split 57 rfl (fun h3 => ?_) (fun h3 => ?_)
    · skip
      have h3 : ((0 : Int) < ((l.length : Nat) : Int)) := h3
      refine WP.valG rfl rfl rfl rfl rfl rfl rfl (Val.move rfl rfl) ?_
      refine WP.perm pl4 ?_
      refine WP.effG rfl rfl rfl rfl rfl rfl rfl (Eff.call rfl rfl Try.call27 (lives_spec A l hl (.slice (some ⟨b0, o0, none⟩) l.length c0) (.inl ⟨b0, o0, c0, rfl, hr⟩))) ?_
      rintro _ _ ⟨_, ⟨rfl, rfl⟩, rfl⟩
      show WP _ _ _ _ _ _ _ (A :: Own 53 4 vg gl.length (flatOf GV.cells gl) :: Kds GVP gl :: Blk b2 [.int .i64 ((modi l).m), .int .i64 ((modi l).s), vg] 35 :: Blk b1 [.int .i64 0, .int .i64 0, .slice none 0 0] 35 :: F)
      refine WP.valG rfl rfl rfl rfl rfl rfl rfl (Val.not rfl rfl) ?_
      refine WP.val rfl rfl rfl (Val.pickT rfl rfl rfl) ?_
      refine WP.nil ?_
      refine Out.next ?_
      refine WPc.cond rfl (fun h4 => ?_) (fun h4 => ?_)
      · skip
        have h4 : (!((lives l))) = true := h4
        refine WPc.region ?_
        refine WP.val rfl rfl rfl (Val.fieldAddr (j := 2) rfl Ty.fo35_1 rfl rfl) ?_
        refine WP.val rfl rfl rfl (Val.load rfl Ty.sc33 rfl (fun w h => h.cell 3 rfl rfl)) ?_
        refine WP.val rfl rfl rfl (Val.mk (cs := [.int .i64 0, .int .i64 0, .int .i64 0, .slice none 0 0]) rfl rfl (fun _ => by kernel_rfl)) ?_
        refine WP.eff rfl rfl rfl (Eff.mkSlice (C := [.int .i64 0, .int .i64 0, .int .i64 0, .slice none 0 0]) rfl Ty.sl33 rfl (fun _ => by kernel_rfl)) ?_
        rintro _ _ ⟨b9, rfl, rfl⟩
        refine WP.perm pl2 ?_
        refine WP.eff rfl rfl rfl (Eff.append (m := 1) (n0 := gl.length) (news := [.int .i64 0, .int .i64 0, .int .i64 0, .slice none 0 0]) rfl Ty.sl33 Ty.z53 rfl rfl rfl (.slice Ty.sl33 rfl rfl (fun w h => cells_range (h.range 1 rfl rfl))) (by omega) (by omega)) ?_
        rintro v10 _ ⟨onev10, rfl⟩
        refine WP.val rfl rfl rfl (Val.fieldAddr (j := 2) rfl Ty.fo35_1 rfl rfl) ?_
        refine WP.perm pl4 ?_
        refine WP.eff0 rfl rfl (Eff.store rfl Ty.sc33 rfl rfl onev10 (by simp) st2) ?_
        rintro _ _ rfl
        refine WP.nil ?_
        refine Out.next ?_
        refine WPc.seq ?_
        refine WPc.region ?_
        refine WP.val rfl rfl rfl (Val.loadAgg (cs := [.int .i64 ((modi l).m), .int .i64 ((modi l).s), v10]) rfl Ty.ag35 rfl rfl (fun w h => h.range 0 rfl rfl)) ?_
        refine WP.perm pl5 ?_
        refine WP.eff0 rfl rfl (Eff.storeAgg (cs := [.int .i64 ((modi l).m), .int .i64 ((modi l).s), v10]) (C' := [.int .i64 ((modi l).m), .int .i64 ((modi l).s), v10]) rfl Ty.ag35 rfl rfl rfl (by simp only [List.all_cons, List.all_nil, Bool.and_true, oc_int, oc_str, oc_bool, oc_ptr, oc_slice, oc_iface, oc_map, onev10]) (by simp) rfl) ?_
        rintro _ _ rfl
        refine WP.nil ?_
        refine Out.next ?_
        refine WPc.ret ?_
        refine Out.perm pl1 ?_
        refine Out.drop ?_
        refine Out.perm pl2 ?_
        refine Out.drop ?_
        refine Out.perm pl2 ?_
        refine Out.perm pl3 ?_
        refine Out.perm pl3 ?_
        refine Out.perm pl3 ?_
        exact Out.retRun (L' := _) (results_cell (cs := _) Try.results11 Ty.ag35 rfl rfl (fun w h => h.range 0 rfl rfl)) ⟨v10, (gl ++ [(Gn.mk 0 Rv0 [], Value.slice none 0 0)]), rfl, by rw [List.map_append, hgl]; unfold dgens; rw [if_pos (by simp_all)]; rfl, rfl⟩ (fun w h => tailL rfl (by have h9 := h.drop; exact h9))
      · skip
        have h4 : (!((lives l))) = false := h4
        refine WPc.skip ?_
        refine Out.next ?_
        refine WPc.seq ?_
        refine WPc.perm pl1 ?_
        refine WPc.fact (fun w h => own_oneCell h) (fun onvg => ?_)
        refine WPc.region ?_
        refine WP.val rfl rfl rfl (Val.loadAgg (cs := [.int .i64 ((modi l).m), .int .i64 ((modi l).s), vg]) rfl Ty.ag35 rfl rfl (fun w h => h.range 3 rfl rfl)) ?_
        refine WP.perm pl4 ?_
        refine WP.eff0 rfl rfl (Eff.storeAgg (cs := [.int .i64 ((modi l).m), .int .i64 ((modi l).s), vg]) (C' := [.int .i64 ((modi l).m), .int .i64 ((modi l).s), vg]) rfl Ty.ag35 rfl rfl rfl (by simp only [List.all_cons, List.all_nil, Bool.and_true, oc_int, oc_str, oc_bool, oc_ptr, oc_slice, oc_iface, oc_map, onvg]) (by simp) rfl) ?_
        rintro _ _ rfl
        refine WP.nil ?_
        refine Out.next ?_
        refine WPc.ret ?_
        refine Out.perm pl4 ?_
        refine Out.drop ?_
        refine Out.perm pl2 ?_
        refine Out.perm pl3 ?_
        refine Out.perm pl3 ?_
        refine Out.perm pl3 ?_
        exact Out.retRun (L' := _) (results_cell (cs := _) Try.results11 Ty.ag35 rfl rfl (fun w h => h.range 0 rfl rfl)) ⟨vg, gl, rfl, by rw [hgl]; unfold dgens; rw [if_neg (by simp_all)]; simp, rfl⟩ (fun w h => h.drop)
    · skip
      have h3 : ¬ ((0 : Int) < ((l.length : Nat) : Int)) := h3
      refine WP.skip rfl rfl rfl rfl rfl rfl rfl ?_
      refine WP.skip rfl rfl rfl rfl rfl rfl rfl ?_
      refine WP.skip rfl rfl rfl rfl rfl rfl rfl ?_
      refine WP.val rfl rfl rfl (Val.pickF rfl rfl rfl) ?_
      refine WP.nil ?_
      refine Out.next ?_
      refine WPc.condF rfl rfl ?_
      refine WPc.skip ?_
      refine Out.next ?_
      refine WPc.seq ?_
      refine WPc.fact (fun w h => own_oneCell h) (fun onvg => ?_)
      refine WPc.region ?_
      refine WP.val rfl rfl rfl (Val.loadAgg (cs := [.int .i64 ((modi l).m), .int .i64 ((modi l).s), vg]) rfl Ty.ag35 rfl rfl (fun w h => h.range 2 rfl rfl)) ?_
      refine WP.perm pl3 ?_
      refine WP.eff0 rfl rfl (Eff.storeAgg (cs := [.int .i64 ((modi l).m), .int .i64 ((modi l).s), vg]) (C' := [.int .i64 ((modi l).m), .int .i64 ((modi l).s), vg]) rfl Ty.ag35 rfl rfl rfl (by simp only [List.all_cons, List.all_nil, Bool.and_true, oc_int, oc_str, oc_bool, oc_ptr, oc_slice, oc_iface, oc_map, onvg]) (by simp) rfl) ?_
      rintro _ _ rfl
      refine WP.nil ?_
      refine Out.next ?_
      refine WPc.ret ?_
      refine Out.perm pl3 ?_
      refine Out.drop ?_
      exact Out.retRun (L' := _) (results_cell (cs := _) Try.results11 Ty.ag35 rfl rfl (fun w h => h.range 0 rfl rfl)) ⟨vg, gl, rfl, by rw [hgl]; unfold dgens; rw [if_neg (by simp_all)]; simp, rfl⟩ (fun w h => h.drop)

theorem dump_spec (A : HProp) (l : List Vn) (hl : l.length ≤ 100000) (va : Value) (hva : Rd A 6 Vn.cells va l) : Does Try.prog 11 [va] [A] (fun v L => ∃ (vg : Value) (gl : List GV), v = .agg #[.int .i64 (modi l).m, .int .i64 (modi l).s, vg] ∧ gl.map (·.1) = dgens l ∧ L = [Own 53 4 vg gl.length (flatOf GV.cells gl), Kds GVP gl, A]) := by
  rcases hva with ⟨b0, o0, c0, rfl, hr⟩ | ⟨rfl, a, c, rfl⟩
  · exact dump_row A l hl b0 o0 c0 hr
  · exact dump_nil A a c

end Go.Proofs.Ythicijpjpijdjaa.Kl
