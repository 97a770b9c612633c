import Derived.Test.YthicijpjpijdjaaNd
namespace Go.Proofs.Ythicijpjpijdjaa.Kl
open Go.RowKit Go.Proofs.Ythicijpjpijdjaa Go.Proofs.Ythicijpjpijdjaa.Sl Go.Proofs.Ythicijpjpijdjaa.KyP Go.Proofs.Ythicijpjpijdjaa.Ka Go.Proofs.Ythicijpjpijdjaa.Kb Go.Proofs.Ythicijpjpijdjaa.Kc Go.Proofs.Ythicijpjpijdjaa.Kd Go.Proofs.Ythicijpjpijdjaa.Ke Go.Proofs.Ythicijpjpijdjaa.Kf Go.Proofs.Ythicijpjpijdjaa.Kg Go.Proofs.Ythicijpjpijdjaa.Kh Go.Proofs.Ythicijpjpijdjaa.Ki Go.Proofs.Ythicijpjpijdjaa.Kj Go.Proofs.Ythicijpjpijdjaa.Kk
set_option linter.unusedVariables false
set_option linter.unusedSimpArgs false
set_option linter.unusedSectionVars false


abbrev GV : Type := Gn × Value
def GV.cells (p : GV) : List Value := [.int .i64 p.1.v, .int .i64 p.1.c.m, .int .i64 p.1.c.s, p.2]
theorem GV.len (p : GV) : (GV.cells p).length = 4 := rfl
/-- a life's revisions, a row of one's own -/
def GVP (p : GV) : HProp := Own 32 2 p.2 p.1.revs.length (flatOf Rv.cells p.1.revs)
def dpre (q : List Gn × Bool) (x : Vn) : List Gn := if q.2 then q.1 else q.1 ++ [⟨0, x.c, []⟩]
theorem snoc_inj {α : Type} {a b : List α} {x y : α} (h : a ++ [x] = b ++ [y]) : a = b ∧ x = y := by
 have h1 := congrArg List.reverse h
 rw [List.reverse_append, List.reverse_append] at h1
 have h2 : x :: a.reverse = y :: b.reverse := h1
 injection h2 with h3 h4
 exact ⟨List.reverse_inj.1 h4, h3⟩
theorem dstep_pre {q : List Gn × Bool} {x : Vn} {P : List Gn} {g : Gn} (h : P ++ [g] = dpre q x) : dstep q x = (P ++ [⟨x.v, g.c, g.revs ++ [x.r]⟩], !x.g) := by
 unfold dpre at h
 unfold dstep
 cases hb : q.2 with
 | true =>
  rw [hb, if_pos rfl] at h
  rw [← h]
  simp
 | false =>
  rw [hb, if_neg Bool.noConfusion] at h
  obtain ⟨rfl, rfl⟩ := snoc_inj h
  simp
theorem dgo_snoc (m : List Vn) (x : Vn) : dgo (m ++ [x]) = dstep (dgo m) x := by unfold dgo; rw [List.foldl_append]; rfl
theorem dgo_ne {m : List Vn} (h : (dgo m).2 = true) : (dgo m).1 ≠ [] := by
 rcases List.eq_nil_or_concat m with rfl | ⟨a, x, rfl⟩
 ·
  cases h
 ·
  rw [List.concat_eq_append, dgo_snoc]
  unfold dstep
  dsimp only
  split
  ·
   exact fun h => by simp at h
  ·
   exact fun h => by simp at h
theorem snoc_of {α : Type} {l : List α} (h : l ≠ []) : ∃ gi p, l = gi ++ [p] := by
 rcases List.eq_nil_or_concat l with rfl | ⟨a, x, rfl⟩
 ·
  exact absurd rfl h
 ·
  exact ⟨a, x, List.concat_eq_append⟩
theorem set_mid {A B : List Value} {v : Value} {j : Nat} {c : Value} {C : List Value} (h : A.length = j) : (A ++ c :: C ++ B).set j v = A ++ v :: C ++ B := by
 subst h; simp
theorem gv_set0 (gi : List GV) (g : Gn) (u : Value) (sp : List Value) (v : Int) : (flatOf GV.cells gi ++ GV.cells (g, u) ++ sp).set (gi.length * 4) (.int .i64 v) = flatOf GV.cells gi ++ GV.cells (⟨v, g.c, g.revs⟩, u) ++ sp :=
 set_mid (flatOf_length GV.len gi)
theorem gv_set3 (gi : List GV) (g : Gn) (u : Value) (sp : List Value) (v : Value) : (flatOf GV.cells gi ++ GV.cells (g, u) ++ sp).set (gi.length * 4 + 3) v = flatOf GV.cells gi ++ GV.cells (g, v) ++ sp := by
 have h := set_mid (A := flatOf GV.cells gi ++ [.int .i64 g.v, .int .i64 g.c.m, .int .i64 g.c.s]) (B := sp) (v := v) (c := u) (C := []) (j := gi.length * 4 + 3) (by rw [List.length_append, flatOf_length GV.len gi]; rfl)
 simp only [List.append_assoc, GV.cells] at h ⊢
 exact h
theorem gv_at3 (gi : List GV) (g : Gn) (u : Value) (sp : List Value) : (flatOf GV.cells gi ++ GV.cells (g, u) ++ sp)[gi.length * 4 + 3]? = some u := by
 rw [List.append_assoc, List.getElem?_append_right (by rw [flatOf_length GV.len gi]; omega), flatOf_length GV.len gi, show gi.length * 4 + 3 - gi.length * 4 = 3 from by omega]
 rfl
theorem gv_lt (gi : List GV) (p : GV) (sp : List Value) (j : Nat) (h : j < 4) : gi.length * 4 + j < (flatOf GV.cells gi ++ GV.cells p ++ sp).length := by
 rw [List.length_append, List.length_append, flatOf_length GV.len gi, GV.len]; omega
theorem dgo_len : ∀ m : List Vn, (dgo m).1.length ≤ m.length := by
 intro m
 generalize hn : m.length = n
 induction n generalizing m with
 | zero => rw [List.eq_nil_of_length_eq_zero hn]; exact Nat.le_refl _
 | succ n ih =>
  rcases List.eq_nil_or_concat m with rfl | ⟨a, x, rfl⟩
  ·
   cases hn
  ·
   rw [List.concat_eq_append] at hn ⊢
   rw [dgo_snoc]
   have h := ih a (by simpa using hn)
   unfold dstep
   dsimp only
   split
   ·
    simp; omega
   ·
    simp; omega
theorem inner_len : ∀ m : List Vn, ∀ g ∈ (dgo m).1, g.revs.length ≤ m.length := by
 intro m
 generalize hn : m.length = n
 induction n generalizing m with
 | zero => rw [List.eq_nil_of_length_eq_zero hn]; exact fun g hg => by cases hg
 | succ n ih =>
  rcases List.eq_nil_or_concat m with rfl | ⟨a, x, rfl⟩
  ·
   cases hn
  ·
   rw [List.concat_eq_append] at hn ⊢
   rw [dgo_snoc]
   have h := ih a (by simpa using hn)
   unfold dstep
   dsimp only
   split
   ·
    rename_i g0 _ hg0
    intro g hg
    rcases List.mem_append.1 hg with hg | hg
    ·
     exact Nat.le_succ_of_le (h g (List.mem_of_mem_take hg))
    ·
     obtain rfl := List.mem_singleton.1 hg
     have := h g0 (List.mem_iff_getElem?.2 ⟨_, hg0⟩)
     simp; omega
   ·
    intro g hg
    rcases List.mem_append.1 hg with hg | hg
    ·
     exact Nat.le_succ_of_le (h g hg)
    ·
     obtain rfl := List.mem_singleton.1 hg
     simp
theorem dpre_inner {m : List Vn} {x : Vn} {P : List Gn} {g : Gn} (h : P ++ [g] = dpre (dgo m) x) : g.revs.length ≤ m.length ∧ P.length ≤ m.length := by
 have h1 := dgo_len m
 have h2 := inner_len m
 unfold dpre at h
 split at h
 ·
  rw [← h] at h1 h2
  exact ⟨h2 g (by simp), by simp at h1; omega⟩
 ·
  obtain ⟨rfl, rfl⟩ := snoc_inj h
  exact ⟨Nat.zero_le _, h1⟩

theorem meetA {W w : World} {vg : Value} {gi : List GV} {p : GV} {L : List HProp} {n : Nat} {c : List Value} (h : Sat W (Own 53 4 vg n c :: Kds GVP (gi ++ [p]) :: L) w) : Sat W (Own 53 4 vg n c :: GVP p :: Kds GVP gi :: L) w := by
 have h1 := (h.perm (List.Perm.swap _ _ _)).kApp
 have h2 := (h1.perm (List.Perm.swap _ _ _)).kCons
 have h3 : Sat W (GVP p :: Kds GVP gi :: Own 53 4 vg n c :: L) w := by
  have h4 := (h2.perm (show List.Perm (GVP p :: Kds GVP [] :: Kds GVP gi :: Own 53 4 vg n c :: L) (Kds GVP [] :: GVP p :: Kds GVP gi :: Own 53 4 vg n c :: L) from List.Perm.swap _ _ _)).drop
  exact h4
 exact h3.perm ((List.Perm.cons _ (List.Perm.swap _ _ _)).trans (List.Perm.swap _ _ _))
theorem meetB {W w : World} {v : Value} {gi : List GV} {c : List Value} {n : Nat} {g : Gn} {L : List HProp} (hg : g.revs = []) (h : Sat W (Own 53 4 v n c :: Kds GVP gi :: L) w) : Sat W (Own 53 4 v n c :: GVP (g, Value.slice none 0 0) :: Kds GVP gi :: L) w := by
 have h1 := h.ownNil (e := 32) (k := 2)
 have h2 : Sat W (GVP (g, Value.slice none 0 0) :: Own 53 4 v n c :: Kds GVP gi :: L) w := by
  unfold GVP; rw [hg]; exact h1
 exact h2.perm (List.Perm.swap _ _ _)
theorem againL {W w : World} {v : Value} {gi : List GV} {c : List Value} {n : Nat} {p : GV} {L : List HProp} (h : Sat W (Own 53 4 v n c :: GVP p :: Kds GVP gi :: L) w) : Sat W (Own 53 4 v n c :: Kds GVP (gi ++ [p]) :: L) w := by
 have h1 : Sat W (GVP p :: Kds GVP gi :: Own 53 4 v n c :: L) w := h.perm ((List.Perm.swap _ _ _).trans (List.Perm.cons _ (List.Perm.swap _ _ _)))
 have h2 := Sat.kPerm (R := GVP) (ms := gi ++ [p]) (by simpa using (List.perm_append_comm (l₁ := [p]) (l₂ := gi))) h1.kConsMk
 exact h2.perm (List.Perm.swap _ _ _)
theorem tailL {W w : World} {v : Value} {gi : List GV} {g : Gn} {L : List HProp} (hg : g.revs = []) (h : Sat W (Own 53 4 v (gi.length + 1) (flatOf GV.cells gi ++ GV.cells (g, Value.slice none 0 0)) :: Kds GVP gi :: L) w) : Sat W (Own 53 4 v (gi ++ [(g, Value.slice none 0 0)]).length (flatOf GV.cells (gi ++ [(g, Value.slice none 0 0)])) :: Kds GVP (gi ++ [(g, Value.slice none 0 0)]) :: L) w := by
 rw [flatOf_append, flatOf_one, List.length_append]
 exact againL (meetB hg h)
set_option maxRecDepth 100000 in
set_option maxHeartbeats 1000000 in
theorem dump_nil (A : HProp) (a : Option Addr) (c : Nat) : Does Try.prog 11 [.slice a 0 c] [A] (fun v L => ∃ (vg : Value) (gl : List GV), v = .agg #[.int .i64 (modi ([] : List Vn)).m, .int .i64 (modi ([] : List Vn)).s, vg] ∧ gl.map (·.1) = dgens ([] : List Vn) ∧ L = [Own 53 4 vg gl.length (flatOf GV.cells gl), Kds GVP gl, A]) := by
 refine Does.enter 69 Try.func11 rfl rfl rfl fun W F => ?_
 show WPc _ _ _ _ _ [(0, .slice a 0 c)] (A :: F)
 refine WPc.sr ?_
 refine WP.eff rfl rfl rfl (Eff.alloc rfl Ty.z35) ?_
 rintro _ _ ⟨b1, rfl, rfl⟩
 refine WP.nx ?_
 refine WPc.sr ?_
 refine WP.val rfl rfl rfl (Val.move rfl rfl) ?_
 refine WP.perm pl1 ?_
 refine WP.eff rfl rfl rfl (Eff.call rfl rfl Try.call28 (mod_spec A [] (by simp) (.slice a 0 c) (.inr ⟨rfl, a, c, rfl⟩))) ?_
 rintro _ _ ⟨_, ⟨rfl, rfl⟩, rfl⟩
 show WP _ _ _ _ _ _ _ (_ :: Blk b1 [.int .i64 0, .int .i64 0, .slice none 0 0] 35 :: _)
 refine WP.val rfl rfl rfl (Val.mk (cs := [.int .i64 ((modi []).m), .int .i64 ((modi []).s), .slice none 0 0]) rfl rfl (fun _ => by kernel_rfl)) ?_
 refine WP.eff rfl rfl rfl (Eff.alloc rfl Ty.z35) ?_
 rintro _ _ ⟨b2, rfl, rfl⟩
 refine WP.eff0 rfl rfl (Eff.storeAgg (cs := [.int .i64 ((modi []).m), .int .i64 ((modi []).s), .slice none 0 0]) (C' := [.int .i64 ((modi []).m), .int .i64 ((modi []).s), .slice none 0 0]) rfl Ty.ag35 rfl rfl rfl rfl (by simp) rfl) ?_
 rintro _ _ rfl
 refine WP.nx ?_
 refine WPc.seq ?_
 refine WPc.conv (fun w h => Sat.kNil (R := GVP) h) ?_
 refine WPc.conv (fun w h => h.ownNil (e := 53) (k := 4)) ?_
 show WPc _ _ _ _ _ _ (Own 53 4 (.slice none 0 0) 0 ([]) :: Kds GVP [] :: Blk b2 [.int .i64 ((modi []).m), .int .i64 ((modi []).s), .slice none 0 0] 35 :: _)
 refine WPc.region ?_
 refine WP.val rfl rfl rfl (Val.assign rfl rfl) ?_
 refine WP.nx ?_
 refine WPc.seq ?_
 refine WPc.sr ?_
 refine WP.val rfl rfl rfl (Val.move rfl rfl) ?_
 refine WP.val rfl rfl rfl (Val.len rfl Ty.sl23 rfl) ?_
 refine WP.val rfl rfl rfl (Val.move rfl rfl) ?_
 refine WP.nx ?_
 refine WPc.block ?_
 refine WPc.perm pl3 ?_
 iterate 4 (refine WPc.perm pl4 ?_)
 refine WPc.loop (ι := Nat × Bool × Value × List GV) (fun ⟨i, bg, vg, gl⟩ => i ≤ 0 ∧ gl.map (·.1) = (dgo (([] : List Vn).take i)).1 ∧ bg = (dgo (([] : List Vn).take i)).2) (fun ⟨i, bg, vg, gl⟩ => [(0, .slice a 0 c), (2, .pointer (some ⟨b1, 0, none⟩)), (3, .pointer (some ⟨b2, 0, none⟩)), (4, .bool (bg)), (11, .slice a 0 c), (12, .int .i64 0), (13, .int .i64 (((i : Nat) : Int)))]) (fun ⟨i, bg, vg, gl⟩ => Own 53 4 vg gl.length (flatOf GV.cells gl) :: Kds GVP gl :: Blk b2 [.int .i64 ((modi ([] : List Vn)).m), .int .i64 ((modi ([] : List Vn)).s), vg] 35 :: Blk b1 [.int .i64 0, .int .i64 0, .slice none 0 0] 35 :: A :: F) (fun ⟨i, bg, vg, gl⟩ => 0 - i) (0, false, .slice none 0 0, []) ⟨Nat.zero_le _, rfl, rfl⟩ ((Sub.cons rfl (Sub.cons rfl (Sub.cons rfl (Sub.cons rfl (Sub.cons rfl (Sub.cons rfl (Sub.cons rfl Sub.nil)))))))) (fun _ h => h) ?_
 rintro ⟨i, bg, vg, gl⟩ ⟨hi, hgl, hbg⟩
 show WPc _ _ _ _ _ [(0, _), (2, .pointer (some ⟨b1, 0, none⟩)), (3, .pointer (some ⟨b2, 0, none⟩)), (4, .bool (bg)), (11, .slice a 0 c), (12, .int .i64 0), (13, .int .i64 (((i : Nat) : Int)))] (Own 53 4 vg gl.length (flatOf GV.cells gl) :: Kds GVP gl :: Blk b2 [.int .i64 ((modi ([] : List Vn)).m), .int .i64 ((modi ([] : List Vn)).s), vg] 35 :: _)
 replace hi : i ≤ 0 := hi
 replace hgl : gl.map (·.1) = _ := hgl
 replace hbg : bg = _ := hbg
 have hgn0 := congrArg List.length hgl
 have hdl0 := dgo_len (([] : List Vn).take i)
 rw [List.length_map] at hgn0
 rw [List.length_take] at hdl0
 refine WPc.sr ?_
 refine WP.val rfl rfl rfl (Val.lss rfl rfl rfl) ?_
 refine WP.nx ?_
 refine WPc.seq ?_
 refine WPc.ifP rfl (fun h1 => ?_) (fun h1 => ?_)
 ·
  have h1 : (((i : Nat) : Int) < (0 : Int)) := h1
  exfalso; omega
 ·
  have h1 : ¬ (((i : Nat) : Int) < (0 : Int)) := h1
  refine WPc.exit ?_
  refine Out.then_exit ?_
  refine Out.then_exit ?_
  refine Out.block_exit ?_
  refine Out.next ?_
  refine WPc.seq ?_
  refine WPc.seq ?_
  have hil : i = 0 := by omega
  rw [hil] at hgl
  have hgn := congrArg List.length hgl
  rw [List.length_map] at hgn
  have hdl := dgo_len ([] : List Vn)
  simp only [List.length_nil] at hdl
  refine WPc.region ?_
  refine WP.val rfl rfl rfl (Val.move rfl rfl) ?_
  refine WP.val rfl rfl rfl (Val.len rfl Ty.sl23 rfl) ?_
  refine WP.val rfl rfl rfl (Val.gtr rfl rfl rfl) ?_
  refine WP.val rfl rfl rfl (Val.move rfl rfl) ?_
  refine WP.split 57 rfl (fun h2 => ?_) (fun h2 => ?_)
  ·
   have h2 : ((0 : Int) < (0 : Int)) := h2
   exfalso; omega
  ·
   have h2 : ¬ ((0 : Int) < (0 : Int)) := h2
   iterate 3 (refine WP.skip rfl rfl rfl rfl rfl rfl rfl ?_)
   refine WP.val rfl rfl rfl (Val.pickF rfl rfl rfl) ?_
   refine WP.nx ?_
   refine WPc.condF rfl rfl ?_
   refine WPc.skip ?_
   refine Out.next ?_
   refine WPc.seq ?_
   refine WPc.fact (fun w h => own_oneCell h) (fun onvg => ?_)
   refine WPc.region ?_
   refine WP.val rfl rfl rfl (Val.loadAgg (cs := [.int .i64 ((modi ([] : List Vn)).m), .int .i64 ((modi ([] : List Vn)).s), vg]) rfl Ty.ag35 rfl rfl (fun w h => h.range 2 rfl rfl)) ?_
   refine WP.perm pl3 ?_
   refine WP.eff0 rfl rfl (Eff.storeAgg (cs := [.int .i64 ((modi ([] : List Vn)).m), .int .i64 ((modi ([] : List Vn)).s), vg]) (C' := [.int .i64 ((modi ([] : List Vn)).m), .int .i64 ((modi ([] : List Vn)).s), vg]) rfl Ty.ag35 rfl rfl rfl (by simp only [List.all_cons, List.all_nil, Bool.and_true, oc_int, oc_str, oc_bool, oc_ptr, oc_slice, oc_iface, oc_map, onvg]) (by simp) rfl) ?_
   rintro _ _ rfl
   refine WP.nx ?_
   refine WPc.ret ?_
   refine Out.perm pl3 ?_
   refine Out.drop ?_
   exact Out.retRun (L' := _) (results_cell (cs := _) Try.results11 Ty.ag35 rfl rfl (fun w h => h.range 0 rfl rfl)) ⟨vg, gl, rfl, by rw [hgl]; rfl, rfl⟩ (fun w h => h.drop)

set_option maxRecDepth 100000 in
set_option maxHeartbeats 1000000 in
theorem dump_row (A : HProp) (l : List Vn) (hl : l.length ≤ 100000) (b0 o0 c0 : Nat) (hr : ∀ w, Holds A w → ∀ i x, l[i]? = some x → w.rangeAt b0 (o0 + i * 6) (Vn.cells x)) : Does Try.prog 11 [.slice (some ⟨b0, o0, none⟩) l.length c0] [A] (fun v L => ∃ (vg : Value) (gl : List GV), v = .agg #[.int .i64 (modi l).m, .int .i64 (modi l).s, vg] ∧ gl.map (·.1) = dgens l ∧ L = [Own 53 4 vg gl.length (flatOf GV.cells gl), Kds GVP gl, A]) := by
 refine Does.enter 69 Try.func11 rfl rfl rfl fun W F => ?_
 show WPc _ _ _ _ _ [(0, .slice (some ⟨b0, o0, none⟩) l.length c0)] (A :: F)
 refine WPc.sr ?_
 refine WP.eff rfl rfl rfl (Eff.alloc rfl Ty.z35) ?_
 rintro _ _ ⟨b1, rfl, rfl⟩
 refine WP.nx ?_
 refine WPc.sr ?_
 refine WP.val rfl rfl rfl (Val.move rfl rfl) ?_
 refine WP.perm pl1 ?_
 refine WP.eff rfl rfl rfl (Eff.call rfl rfl Try.call28 (mod_spec A l hl (.slice (some ⟨b0, o0, none⟩) l.length c0) (.inl ⟨b0, o0, c0, rfl, hr⟩))) ?_
 rintro _ _ ⟨_, ⟨rfl, rfl⟩, rfl⟩
 show WP _ _ _ _ _ _ _ (_ :: Blk b1 [.int .i64 0, .int .i64 0, .slice none 0 0] 35 :: _)
 refine WP.val rfl rfl rfl (Val.mk (cs := [.int .i64 ((modi l).m), .int .i64 ((modi l).s), .slice none 0 0]) rfl rfl (fun _ => by kernel_rfl)) ?_
 refine WP.eff rfl rfl rfl (Eff.alloc rfl Ty.z35) ?_
 rintro _ _ ⟨b2, rfl, rfl⟩
 refine WP.eff0 rfl rfl (Eff.storeAgg (cs := [.int .i64 ((modi l).m), .int .i64 ((modi l).s), .slice none 0 0]) (C' := [.int .i64 ((modi l).m), .int .i64 ((modi l).s), .slice none 0 0]) rfl Ty.ag35 rfl rfl rfl rfl (by simp) rfl) ?_
 rintro _ _ rfl
 refine WP.nx ?_
 refine WPc.seq ?_
 refine WPc.conv (fun w h => Sat.kNil (R := GVP) h) ?_
 refine WPc.conv (fun w h => h.ownNil (e := 53) (k := 4)) ?_
 show WPc _ _ _ _ _ _ (Own 53 4 (.slice none 0 0) 0 ([]) :: Kds GVP [] :: Blk b2 [.int .i64 ((modi l).m), .int .i64 ((modi l).s), .slice none 0 0] 35 :: _)
 refine WPc.region ?_
 refine WP.val rfl rfl rfl (Val.assign rfl rfl) ?_
 refine WP.nx ?_
 refine WPc.seq ?_
 refine WPc.sr ?_
 refine WP.val rfl rfl rfl (Val.move rfl rfl) ?_
 refine WP.val rfl rfl rfl (Val.len rfl Ty.sl23 rfl) ?_
 refine WP.val rfl rfl rfl (Val.move rfl rfl) ?_
 refine WP.nx ?_
 refine WPc.block ?_
 refine WPc.perm pl3 ?_
 iterate 4 (refine WPc.perm pl4 ?_)
 refine WPc.loop (ι := Nat × Bool × Value × List GV) (fun ⟨i, bg, vg, gl⟩ => i ≤ l.length ∧ gl.map (·.1) = (dgo (l.take i)).1 ∧ bg = (dgo (l.take i)).2) (fun ⟨i, bg, vg, gl⟩ => [(0, .slice (some ⟨b0, o0, none⟩) l.length c0), (2, .pointer (some ⟨b1, 0, none⟩)), (3, .pointer (some ⟨b2, 0, none⟩)), (4, .bool (bg)), (11, .slice (some ⟨b0, o0, none⟩) l.length c0), (12, .int .i64 (((l.length : Nat) : Int))), (13, .int .i64 (((i : Nat) : Int)))]) (fun ⟨i, bg, vg, gl⟩ => Own 53 4 vg gl.length (flatOf GV.cells gl) :: Kds GVP gl :: Blk b2 [.int .i64 ((modi l).m), .int .i64 ((modi l).s), vg] 35 :: Blk b1 [.int .i64 0, .int .i64 0, .slice none 0 0] 35 :: A :: F) (fun ⟨i, bg, vg, gl⟩ => l.length - i) (0, false, .slice none 0 0, []) ⟨Nat.zero_le _, rfl, rfl⟩ ((Sub.cons rfl (Sub.cons rfl (Sub.cons rfl (Sub.cons rfl (Sub.cons rfl (Sub.cons rfl (Sub.cons rfl Sub.nil)))))))) (fun _ h => h) ?_
 rintro ⟨i, bg, vg, gl⟩ ⟨hi, hgl, hbg⟩
 show WPc _ _ _ _ _ [(0, _), (2, .pointer (some ⟨b1, 0, none⟩)), (3, .pointer (some ⟨b2, 0, none⟩)), (4, .bool (bg)), (11, .slice (some ⟨b0, o0, none⟩) l.length c0), (12, .int .i64 (((l.length : Nat) : Int))), (13, .int .i64 (((i : Nat) : Int)))] (Own 53 4 vg gl.length (flatOf GV.cells gl) :: Kds GVP gl :: Blk b2 [.int .i64 ((modi l).m), .int .i64 ((modi l).s), vg] 35 :: _)
 replace hi : i ≤ l.length := hi
 replace hgl : gl.map (·.1) = _ := hgl
 replace hbg : bg = _ := hbg
 have hgn0 := congrArg List.length hgl
 have hdl0 := dgo_len (l.take i)
 rw [List.length_map] at hgn0
 rw [List.length_take] at hdl0
 refine WPc.sr ?_
 refine WP.val rfl rfl rfl (Val.lss rfl rfl rfl) ?_
 refine WP.nx ?_
 refine WPc.seq ?_
 refine WPc.ifP rfl (fun h1 => ?_) (fun h1 => ?_)
 ·
  have h1 : (((i : Nat) : Int) < ((l.length : Nat) : Int)) := h1
  refine WPc.skip ?_
  refine Out.next ?_
  refine WPc.seq ?_
  refine WPc.block ?_
  refine WPc.seq ?_
  have hlt : i < l.length := by omega
  obtain ⟨x, hx⟩ : ∃ x, l[i]? = some x := ⟨_, List.getElem?_eq_getElem hlt⟩
  refine WPc.region ?_
  refine WP.val rfl rfl rfl (Val.indexAddr (j := i) (q := o0 + i * 6) rfl Ty.sl23 rfl rfl (by omega) (by omega) (by omega)) ?_
  refine WP.val rfl rfl rfl (Val.loadAgg (cs := (Vn.cells x)) rfl Ty.ag47 rfl (by rfl) (fun w h => hr w (h.at 4 rfl) i x hx)) ?_
  refine WP.eff rfl rfl rfl (Eff.alloc rfl Ty.z47) ?_
  rintro _ _ ⟨b3, rfl, rfl⟩
  refine WP.eff0 rfl rfl (Eff.storeAgg (cs := [.int .i64 (x.r.m), .int .i64 (x.r.s), .int .i64 (x.c.m), .int .i64 (x.c.s), .int .i64 (x.v), .bool (x.g)]) (C' := [.int .i64 (x.r.m), .int .i64 (x.r.s), .int .i64 (x.c.m), .int .i64 (x.c.s), .int .i64 (x.v), .bool (x.g)]) rfl Ty.ag47 rfl rfl rfl rfl (by simp) rfl) ?_
  rintro _ _ rfl
  refine WP.nx ?_
  refine WPc.cut (ι := Value × List GV × GV) (fun ⟨v1, gi, p⟩ => gi.map (·.1) ++ [p.1] = dpre (dgo (l.take i)) x) (fun ⟨v1, gi, p⟩ => [(0, .slice (some ⟨b0, o0, none⟩) l.length c0), (2, .pointer (some ⟨b1, 0, none⟩)), (3, .pointer (some ⟨b2, 0, none⟩)), (6, .pointer (some ⟨b3, 0, none⟩)), (11, .slice (some ⟨b0, o0, none⟩) l.length c0), (12, .int .i64 (((l.length : Nat) : Int))), (13, .int .i64 (((i : Nat) : Int)))]) (fun ⟨v1, gi, p⟩ => Own 53 4 v1 (gi.length + 1) (flatOf GV.cells gi ++ GV.cells p) :: GVP p :: Kds GVP gi :: Blk b2 [.int .i64 ((modi l).m), .int .i64 ((modi l).s), v1] 35 :: Blk b3 [.int .i64 (x.r.m), .int .i64 (x.r.s), .int .i64 (x.c.m), .int .i64 (x.c.s), .int .i64 (x.v), .bool (x.g)] 47 :: Blk b1 [.int .i64 0, .int .i64 0, .slice none 0 0] 35 :: A :: F) ?_ ?_
  ·
   refine WPc.sr ?_
   refine WP.val rfl rfl rfl (Val.move rfl rfl) ?_
   refine WP.val rfl rfl rfl (Val.not rfl rfl) ?_
   refine WP.nx ?_
   refine WPc.cond rfl (fun h2 => ?_) (fun h2 => ?_)
   ·
    have h2 : (!bg) = true := h2
    refine WPc.region ?_
    refine WP.val rfl rfl rfl (Val.fieldAddr (j := 2) rfl Ty.fo35_1 rfl rfl) ?_
    refine WP.val rfl rfl rfl (Val.load rfl Ty.sc33 rfl (fun w h => h.cell 3 rfl rfl)) ?_
    refine WP.val rfl rfl rfl (Val.fieldAddr (j := 2) rfl Ty.fo47_1 rfl rfl) ?_
    refine WP.val rfl rfl rfl (Val.loadAgg (cs := [.int .i64 (x.c.m), .int .i64 (x.c.s)]) rfl Ty.ag32 rfl rfl (fun w h => h.range 0 rfl rfl)) ?_
    refine WP.val rfl rfl rfl (Val.mk (cs := [.int .i64 0, .int .i64 (x.c.m), .int .i64 (x.c.s), .slice none 0 0]) rfl rfl (fun _ => by kernel_rfl)) ?_
    refine WP.eff rfl rfl rfl (Eff.mkSlice (C := [.int .i64 0, .int .i64 (x.c.m), .int .i64 (x.c.s), .slice none 0 0]) rfl Ty.sl33 rfl (fun _ => by kernel_rfl)) ?_
    rintro _ _ ⟨b4, rfl, rfl⟩
    refine WP.perm pl2 ?_
    refine WP.eff rfl rfl rfl (Eff.append (m := 1) (n0 := gl.length) (news := [.int .i64 0, .int .i64 (x.c.m), .int .i64 (x.c.s), .slice none 0 0]) rfl Ty.sl33 Ty.z53 rfl rfl rfl (.slice Ty.sl33 rfl rfl (fun w h => cells_range (h.range 1 rfl rfl))) (by omega) (by omega)) ?_
    rintro v5 _ ⟨onev5, rfl⟩
    refine WP.val rfl rfl rfl (Val.fieldAddr (j := 2) rfl Ty.fo35_1 rfl rfl) ?_
    refine WP.perm pl4 ?_
    refine WP.eff0 rfl rfl (Eff.store rfl Ty.sc33 rfl rfl onev5 (by simp) st2) ?_
    rintro _ _ rfl
    refine WP.nil ?_
    refine Out.perm pl2 ?_
    refine Out.drop ?_
    refine Out.perm pl5 ?_
    refine Out.perm pl5 ?_
    refine Out.perm pl4 ?_
    refine Out.perm pl3 ?_
    refine Out.perm pl5 ?_
    refine Out.perm pl5 ?_
    refine Out.meet (v5, gl, (Gn.mk 0 x.c [], Value.slice none 0 0)) ?_ ?_ ?_
    ·
     exact (show gl.map (·.1) ++ [⟨0, x.c, []⟩] = dpre (dgo (l.take i)) x by unfold dpre; rw [← hbg, show bg = false by cases bg <;> simp_all, if_neg Bool.noConfusion, ← hgl])
    ·
     exact (Sub.cons rfl (Sub.cons rfl (Sub.cons rfl (Sub.cons rfl (Sub.cons rfl (Sub.cons rfl (Sub.cons rfl Sub.nil)))))))
    ·
     exact (fun w h => meetB rfl h)
   ·
    have h2 : (!bg) = false := h2
    refine WPc.skip ?_
    have hbt : bg = true := by cases bg <;> simp_all
    have hne : gl ≠ [] := fun h0 => dgo_ne (hbg.symm.trans hbt) (by rw [← hgl, h0]; rfl)
    obtain ⟨gi, p, rfl⟩ := snoc_of hne
    refine Out.perm pl5 ?_
    refine Out.perm pl5 ?_
    refine Out.perm pl2 ?_
    iterate 3 (refine Out.perm pl5 ?_)
    refine Out.meet (vg, gi, p) ?_ ?_ ?_
    ·
     exact (show gi.map (·.1) ++ [p.1] = dpre (dgo (l.take i)) x by unfold dpre; rw [← hbg, hbt, if_pos rfl, ← hgl]; simp)
    ·
     exact (Sub.cons rfl (Sub.cons rfl (Sub.cons rfl (Sub.cons rfl (Sub.cons rfl (Sub.cons rfl (Sub.cons rfl Sub.nil)))))))
    ·
     exact (fun w h => meetA (by rw [flatOf_append, flatOf_one, List.length_append] at h; exact h))
  ·
   rintro ⟨v1, gi, p⟩ hp
   show WPc _ _ _ _ _ [(0, _), (2, _), (3, _), (6, .pointer (some ⟨b3, 0, none⟩)), (11, _), (12, _), (13, _)] (Own 53 4 v1 (gi.length + 1) (flatOf GV.cells gi ++ GV.cells p) :: GVP p :: Kds GVP gi :: Blk b2 [.int .i64 ((modi l).m), .int .i64 ((modi l).s), v1] 35 :: Blk b3 [.int .i64 (x.r.m), .int .i64 (x.r.s), .int .i64 (x.c.m), .int .i64 (x.c.s), .int .i64 (x.v), .bool (x.g)] 47 :: _)
   obtain ⟨g, u⟩ := p
   have hpl := dpre_inner hp
   rw [List.length_take, List.length_map] at hpl
   dsimp only at hpl
   refine WPc.seq ?_
   show WPc _ _ _ _ _ _ (Own 53 4 v1 (gi.length + 1) (flatOf GV.cells gi ++ GV.cells (g, u)) :: Own 32 2 u g.revs.length (flatOf Rv.cells g.revs) :: _)
   refine WPc.open (fun w h => h.ownPos (by omega)) ?_
   rintro ⟨g6, cg6, spg6⟩
   refine WPc.pure (fun hvg6 => ?_)
   obtain ⟨rfl, hng6, hlg6, hsg6, hcg6⟩ := hvg6
   dsimp only at hng6 hlg6 hsg6 hcg6
   show WPc _ _ _ _ _ _ (Blk g6 (flatOf GV.cells gi ++ GV.cells (g, u) ++ spg6) 53 :: _ :: _ :: Blk b2 [.int .i64 ((modi l).m), .int .i64 ((modi l).s), .slice (some ⟨g6, 0, none⟩) (gi.length + 1) cg6] 35 :: _)
   refine WPc.region ?_
   refine WP.val rfl rfl rfl (Val.fieldAddr (j := 2) rfl Ty.fo35_1 rfl rfl) ?_
   refine WP.val rfl rfl rfl (Val.load rfl Ty.sc33 rfl (fun w h => h.cell 3 rfl rfl)) ?_
   refine WP.val rfl rfl rfl (Val.fieldAddr (j := 2) rfl Ty.fo35_1 rfl rfl) ?_
   refine WP.val rfl rfl rfl (Val.load rfl Ty.sc33 rfl (fun w h => h.cell 3 rfl rfl)) ?_
   refine WP.val rfl rfl rfl (Val.len rfl Ty.sl33 rfl) ?_
   refine WP.val rfl rfl rfl (Val.sub (z := ((gi.length : Nat) : Int)) rfl rfl rfl ((w64 (by omega) (by omega)).trans (by omega))) ?_
   refine WP.val rfl rfl rfl (Val.indexAddr (j := gi.length) (q := gi.length * 4) rfl Ty.sl33 rfl rfl (by omega) (by omega) (by omega)) ?_
   refine WP.val rfl rfl rfl (Val.assign rfl rfl) ?_
   refine WP.nx ?_
   refine WPc.sr ?_
   refine WP.val rfl rfl rfl (Val.move rfl rfl) ?_
   refine WP.val rfl rfl rfl (Val.fieldAddr (j := 4) rfl Ty.fo47_2 rfl rfl) ?_
   refine WP.val rfl rfl rfl (Val.load rfl Ty.sc2 rfl (fun w h => h.cell 4 rfl rfl)) ?_
   refine WP.val rfl rfl rfl (Val.nilCheck rfl rfl) ?_
   refine WP.val rfl rfl rfl (Val.fieldAddr (j := gi.length * 4) rfl Ty.fo53_0 rfl rfl) ?_
   refine WP.eff0 rfl rfl (Eff.store (C' := flatOf GV.cells gi ++ GV.cells (⟨x.v, g.c, g.revs⟩, u) ++ spg6) rfl Ty.sc2 rfl rfl rfl (gv_lt gi _ _ 0 (by omega)) (gv_set0 gi g u _ _)) ?_
   rintro _ _ rfl
   refine WP.nx ?_
   refine WPc.seq ?_
   refine WPD.start (Sat W [Blk g6 (flatOf GV.cells gi ++ GV.cells (⟨x.v, g.c, g.revs⟩, u) ++ spg6) 53, Blk b3 [.int .i64 (x.r.m), .int .i64 (x.r.s), .int .i64 (x.c.m), .int .i64 (x.c.s), .int .i64 (x.v), .bool (x.g)] 47]) Ty.mixed ?_
   refine WPD.tS 0 rfl rfl rfl rfl (fun w h => (((h.perm pl4).perm pl1)).dropEnd (L := [_, _])) (Val.move rfl rfl) ?_
   refine WPD.tS 1 rfl rfl rfl rfl (fun w h => (((h.perm pl4).perm pl1)).dropEnd (L := [_, _])) (Val.move rfl rfl) ?_
   refine WPD.tS 2 rfl rfl rfl rfl (fun w h => (((h.perm pl4).perm pl1)).dropEnd (L := [_, _])) (Val.nilCheck rfl rfl) ?_
   refine WPD.tS 3 rfl rfl rfl rfl (fun w h => (((h.perm pl4).perm pl1)).dropEnd (L := [_, _])) (Val.fieldAddr (j := gi.length * 4 + 3) rfl Ty.fo53_2 rfl rfl) ?_
   refine WPD.tL 4 rfl rfl rfl rfl (fun w h => (((h.perm pl4).perm pl1)).dropEnd (L := [_, _])) (Val.load (v := u) rfl Ty.sc40 rfl (fun w h => ((h.at 0 rfl).cell _).trans (gv_at3 gi _ u _))) ?_
   refine WPD.tS 5 rfl rfl rfl rfl (fun w h => (((h.perm pl4).perm pl1)).dropEnd (L := [_, _])) (Val.fieldAddr (j := 0) rfl Ty.fo47_0 rfl rfl) ?_
   refine WPD.tL 6 rfl rfl rfl rfl (fun w h => (((h.perm pl4).perm pl1)).dropEnd (L := [_, _])) (Val.loadAgg (cs := [.int .i64 (x.r.m), .int .i64 (x.r.s)]) rfl Ty.ag32 rfl rfl (fun w h => h.range 1 rfl rfl)) ?_
   refine WPD.step 7 (by kernel_rfl) rfl rfl rfl rfl (Eff.mkSlice (C := [.int .i64 (x.r.m), .int .i64 (x.r.s)]) rfl Ty.sl40 rfl (fun _ => by kernel_rfl)) ?_
   rintro _ _ ⟨b7, rfl, rfl⟩
   refine ⟨(fun w h => (((h.perm pl5).perm pl2)).dropEnd (L := [_, _])), ?_⟩
   refine WPD.perm pl2 ?_
   refine WPD.stepC 8 (by kernel_rfl) rfl rfl rfl rfl (by kernel_rfl) (Eff.append (m := 1) (n0 := g.revs.length) (news := [.int .i64 (x.r.m), .int .i64 (x.r.s)]) rfl Ty.sl40 Ty.z32 rfl rfl rfl (.slice Ty.sl40 rfl rfl (fun w h => cells_range (h.range 1 rfl rfl))) (by omega) (by omega)) ?_
   rintro v8 _ ⟨onev8, rfl⟩
   refine ⟨_, (fun _ h => h), ?_⟩
   refine WPD.tM 9 rfl rfl rfl rfl (Val.nilCheck rfl rfl) ?_
   refine WPD.tM 10 rfl rfl rfl rfl (Val.fieldAddr (j := gi.length * 4 + 3) rfl Ty.fo53_2 rfl rfl) ?_
   refine WPD.perm pl2 ?_
   refine WPD.stepC0 11 (by kernel_rfl) rfl rfl rfl (by kernel_rfl) (Eff.store (C' := flatOf GV.cells gi ++ GV.cells (⟨x.v, g.c, g.revs⟩, v8) ++ spg6) rfl Ty.sc40 rfl rfl onev8 (gv_lt gi _ _ 3 (by omega)) (gv_set3 gi _ u _ _)) ?_
   rintro _ _ rfl
   refine ⟨_, (fun _ h => h), ?_⟩
   refine WPD.done (by kernel_rfl) ?_
   refine Out.next ?_
   refine WPc.region ?_
   refine WP.val rfl rfl rfl (Val.fieldAddr (j := 5) rfl Ty.fo47_3 rfl rfl) ?_
   refine WP.val rfl rfl rfl (Val.load rfl Ty.sc4 rfl (fun w h => h.cell 5 rfl rfl)) ?_
   refine WP.val rfl rfl rfl (Val.not rfl rfl) ?_
   refine WP.val rfl rfl rfl (Val.assign rfl rfl) ?_
   refine WP.nil ?_
   refine Out.block ?_
   refine Out.next ?_
   refine WPc.region ?_
   refine WP.val rfl rfl rfl (Val.add (z := ((i + 1 : Nat) : Int)) rfl rfl rfl ((w64 (by omega) (by omega)).trans (by omega))) ?_
   refine WP.val rfl rfl rfl (Val.move rfl rfl) ?_
   refine WP.nil ?_
   refine Out.conv (fun w h => Sat.ownMk (e := 53) (k := 4) (b := g6) (m := (gi ++ [(Gn.mk x.v g.c (g.revs ++ [x.r]), v8)]).length) (cap := cg6) (xs := flatOf GV.cells (gi ++ [(Gn.mk x.v g.c (g.revs ++ [x.r]), v8)])) (sp := spg6) (by rw [flatOf_append, flatOf_one]; exact h) (by rw [List.length_append]; simp only [List.length_singleton]; omega) (by rw [flatOf_length GV.len]) (by rw [hsg6, List.length_append]; rfl) hcg6) ?_
   refine Out.perm pl2 ?_
   refine Out.drop ?_
   refine Out.perm pl4 ?_
   refine Out.drop ?_
   refine Out.again (i + 1, !x.g, .slice (some ⟨g6, 0, none⟩) ((gi ++ [(Gn.mk x.v g.c (g.revs ++ [x.r]), v8)]).length) cg6, (gi ++ [(Gn.mk x.v g.c (g.revs ++ [x.r]), v8)])) ?_ ?_ ?_ ?_
   ·
    exact (by show i + 1 ≤ l.length ∧ (gi ++ [(Gn.mk x.v g.c (g.revs ++ [x.r]), v8)]).map (·.1) = (dgo (l.take (i + 1))).1 ∧ (!x.g) = (dgo (l.take (i + 1))).2; rw [take_more hx, dgo_snoc, dstep_pre hp]; exact ⟨by omega, by simp, rfl⟩)
   ·
    (dsimp only; omega)
   ·
    exact (Sub.cons rfl (Sub.cons rfl (Sub.cons rfl (Sub.cons rfl (Sub.cons rfl (Sub.cons rfl (Sub.cons rfl Sub.nil)))))))
   ·
    exact (fun w h => againL (by rw [List.length_append]; simp only [GVP, List.length_append, List.length_singleton, flatOf_append, flatOf_one] at h ⊢; exact h))
 ·
  have h1 : ¬ (((i : Nat) : Int) < ((l.length : Nat) : Int)) := h1
  refine WPc.exit ?_
  refine Out.then_exit ?_
  refine Out.then_exit ?_
  refine Out.block_exit ?_
  refine Out.next ?_
  refine WPc.seq ?_
  refine WPc.seq ?_
  have hil : i = l.length := by omega
  rw [hil] at hgl
  rw [List.take_length] at hgl
  have hgn := congrArg List.length hgl
  rw [List.length_map] at hgn
  have hdl := dgo_len l
  refine WPc.region ?_
  refine WP.val rfl rfl rfl (Val.move rfl rfl) ?_
  refine WP.val rfl rfl rfl (Val.len rfl Ty.sl23 rfl) ?_
  refine WP.val rfl rfl rfl (Val.gtr rfl rfl rfl) ?_
  refine WP.val rfl rfl rfl (Val.move rfl rfl) ?_
  refine WP.split 57 rfl (fun h3 => ?_) (fun h3 => ?_)
  ·
   have h3 : ((0 : Int) < ((l.length : Nat) : Int)) := h3
   refine WP.valG rfl rfl rfl rfl rfl rfl rfl (Val.move rfl rfl) ?_
   refine WP.perm pl4 ?_
   refine WP.effG rfl rfl rfl rfl rfl rfl rfl (Eff.call rfl rfl Try.call27 (lives_spec A l hl (.slice (some ⟨b0, o0, none⟩) l.length c0) (.inl ⟨b0, o0, c0, rfl, hr⟩))) ?_
   rintro _ _ ⟨_, ⟨rfl, rfl⟩, rfl⟩
   refine WP.valG rfl rfl rfl rfl rfl rfl rfl (Val.not rfl rfl) ?_
   refine WP.val rfl rfl rfl (Val.pickT rfl rfl rfl) ?_
   refine WP.nx ?_
   refine WPc.cond rfl (fun h4 => ?_) (fun h4 => ?_)
   ·
    have h4 : (!((lives l))) = true := h4
    refine WPc.region ?_
    refine WP.val rfl rfl rfl (Val.fieldAddr (j := 2) rfl Ty.fo35_1 rfl rfl) ?_
    refine WP.val rfl rfl rfl (Val.load rfl Ty.sc33 rfl (fun w h => h.cell 3 rfl rfl)) ?_
    refine WP.val rfl rfl rfl (Val.mk (cs := [.int .i64 0, .int .i64 0, .int .i64 0, .slice none 0 0]) rfl rfl (fun _ => by kernel_rfl)) ?_
    refine WP.eff rfl rfl rfl (Eff.mkSlice (C := [.int .i64 0, .int .i64 0, .int .i64 0, .slice none 0 0]) rfl Ty.sl33 rfl (fun _ => by kernel_rfl)) ?_
    rintro _ _ ⟨b9, rfl, rfl⟩
    refine WP.perm pl2 ?_
    refine WP.eff rfl rfl rfl (Eff.append (m := 1) (n0 := gl.length) (news := [.int .i64 0, .int .i64 0, .int .i64 0, .slice none 0 0]) rfl Ty.sl33 Ty.z53 rfl rfl rfl (.slice Ty.sl33 rfl rfl (fun w h => cells_range (h.range 1 rfl rfl))) (by omega) (by omega)) ?_
    rintro v10 _ ⟨onev10, rfl⟩
    refine WP.val rfl rfl rfl (Val.fieldAddr (j := 2) rfl Ty.fo35_1 rfl rfl) ?_
    refine WP.perm pl4 ?_
    refine WP.eff0 rfl rfl (Eff.store rfl Ty.sc33 rfl rfl onev10 (by simp) st2) ?_
    rintro _ _ rfl
    refine WP.nx ?_
    refine WPc.sr ?_
    refine WP.val rfl rfl rfl (Val.loadAgg (cs := [.int .i64 ((modi l).m), .int .i64 ((modi l).s), v10]) rfl Ty.ag35 rfl rfl (fun w h => h.range 0 rfl rfl)) ?_
    refine WP.perm pl5 ?_
    refine WP.eff0 rfl rfl (Eff.storeAgg (cs := [.int .i64 ((modi l).m), .int .i64 ((modi l).s), v10]) (C' := [.int .i64 ((modi l).m), .int .i64 ((modi l).s), v10]) rfl Ty.ag35 rfl rfl rfl (by simp only [List.all_cons, List.all_nil, Bool.and_true, oc_int, oc_str, oc_bool, oc_ptr, oc_slice, oc_iface, oc_map, onev10]) (by simp) rfl) ?_
    rintro _ _ rfl
    refine WP.nx ?_
    refine WPc.ret ?_
    refine Out.perm pl1 ?_
    refine Out.drop ?_
    refine Out.perm pl2 ?_
    refine Out.drop ?_
    refine Out.perm pl2 ?_
    iterate 3 (refine Out.perm pl3 ?_)
    exact Out.retRun (L' := _) (results_cell (cs := _) Try.results11 Ty.ag35 rfl rfl (fun w h => h.range 0 rfl rfl)) ⟨v10, (gl ++ [(Gn.mk 0 Rv0 [], Value.slice none 0 0)]), rfl, by rw [List.map_append, hgl]; unfold dgens; rw [if_pos (by simp_all)]; rfl, rfl⟩ (fun w h => tailL rfl (by have h9 := h.drop; exact h9))
   ·
    have h4 : (!((lives l))) = false := h4
    refine WPc.skip ?_
    refine Out.next ?_
    refine WPc.seq ?_
    refine WPc.perm pl1 ?_
    refine WPc.fact (fun w h => own_oneCell h) (fun onvg => ?_)
    refine WPc.region ?_
    refine WP.val rfl rfl rfl (Val.loadAgg (cs := [.int .i64 ((modi l).m), .int .i64 ((modi l).s), vg]) rfl Ty.ag35 rfl rfl (fun w h => h.range 3 rfl rfl)) ?_
    refine WP.perm pl4 ?_
    refine WP.eff0 rfl rfl (Eff.storeAgg (cs := [.int .i64 ((modi l).m), .int .i64 ((modi l).s), vg]) (C' := [.int .i64 ((modi l).m), .int .i64 ((modi l).s), vg]) rfl Ty.ag35 rfl rfl rfl (by simp only [List.all_cons, List.all_nil, Bool.and_true, oc_int, oc_str, oc_bool, oc_ptr, oc_slice, oc_iface, oc_map, onvg]) (by simp) rfl) ?_
    rintro _ _ rfl
    refine WP.nx ?_
    refine WPc.ret ?_
    refine Out.perm pl4 ?_
    refine Out.drop ?_
    refine Out.perm pl2 ?_
    iterate 3 (refine Out.perm pl3 ?_)
    exact Out.retRun (L' := _) (results_cell (cs := _) Try.results11 Ty.ag35 rfl rfl (fun w h => h.range 0 rfl rfl)) ⟨vg, gl, rfl, by rw [hgl]; unfold dgens; rw [if_neg (by simp_all)]; simp, rfl⟩ (fun w h => h.drop)
  ·
   have h3 : ¬ ((0 : Int) < ((l.length : Nat) : Int)) := h3
   iterate 3 (refine WP.skip rfl rfl rfl rfl rfl rfl rfl ?_)
   refine WP.val rfl rfl rfl (Val.pickF rfl rfl rfl) ?_
   refine WP.nx ?_
   refine WPc.condF rfl rfl ?_
   refine WPc.skip ?_
   refine Out.next ?_
   refine WPc.seq ?_
   refine WPc.fact (fun w h => own_oneCell h) (fun onvg => ?_)
   refine WPc.region ?_
   refine WP.val rfl rfl rfl (Val.loadAgg (cs := [.int .i64 ((modi l).m), .int .i64 ((modi l).s), vg]) rfl Ty.ag35 rfl rfl (fun w h => h.range 2 rfl rfl)) ?_
   refine WP.perm pl3 ?_
   refine WP.eff0 rfl rfl (Eff.storeAgg (cs := [.int .i64 ((modi l).m), .int .i64 ((modi l).s), vg]) (C' := [.int .i64 ((modi l).m), .int .i64 ((modi l).s), vg]) rfl Ty.ag35 rfl rfl rfl (by simp only [List.all_cons, List.all_nil, Bool.and_true, oc_int, oc_str, oc_bool, oc_ptr, oc_slice, oc_iface, oc_map, onvg]) (by simp) rfl) ?_
   rintro _ _ rfl
   refine WP.nx ?_
   refine WPc.ret ?_
   refine Out.perm pl3 ?_
   refine Out.drop ?_
   exact Out.retRun (L' := _) (results_cell (cs := _) Try.results11 Ty.ag35 rfl rfl (fun w h => h.range 0 rfl rfl)) ⟨vg, gl, rfl, by rw [hgl]; unfold dgens; rw [if_neg (by simp_all)]; simp, rfl⟩ (fun w h => h.drop)

theorem dump_spec (A : HProp) (l : List Vn) (hl : l.length ≤ 100000) (va : Value) (hva : Rd A 6 Vn.cells va l) : Does Try.prog 11 [va] [A] (fun v L => ∃ (vg : Value) (gl : List GV), v = .agg #[.int .i64 (modi l).m, .int .i64 (modi l).s, vg] ∧ gl.map (·.1) = dgens l ∧ L = [Own 53 4 vg gl.length (flatOf GV.cells gl), Kds GVP gl, A]) := by
 rcases hva with ⟨b0, o0, c0, rfl, hr⟩ | ⟨rfl, a, c, rfl⟩
 ·
  exact dump_row A l hl b0 o0 c0 hr
 ·
  exact dump_nil A a c

end Go.Proofs.Ythicijpjpijdjaa.Kl

namespace Go.Proofs.Ythicijpjpijdjaa.Km
open Go.RowKit Go.Proofs.Ythicijpjpijdjaa Go.Proofs.Ythicijpjpijdjaa.Sl Go.Proofs.Ythicijpjpijdjaa.KyP Go.Proofs.Ythicijpjpijdjaa.Ka Go.Proofs.Ythicijpjpijdjaa.Kb Go.Proofs.Ythicijpjpijdjaa.Kc Go.Proofs.Ythicijpjpijdjaa.Kd Go.Proofs.Ythicijpjpijdjaa.Ke Go.Proofs.Ythicijpjpijdjaa.Kf Go.Proofs.Ythicijpjpijdjaa.Kg Go.Proofs.Ythicijpjpijdjaa.Kh Go.Proofs.Ythicijpjpijdjaa.Ki Go.Proofs.Ythicijpjpijdjaa.Kj Go.Proofs.Ythicijpjpijdjaa.Kk Go.Proofs.Ythicijpjpijdjaa.Kl
set_option linter.unusedVariables false
set_option linter.unusedSimpArgs false
set_option linter.unusedSectionVars false


theorem results_ttt {P : Program} {fn : Func} {n : Nat} {l : List (Nat × Value)} {s t u : Tmp} {v0 v1 v2 : Value} (hr : fn.results = #[.tmp s, .tmp t, .tmp u]) (h0 : Sl.look l s = some v0) (h1 : Sl.look l t = some v1) (h2 : Sl.look l u = some v2) {G : World → Prop} : ∀ a w, Fr n a l → G w → (results fn a.tmps).run P w = .ok (.tuple #[v0, v1, v2]) w := fun a w hf hs => by
 have e := hf.at_ s _ h0
 have e2 := hf.at_ t _ h1
 have e3 := hf.at_ u _ h2
 rw [Array.getD_eq_getD_getElem?] at e e2 e3
 simp [results, hr, e, e2, e3]
theorem own_rdG {α : Type} {W w : World} {e : TypeId} {k : Nat} {v : Value} {cf : α → List Value} {l : List α} {L : List HProp} (hk : ∀ x, (cf x).length = k) (h : Sat W (Own e k v l.length (flatOf cf l) :: L) w) : ∃ A : HProp, Sat W (Pure (Rd A k cf v l) :: A :: L) w := by
 rcases h.own with ⟨rfl, h0, h1, h2⟩ | ⟨b, cap, sp, rfl, h1, h2, h3, h4, h5⟩
 ·
  exact ⟨Pure True, Sat.pure_mk (.inr ⟨List.eq_nil_of_length_eq_zero h0, none, 0, rfl⟩) (Sat.pure_mk trivial h2)⟩
 ·
  refine ⟨Blk b (flatOf cf l ++ sp) e, Sat.pure_mk (.inl ⟨b, 0, cap, rfl, fun w hw i x hx => ?_⟩) h5⟩
  rw [Nat.zero_add]
  exact hw.cell_range (flatOf_range hk hx)
/-- the changes behind an operation are read from a part of their own, or as they were -/
theorem kdo_keep {W w : World} {va va2 : Value} {l l2 : List Vn} {E Eq A0 X : HProp} {L : List HProp} (hva : Rd (Sep [E, A0]) 6 Vn.cells va l) (hk : KeyL va l va2 l2 Eq) (h : Sat W (Eq :: X :: Sep [E, A0] :: L) w) : ∃ E2 : HProp, Sat W (Pure (Rd (Sep [E2, A0]) 6 Vn.cells va2 l2) :: X :: Sep [E2, A0] :: L) w := by
 rcases hk with rfl | ⟨rfl, rfl, rfl⟩
 ·
  obtain ⟨R, hR⟩ := own_rdG (l := l2) Vn.len h
  refine ⟨R, ?_⟩
  have hr := hR.pure
  have h1 := hR.drop
  refine Sat.pure_mk (hr.mono (fun w hw => Holds.sep2a hw)) ?_
  have h2 : Sat W (Sep [E, A0] :: R :: X :: L) w := h1.perm ((List.Perm.cons _ (List.Perm.swap _ _ _)).trans ((List.Perm.swap _ _ _)))
  have h3 : Sat W (E :: A0 :: R :: X :: L) w := h2.sep
  have h4 : Sat W ([R, A0] ++ (X :: L)) w := h3.drop.perm (List.Perm.swap _ _ _)
  exact (Sat.sep_mk h4).perm (List.Perm.swap _ _ _)
 ·
  exact ⟨E, Sat.pure_mk hva h.drop⟩
structure WA where
 a : KA
 lb : List Vn
 vr : Value
 vg : Value
 gl : List GV
def WA.cells (x : WA) : List Value := [.bool x.a.ok, .int .i64 x.a.mod.m, .int .i64 x.a.mod.s, .int .i64 x.a.cre.m, .int .i64 x.a.cre.s, .int .i64 x.a.ver, x.vr, .int .i64 (modi x.lb).m, .int .i64 (modi x.lb).s, x.vg]
theorem WA.len (x : WA) : x.cells.length = 10 := rfl
def WA.pr (x : WA) : KA × List Vn := (x.a, x.lb)
def WAP (x : WA) : HProp := Sep [Own 32 2 x.vr x.a.revs.length (flatOf Rv.cells x.a.revs), Own 53 4 x.vg x.gl.length (flatOf GV.cells x.gl), Kds GVP x.gl]
theorem againW {W w : World} {O : HProp} {was : List WA} {x : WA} {L : List HProp} (h : Sat W (O :: Own 32 2 x.vr x.a.revs.length (flatOf Rv.cells x.a.revs) :: Own 53 4 x.vg x.gl.length (flatOf GV.cells x.gl) :: Kds GVP x.gl :: Kds WAP was :: L) w) : Sat W (O :: Kds WAP (was ++ [x]) :: L) w := by
 have h1 : Sat W ([Own 32 2 x.vr x.a.revs.length (flatOf Rv.cells x.a.revs), Own 53 4 x.vg x.gl.length (flatOf GV.cells x.gl), Kds GVP x.gl] ++ (O :: Kds WAP was :: L)) w := h.perm ((List.Perm.swap _ _ _).trans (List.Perm.cons _ ((List.Perm.swap _ _ _).trans (List.Perm.cons _ (List.Perm.swap _ _ _)))))
 have h2 : Sat W (WAP x :: O :: Kds WAP was :: L) w := Sat.sep_mk h1
 have h3 := (h2.perm (show List.Perm _ (WAP x :: Kds WAP was :: O :: L) from List.Perm.cons _ (List.Perm.swap _ _ _))).kConsMk
 have h4 := Sat.kPerm (R := WAP) (ms := was ++ [x]) (by simpa using (List.perm_append_comm (l₁ := [x]) (l₂ := was))) h3
 exact h4.perm (List.Perm.swap _ _ _)
/-- what is refused of an operation -/
def bad1 (o : KOp) : Prop := o.k = 3 ∨ o.k = 4 ∨ o.k < 1 ∨ 8 < o.k
def bad2 (i : Nat) (l : List Vn) (o : KOp) : Prop := (i = 0 ∧ l.length = 0 ∧ o.k ≠ 1) ∨ ((o.k = 1 ∨ o.k = 2) ∧ ¬ (1 ≤ o.r.m ∧ 0 ≤ o.r.s))
def bad3 (l : List Vn) (o : KOp) : Prop := o.k = 1 ∧ 0 < l.length ∧ lives l = false ∧ (modi l).m = o.r.m
def bad4 (l : List Vn) (o : KOp) : Prop := (kdo l o).2.2 = false ∨ (kdo l o).1.length = 0
instance (o : KOp) : Decidable (bad1 o) := by unfold bad1; infer_instance
instance (i : Nat) (l : List Vn) (o : KOp) : Decidable (bad2 i l o) := by unfold bad2; infer_instance
instance (l : List Vn) (o : KOp) : Decidable (bad3 l o) := by unfold bad3; infer_instance
instance (l : List Vn) (o : KOp) : Decidable (bad4 l o) := by unfold bad4; infer_instance
def refuse (i : Nat) (l : List Vn) (o : KOp) : Prop := bad1 o ∨ bad2 i l o ∨ bad3 l o ∨ bad4 l o
instance (i : Nat) (l : List Vn) (o : KOp) : Decidable (refuse i l o) := by unfold refuse; infer_instance
def lstep (q : Option (List Vn × List (KA × List Vn))) (o : KOp) : Option (List Vn × List (KA × List Vn)) := match q with
 | none => none
 | some (l, aa) => if refuse aa.length l o then none else some ((kdo l o).1, aa ++ [((kdo l o).2.1, (kdo l o).1)])
def life (l0 : List Vn) (ops : List KOp) : Option (List Vn × List (KA × List Vn)) := ops.foldl lstep (some (l0, []))
def lifeR (l0 : List Vn) (ops : List KOp) : Option (List Vn × List (KA × List Vn)) := if 300 < ops.length then none else life l0 ops
theorem life_snoc (l0 : List Vn) (m : List KOp) (o : KOp) : life l0 (m ++ [o]) = lstep (life l0 m) o := by unfold life; rw [List.foldl_append]; rfl
theorem lnone : ∀ m : List KOp, m.foldl lstep none = none
 | [] => rfl
 | o :: m => by rw [List.foldl_cons]; exact lnone m
theorem life_none {l0 : List Vn} {ops : List KOp} {i : Nat} (h : life l0 (ops.take i) = none) : lifeR l0 ops = none := by
 unfold lifeR
 split
 ·
  rfl
 conv => lhs; rw [← List.take_append_drop i ops]
 unfold life at h ⊢
 rw [List.foldl_append, h]
 exact lnone _
theorem life_stop {l0 : List Vn} {ops : List KOp} {i : Nat} {o : KOp} {l : List Vn} {was : List WA} (ho : ops[i]? = some o) (h : life l0 (ops.take i) = some (l, was.map WA.pr)) (hn : was.length = i) (hr : refuse i l o) : lifeR l0 ops = none := by
 refine life_none (i := i + 1) ?_
 rw [take_more ho, life_snoc, h]
 unfold lstep
 dsimp only
 rw [List.length_map, hn, if_pos hr]
theorem life_on {l0 : List Vn} {ops : List KOp} {i : Nat} {o : KOp} {l : List Vn} {was : List WA} {x : WA} (ho : ops[i]? = some o) (h : life l0 (ops.take i) = some (l, was.map WA.pr)) (hn : was.length = i) (hr : ¬ refuse i l o) (hx : x.pr = ((kdo l o).2.1, (kdo l o).1)) : life l0 (ops.take (i + 1)) = some ((kdo l o).1, (was ++ [x]).map WA.pr) := by
 rw [take_more ho, life_snoc, h]
 unfold lstep
 dsimp only
 rw [List.length_map, hn, if_neg hr, List.map_append, List.map_singleton, hx]
theorem comp_len (l : List Vn) (at_ : Int) (i : Nat) : (comp l at_ i).length ≤ i := by
 induction i with
 | zero => exact Nat.le_refl _
 | succ i ih =>
  unfold comp
  split
  ·
   split
   ·
    rw [List.length_append, List.length_singleton]; omega
   ·
    omega
  ·
   omega
theorem kdo_len (l : List Vn) (o : KOp) : (kdo l o).1.length ≤ l.length + 1 := by
 have hc := comp_len l o.at_ l.length
 unfold kdo
 split
 ·
  split <;> simp
 split
 ·
  split
  ·
   split <;> simp
  ·
   simp
 split
 ·
  simp
 split
 ·
  simp
 split
 ·
  dsimp only; omega
 split <;> simp

theorem gens_snoc {was : List WA} {x : WA} (h : ∀ x ∈ was, x.gl.map (·.1) = dgens x.lb) (hx : x.gl.map (·.1) = dgens x.lb) : ∀ y ∈ was ++ [x], y.gl.map (·.1) = dgens y.lb := fun y hy => (List.mem_append.1 hy).elim (h y) (fun hy => by rw [List.mem_singleton.1 hy]; exact hx)
set_option maxRecDepth 100000 in
set_option maxHeartbeats 2000000 in
theorem life_nil (A0 A : HProp) (l0 : List Vn) (hl0 : l0.length ≤ 1000) (va : Value) (hva : Rd A0 6 Vn.cells va l0) (a : Option Addr) (c : Nat) : Does Try.prog 7 [va, .slice a 0 c] [A0, A] (fun v L => (lifeR l0 ([] : List KOp) = none ∧ v = .tuple #[.slice none 0 0, .slice none 0 0, .bool false] ∧ L = [A]) ∨ (∃ (E : HProp) (va2 v5 : Value) (vs : List Vn) (was : List WA), lifeR l0 ([] : List KOp) = some (vs, was.map WA.pr) ∧ (∀ x ∈ was, x.gl.map (·.1) = dgens x.lb) ∧ v = .tuple #[va2, v5, .bool true] ∧ Rd (Sep [E, A0]) 6 Vn.cells va2 vs ∧ vs.length ≤ l0.length + 0 ∧ L = [Own 42 10 v5 was.length (flatOf WA.cells was), Kds WAP was, Sep [E, A0], A])) := by
 refine Does.enter 116 Try.func7 rfl rfl rfl fun W F => ?_
 show WPc _ _ _ _ _ [(0, va), (1, .slice a 0 c)] (A0 :: A :: F)
 refine WPc.sr ?_
 iterate 3 (refine WP.val rfl rfl rfl (Val.assign rfl rfl) ?_)
 refine WP.nx ?_
 refine WPc.seq ?_
 refine WPc.sr ?_
 refine WP.val rfl rfl rfl (Val.move rfl rfl) ?_
 refine WP.val rfl rfl rfl (Val.len rfl Ty.sl22 rfl) ?_
 refine WP.val rfl rfl rfl (Val.gtr rfl rfl rfl) ?_
 refine WP.nx ?_
 refine WPc.ifP rfl (fun h1 => ?_) (fun h1 => ?_)
 ·
  have h1 : ((300 : Int) < (0 : Int)) := h1
  exfalso; omega
 ·
  have h1 : ¬ ((300 : Int) < (0 : Int)) := h1
  refine WPc.skip ?_
  refine Out.next ?_
  refine WPc.sr ?_
  refine WP.val rfl rfl rfl (Val.assign rfl rfl) ?_
  refine WP.nx ?_
  refine WPc.seq ?_
  refine WPc.seq ?_
  refine WPc.conv (fun w h => Sat.sep_mk (M := [Pure True, A0]) (Sat.pure_mk trivial h)) ?_
  refine WPc.conv (fun w h => Sat.kNil (R := WAP) h) ?_
  refine WPc.conv (fun w h => h.ownNil (e := 42) (k := 10)) ?_
  show WPc _ _ _ _ _ _ (Own 42 10 (.slice none 0 0) 0 ([]) :: Kds WAP [] :: Sep [Pure True, A0] :: _)
  refine WPc.region ?_
  refine WP.val rfl rfl rfl (Val.move rfl rfl) ?_
  refine WP.val rfl rfl rfl (Val.len rfl Ty.sl22 rfl) ?_
  refine WP.val rfl rfl rfl (Val.move rfl rfl) ?_
  refine WP.nx ?_
  refine WPc.block ?_
  refine WPc.loop (ι := Nat × Value × Value × HProp × List Vn × List WA) (fun ⟨i, vl, va5, E, vs, was⟩ => i ≤ 0 ∧ life l0 (([] : List KOp).take i) = some (vs, was.map WA.pr) ∧ was.length = i ∧ (∀ x ∈ was, x.gl.map (·.1) = dgens x.lb) ∧ Rd (Sep [E, A0]) 6 Vn.cells vl vs ∧ vs.length ≤ l0.length + i) (fun ⟨i, vl, va5, E, vs, was⟩ => [(0, vl), (7, va5), (16, .slice a 0 c), (17, .int .i64 0), (18, .int .i64 (((i : Nat) : Int)))]) (fun ⟨i, vl, va5, E, vs, was⟩ => Own 42 10 va5 was.length (flatOf WA.cells was) :: Kds WAP was :: Sep [E, A0] :: A :: F) (fun ⟨i, vl, va5, E, vs, was⟩ => 0 - i) (0, va, .slice none 0 0, Pure True, l0, []) ⟨Nat.zero_le _, rfl, rfl, (fun x hx => by cases hx), hva.mono (fun w hw => Holds.sep2b hw), Nat.le_refl _⟩ ((Sub.cons rfl (Sub.cons rfl (Sub.cons rfl (Sub.cons rfl (Sub.cons rfl Sub.nil)))))) (fun _ h => h) ?_
  rintro ⟨i, vl, va5, E, vs, was⟩ ⟨hi, hlife, hwn, hgs, hvl, hvln⟩
  show WPc _ _ _ _ _ [(0, vl), (7, va5), (16, .slice a 0 c), (17, .int .i64 0), (18, .int .i64 (((i : Nat) : Int)))] (Own 42 10 va5 was.length (flatOf WA.cells was) :: Kds WAP was :: Sep [E, A0] :: _)
  replace hi : i ≤ 0 := hi
  replace hlife : life l0 _ = some (vs, was.map WA.pr) := hlife
  replace hwn : was.length = i := hwn
  replace hgs : ∀ x ∈ was, x.gl.map (·.1) = dgens x.lb := hgs
  replace hvl : Rd (Sep [E, A0]) 6 Vn.cells vl vs := hvl
  replace hvln : vs.length ≤ l0.length + i := hvln
  have hvs : vs.length ≤ 100000 := by omega
  refine WPc.sr ?_
  refine WP.val rfl rfl rfl (Val.lss rfl rfl rfl) ?_
  refine WP.nx ?_
  refine WPc.seq ?_
  refine WPc.ifP rfl (fun h2 => ?_) (fun h2 => ?_)
  ·
   have h2 : (((i : Nat) : Int) < (0 : Int)) := h2
   exfalso; omega
  ·
   have h2 : ¬ (((i : Nat) : Int) < (0 : Int)) := h2
   refine WPc.exit ?_
   refine Out.then_exit ?_
   refine Out.then_exit ?_
   refine Out.block_exit ?_
   refine Out.next ?_
   refine WPc.sr ?_
   refine WP.val rfl rfl rfl (Val.move rfl rfl) ?_
   refine WP.val rfl rfl rfl (Val.move rfl rfl) ?_
   iterate 3 (refine WP.val rfl rfl rfl (Val.assign rfl rfl) ?_)
   refine WP.nx ?_
   refine WPc.ret ?_
   have hil : i = 0 := by omega
   rw [hil] at hlife
   exact Out.retRun (L' := _) (results_ttt Try.results7 rfl rfl rfl) (.inr ⟨E, vl, va5, vs, was, by unfold lifeR; rw [if_neg (by simp)]; exact hlife, hgs, rfl, hvl, by omega, rfl⟩) (fun _ h => h)

set_option maxRecDepth 100000 in
set_option maxHeartbeats 2000000 in
theorem life_row (A0 A : HProp) (l0 : List Vn) (hl0 : l0.length ≤ 1000) (va : Value) (hva : Rd A0 6 Vn.cells va l0) (l : List KOp) (hl : l.length ≤ 2147483647) (b0 o0 c0 : Nat) (hr : ∀ w, Holds A w → ∀ i x, l[i]? = some x → w.rangeAt b0 (o0 + i * 7) (KOp.cells x)) : Does Try.prog 7 [va, .slice (some ⟨b0, o0, none⟩) l.length c0] [A0, A] (fun v L => (lifeR l0 l = none ∧ v = .tuple #[.slice none 0 0, .slice none 0 0, .bool false] ∧ L = [A]) ∨ (∃ (E : HProp) (va2 v5 : Value) (vs : List Vn) (was : List WA), lifeR l0 l = some (vs, was.map WA.pr) ∧ (∀ x ∈ was, x.gl.map (·.1) = dgens x.lb) ∧ v = .tuple #[va2, v5, .bool true] ∧ Rd (Sep [E, A0]) 6 Vn.cells va2 vs ∧ vs.length ≤ l0.length + l.length ∧ L = [Own 42 10 v5 was.length (flatOf WA.cells was), Kds WAP was, Sep [E, A0], A])) := by
 refine Does.enter 116 Try.func7 rfl rfl rfl fun W F => ?_
 show WPc _ _ _ _ _ [(0, va), (1, .slice (some ⟨b0, o0, none⟩) l.length c0)] (A0 :: A :: F)
 refine WPc.sr ?_
 iterate 3 (refine WP.val rfl rfl rfl (Val.assign rfl rfl) ?_)
 refine WP.nx ?_
 refine WPc.seq ?_
 refine WPc.sr ?_
 refine WP.val rfl rfl rfl (Val.move rfl rfl) ?_
 refine WP.val rfl rfl rfl (Val.len rfl Ty.sl22 rfl) ?_
 refine WP.val rfl rfl rfl (Val.gtr rfl rfl rfl) ?_
 refine WP.nx ?_
 refine WPc.ifP rfl (fun h1 => ?_) (fun h1 => ?_)
 ·
  have h1 : ((300 : Int) < ((l.length : Nat) : Int)) := h1
  refine WPc.sr ?_
  iterate 3 (refine WP.val rfl rfl rfl (Val.assign rfl rfl) ?_)
  refine WP.nx ?_
  refine WPc.ret ?_
  refine Out.then_ret ?_
  refine Out.drop ?_
  exact Out.retRun (L' := _) (results_ttt Try.results7 rfl rfl rfl) (.inl ⟨by unfold lifeR; rw [if_pos (by omega)], rfl, rfl⟩) (fun _ h => h)
 ·
  have h1 : ¬ ((300 : Int) < ((l.length : Nat) : Int)) := h1
  refine WPc.skip ?_
  refine Out.next ?_
  refine WPc.sr ?_
  refine WP.val rfl rfl rfl (Val.assign rfl rfl) ?_
  refine WP.nx ?_
  refine WPc.seq ?_
  refine WPc.seq ?_
  refine WPc.conv (fun w h => Sat.sep_mk (M := [Pure True, A0]) (Sat.pure_mk trivial h)) ?_
  refine WPc.conv (fun w h => Sat.kNil (R := WAP) h) ?_
  refine WPc.conv (fun w h => h.ownNil (e := 42) (k := 10)) ?_
  show WPc _ _ _ _ _ _ (Own 42 10 (.slice none 0 0) 0 ([]) :: Kds WAP [] :: Sep [Pure True, A0] :: _)
  refine WPc.region ?_
  refine WP.val rfl rfl rfl (Val.move rfl rfl) ?_
  refine WP.val rfl rfl rfl (Val.len rfl Ty.sl22 rfl) ?_
  refine WP.val rfl rfl rfl (Val.move rfl rfl) ?_
  refine WP.nx ?_
  refine WPc.block ?_
  refine WPc.loop (ι := Nat × Value × Value × HProp × List Vn × List WA) (fun ⟨i, vl, va5, E, vs, was⟩ => i ≤ l.length ∧ life l0 (l.take i) = some (vs, was.map WA.pr) ∧ was.length = i ∧ (∀ x ∈ was, x.gl.map (·.1) = dgens x.lb) ∧ Rd (Sep [E, A0]) 6 Vn.cells vl vs ∧ vs.length ≤ l0.length + i) (fun ⟨i, vl, va5, E, vs, was⟩ => [(0, vl), (7, va5), (16, .slice (some ⟨b0, o0, none⟩) l.length c0), (17, .int .i64 (((l.length : Nat) : Int))), (18, .int .i64 (((i : Nat) : Int)))]) (fun ⟨i, vl, va5, E, vs, was⟩ => Own 42 10 va5 was.length (flatOf WA.cells was) :: Kds WAP was :: Sep [E, A0] :: A :: F) (fun ⟨i, vl, va5, E, vs, was⟩ => l.length - i) (0, va, .slice none 0 0, Pure True, l0, []) ⟨Nat.zero_le _, rfl, rfl, (fun x hx => by cases hx), hva.mono (fun w hw => Holds.sep2b hw), Nat.le_refl _⟩ ((Sub.cons rfl (Sub.cons rfl (Sub.cons rfl (Sub.cons rfl (Sub.cons rfl Sub.nil)))))) (fun _ h => h) ?_
  rintro ⟨i, vl, va5, E, vs, was⟩ ⟨hi, hlife, hwn, hgs, hvl, hvln⟩
  show WPc _ _ _ _ _ [(0, vl), (7, va5), (16, .slice (some ⟨b0, o0, none⟩) l.length c0), (17, .int .i64 (((l.length : Nat) : Int))), (18, .int .i64 (((i : Nat) : Int)))] (Own 42 10 va5 was.length (flatOf WA.cells was) :: Kds WAP was :: Sep [E, A0] :: _)
  replace hi : i ≤ l.length := hi
  replace hlife : life l0 _ = some (vs, was.map WA.pr) := hlife
  replace hwn : was.length = i := hwn
  replace hgs : ∀ x ∈ was, x.gl.map (·.1) = dgens x.lb := hgs
  replace hvl : Rd (Sep [E, A0]) 6 Vn.cells vl vs := hvl
  replace hvln : vs.length ≤ l0.length + i := hvln
  have hvs : vs.length ≤ 100000 := by omega
  refine WPc.sr ?_
  refine WP.val rfl rfl rfl (Val.lss rfl rfl rfl) ?_
  refine WP.nx ?_
  refine WPc.seq ?_
  refine WPc.ifP rfl (fun h2 => ?_) (fun h2 => ?_)
  ·
   have h2 : (((i : Nat) : Int) < ((l.length : Nat) : Int)) := h2
   refine WPc.skip ?_
   refine Out.next ?_
   refine WPc.seq ?_
   refine WPc.block ?_
   refine WPc.seq ?_
   have hlt : i < l.length := by omega
   obtain ⟨o, hx⟩ : ∃ o, l[i]? = some o := ⟨_, List.getElem?_eq_getElem hlt⟩
   refine WPc.region ?_
   refine WP.val rfl rfl rfl (Val.move rfl rfl) ?_
   refine WP.val rfl rfl rfl (Val.indexAddr (j := i) (q := o0 + i * 7) rfl Ty.sl22 rfl rfl (by omega) (by omega) (by omega)) ?_
   refine WP.val rfl rfl rfl (Val.loadAgg (cs := (KOp.cells o)) rfl Ty.ag38 rfl (by rfl) (fun w h => hr w (h.at 3 rfl) i o hx)) ?_
   refine WP.eff rfl rfl rfl (Eff.alloc rfl Ty.z38) ?_
   rintro _ _ ⟨b1, rfl, rfl⟩
   refine WP.val rfl rfl rfl (Val.assign rfl rfl) ?_
   refine WP.eff0 rfl rfl (Eff.storeAgg (cs := [.int .i64 (o.k), .int .i64 (o.r.m), .int .i64 (o.r.s), .int .i64 (o.c.m), .int .i64 (o.c.s), .int .i64 (o.v), .int .i64 (o.at_)]) (C' := [.int .i64 (o.k), .int .i64 (o.r.m), .int .i64 (o.r.s), .int .i64 (o.c.m), .int .i64 (o.c.s), .int .i64 (o.v), .int .i64 (o.at_)]) rfl Ty.ag38 rfl rfl rfl rfl (by simp) rfl) ?_
   rintro _ _ rfl
   refine WP.nx ?_
   refine WPc.seq ?_
   refine WPc.sr ?_
   refine WP.val rfl rfl rfl (Val.fieldAddr (j := 0) rfl Ty.fo38_0 rfl rfl) ?_
   refine WP.val rfl rfl rfl (Val.load rfl Ty.sc3 rfl (fun w h => h.cell 0 rfl rfl)) ?_
   refine WP.val rfl rfl rfl (Val.eql rfl rfl rfl) ?_
   refine WP.val rfl rfl rfl (Val.move rfl rfl) ?_
   refine WP.split 26 rfl (fun h3 => ?_) (fun h3 => ?_)
   ·
    have h3 : (o.k = (3 : Int)) := h3
    iterate 3 (refine WP.skip rfl rfl rfl rfl rfl rfl rfl ?_)
    refine WP.val rfl rfl rfl (Val.pickT rfl rfl rfl) ?_
    refine WP.val rfl rfl rfl (Val.move rfl rfl) ?_
    iterate 3 (refine WP.skip rfl rfl rfl rfl rfl rfl rfl ?_)
    refine WP.val rfl rfl rfl (Val.pickT rfl rfl rfl) ?_
    refine WP.val rfl rfl rfl (Val.move rfl rfl) ?_
    iterate 3 (refine WP.skip rfl rfl rfl rfl rfl rfl rfl ?_)
    refine WP.val rfl rfl rfl (Val.pickT rfl rfl rfl) ?_
    refine WP.nx ?_
    refine WPc.condT rfl rfl ?_
    refine WPc.sr ?_
    iterate 3 (refine WP.val rfl rfl rfl (Val.assign rfl rfl) ?_)
    refine WP.nx ?_
    refine WPc.ret ?_
    refine Out.then_ret ?_
    refine Out.block_ret ?_
    refine Out.then_ret ?_
    refine Out.then_ret ?_
    refine Out.block_ret ?_
    refine Out.then_ret ?_
    iterate 4 (refine Out.drop ?_)
    exact Out.retRun (L' := _) (results_ttt Try.results7 rfl rfl rfl) (.inl ⟨life_stop hx hlife hwn (.inl (by unfold bad1; omega)), rfl, rfl⟩) (fun _ h => h)
   ·
    have h3 : ¬ (o.k = (3 : Int)) := h3
    refine WP.valG rfl rfl rfl rfl rfl rfl rfl (Val.fieldAddr (j := 0) rfl Ty.fo38_0 rfl rfl) ?_
    refine WP.valG rfl rfl rfl rfl rfl rfl rfl (Val.load rfl Ty.sc3 rfl (fun w h => h.cell 0 rfl rfl)) ?_
    refine WP.valG rfl rfl rfl rfl rfl rfl rfl (Val.eql rfl rfl rfl) ?_
    refine WP.val rfl rfl rfl (Val.pickF rfl rfl rfl) ?_
    refine WP.val rfl rfl rfl (Val.move rfl rfl) ?_
    refine WP.split 31 rfl (fun h4 => ?_) (fun h4 => ?_)
    ·
     have h4 : (o.k = (4 : Int)) := h4
     iterate 3 (refine WP.skip rfl rfl rfl rfl rfl rfl rfl ?_)
     refine WP.val rfl rfl rfl (Val.pickT rfl rfl rfl) ?_
     refine WP.val rfl rfl rfl (Val.move rfl rfl) ?_
     iterate 3 (refine WP.skip rfl rfl rfl rfl rfl rfl rfl ?_)
     refine WP.val rfl rfl rfl (Val.pickT rfl rfl rfl) ?_
     refine WP.nx ?_
     refine WPc.condT rfl rfl ?_
     refine WPc.sr ?_
     iterate 3 (refine WP.val rfl rfl rfl (Val.assign rfl rfl) ?_)
     refine WP.nx ?_
     refine WPc.ret ?_
     refine Out.then_ret ?_
     refine Out.block_ret ?_
     refine Out.then_ret ?_
     refine Out.then_ret ?_
     refine Out.block_ret ?_
     refine Out.then_ret ?_
     iterate 4 (refine Out.drop ?_)
     exact Out.retRun (L' := _) (results_ttt Try.results7 rfl rfl rfl) (.inl ⟨life_stop hx hlife hwn (.inl (by unfold bad1; omega)), rfl, rfl⟩) (fun _ h => h)
    ·
     have h4 : ¬ (o.k = (4 : Int)) := h4
     refine WP.valG rfl rfl rfl rfl rfl rfl rfl (Val.fieldAddr (j := 0) rfl Ty.fo38_0 rfl rfl) ?_
     refine WP.valG rfl rfl rfl rfl rfl rfl rfl (Val.load rfl Ty.sc3 rfl (fun w h => h.cell 0 rfl rfl)) ?_
     refine WP.valG rfl rfl rfl rfl rfl rfl rfl (Val.lss rfl rfl rfl) ?_
     refine WP.val rfl rfl rfl (Val.pickF rfl rfl rfl) ?_
     refine WP.val rfl rfl rfl (Val.move rfl rfl) ?_
     refine WP.split 36 rfl (fun h5 => ?_) (fun h5 => ?_)
     ·
      have h5 : (o.k < (1 : Int)) := h5
      iterate 3 (refine WP.skip rfl rfl rfl rfl rfl rfl rfl ?_)
      refine WP.val rfl rfl rfl (Val.pickT rfl rfl rfl) ?_
      refine WP.nx ?_
      refine WPc.condT rfl rfl ?_
      refine WPc.sr ?_
      iterate 3 (refine WP.val rfl rfl rfl (Val.assign rfl rfl) ?_)
      refine WP.nx ?_
      refine WPc.ret ?_
      refine Out.then_ret ?_
      refine Out.block_ret ?_
      refine Out.then_ret ?_
      refine Out.then_ret ?_
      refine Out.block_ret ?_
      refine Out.then_ret ?_
      iterate 4 (refine Out.drop ?_)
      exact Out.retRun (L' := _) (results_ttt Try.results7 rfl rfl rfl) (.inl ⟨life_stop hx hlife hwn (.inl (by unfold bad1; omega)), rfl, rfl⟩) (fun _ h => h)
     ·
      have h5 : ¬ (o.k < (1 : Int)) := h5
      refine WP.valG rfl rfl rfl rfl rfl rfl rfl (Val.fieldAddr (j := 0) rfl Ty.fo38_0 rfl rfl) ?_
      refine WP.valG rfl rfl rfl rfl rfl rfl rfl (Val.load rfl Ty.sc3 rfl (fun w h => h.cell 0 rfl rfl)) ?_
      refine WP.valG rfl rfl rfl rfl rfl rfl rfl (Val.gtr rfl rfl rfl) ?_
      refine WP.val rfl rfl rfl (Val.pickF rfl rfl rfl) ?_
      refine WP.nx ?_
      refine WPc.ifP rfl (fun h6 => ?_) (fun h6 => ?_)
      ·
       have h6 : ((8 : Int) < o.k) := h6
       refine WPc.sr ?_
       iterate 3 (refine WP.val rfl rfl rfl (Val.assign rfl rfl) ?_)
       refine WP.nx ?_
       refine WPc.ret ?_
       refine Out.then_ret ?_
       refine Out.block_ret ?_
       refine Out.then_ret ?_
       refine Out.then_ret ?_
       refine Out.block_ret ?_
       refine Out.then_ret ?_
       iterate 4 (refine Out.drop ?_)
       exact Out.retRun (L' := _) (results_ttt Try.results7 rfl rfl rfl) (.inl ⟨life_stop hx hlife hwn (.inl (by unfold bad1; omega)), rfl, rfl⟩) (fun _ h => h)
      ·
       have h6 : ¬ ((8 : Int) < o.k) := h6
       refine WPc.skip ?_
       refine Out.next ?_
       refine WPc.seq ?_
       refine WPc.cut (ι := Bool) (fun q => q = decide (bad2 i vs o)) (fun q => [(0, vl), (7, va5), (8, .int .i64 (((i : Nat) : Int))), (9, .pointer (some ⟨b1, 0, none⟩)), (16, .slice (some ⟨b0, o0, none⟩) l.length c0), (17, .int .i64 (((l.length : Nat) : Int))), (18, .int .i64 (((i : Nat) : Int))), (68, .bool (q))]) (fun q => Blk b1 [.int .i64 (o.k), .int .i64 (o.r.m), .int .i64 (o.r.s), .int .i64 (o.c.m), .int .i64 (o.c.s), .int .i64 (o.v), .int .i64 (o.at_)] 38 :: Own 42 10 va5 was.length (flatOf WA.cells was) :: Kds WAP was :: Sep [E, A0] :: A :: F) ?_ ?_
       ·
        refine WPc.region ?_
        refine WP.val rfl rfl rfl (Val.move rfl rfl) ?_
        refine WP.val rfl rfl rfl (Val.eql rfl rfl rfl) ?_
        refine WP.val rfl rfl rfl (Val.move rfl rfl) ?_
        refine WP.split 43 rfl (fun h7 => ?_) (fun h7 => ?_)
        ·
         have h7 : (((i : Nat) : Int) = (0 : Int)) := h7
         refine WP.valG rfl rfl rfl rfl rfl rfl rfl (Val.move rfl rfl) ?_
         refine WP.valG rfl rfl rfl rfl rfl rfl rfl (Rd.len hvl rfl Ty.sl23 rfl) ?_
         refine WP.valG rfl rfl rfl rfl rfl rfl rfl (Val.eql rfl rfl rfl) ?_
         refine WP.val rfl rfl rfl (Val.pickT rfl rfl rfl) ?_
         refine WP.val rfl rfl rfl (Val.move rfl rfl) ?_
         refine WP.split 48 rfl (fun h8 => ?_) (fun h8 => ?_)
         ·
          have h8 : (((vs.length : Nat) : Int) = (0 : Int)) := h8
          refine WP.valG rfl rfl rfl rfl rfl rfl rfl (Val.fieldAddr (j := 0) rfl Ty.fo38_0 rfl rfl) ?_
          refine WP.valG rfl rfl rfl rfl rfl rfl rfl (Val.load rfl Ty.sc3 rfl (fun w h => h.cell 0 rfl rfl)) ?_
          refine WP.valG rfl rfl rfl rfl rfl rfl rfl (Val.neq rfl rfl rfl) ?_
          refine WP.val rfl rfl rfl (Val.pickT rfl rfl rfl) ?_
          refine WP.val rfl rfl rfl (Val.move rfl rfl) ?_
          refine WP.split 53 rfl (fun h9 => ?_) (fun h9 => ?_)
          ·
           have h9 : (o.k ≠ (1 : Int)) := h9
           iterate 4 (refine WP.skip rfl rfl rfl rfl rfl rfl rfl ?_)
           iterate 3 (refine WP.skipU rfl rfl rfl rfl rfl rfl ?_)
           refine WP.skip rfl rfl rfl rfl rfl rfl rfl ?_
           refine WP.skip rfl rfl rfl rfl rfl rfl rfl ?_
           iterate 4 (refine WP.skipU rfl rfl rfl rfl rfl rfl ?_)
           refine WP.skip rfl rfl rfl rfl rfl rfl rfl ?_
           refine WP.val rfl rfl rfl (Val.pickT rfl rfl rfl) ?_
           refine WP.nil ?_
           refine Out.meet true ?_ ?_ ?_
           ·
            exact (show true = decide (bad2 i vs o) from (decide_eq_true (by unfold bad2; omega)).symm)
           ·
            exact (Sub.cons rfl (Sub.cons rfl (Sub.cons rfl (Sub.cons rfl (Sub.cons rfl (Sub.cons rfl (Sub.cons rfl (Sub.cons rfl Sub.nil))))))))
           ·
            exact (fun _ h => h)
          ·
           have h9 : ¬ (o.k ≠ (1 : Int)) := h9
           refine WP.valG rfl rfl rfl rfl rfl rfl rfl (Val.fieldAddr (j := 0) rfl Ty.fo38_0 rfl rfl) ?_
           refine WP.valG rfl rfl rfl rfl rfl rfl rfl (Val.load rfl Ty.sc3 rfl (fun w h => h.cell 0 rfl rfl)) ?_
           refine WP.valG rfl rfl rfl rfl rfl rfl rfl (Val.eql rfl rfl rfl) ?_
           refine WP.valG rfl rfl rfl rfl rfl rfl rfl (Val.move rfl rfl) ?_
           refine WP.split 57 rfl (fun h10 => ?_) (fun h10 => ?_)
           ·
            have h10 : (o.k = (1 : Int)) := h10
            iterate 3 (refine WP.skip rfl rfl rfl rfl rfl rfl rfl ?_)
            refine WP.valG rfl rfl rfl rfl rfl rfl rfl (Val.pickT rfl rfl rfl) ?_
            refine WP.valG rfl rfl rfl rfl rfl rfl rfl (Val.move rfl rfl) ?_
            refine WP.valG rfl rfl rfl rfl rfl rfl rfl (Val.fieldAddr (j := 1) rfl Ty.fo38_1 rfl rfl) ?_
            refine WP.valG rfl rfl rfl rfl rfl rfl rfl (Val.loadAgg (cs := [.int .i64 (o.r.m), .int .i64 (o.r.s)]) rfl Ty.ag32 rfl rfl (fun w h => h.range 0 rfl rfl)) ?_
            refine WP.effG rfl rfl rfl rfl rfl rfl rfl (Eff.call rfl rfl Try.call15 (ixrev_spec o.r)) ?_
            rintro _ _ ⟨_, ⟨rfl, rfl⟩, rfl⟩
            show WP _ _ _ _ _ _ _ (Blk b1 [.int .i64 (o.k), .int .i64 (o.r.m), .int .i64 (o.r.s), .int .i64 (o.c.m), .int .i64 (o.c.s), .int .i64 (o.v), .int .i64 (o.at_)] 38 :: _)
            refine WP.valG rfl rfl rfl rfl rfl rfl rfl (Val.notP rfl rfl) ?_
            refine WP.valG rfl rfl rfl rfl rfl rfl rfl (Val.pickT rfl rfl rfl) ?_
            refine WP.val rfl rfl rfl (Val.pickF rfl rfl rfl) ?_
            refine WP.nil ?_
            refine Out.meet (decide (¬ (1 ≤ o.r.m ∧ 0 ≤ o.r.s))) ?_ ?_ ?_
            ·
             exact (show (decide (¬ (1 ≤ o.r.m ∧ 0 ≤ o.r.s))) = decide (bad2 i vs o) from decide_eq_decide.2 (by unfold bad2; omega))
            ·
             exact (Sub.cons rfl (Sub.cons rfl (Sub.cons rfl (Sub.cons rfl (Sub.cons rfl (Sub.cons rfl (Sub.cons rfl (Sub.cons rfl Sub.nil))))))))
            ·
             exact (fun _ h => h)
           ·
            have h10 : ¬ (o.k = (1 : Int)) := h10
            refine WP.valG rfl rfl rfl rfl rfl rfl rfl (Val.fieldAddr (j := 0) rfl Ty.fo38_0 rfl rfl) ?_
            refine WP.valG rfl rfl rfl rfl rfl rfl rfl (Val.load rfl Ty.sc3 rfl (fun w h => h.cell 0 rfl rfl)) ?_
            refine WP.valG rfl rfl rfl rfl rfl rfl rfl (Val.eql rfl rfl rfl) ?_
            refine WP.valG rfl rfl rfl rfl rfl rfl rfl (Val.pickF rfl rfl rfl) ?_
            refine WP.valG rfl rfl rfl rfl rfl rfl rfl (Val.move rfl rfl) ?_
            refine WP.split 62 rfl (fun h11 => ?_) (fun h11 => ?_)
            ·
             have h11 : (o.k = (2 : Int)) := h11
             refine WP.valG rfl rfl rfl rfl rfl rfl rfl (Val.fieldAddr (j := 1) rfl Ty.fo38_1 rfl rfl) ?_
             refine WP.valG rfl rfl rfl rfl rfl rfl rfl (Val.loadAgg (cs := [.int .i64 (o.r.m), .int .i64 (o.r.s)]) rfl Ty.ag32 rfl rfl (fun w h => h.range 0 rfl rfl)) ?_
             refine WP.effG rfl rfl rfl rfl rfl rfl rfl (Eff.call rfl rfl Try.call15 (ixrev_spec o.r)) ?_
             rintro _ _ ⟨_, ⟨rfl, rfl⟩, rfl⟩
             show WP _ _ _ _ _ _ _ (Blk b1 [.int .i64 (o.k), .int .i64 (o.r.m), .int .i64 (o.r.s), .int .i64 (o.c.m), .int .i64 (o.c.s), .int .i64 (o.v), .int .i64 (o.at_)] 38 :: _)
             refine WP.valG rfl rfl rfl rfl rfl rfl rfl (Val.notP rfl rfl) ?_
             refine WP.valG rfl rfl rfl rfl rfl rfl rfl (Val.pickT rfl rfl rfl) ?_
             refine WP.val rfl rfl rfl (Val.pickF rfl rfl rfl) ?_
             refine WP.nil ?_
             refine Out.meet (decide (¬ (1 ≤ o.r.m ∧ 0 ≤ o.r.s))) ?_ ?_ ?_
             ·
              exact (show (decide (¬ (1 ≤ o.r.m ∧ 0 ≤ o.r.s))) = decide (bad2 i vs o) from decide_eq_decide.2 (by unfold bad2; omega))
             ·
              exact (Sub.cons rfl (Sub.cons rfl (Sub.cons rfl (Sub.cons rfl (Sub.cons rfl (Sub.cons rfl (Sub.cons rfl (Sub.cons rfl Sub.nil))))))))
             ·
              exact (fun _ h => h)
            ·
             have h11 : ¬ (o.k = (2 : Int)) := h11
             iterate 4 (refine WP.skip rfl rfl rfl rfl rfl rfl rfl ?_)
             refine WP.valG rfl rfl rfl rfl rfl rfl rfl (Val.pickF rfl rfl rfl) ?_
             refine WP.val rfl rfl rfl (Val.pickF rfl rfl rfl) ?_
             refine WP.nil ?_
             refine Out.meet false ?_ ?_ ?_
             ·
              exact (show false = decide (bad2 i vs o) from (decide_eq_false (by unfold bad2; omega)).symm)
             ·
              exact (Sub.cons rfl (Sub.cons rfl (Sub.cons rfl (Sub.cons rfl (Sub.cons rfl (Sub.cons rfl (Sub.cons rfl (Sub.cons rfl Sub.nil))))))))
             ·
              exact (fun _ h => h)
         ·
          have h8 : ¬ (((vs.length : Nat) : Int) = (0 : Int)) := h8
          iterate 3 (refine WP.skip rfl rfl rfl rfl rfl rfl rfl ?_)
          refine WP.val rfl rfl rfl (Val.pickF rfl rfl rfl) ?_
          refine WP.val rfl rfl rfl (Val.move rfl rfl) ?_
          refine WP.valG rfl rfl rfl rfl rfl rfl rfl (Val.fieldAddr (j := 0) rfl Ty.fo38_0 rfl rfl) ?_
          refine WP.valG rfl rfl rfl rfl rfl rfl rfl (Val.load rfl Ty.sc3 rfl (fun w h => h.cell 0 rfl rfl)) ?_
          refine WP.valG rfl rfl rfl rfl rfl rfl rfl (Val.eql rfl rfl rfl) ?_
          refine WP.valG rfl rfl rfl rfl rfl rfl rfl (Val.move rfl rfl) ?_
          refine WP.split 57 rfl (fun h12 => ?_) (fun h12 => ?_)
          ·
           have h12 : (o.k = (1 : Int)) := h12
           iterate 3 (refine WP.skip rfl rfl rfl rfl rfl rfl rfl ?_)
           refine WP.valG rfl rfl rfl rfl rfl rfl rfl (Val.pickT rfl rfl rfl) ?_
           refine WP.valG rfl rfl rfl rfl rfl rfl rfl (Val.move rfl rfl) ?_
           refine WP.valG rfl rfl rfl rfl rfl rfl rfl (Val.fieldAddr (j := 1) rfl Ty.fo38_1 rfl rfl) ?_
           refine WP.valG rfl rfl rfl rfl rfl rfl rfl (Val.loadAgg (cs := [.int .i64 (o.r.m), .int .i64 (o.r.s)]) rfl Ty.ag32 rfl rfl (fun w h => h.range 0 rfl rfl)) ?_
           refine WP.effG rfl rfl rfl rfl rfl rfl rfl (Eff.call rfl rfl Try.call15 (ixrev_spec o.r)) ?_
           rintro _ _ ⟨_, ⟨rfl, rfl⟩, rfl⟩
           show WP _ _ _ _ _ _ _ (Blk b1 [.int .i64 (o.k), .int .i64 (o.r.m), .int .i64 (o.r.s), .int .i64 (o.c.m), .int .i64 (o.c.s), .int .i64 (o.v), .int .i64 (o.at_)] 38 :: _)
           refine WP.valG rfl rfl rfl rfl rfl rfl rfl (Val.notP rfl rfl) ?_
           refine WP.valG rfl rfl rfl rfl rfl rfl rfl (Val.pickT rfl rfl rfl) ?_
           refine WP.val rfl rfl rfl (Val.pickF rfl rfl rfl) ?_
           refine WP.nil ?_
           refine Out.meet (decide (¬ (1 ≤ o.r.m ∧ 0 ≤ o.r.s))) ?_ ?_ ?_
           ·
            exact (show (decide (¬ (1 ≤ o.r.m ∧ 0 ≤ o.r.s))) = decide (bad2 i vs o) from decide_eq_decide.2 (by unfold bad2; omega))
           ·
            exact (Sub.cons rfl (Sub.cons rfl (Sub.cons rfl (Sub.cons rfl (Sub.cons rfl (Sub.cons rfl (Sub.cons rfl (Sub.cons rfl Sub.nil))))))))
           ·
            exact (fun _ h => h)
          ·
           have h12 : ¬ (o.k = (1 : Int)) := h12
           refine WP.valG rfl rfl rfl rfl rfl rfl rfl (Val.fieldAddr (j := 0) rfl Ty.fo38_0 rfl rfl) ?_
           refine WP.valG rfl rfl rfl rfl rfl rfl rfl (Val.load rfl Ty.sc3 rfl (fun w h => h.cell 0 rfl rfl)) ?_
           refine WP.valG rfl rfl rfl rfl rfl rfl rfl (Val.eql rfl rfl rfl) ?_
           refine WP.valG rfl rfl rfl rfl rfl rfl rfl (Val.pickF rfl rfl rfl) ?_
           refine WP.valG rfl rfl rfl rfl rfl rfl rfl (Val.move rfl rfl) ?_
           refine WP.split 62 rfl (fun h13 => ?_) (fun h13 => ?_)
           ·
            have h13 : (o.k = (2 : Int)) := h13
            refine WP.valG rfl rfl rfl rfl rfl rfl rfl (Val.fieldAddr (j := 1) rfl Ty.fo38_1 rfl rfl) ?_
            refine WP.valG rfl rfl rfl rfl rfl rfl rfl (Val.loadAgg (cs := [.int .i64 (o.r.m), .int .i64 (o.r.s)]) rfl Ty.ag32 rfl rfl (fun w h => h.range 0 rfl rfl)) ?_
            refine WP.effG rfl rfl rfl rfl rfl rfl rfl (Eff.call rfl rfl Try.call15 (ixrev_spec o.r)) ?_
            rintro _ _ ⟨_, ⟨rfl, rfl⟩, rfl⟩
            show WP _ _ _ _ _ _ _ (Blk b1 [.int .i64 (o.k), .int .i64 (o.r.m), .int .i64 (o.r.s), .int .i64 (o.c.m), .int .i64 (o.c.s), .int .i64 (o.v), .int .i64 (o.at_)] 38 :: _)
            refine WP.valG rfl rfl rfl rfl rfl rfl rfl (Val.notP rfl rfl) ?_
            refine WP.valG rfl rfl rfl rfl rfl rfl rfl (Val.pickT rfl rfl rfl) ?_
            refine WP.val rfl rfl rfl (Val.pickF rfl rfl rfl) ?_
            refine WP.nil ?_
            refine Out.meet (decide (¬ (1 ≤ o.r.m ∧ 0 ≤ o.r.s))) ?_ ?_ ?_
            ·
             exact (show (decide (¬ (1 ≤ o.r.m ∧ 0 ≤ o.r.s))) = decide (bad2 i vs o) from decide_eq_decide.2 (by unfold bad2; omega))
            ·
             exact (Sub.cons rfl (Sub.cons rfl (Sub.cons rfl (Sub.cons rfl (Sub.cons rfl (Sub.cons rfl (Sub.cons rfl (Sub.cons rfl Sub.nil))))))))
            ·
             exact (fun _ h => h)
           ·
            have h13 : ¬ (o.k = (2 : Int)) := h13
            iterate 4 (refine WP.skip rfl rfl rfl rfl rfl rfl rfl ?_)
            refine WP.valG rfl rfl rfl rfl rfl rfl rfl (Val.pickF rfl rfl rfl) ?_
            refine WP.val rfl rfl rfl (Val.pickF rfl rfl rfl) ?_
            refine WP.nil ?_
            refine Out.meet false ?_ ?_ ?_
            ·
             exact (show false = decide (bad2 i vs o) from (decide_eq_false (by unfold bad2; omega)).symm)
            ·
             exact (Sub.cons rfl (Sub.cons rfl (Sub.cons rfl (Sub.cons rfl (Sub.cons rfl (Sub.cons rfl (Sub.cons rfl (Sub.cons rfl Sub.nil))))))))
            ·
             exact (fun _ h => h)
        ·
         have h7 : ¬ (((i : Nat) : Int) = (0 : Int)) := h7
         iterate 3 (refine WP.skip rfl rfl rfl rfl rfl rfl rfl ?_)
         refine WP.val rfl rfl rfl (Val.pickF rfl rfl rfl) ?_
         refine WP.val rfl rfl rfl (Val.move rfl rfl) ?_
         iterate 3 (refine WP.skip rfl rfl rfl rfl rfl rfl rfl ?_)
         refine WP.val rfl rfl rfl (Val.pickF rfl rfl rfl) ?_
         refine WP.val rfl rfl rfl (Val.move rfl rfl) ?_
         refine WP.valG rfl rfl rfl rfl rfl rfl rfl (Val.fieldAddr (j := 0) rfl Ty.fo38_0 rfl rfl) ?_
         refine WP.valG rfl rfl rfl rfl rfl rfl rfl (Val.load rfl Ty.sc3 rfl (fun w h => h.cell 0 rfl rfl)) ?_
         refine WP.valG rfl rfl rfl rfl rfl rfl rfl (Val.eql rfl rfl rfl) ?_
         refine WP.valG rfl rfl rfl rfl rfl rfl rfl (Val.move rfl rfl) ?_
         refine WP.split 57 rfl (fun h14 => ?_) (fun h14 => ?_)
         ·
          have h14 : (o.k = (1 : Int)) := h14
          iterate 3 (refine WP.skip rfl rfl rfl rfl rfl rfl rfl ?_)
          refine WP.valG rfl rfl rfl rfl rfl rfl rfl (Val.pickT rfl rfl rfl) ?_
          refine WP.valG rfl rfl rfl rfl rfl rfl rfl (Val.move rfl rfl) ?_
          refine WP.valG rfl rfl rfl rfl rfl rfl rfl (Val.fieldAddr (j := 1) rfl Ty.fo38_1 rfl rfl) ?_
          refine WP.valG rfl rfl rfl rfl rfl rfl rfl (Val.loadAgg (cs := [.int .i64 (o.r.m), .int .i64 (o.r.s)]) rfl Ty.ag32 rfl rfl (fun w h => h.range 0 rfl rfl)) ?_
          refine WP.effG rfl rfl rfl rfl rfl rfl rfl (Eff.call rfl rfl Try.call15 (ixrev_spec o.r)) ?_
          rintro _ _ ⟨_, ⟨rfl, rfl⟩, rfl⟩
          show WP _ _ _ _ _ _ _ (Blk b1 [.int .i64 (o.k), .int .i64 (o.r.m), .int .i64 (o.r.s), .int .i64 (o.c.m), .int .i64 (o.c.s), .int .i64 (o.v), .int .i64 (o.at_)] 38 :: _)
          refine WP.valG rfl rfl rfl rfl rfl rfl rfl (Val.notP rfl rfl) ?_
          refine WP.valG rfl rfl rfl rfl rfl rfl rfl (Val.pickT rfl rfl rfl) ?_
          refine WP.val rfl rfl rfl (Val.pickF rfl rfl rfl) ?_
          refine WP.nil ?_
          refine Out.meet (decide (¬ (1 ≤ o.r.m ∧ 0 ≤ o.r.s))) ?_ ?_ ?_
          ·
           exact (show (decide (¬ (1 ≤ o.r.m ∧ 0 ≤ o.r.s))) = decide (bad2 i vs o) from decide_eq_decide.2 (by unfold bad2; omega))
          ·
           exact (Sub.cons rfl (Sub.cons rfl (Sub.cons rfl (Sub.cons rfl (Sub.cons rfl (Sub.cons rfl (Sub.cons rfl (Sub.cons rfl Sub.nil))))))))
          ·
           exact (fun _ h => h)
         ·
          have h14 : ¬ (o.k = (1 : Int)) := h14
          refine WP.valG rfl rfl rfl rfl rfl rfl rfl (Val.fieldAddr (j := 0) rfl Ty.fo38_0 rfl rfl) ?_
          refine WP.valG rfl rfl rfl rfl rfl rfl rfl (Val.load rfl Ty.sc3 rfl (fun w h => h.cell 0 rfl rfl)) ?_
          refine WP.valG rfl rfl rfl rfl rfl rfl rfl (Val.eql rfl rfl rfl) ?_
          refine WP.valG rfl rfl rfl rfl rfl rfl rfl (Val.pickF rfl rfl rfl) ?_
          refine WP.valG rfl rfl rfl rfl rfl rfl rfl (Val.move rfl rfl) ?_
          refine WP.split 62 rfl (fun h15 => ?_) (fun h15 => ?_)
          ·
           have h15 : (o.k = (2 : Int)) := h15
           refine WP.valG rfl rfl rfl rfl rfl rfl rfl (Val.fieldAddr (j := 1) rfl Ty.fo38_1 rfl rfl) ?_
           refine WP.valG rfl rfl rfl rfl rfl rfl rfl (Val.loadAgg (cs := [.int .i64 (o.r.m), .int .i64 (o.r.s)]) rfl Ty.ag32 rfl rfl (fun w h => h.range 0 rfl rfl)) ?_
           refine WP.effG rfl rfl rfl rfl rfl rfl rfl (Eff.call rfl rfl Try.call15 (ixrev_spec o.r)) ?_
           rintro _ _ ⟨_, ⟨rfl, rfl⟩, rfl⟩
           show WP _ _ _ _ _ _ _ (Blk b1 [.int .i64 (o.k), .int .i64 (o.r.m), .int .i64 (o.r.s), .int .i64 (o.c.m), .int .i64 (o.c.s), .int .i64 (o.v), .int .i64 (o.at_)] 38 :: _)
           refine WP.valG rfl rfl rfl rfl rfl rfl rfl (Val.notP rfl rfl) ?_
           refine WP.valG rfl rfl rfl rfl rfl rfl rfl (Val.pickT rfl rfl rfl) ?_
           refine WP.val rfl rfl rfl (Val.pickF rfl rfl rfl) ?_
           refine WP.nil ?_
           refine Out.meet (decide (¬ (1 ≤ o.r.m ∧ 0 ≤ o.r.s))) ?_ ?_ ?_
           ·
            exact (show (decide (¬ (1 ≤ o.r.m ∧ 0 ≤ o.r.s))) = decide (bad2 i vs o) from decide_eq_decide.2 (by unfold bad2; omega))
           ·
            exact (Sub.cons rfl (Sub.cons rfl (Sub.cons rfl (Sub.cons rfl (Sub.cons rfl (Sub.cons rfl (Sub.cons rfl (Sub.cons rfl Sub.nil))))))))
           ·
            exact (fun _ h => h)
          ·
           have h15 : ¬ (o.k = (2 : Int)) := h15
           iterate 4 (refine WP.skip rfl rfl rfl rfl rfl rfl rfl ?_)
           refine WP.valG rfl rfl rfl rfl rfl rfl rfl (Val.pickF rfl rfl rfl) ?_
           refine WP.val rfl rfl rfl (Val.pickF rfl rfl rfl) ?_
           refine WP.nil ?_
           refine Out.meet false ?_ ?_ ?_
           ·
            exact (show false = decide (bad2 i vs o) from (decide_eq_false (by unfold bad2; omega)).symm)
           ·
            exact (Sub.cons rfl (Sub.cons rfl (Sub.cons rfl (Sub.cons rfl (Sub.cons rfl (Sub.cons rfl (Sub.cons rfl (Sub.cons rfl Sub.nil))))))))
           ·
            exact (fun _ h => h)
       ·
        rintro q hq
        show WPc _ _ _ _ _ [(0, _), (7, _), (8, .int .i64 (((i : Nat) : Int))), (9, .pointer (some ⟨b1, 0, none⟩)), (16, _), (17, _), (18, _), (68, .bool (q))] (Blk b1 [.int .i64 (o.k), .int .i64 (o.r.m), .int .i64 (o.r.s), .int .i64 (o.c.m), .int .i64 (o.c.s), .int .i64 (o.v), .int .i64 (o.at_)] 38 :: _)
        refine WPc.cond rfl (fun h16 => ?_) (fun h16 => ?_)
        ·
         have h16 : (q) = true := h16
         refine WPc.sr ?_
         iterate 3 (refine WP.val rfl rfl rfl (Val.assign rfl rfl) ?_)
         refine WP.nx ?_
         refine WPc.ret ?_
         refine Out.then_ret ?_
         refine Out.block_ret ?_
         refine Out.then_ret ?_
         refine Out.then_ret ?_
         refine Out.block_ret ?_
         refine Out.then_ret ?_
         iterate 4 (refine Out.drop ?_)
         exact Out.retRun (L' := _) (results_ttt Try.results7 rfl rfl rfl) (.inl ⟨life_stop hx hlife hwn (.inr (.inl (of_decide_eq_true (by rw [← hq]; assumption)))), rfl, rfl⟩) (fun _ h => h)
        ·
         have h16 : (q) = false := h16
         refine WPc.skip ?_
         refine Out.next ?_
         refine WPc.seq ?_
         refine WPc.cut (ι := Bool) (fun q2 => q2 = decide (bad3 vs o)) (fun q2 => [(0, vl), (7, va5), (8, .int .i64 (((i : Nat) : Int))), (9, .pointer (some ⟨b1, 0, none⟩)), (16, .slice (some ⟨b0, o0, none⟩) l.length c0), (17, .int .i64 (((l.length : Nat) : Int))), (18, .int .i64 (((i : Nat) : Int))), (90, .bool (q2))]) (fun q2 => Blk b1 [.int .i64 (o.k), .int .i64 (o.r.m), .int .i64 (o.r.s), .int .i64 (o.c.m), .int .i64 (o.c.s), .int .i64 (o.v), .int .i64 (o.at_)] 38 :: Own 42 10 va5 was.length (flatOf WA.cells was) :: Kds WAP was :: Sep [E, A0] :: A :: F) ?_ ?_
         ·
          refine WPD.s0 Ty.mixed ?_
          refine WPD.tM 0 rfl rfl rfl rfl (Val.fieldAddr (j := 0) rfl Ty.fo38_0 rfl rfl) ?_
          refine WPD.tL 1 rfl rfl rfl rfl (fun _ h => h) (Val.load rfl Ty.sc3 rfl (fun w h => h.cell 0 rfl rfl)) ?_
          refine WPD.tM 2 rfl rfl rfl rfl (Val.eql rfl rfl rfl) ?_
          refine WPD.tM 3 rfl rfl rfl rfl (Val.move rfl rfl) ?_
          refine WPD.split 72 rfl (fun h17 => ?_) (fun h17 => ?_)
          ·
           have h17 : (o.k = (1 : Int)) := h17
           refine WPD.takeGM 4 rfl rfl rfl rfl rfl rfl rfl rfl (by kernel_rfl) (by kernel_rfl) (by kernel_rfl) (by kernel_rfl) (fun _ _ _ h => h) (fun _ h => h) (Val.move rfl rfl) ?_
           refine WPD.takeG 5 rfl rfl rfl rfl rfl rfl rfl rfl (by kernel_rfl) (by kernel_rfl) (by kernel_rfl) (by kernel_rfl) (fun _ _ _ h => h) (by kernel_rfl) (fun _ h => h) (Rd.len hvl rfl Ty.sl23 rfl) ?_
           refine WPD.takeGM 6 rfl rfl rfl rfl rfl rfl rfl rfl (by kernel_rfl) (by kernel_rfl) (by kernel_rfl) (by kernel_rfl) (fun _ _ _ h => h) (fun _ h => h) (Val.gtr rfl rfl rfl) ?_
           refine WPD.tM 7 rfl rfl rfl rfl (Val.pickT rfl rfl rfl) ?_
           refine WPD.tM 8 rfl rfl rfl rfl (Val.move rfl rfl) ?_
           refine WPD.split 77 rfl (fun h18 => ?_) (fun h18 => ?_)
           ·
            have h18 : ((0 : Int) < ((vs.length : Nat) : Int)) := h18
            refine WPD.takeGM 9 rfl rfl rfl rfl rfl rfl rfl rfl (by kernel_rfl) (by kernel_rfl) (by kernel_rfl) (by kernel_rfl) (fun _ _ _ h => h) (fun _ h => h) (Val.move rfl rfl) ?_
            refine WPD.perm pl3 ?_
            refine WPD.stepGC 10 (by kernel_rfl) rfl rfl rfl rfl rfl rfl rfl rfl (by kernel_rfl) (Eff.call rfl rfl Try.call27 (lives_spec (Sep [E, A0]) vs hvs vl hvl)) ?_
            rintro _ _ ⟨_, ⟨rfl, rfl⟩, rfl⟩
            refine ⟨(Sat W [Blk b1 [.int .i64 (o.k), .int .i64 (o.r.m), .int .i64 (o.r.s), .int .i64 (o.c.m), .int .i64 (o.c.s), .int .i64 (o.v), .int .i64 (o.at_)] 38]), (fun w h => ((h.perm pl1)).dropEnd (L := [_])), ?_⟩
            refine WPD.takeGM 11 rfl rfl rfl rfl rfl rfl rfl rfl (by kernel_rfl) (by kernel_rfl) (by kernel_rfl) (by kernel_rfl) (fun _ _ _ h => h) (fun w h => ((h.perm pl1)).dropEnd (L := [_])) (Val.not rfl rfl) ?_
            refine WPD.tS 12 rfl rfl rfl rfl (fun w h => ((h.perm pl1)).dropEnd (L := [_])) (Val.pickT rfl rfl rfl) ?_
            refine WPD.tS 13 rfl rfl rfl rfl (fun w h => ((h.perm pl1)).dropEnd (L := [_])) (Val.move rfl rfl) ?_
            refine WPD.splitB 82 rfl (fun h19 => ?_) (fun h19 => ?_)
            ·
             refine WPD.takeGM 14 rfl rfl rfl rfl rfl rfl rfl rfl (by kernel_rfl) (by kernel_rfl) (by kernel_rfl) (by kernel_rfl) (fun _ _ _ h => h) (fun w h => ((h.perm pl1)).dropEnd (L := [_])) (Val.move rfl rfl) ?_
             refine WPD.takeGM 17 rfl rfl rfl rfl rfl rfl rfl rfl (by kernel_rfl) (by kernel_rfl) (by kernel_rfl) (by kernel_rfl) (fun _ _ _ h => h) (fun w h => ((h.perm pl1)).dropEnd (L := [_])) (Val.fieldAddr (j := 1) rfl Ty.fo38_1 rfl rfl) ?_
             refine WPD.takeGM 18 rfl rfl rfl rfl rfl rfl rfl rfl (by kernel_rfl) (by kernel_rfl) (by kernel_rfl) (by kernel_rfl) (fun _ _ _ h => h) (fun w h => ((h.perm pl1)).dropEnd (L := [_])) (Val.fieldAddr (j := 1) rfl Ty.fo32_0 rfl rfl) ?_
             refine WPD.takeG 19 rfl rfl rfl rfl rfl rfl rfl rfl (by kernel_rfl) (by kernel_rfl) (by kernel_rfl) (by kernel_rfl) (fun _ _ _ h => h) (by kernel_rfl) (fun w h => ((h.perm pl1)).dropEnd (L := [_])) (Val.load rfl Ty.sc2 rfl (fun w h => h.cell 0 rfl rfl)) ?_
             refine WPD.stepG 15 (by kernel_rfl) rfl rfl rfl rfl rfl rfl rfl rfl (Eff.call rfl rfl Try.call28 (mod_spec (Sep [E, A0]) vs hvs vl hvl)) ?_
             rintro _ _ ⟨_, ⟨rfl, rfl⟩, rfl⟩
             refine ⟨(fun w h => ((h.perm pl1)).dropEnd (L := [_])), ?_⟩
             refine WPD.takeGM 16 rfl rfl rfl rfl rfl rfl rfl rfl (by kernel_rfl) (by kernel_rfl) (by kernel_rfl) (by kernel_rfl) (fun _ _ _ h => h) (fun w h => ((h.perm pl1)).dropEnd (L := [_])) (Val.field rfl Ty.fs32_0 rfl rfl) ?_
             refine WPD.takeGM 20 rfl rfl rfl rfl rfl rfl rfl rfl (by kernel_rfl) (by kernel_rfl) (by kernel_rfl) (by kernel_rfl) (fun _ _ _ h => h) (fun w h => ((h.perm pl1)).dropEnd (L := [_])) (Val.eql rfl rfl rfl) ?_
             refine WPD.tS 21 rfl rfl rfl rfl (fun w h => ((h.perm pl1)).dropEnd (L := [_])) (Val.pickT rfl rfl rfl) ?_
             refine WPD.done (by kernel_rfl) ?_
             refine Out.perm pl4 ?_
             refine Out.perm pl1 ?_
             iterate 3 (refine Out.perm pl4 ?_)
             refine Out.meet (decide (((modi vs).m) = o.r.m)) ?_ ?_ ?_
             ·
              exact (show (decide (((modi vs).m) = o.r.m)) = decide (bad3 vs o) from decide_eq_decide.2 (by unfold bad3; simp_all <;> omega))
             ·
              exact (Sub.cons rfl (Sub.cons rfl (Sub.cons rfl (Sub.cons rfl (Sub.cons rfl (Sub.cons rfl (Sub.cons rfl (Sub.cons rfl Sub.nil))))))))
             ·
              exact (fun _ h => h)
            ·
             refine WPD.skip 14 rfl rfl rfl rfl rfl rfl rfl rfl (by kernel_rfl) (by kernel_rfl) (by kernel_rfl) (by kernel_rfl) (fun _ _ _ h => h) (fun w h => ((h.perm pl1)).dropEnd (L := [_])) ?_
             refine WPD.skip 17 rfl rfl rfl rfl rfl rfl rfl rfl (by kernel_rfl) (by kernel_rfl) (by kernel_rfl) (by kernel_rfl) (fun _ _ _ h => h) (fun w h => ((h.perm pl1)).dropEnd (L := [_])) ?_
             refine WPD.skip 18 rfl rfl rfl rfl rfl rfl rfl rfl (by kernel_rfl) (by kernel_rfl) (by kernel_rfl) (by kernel_rfl) (fun _ _ _ h => h) (fun w h => ((h.perm pl1)).dropEnd (L := [_])) ?_
             refine WPD.skip 19 rfl rfl rfl rfl rfl rfl rfl rfl (by kernel_rfl) (by kernel_rfl) (by kernel_rfl) (by kernel_rfl) (fun _ _ _ h => h) (fun w h => ((h.perm pl1)).dropEnd (L := [_])) ?_
             refine WPD.skip 15 rfl rfl rfl rfl rfl rfl rfl rfl (by kernel_rfl) (by kernel_rfl) (by kernel_rfl) (by kernel_rfl) (fun _ _ _ h => h) (fun w h => ((h.perm pl1)).dropEnd (L := [_])) ?_
             refine WPD.skip 16 rfl rfl rfl rfl rfl rfl rfl rfl (by kernel_rfl) (by kernel_rfl) (by kernel_rfl) (by kernel_rfl) (fun _ _ _ h => h) (fun w h => ((h.perm pl1)).dropEnd (L := [_])) ?_
             refine WPD.skip 20 rfl rfl rfl rfl rfl rfl rfl rfl (by kernel_rfl) (by kernel_rfl) (by kernel_rfl) (by kernel_rfl) (fun _ _ _ h => h) (fun w h => ((h.perm pl1)).dropEnd (L := [_])) ?_
             refine WPD.tS 21 rfl rfl rfl rfl (fun w h => ((h.perm pl1)).dropEnd (L := [_])) (Val.pickF rfl rfl rfl) ?_
             refine WPD.done (by kernel_rfl) ?_
             refine Out.perm pl4 ?_
             refine Out.perm pl1 ?_
             iterate 3 (refine Out.perm pl4 ?_)
             refine Out.meet false ?_ ?_ ?_
             ·
              exact (show false = decide (bad3 vs o) from (decide_eq_false (by unfold bad3; simp_all <;> omega)).symm)
             ·
              exact (Sub.cons rfl (Sub.cons rfl (Sub.cons rfl (Sub.cons rfl (Sub.cons rfl (Sub.cons rfl (Sub.cons rfl (Sub.cons rfl Sub.nil))))))))
             ·
              exact (fun _ h => h)
           ·
            have h18 : ¬ ((0 : Int) < ((vs.length : Nat) : Int)) := h18
            refine WPD.skip 9 rfl rfl rfl rfl rfl rfl rfl rfl (by kernel_rfl) (by kernel_rfl) (by kernel_rfl) (by kernel_rfl) (fun _ _ _ h => h) (fun _ h => h) ?_
            refine WPD.skip 10 rfl rfl rfl rfl rfl rfl rfl rfl (by kernel_rfl) (by kernel_rfl) (by kernel_rfl) (by kernel_rfl) (fun _ _ _ h => h) (fun _ h => h) ?_
            refine WPD.skip 11 rfl rfl rfl rfl rfl rfl rfl rfl (by kernel_rfl) (by kernel_rfl) (by kernel_rfl) (by kernel_rfl) (fun _ _ _ h => h) (fun _ h => h) ?_
            refine WPD.tM 12 rfl rfl rfl rfl (Val.pickF rfl rfl rfl) ?_
            refine WPD.tM 13 rfl rfl rfl rfl (Val.move rfl rfl) ?_
            refine WPD.skip 14 rfl rfl rfl rfl rfl rfl rfl rfl (by kernel_rfl) (by kernel_rfl) (by kernel_rfl) (by kernel_rfl) (fun _ _ _ h => h) (fun _ h => h) ?_
            refine WPD.skip 17 rfl rfl rfl rfl rfl rfl rfl rfl (by kernel_rfl) (by kernel_rfl) (by kernel_rfl) (by kernel_rfl) (fun _ _ _ h => h) (fun _ h => h) ?_
            refine WPD.skip 18 rfl rfl rfl rfl rfl rfl rfl rfl (by kernel_rfl) (by kernel_rfl) (by kernel_rfl) (by kernel_rfl) (fun _ _ _ h => h) (fun _ h => h) ?_
            refine WPD.skip 19 rfl rfl rfl rfl rfl rfl rfl rfl (by kernel_rfl) (by kernel_rfl) (by kernel_rfl) (by kernel_rfl) (fun _ _ _ h => h) (fun _ h => h) ?_
            refine WPD.skip 15 rfl rfl rfl rfl rfl rfl rfl rfl (by kernel_rfl) (by kernel_rfl) (by kernel_rfl) (by kernel_rfl) (fun _ _ _ h => h) (fun _ h => h) ?_
            refine WPD.skip 16 rfl rfl rfl rfl rfl rfl rfl rfl (by kernel_rfl) (by kernel_rfl) (by kernel_rfl) (by kernel_rfl) (fun _ _ _ h => h) (fun _ h => h) ?_
            refine WPD.skip 20 rfl rfl rfl rfl rfl rfl rfl rfl (by kernel_rfl) (by kernel_rfl) (by kernel_rfl) (by kernel_rfl) (fun _ _ _ h => h) (fun _ h => h) ?_
            refine WPD.tM 21 rfl rfl rfl rfl (Val.pickF rfl rfl rfl) ?_
            refine WPD.done (by kernel_rfl) ?_
            refine Out.meet false ?_ ?_ ?_
            ·
             exact (show false = decide (bad3 vs o) from (decide_eq_false (by unfold bad3; simp_all <;> omega)).symm)
            ·
             exact (Sub.cons rfl (Sub.cons rfl (Sub.cons rfl (Sub.cons rfl (Sub.cons rfl (Sub.cons rfl (Sub.cons rfl (Sub.cons rfl Sub.nil))))))))
            ·
             exact (fun _ h => h)
          ·
           have h17 : ¬ (o.k = (1 : Int)) := h17
           refine WPD.skip 4 rfl rfl rfl rfl rfl rfl rfl rfl (by kernel_rfl) (by kernel_rfl) (by kernel_rfl) (by kernel_rfl) (fun _ _ _ h => h) (fun _ h => h) ?_
           refine WPD.skip 5 rfl rfl rfl rfl rfl rfl rfl rfl (by kernel_rfl) (by kernel_rfl) (by kernel_rfl) (by kernel_rfl) (fun _ _ _ h => h) (fun _ h => h) ?_
           refine WPD.skip 6 rfl rfl rfl rfl rfl rfl rfl rfl (by kernel_rfl) (by kernel_rfl) (by kernel_rfl) (by kernel_rfl) (fun _ _ _ h => h) (fun _ h => h) ?_
           refine WPD.tM 7 rfl rfl rfl rfl (Val.pickF rfl rfl rfl) ?_
           refine WPD.tM 8 rfl rfl rfl rfl (Val.move rfl rfl) ?_
           refine WPD.skip 9 rfl rfl rfl rfl rfl rfl rfl rfl (by kernel_rfl) (by kernel_rfl) (by kernel_rfl) (by kernel_rfl) (fun _ _ _ h => h) (fun _ h => h) ?_
           refine WPD.skip 10 rfl rfl rfl rfl rfl rfl rfl rfl (by kernel_rfl) (by kernel_rfl) (by kernel_rfl) (by kernel_rfl) (fun _ _ _ h => h) (fun _ h => h) ?_
           refine WPD.skip 11 rfl rfl rfl rfl rfl rfl rfl rfl (by kernel_rfl) (by kernel_rfl) (by kernel_rfl) (by kernel_rfl) (fun _ _ _ h => h) (fun _ h => h) ?_
           refine WPD.tM 12 rfl rfl rfl rfl (Val.pickF rfl rfl rfl) ?_
           refine WPD.tM 13 rfl rfl rfl rfl (Val.move rfl rfl) ?_
           refine WPD.skip 14 rfl rfl rfl rfl rfl rfl rfl rfl (by kernel_rfl) (by kernel_rfl) (by kernel_rfl) (by kernel_rfl) (fun _ _ _ h => h) (fun _ h => h) ?_
           refine WPD.skip 17 rfl rfl rfl rfl rfl rfl rfl rfl (by kernel_rfl) (by kernel_rfl) (by kernel_rfl) (by kernel_rfl) (fun _ _ _ h => h) (fun _ h => h) ?_
           refine WPD.skip 18 rfl rfl rfl rfl rfl rfl rfl rfl (by kernel_rfl) (by kernel_rfl) (by kernel_rfl) (by kernel_rfl) (fun _ _ _ h => h) (fun _ h => h) ?_
           refine WPD.skip 19 rfl rfl rfl rfl rfl rfl rfl rfl (by kernel_rfl) (by kernel_rfl) (by kernel_rfl) (by kernel_rfl) (fun _ _ _ h => h) (fun _ h => h) ?_
           refine WPD.skip 15 rfl rfl rfl rfl rfl rfl rfl rfl (by kernel_rfl) (by kernel_rfl) (by kernel_rfl) (by kernel_rfl) (fun _ _ _ h => h) (fun _ h => h) ?_
           refine WPD.skip 16 rfl rfl rfl rfl rfl rfl rfl rfl (by kernel_rfl) (by kernel_rfl) (by kernel_rfl) (by kernel_rfl) (fun _ _ _ h => h) (fun _ h => h) ?_
           refine WPD.skip 20 rfl rfl rfl rfl rfl rfl rfl rfl (by kernel_rfl) (by kernel_rfl) (by kernel_rfl) (by kernel_rfl) (fun _ _ _ h => h) (fun _ h => h) ?_
           refine WPD.tM 21 rfl rfl rfl rfl (Val.pickF rfl rfl rfl) ?_
           refine WPD.done (by kernel_rfl) ?_
           refine Out.meet false ?_ ?_ ?_
           ·
            exact (show false = decide (bad3 vs o) from (decide_eq_false (by unfold bad3; simp_all <;> omega)).symm)
           ·
            exact (Sub.cons rfl (Sub.cons rfl (Sub.cons rfl (Sub.cons rfl (Sub.cons rfl (Sub.cons rfl (Sub.cons rfl (Sub.cons rfl Sub.nil))))))))
           ·
            exact (fun _ h => h)
         ·
          rintro q2 hq2
          show WPc _ _ _ _ _ [(0, _), (7, _), (8, _), (9, _), (16, _), (17, _), (18, _), (90, .bool (q2))] _
          refine WPc.cond rfl (fun h20 => ?_) (fun h20 => ?_)
          ·
           have h20 : (q2) = true := h20
           refine WPc.sr ?_
           iterate 3 (refine WP.val rfl rfl rfl (Val.assign rfl rfl) ?_)
           refine WP.nx ?_
           refine WPc.ret ?_
           refine Out.then_ret ?_
           refine Out.block_ret ?_
           refine Out.then_ret ?_
           refine Out.then_ret ?_
           refine Out.block_ret ?_
           refine Out.then_ret ?_
           iterate 4 (refine Out.drop ?_)
           exact Out.retRun (L' := _) (results_ttt Try.results7 rfl rfl rfl) (.inl ⟨life_stop hx hlife hwn (.inr (.inr (.inl (of_decide_eq_true (by rw [← hq2]; assumption))))), rfl, rfl⟩) (fun _ h => h)
          ·
           have h20 : (q2) = false := h20
           refine WPc.skip ?_
           refine Out.next ?_
           refine WPc.sr ?_
           refine WP.val rfl rfl rfl (Val.move rfl rfl) ?_
           refine WP.val rfl rfl rfl (Val.loadAgg (cs := [.int .i64 (o.k), .int .i64 (o.r.m), .int .i64 (o.r.s), .int .i64 (o.c.m), .int .i64 (o.c.s), .int .i64 (o.v), .int .i64 (o.at_)]) rfl Ty.ag38 rfl rfl (fun w h => h.range 0 rfl rfl)) ?_
           refine WP.perm pl3 ?_
           refine WP.eff rfl rfl rfl (Eff.call rfl rfl Try.call29 (kdo_spec (Sep [E, A0]) o vs hvs vl hvl)) ?_
           rintro _ _ ⟨_, ⟨va2, vr, Eq, rfl, hK, rfl⟩, rfl⟩
           show WP _ _ _ _ _ _ _ (Eq :: Own 32 2 vr ((kdo vs o).2.1.revs.length) (flatOf Rv.cells (kdo vs o).2.1.revs) :: _)
           refine WP.open (fun w h => kdo_keep hvl hK h) ?_
           rintro E2
           refine WP.pure (fun hv2 => ?_)
           refine WP.fact (fun w h => own_oneCell h) (fun onr => ?_)
           show WP _ _ _ _ _ _ _ (_ :: Sep [E2, A0] :: _)
           refine WP.val rfl rfl rfl (Val.move rfl rfl) ?_
           iterate 3 (refine WP.val rfl rfl rfl (Val.extract rfl rfl rfl) ?_)
           refine WP.eff rfl rfl rfl (Eff.alloc rfl Ty.z42) ?_
           rintro _ _ ⟨b2, rfl, rfl⟩
           refine WP.val rfl rfl rfl (Val.assign rfl rfl) ?_
           refine WP.eff0 rfl rfl (Eff.storeAgg (cs := [.bool ((kdo vs o).2.1.ok), .int .i64 ((kdo vs o).2.1.mod.m), .int .i64 ((kdo vs o).2.1.mod.s), .int .i64 ((kdo vs o).2.1.cre.m), .int .i64 ((kdo vs o).2.1.cre.s), .int .i64 ((kdo vs o).2.1.ver), vr, .int .i64 0, .int .i64 0, .slice none 0 0]) (C' := [.bool ((kdo vs o).2.1.ok), .int .i64 ((kdo vs o).2.1.mod.m), .int .i64 ((kdo vs o).2.1.mod.s), .int .i64 ((kdo vs o).2.1.cre.m), .int .i64 ((kdo vs o).2.1.cre.s), .int .i64 ((kdo vs o).2.1.ver), vr, .int .i64 0, .int .i64 0, .slice none 0 0]) rfl Ty.ag42 rfl rfl rfl (by simp only [List.all_cons, List.all_nil, Bool.and_true, oc_int, oc_str, oc_bool, oc_ptr, oc_slice, oc_iface, oc_map, onr]) (by simp) rfl) ?_
           rintro _ _ rfl
           refine WP.val rfl rfl rfl (Val.assign rfl rfl) ?_
           refine WP.nx ?_
           refine WPc.seq ?_
           refine WPc.sr ?_
           refine WP.val rfl rfl rfl (Val.move rfl rfl) ?_
           refine WP.val rfl rfl rfl (Val.not rfl rfl) ?_
           refine WP.val rfl rfl rfl (Val.move rfl rfl) ?_
           refine WP.splitB 100 rfl (fun h21 => ?_) (fun h21 => ?_)
           ·
            iterate 3 (refine WP.skip rfl rfl rfl rfl rfl rfl rfl ?_)
            refine WP.val rfl rfl rfl (Val.pickT rfl rfl rfl) ?_
            refine WP.nx ?_
            refine WPc.condT rfl rfl ?_
            refine WPc.sr ?_
            iterate 3 (refine WP.val rfl rfl rfl (Val.assign rfl rfl) ?_)
            refine WP.nx ?_
            refine WPc.ret ?_
            refine Out.then_ret ?_
            refine Out.block_ret ?_
            refine Out.then_ret ?_
            refine Out.then_ret ?_
            refine Out.block_ret ?_
            refine Out.then_ret ?_
            iterate 6 (refine Out.drop ?_)
            exact Out.retRun (L' := _) (results_ttt Try.results7 rfl rfl rfl) (.inl ⟨life_stop hx hlife hwn (.inr (.inr (.inr (by unfold bad4; simp_all <;> omega)))), rfl, rfl⟩) (fun _ h => h)
           ·
            refine WP.valG rfl rfl rfl rfl rfl rfl rfl (Val.move rfl rfl) ?_
            refine WP.valG rfl rfl rfl rfl rfl rfl rfl (Rd.len hv2 rfl Ty.sl23 rfl) ?_
            refine WP.valG rfl rfl rfl rfl rfl rfl rfl (Val.eql rfl rfl rfl) ?_
            refine WP.val rfl rfl rfl (Val.pickF rfl rfl rfl) ?_
            refine WP.nx ?_
            refine WPc.ifP rfl (fun h22 => ?_) (fun h22 => ?_)
            ·
             have h22 : ((((kdo vs o).1.length : Nat) : Int) = (0 : Int)) := h22
             refine WPc.sr ?_
             iterate 3 (refine WP.val rfl rfl rfl (Val.assign rfl rfl) ?_)
             refine WP.nx ?_
             refine WPc.ret ?_
             refine Out.then_ret ?_
             refine Out.block_ret ?_
             refine Out.then_ret ?_
             refine Out.then_ret ?_
             refine Out.block_ret ?_
             refine Out.then_ret ?_
             iterate 6 (refine Out.drop ?_)
             exact Out.retRun (L' := _) (results_ttt Try.results7 rfl rfl rfl) (.inl ⟨life_stop hx hlife hwn (.inr (.inr (.inr (by unfold bad4; simp_all <;> omega)))), rfl, rfl⟩) (fun _ h => h)
            ·
             have h22 : ¬ ((((kdo vs o).1.length : Nat) : Int) = (0 : Int)) := h22
             refine WPc.skip ?_
             refine Out.next ?_
             refine WPc.seq ?_
             have hnr : ¬ refuse i vs o := by
              unfold refuse
              have hb1 : ¬ bad1 o := by unfold bad1; omega
              have hb2 : ¬ bad2 i vs o := of_decide_eq_false (by rw [← hq]; assumption)
              have hb3 : ¬ bad3 vs o := of_decide_eq_false (by rw [← hq2]; assumption)
              have hb4 : ¬ bad4 vs o := by
               unfold bad4; simp_all <;> omega
              rintro (h | h | h | h)
              ·
               exact hb1 h
              ·
               exact hb2 h
              ·
               exact hb3 h
              ·
               exact hb4 h
             refine WPc.region ?_
             refine WP.val rfl rfl rfl (Val.move rfl rfl) ?_
             refine WP.val rfl rfl rfl (Val.assign rfl rfl) ?_
             refine WP.nx ?_
             refine WPc.sr ?_
             refine WP.val rfl rfl rfl (Val.move rfl rfl) ?_
             refine WP.perm pl2 ?_
             refine WP.eff rfl rfl rfl (Eff.call rfl rfl Try.call11 (dump_spec (Sep [E2, A0]) (kdo vs o).1 (by have := kdo_len vs o; omega) va2 hv2)) ?_
             rintro _ _ ⟨_, ⟨vg, gl, rfl, hgl, rfl⟩, rfl⟩
             show WP _ _ _ _ _ _ _ (Own 53 4 vg gl.length (flatOf GV.cells gl) :: Kds GVP gl :: _ :: Blk b2 [.bool ((kdo vs o).2.1.ok), .int .i64 ((kdo vs o).2.1.mod.m), .int .i64 ((kdo vs o).2.1.mod.s), .int .i64 ((kdo vs o).2.1.cre.m), .int .i64 ((kdo vs o).2.1.cre.s), .int .i64 ((kdo vs o).2.1.ver), vr, .int .i64 0, .int .i64 0, .slice none 0 0] 42 :: _)
             refine WP.fact (fun w h => own_oneCell h) (fun ong => ?_)
             refine WP.val rfl rfl rfl (Val.fieldAddr (j := 7) rfl Ty.fo42_5 rfl rfl) ?_
             refine WP.perm pl3 ?_
             refine WP.eff0 rfl rfl (Eff.storeAgg (cs := [.int .i64 ((modi (kdo vs o).1).m), .int .i64 ((modi (kdo vs o).1).s), vg]) (C' := [.bool ((kdo vs o).2.1.ok), .int .i64 ((kdo vs o).2.1.mod.m), .int .i64 ((kdo vs o).2.1.mod.s), .int .i64 ((kdo vs o).2.1.cre.m), .int .i64 ((kdo vs o).2.1.cre.s), .int .i64 ((kdo vs o).2.1.ver), vr, .int .i64 ((modi (kdo vs o).1).m), .int .i64 ((modi (kdo vs o).1).s), vg]) rfl Ty.ag35 rfl rfl rfl (by simp only [List.all_cons, List.all_nil, Bool.and_true, oc_int, oc_str, oc_bool, oc_ptr, oc_slice, oc_iface, oc_map, ong]) (by simp) rfl) ?_
             rintro _ _ rfl
             refine WP.nx ?_
             refine WPc.region ?_
             refine WP.val rfl rfl rfl (Val.move rfl rfl) ?_
             refine WP.val rfl rfl rfl (Val.loadAgg (cs := [.bool ((kdo vs o).2.1.ok), .int .i64 ((kdo vs o).2.1.mod.m), .int .i64 ((kdo vs o).2.1.mod.s), .int .i64 ((kdo vs o).2.1.cre.m), .int .i64 ((kdo vs o).2.1.cre.s), .int .i64 ((kdo vs o).2.1.ver), vr, .int .i64 ((modi (kdo vs o).1).m), .int .i64 ((modi (kdo vs o).1).s), vg]) rfl Ty.ag42 rfl rfl (fun w h => h.range 0 rfl rfl)) ?_
             refine WP.eff rfl rfl rfl (Eff.mkSlice (C := [.bool ((kdo vs o).2.1.ok), .int .i64 ((kdo vs o).2.1.mod.m), .int .i64 ((kdo vs o).2.1.mod.s), .int .i64 ((kdo vs o).2.1.cre.m), .int .i64 ((kdo vs o).2.1.cre.s), .int .i64 ((kdo vs o).2.1.ver), vr, .int .i64 ((modi (kdo vs o).1).m), .int .i64 ((modi (kdo vs o).1).s), vg]) rfl Ty.sl24 rfl (fun _ => by kernel_rfl)) ?_
             rintro _ _ ⟨b3, rfl, rfl⟩
             refine WP.perm pl7 ?_
             refine WP.eff rfl rfl rfl (Eff.append (m := 1) (n0 := was.length) (news := [.bool ((kdo vs o).2.1.ok), .int .i64 ((kdo vs o).2.1.mod.m), .int .i64 ((kdo vs o).2.1.mod.s), .int .i64 ((kdo vs o).2.1.cre.m), .int .i64 ((kdo vs o).2.1.cre.s), .int .i64 ((kdo vs o).2.1.ver), vr, .int .i64 ((modi (kdo vs o).1).m), .int .i64 ((modi (kdo vs o).1).s), vg]) rfl Ty.sl24 Ty.z42 rfl rfl rfl (.slice Ty.sl24 rfl (by simp only [List.all_cons, List.all_nil, Bool.and_true, oc_int, oc_str, oc_bool, oc_ptr, oc_slice, oc_iface, oc_map, onr, ong]) (fun w h => cells_range (h.range 1 rfl rfl))) (by omega) (by omega)) ?_
             rintro v4 _ ⟨onev4, rfl⟩
             refine WP.val rfl rfl rfl (Val.assign rfl rfl) ?_
             refine WP.nil ?_
             refine Out.block ?_
             refine Out.next ?_
             refine WPc.region ?_
             refine WP.val rfl rfl rfl (Val.add (z := ((i + 1 : Nat) : Int)) rfl rfl rfl ((w64 (by omega) (by omega)).trans (by omega))) ?_
             refine WP.val rfl rfl rfl (Val.move rfl rfl) ?_
             refine WP.nil ?_
             refine Out.perm pl1 ?_
             refine Out.drop ?_
             refine Out.perm pl1 ?_
             refine Out.drop ?_
             refine Out.perm pl5 ?_
             refine Out.drop ?_
             refine Out.perm pl6 ?_
             refine Out.perm pl4 ?_
             refine Out.perm pl6 ?_
             refine Out.perm pl5 ?_
             refine Out.perm pl5 ?_
             refine Out.perm pl6 ?_
             refine Out.perm pl6 ?_
             refine Out.again (i + 1, va2, v4, E2, (kdo vs o).1, was ++ [(WA.mk (kdo vs o).2.1 (kdo vs o).1 vr vg gl)]) ?_ ?_ ?_ ?_
             ·
              exact ⟨by show i + 1 ≤ l.length; omega, life_on hx hlife hwn hnr rfl, by show (was ++ [_]).length = i + 1; rw [List.length_append, hwn]; rfl, gens_snoc hgs hgl, hv2, by show (kdo vs o).1.length ≤ _; have := kdo_len vs o; omega⟩
             ·
              (dsimp only; omega)
             ·
              exact (Sub.cons rfl (Sub.cons rfl (Sub.cons rfl (Sub.cons rfl (Sub.cons rfl Sub.nil)))))
             ·
              exact (fun w h => againW (x := (WA.mk (kdo vs o).2.1 (kdo vs o).1 vr vg gl)) (by rw [flatOf_append, flatOf_one, List.length_append]; exact h))
  ·
   have h2 : ¬ (((i : Nat) : Int) < ((l.length : Nat) : Int)) := h2
   refine WPc.exit ?_
   refine Out.then_exit ?_
   refine Out.then_exit ?_
   refine Out.block_exit ?_
   refine Out.next ?_
   refine WPc.sr ?_
   refine WP.val rfl rfl rfl (Val.move rfl rfl) ?_
   refine WP.val rfl rfl rfl (Val.move rfl rfl) ?_
   iterate 3 (refine WP.val rfl rfl rfl (Val.assign rfl rfl) ?_)
   refine WP.nx ?_
   refine WPc.ret ?_
   have hil : i = l.length := by omega
   rw [hil] at hlife
   rw [List.take_length] at hlife
   exact Out.retRun (L' := _) (results_ttt Try.results7 rfl rfl rfl) (.inr ⟨E, vl, va5, vs, was, by unfold lifeR; rw [if_neg (by omega)]; exact hlife, hgs, rfl, hvl, by omega, rfl⟩) (fun _ h => h)

theorem life_spec (A0 A : HProp) (l0 : List Vn) (hl0 : l0.length ≤ 1000) (va : Value) (hva : Rd A0 6 Vn.cells va l0) (l : List KOp) (hl : l.length ≤ 2147483647) (vo : Value) (hvo : Rd A 7 KOp.cells vo l) : Does Try.prog 7 [va, vo] [A0, A] (fun v L => (lifeR l0 l = none ∧ v = .tuple #[.slice none 0 0, .slice none 0 0, .bool false] ∧ L = [A]) ∨ (∃ (E : HProp) (va2 v5 : Value) (vs : List Vn) (was : List WA), lifeR l0 l = some (vs, was.map WA.pr) ∧ (∀ x ∈ was, x.gl.map (·.1) = dgens x.lb) ∧ v = .tuple #[va2, v5, .bool true] ∧ Rd (Sep [E, A0]) 6 Vn.cells va2 vs ∧ vs.length ≤ l0.length + l.length ∧ L = [Own 42 10 v5 was.length (flatOf WA.cells was), Kds WAP was, Sep [E, A0], A])) := by
 rcases hvo with ⟨b0, o0, c0, rfl, hr⟩ | ⟨rfl, a, c, rfl⟩
 ·
  exact life_row A0 A l0 hl0 va hva l hl b0 o0 c0 hr
 ·
  exact life_nil A0 A l0 hl0 va hva a c

end Go.Proofs.Ythicijpjpijdjaa.Km

namespace Go.Proofs.Ythicijpjpijdjaa.Kn
open Go.RowKit Go.Proofs.Ythicijpjpijdjaa Go.Proofs.Ythicijpjpijdjaa.Sl Go.Proofs.Ythicijpjpijdjaa.KyP Go.Proofs.Ythicijpjpijdjaa.Ka Go.Proofs.Ythicijpjpijdjaa.Kb Go.Proofs.Ythicijpjpijdjaa.Kc Go.Proofs.Ythicijpjpijdjaa.Kd Go.Proofs.Ythicijpjpijdjaa.Ke Go.Proofs.Ythicijpjpijdjaa.Kf Go.Proofs.Ythicijpjpijdjaa.Kg Go.Proofs.Ythicijpjpijdjaa.Kh Go.Proofs.Ythicijpjpijdjaa.Ki Go.Proofs.Ythicijpjpijdjaa.Kj Go.Proofs.Ythicijpjpijdjaa.Kk Go.Proofs.Ythicijpjpijdjaa.Kl Go.Proofs.Ythicijpjpijdjaa.Km
set_option linter.unusedVariables false
set_option linter.unusedSimpArgs false
set_option linter.unusedSectionVars false


/-- an own row can be read, and stays one's own -/
theorem own_rdB {α : Type} {W w : World} {e : TypeId} {k : Nat} {v : Value} {cf : α → List Value} {l : List α} {L : List HProp} (hk : ∀ x, (cf x).length = k) (h : Sat W (Own e k v l.length (flatOf cf l) :: L) w) : ∃ A : HProp, Rd A k cf v l ∧ Sat W (A :: L) w ∧ ∀ w L, Sat W (A :: L) w → Sat W (Own e k v l.length (flatOf cf l) :: L) w := by
 rcases h.own with ⟨rfl, h0, h1, h2⟩ | ⟨b, cap, sp, rfl, h1, h2, h3, h4, h5⟩
 ·
  obtain rfl := List.eq_nil_of_length_eq_zero h0
  exact ⟨Pure True, .inr ⟨rfl, none, 0, rfl⟩, Sat.pure_mk trivial h2, fun w L h => h.drop.ownNil⟩
 ·
  refine ⟨Blk b (flatOf cf l ++ sp) e, .inl ⟨b, 0, cap, rfl, fun w hw i x hx => ?_⟩, h5, fun w L h => Sat.ownMk h h1 h2 h3 h4⟩
  rw [Nat.zero_add]
  exact hw.cell_range (flatOf_range hk hx)
def GVPe (e : TypeId) (p : GV) : HProp := Own e 2 p.2 p.1.revs.length (flatOf Rv.cells p.1.revs)
theorem own_slice {w : World} {W : World} {e : TypeId} {k m : Nat} {v : Value} {xs : List Value} {L : List HProp} (h : Sat W (Own e k v m xs :: L) w) : ∃ a c, v = .slice a m c := by
 rcases h.own with ⟨rfl, rfl, h1, h2⟩ | ⟨b, cap, sp, rfl, h1⟩
 ·
  exact ⟨_, _, rfl⟩
 ·
  exact ⟨_, _, rfl⟩
/-- lives that are read from one part -/
structure RdG (E : HProp) (vg : Value) (gl : List GV) : Prop where
 rd : Rd E 4 GV.cells vg gl
 inn : ∀ p ∈ gl, Rd E 2 Rv.cells p.2 p.1.revs
def Small (gs : List Gn) : Prop := gs.length ≤ 200000 ∧ ∀ g ∈ gs, g.revs.length ≤ 200000
theorem Small.inn {gl : List GV} (h : Small (gl.map (·.1))) {p : GV} (hp : p ∈ gl) : p.1.revs.length ≤ 200000 := h.2 p.1 (List.mem_map_of_mem hp)
theorem Small.len {gl : List GV} (h : Small (gl.map (·.1))) : gl.length ≤ 200000 := by have := h.1; rwa [List.length_map] at this
theorem small_dgens {l : List Vn} (h : l.length ≤ 100000) : Small (dgens l) := by
 have h1 := dgo_len l
 have h2 := inner_len l
 unfold dgens
 constructor
 ·
  rw [List.length_append]; split <;> simp <;> omega
 ·
  intro g hg
  rcases List.mem_append.1 hg with hg | hg
  ·
   have := h2 g hg; omega
  ·
   split at hg
   ·
    rw [List.mem_singleton.1 hg]; exact Nat.zero_le _
   ·
    cases hg
theorem kds_rdB {W : World} {e : TypeId} : ∀ (gl : List GV) (w : World) (L : List HProp), Sat W (Kds (GVPe e) gl :: L) w → ∃ E : HProp, (∀ p ∈ gl, Rd E 2 Rv.cells p.2 p.1.revs) ∧ Sat W (E :: L) w ∧ ∀ w L, Sat W (E :: L) w → Sat W (Kds (GVPe e) gl :: L) w
 | [], w, L, h => ⟨Pure True, fun p hp => (by cases hp), Sat.pure_mk trivial h.drop, fun w L h => Sat.kNil h.drop⟩
 | p :: gl, w, L, h => by
  have h1 := h.kCons
  obtain ⟨A, hA, h2, h3⟩ := own_rdB (cf := Rv.cells) (l := p.1.revs) Rv.len h1
  obtain ⟨E, hE, h4, h5⟩ := kds_rdB gl w (A :: L) (h2.perm (List.Perm.swap _ _ _))
  refine ⟨Sep [A, E], ?_, Sat.sep_mk (M := [A, E]) (h4.perm (List.Perm.swap _ _ _)), fun w L h => ?_⟩
  ·
   intro q hq
   rcases List.mem_cons.1 hq with rfl | hq
   ·
    exact hA.mono (fun w hw => Holds.sep2a hw)
   ·
    exact (hE q hq).mono (fun w hw => Holds.sep2b hw)
  ·
   have h6 : Sat W (A :: E :: L) w := h.sep
   have h7 := h5 w (A :: L) (h6.perm (List.Perm.swap _ _ _))
   exact (h3 w (Kds (GVPe e) gl :: L) (h7.perm (List.Perm.swap _ _ _))).kConsMk
/-- lives of one's own can be read, and stay one's own -/
theorem gens_rd {W w : World} {e e2 : TypeId} {vg : Value} {gl : List GV} {L : List HProp} (h : Sat W (Own e 4 vg gl.length (flatOf GV.cells gl) :: Kds (GVPe e2) gl :: L) w) : ∃ E : HProp, RdG E vg gl ∧ Sat W (E :: L) w ∧ ∀ w L, Sat W (E :: L) w → Sat W (Own e 4 vg gl.length (flatOf GV.cells gl) :: Kds (GVPe e2) gl :: L) w := by
 obtain ⟨A, hA, h2, h3⟩ := own_rdB GV.len h
 obtain ⟨E, hE, h4, h5⟩ := kds_rdB gl w (A :: L) (h2.perm (List.Perm.swap _ _ _))
 refine ⟨Sep [A, E], ⟨hA.mono (fun w hw => Holds.sep2a hw), fun p hp => (hE p hp).mono (fun w hw => Holds.sep2b hw)⟩, Sat.sep_mk (M := [A, E]) (h4.perm (List.Perm.swap _ _ _)), fun w L h => ?_⟩
 have h6 : Sat W (A :: E :: L) w := h.sep
 have h7 := h5 w (A :: L) (h6.perm (List.Perm.swap _ _ _))
 exact h3 w (Kds (GVPe e2) gl :: L) (h7.perm (List.Perm.swap _ _ _))
theorem gens_open {W w : World} {e e2 : TypeId} {vg : Value} {gl : List GV} {L : List HProp} (h : Sat W (Own e 4 vg gl.length (flatOf GV.cells gl) :: Kds (GVPe e2) gl :: L) w) : ∃ E : HProp, Sat W (Pure (RdG E vg gl ∧ ∀ w L, Sat W (E :: L) w → Sat W (Own e 4 vg gl.length (flatOf GV.cells gl) :: Kds (GVPe e2) gl :: L) w) :: E :: L) w := by
 obtain ⟨E, h1, h2, h3⟩ := gens_rd h
 exact ⟨E, Sat.pure_mk ⟨h1, h3⟩ h2⟩
theorem againE {W w : World} {e : TypeId} {v : Value} {gi : List GV} {c : List Value} {n : Nat} {p : GV} {L : List HProp} (h : Sat W (Own e 4 v n c :: GVPe 81 p :: Kds (GVPe 81) gi :: L) w) : Sat W (Own e 4 v n c :: Kds (GVPe 81) (gi ++ [p]) :: L) w := by
 have h1 : Sat W (GVPe 81 p :: Kds (GVPe 81) gi :: Own e 4 v n c :: L) w := h.perm ((List.Perm.swap _ _ _).trans (List.Perm.cons _ (List.Perm.swap _ _ _)))
 have h2 := Sat.kPerm (R := GVPe 81) (ms := gi ++ [p]) (by simpa using (List.perm_append_comm (l₁ := [p]) (l₂ := gi))) h1.kConsMk
 exact h2.perm (List.Perm.swap _ _ _)
set_option maxRecDepth 100000 in
set_option maxHeartbeats 2000000 in
theorem revin_spec (r : Rv) : Does Try.prog 63 [.agg #[.int .i64 (r.m), .int .i64 (r.s)]] [] (fun v L => v = rk r ∧ L = []) := by
 refine Does.enter 8 Try.func63 rfl rfl rfl fun W F => ?_
 show WPc _ _ _ _ _ [(0, .agg #[.int .i64 (r.m), .int .i64 (r.s)])] (F)
 refine WPc.sr ?_
 refine WP.eff rfl rfl rfl (Eff.box (C := [.int .i64 (r.m), .int .i64 (r.s)]) rfl rfl rfl) ?_
 rintro _ _ ⟨b1, rfl, rfl⟩
 refine WP.eff rfl rfl rfl (Eff.alloc rfl Ty.z81) ?_
 rintro _ _ ⟨b2, rfl, rfl⟩
 refine WP.nx ?_
 refine WPc.sr ?_
 refine WP.val rfl rfl rfl (Val.fieldAddr (j := 0) rfl Ty.fo32_0 rfl rfl) ?_
 refine WP.val rfl rfl rfl (Val.load rfl Ty.sc2 rfl (fun w h => h.cell 1 rfl rfl)) ?_
 refine WP.val rfl rfl rfl (Val.fieldAddr (j := 1) rfl Ty.fo32_1 rfl rfl) ?_
 refine WP.val rfl rfl rfl (Val.load rfl Ty.sc2 rfl (fun w h => h.cell 1 rfl rfl)) ?_
 refine WP.val rfl rfl rfl (Val.mk (cs := [.int .i64 (r.m), .int .i64 (r.s)]) rfl rfl (fun _ => by kernel_rfl)) ?_
 refine WP.eff0 rfl rfl (Eff.storeAgg (cs := [.int .i64 (r.m), .int .i64 (r.s)]) (C' := [.int .i64 (r.m), .int .i64 (r.s)]) rfl Ty.ag81 rfl rfl rfl rfl (by simp) rfl) ?_
 rintro _ _ rfl
 refine WP.nx ?_
 refine WPc.ret ?_
 refine Out.perm pl1 ?_
 refine Out.drop ?_
 exact Out.retRun (L' := []) (results_cell (cs := _) Try.results63 Ty.ag81 rfl rfl (fun w h => h.range 0 rfl rfl)) ⟨rfl, rfl⟩ (fun w h => h.drop)
set_option maxRecDepth 100000 in
set_option maxHeartbeats 1000000 in
theorem revsin_nil (A : HProp) (a : Option Addr) (c : Nat) : Does Try.prog 64 [.slice a 0 c] [A] (fun v L => L = [Own 81 2 v 0 (flatOf Rv.cells ([] : List Rv)), A]) := by
 refine Does.enter 20 Try.func64 rfl rfl rfl fun W F => ?_
 show WPc _ _ _ _ _ [(0, .slice a 0 c)] (A :: F)
 refine WPc.sr ?_
 refine WP.val rfl rfl rfl (Val.assign rfl rfl) ?_
 refine WP.nx ?_
 refine WPc.sr ?_
 refine WP.val rfl rfl rfl (Val.assign rfl rfl) ?_
 refine WP.nx ?_
 refine WPc.seq ?_
 refine WPc.seq ?_
 refine WPc.conv (fun w h => h.ownNil (e := 81) (k := 2)) ?_
 show WPc _ _ _ _ _ _ (Own 81 2 (.slice none 0 0) 0 ([]) :: _)
 refine WPc.region ?_
 refine WP.val rfl rfl rfl (Val.assign rfl rfl) ?_
 refine WP.nx ?_
 refine WPc.block ?_
 refine WPc.loop (ι := Nat × Value) (fun ⟨i, v⟩ => i ≤ 0) (fun ⟨i, v⟩ => [(0, .slice a 0 c), (3, v), (4, .int .i64 (((i : Nat) : Int)))]) (fun ⟨i, v⟩ => Own 81 2 v ((([] : List Rv).take i).length) (flatOf Rv.cells (([] : List Rv).take i)) :: A :: F) (fun ⟨i, v⟩ => 0 - i) (0, .slice none 0 0) (Nat.zero_le _) ((Sub.cons rfl (Sub.cons rfl (Sub.cons rfl Sub.nil)))) (fun _ h => h) ?_
 rintro ⟨i, v⟩ hi
 show WPc _ _ _ _ _ [(0, _), (3, v), (4, .int .i64 (((i : Nat) : Int)))] (Own 81 2 v ((([] : List Rv).take i).length) (flatOf Rv.cells (([] : List Rv).take i)) :: _)
 replace hi : i ≤ 0 := hi
 have htl : (([] : List Rv).take i).length ≤ i := by rw [List.length_take]; omega
 refine WPc.seq ?_
 refine WPc.sr ?_
 refine WP.val rfl rfl rfl (Val.move rfl rfl) ?_
 refine WP.val rfl rfl rfl (Val.move rfl rfl) ?_
 refine WP.val rfl rfl rfl (Val.len rfl Ty.sl40 rfl) ?_
 refine WP.val rfl rfl rfl (Val.lss rfl rfl rfl) ?_
 refine WP.nx ?_
 refine WPc.ifP rfl (fun h1 => ?_) (fun h1 => ?_)
 ·
  have h1 : (((i : Nat) : Int) < (0 : Int)) := h1
  exfalso; omega
 ·
  have h1 : ¬ (((i : Nat) : Int) < (0 : Int)) := h1
  refine WPc.exit ?_
  refine Out.then_exit ?_
  refine Out.then_exit ?_
  refine Out.block_exit ?_
  refine Out.next ?_
  refine WPc.sr ?_
  refine WP.val rfl rfl rfl (Val.move rfl rfl) ?_
  refine WP.val rfl rfl rfl (Val.assign rfl rfl) ?_
  refine WP.nx ?_
  refine WPc.ret ?_
  have hil : i = 0 := by omega
  exact Out.ret1 (L' := _) Try.results64 rfl rfl (fun w h => by rw [hil] at h; exact h)

set_option maxRecDepth 100000 in
set_option maxHeartbeats 1000000 in
theorem revsin_row (A : HProp) (l : List Rv) (hl : l.length ≤ 200000) (b0 o0 c0 : Nat) (hr : ∀ w, Holds A w → ∀ i x, l[i]? = some x → w.rangeAt b0 (o0 + i * 2) (Rv.cells x)) : Does Try.prog 64 [.slice (some ⟨b0, o0, none⟩) l.length c0] [A] (fun v L => L = [Own 81 2 v l.length (flatOf Rv.cells l), A]) := by
 refine Does.enter 20 Try.func64 rfl rfl rfl fun W F => ?_
 show WPc _ _ _ _ _ [(0, .slice (some ⟨b0, o0, none⟩) l.length c0)] (A :: F)
 refine WPc.sr ?_
 refine WP.val rfl rfl rfl (Val.assign rfl rfl) ?_
 refine WP.nx ?_
 refine WPc.sr ?_
 refine WP.val rfl rfl rfl (Val.assign rfl rfl) ?_
 refine WP.nx ?_
 refine WPc.seq ?_
 refine WPc.seq ?_
 refine WPc.conv (fun w h => h.ownNil (e := 81) (k := 2)) ?_
 show WPc _ _ _ _ _ _ (Own 81 2 (.slice none 0 0) 0 ([]) :: _)
 refine WPc.region ?_
 refine WP.val rfl rfl rfl (Val.assign rfl rfl) ?_
 refine WP.nx ?_
 refine WPc.block ?_
 refine WPc.loop (ι := Nat × Value) (fun ⟨i, v⟩ => i ≤ l.length) (fun ⟨i, v⟩ => [(0, .slice (some ⟨b0, o0, none⟩) l.length c0), (3, v), (4, .int .i64 (((i : Nat) : Int)))]) (fun ⟨i, v⟩ => Own 81 2 v ((l.take i).length) (flatOf Rv.cells (l.take i)) :: A :: F) (fun ⟨i, v⟩ => l.length - i) (0, .slice none 0 0) (Nat.zero_le _) ((Sub.cons rfl (Sub.cons rfl (Sub.cons rfl Sub.nil)))) (fun _ h => h) ?_
 rintro ⟨i, v⟩ hi
 show WPc _ _ _ _ _ [(0, _), (3, v), (4, .int .i64 (((i : Nat) : Int)))] (Own 81 2 v ((l.take i).length) (flatOf Rv.cells (l.take i)) :: _)
 replace hi : i ≤ l.length := hi
 have htl : (l.take i).length ≤ i := by rw [List.length_take]; omega
 refine WPc.seq ?_
 refine WPc.sr ?_
 refine WP.val rfl rfl rfl (Val.move rfl rfl) ?_
 refine WP.val rfl rfl rfl (Val.move rfl rfl) ?_
 refine WP.val rfl rfl rfl (Val.len rfl Ty.sl40 rfl) ?_
 refine WP.val rfl rfl rfl (Val.lss rfl rfl rfl) ?_
 refine WP.nx ?_
 refine WPc.ifP rfl (fun h1 => ?_) (fun h1 => ?_)
 ·
  have h1 : (((i : Nat) : Int) < ((l.length : Nat) : Int)) := h1
  refine WPc.skip ?_
  refine Out.next ?_
  refine WPc.seq ?_
  refine WPc.block ?_
  have hlt : i < l.length := by omega
  obtain ⟨x, hx⟩ : ∃ x, l[i]? = some x := ⟨_, List.getElem?_eq_getElem hlt⟩
  refine WPc.region ?_
  iterate 3 (refine WP.val rfl rfl rfl (Val.move rfl rfl) ?_)
  refine WP.val rfl rfl rfl (Val.indexAddr (j := i) (q := o0 + i * 2) rfl Ty.sl40 rfl rfl (by omega) (by omega) (by omega)) ?_
  refine WP.val rfl rfl rfl (Val.loadAgg (cs := (Rv.cells x)) rfl Ty.ag32 rfl (by rfl) (fun w h => hr w (h.at 1 rfl) i x hx)) ?_
  refine WP.eff rfl rfl rfl (Eff.call rfl rfl Try.call63 (revin_spec ⟨x.m, x.s⟩)) ?_
  rintro _ _ ⟨_, ⟨rfl, rfl⟩, rfl⟩
  refine WP.eff rfl rfl rfl (Eff.mkSlice (C := [.int .i64 (x.m), .int .i64 (x.s)]) rfl Ty.sl132 rfl (fun _ => by kernel_rfl)) ?_
  rintro _ _ ⟨b1, rfl, rfl⟩
  refine WP.perm pl1 ?_
  refine WP.eff rfl rfl rfl (Eff.append (m := 1) (n0 := (l.take i).length) (news := [.int .i64 (x.m), .int .i64 (x.s)]) rfl Ty.sl132 Ty.z81 rfl rfl rfl (.slice Ty.sl132 rfl rfl (fun w h => cells_range (h.range 1 rfl rfl))) (by omega) (by omega)) ?_
  rintro v2 _ ⟨onev2, rfl⟩
  refine WP.val rfl rfl rfl (Val.assign rfl rfl) ?_
  refine WP.nil ?_
  refine Out.block ?_
  refine Out.next ?_
  refine WPc.region ?_
  refine WP.val rfl rfl rfl (Val.move rfl rfl) ?_
  refine WP.val rfl rfl rfl (Val.add (z := ((i + 1 : Nat) : Int)) rfl rfl rfl ((w64 (by omega) (by omega)).trans (by omega))) ?_
  refine WP.val rfl rfl rfl (Val.assign rfl rfl) ?_
  refine WP.nil ?_
  refine Out.perm pl1 ?_
  refine Out.drop ?_
  refine Out.again (i + 1, v2) ?_ ?_ ?_ ?_
  ·
   exact (by show i + 1 ≤ l.length; omega)
  ·
   (dsimp only; omega)
  ·
   exact (Sub.cons rfl (Sub.cons rfl (Sub.cons rfl Sub.nil)))
  ·
   exact (fun w h => by dsimp only; rw [take_more hx, flatOf_append, flatOf_one, List.length_append]; exact h)
 ·
  have h1 : ¬ (((i : Nat) : Int) < ((l.length : Nat) : Int)) := h1
  refine WPc.exit ?_
  refine Out.then_exit ?_
  refine Out.then_exit ?_
  refine Out.block_exit ?_
  refine Out.next ?_
  refine WPc.sr ?_
  refine WP.val rfl rfl rfl (Val.move rfl rfl) ?_
  refine WP.val rfl rfl rfl (Val.assign rfl rfl) ?_
  refine WP.nx ?_
  refine WPc.ret ?_
  have hil : i = l.length := by omega
  exact Out.ret1 (L' := _) Try.results64 rfl rfl (fun w h => by rw [hil, List.take_length] at h; exact h)

theorem revsin_spec (A : HProp) (l : List Rv) (hl : l.length ≤ 200000) (va : Value) (hva : Rd A 2 Rv.cells va l) : Does Try.prog 64 [va] [A] (fun v L => L = [Own 81 2 v l.length (flatOf Rv.cells l), A]) := by
 rcases hva with ⟨b0, o0, c0, rfl, hr⟩ | ⟨rfl, a, c, rfl⟩
 ·
  exact revsin_row A l hl b0 o0 c0 hr
 ·
  exact revsin_nil A a c
set_option maxRecDepth 100000 in
set_option maxHeartbeats 1000000 in
theorem dumpin_nil (A : HProp) (md : Rv) (a : Option Addr) (c : Nat) : Does Try.prog 32 [.agg #[.int .i64 (md.m), .int .i64 (md.s), .slice a 0 c]] [A] (fun v L => ∃ (v2 : Value) (g2 : List GV), v = .agg #[.int .i64 md.m, .int .i64 md.s, v2] ∧ g2.map (·.1) = ([] : List GV).map (·.1) ∧ L = [Own 135 4 v2 g2.length (flatOf GV.cells g2), Kds (GVPe 81) g2, A]) := by
 refine Does.enter 43 Try.func32 rfl rfl rfl fun W F => ?_
 show WPc _ _ _ _ _ [(0, .agg #[.int .i64 (md.m), .int .i64 (md.s), .slice a 0 c])] (A :: F)
 refine WPc.sr ?_
 refine WP.eff rfl rfl rfl (Eff.box (C := [.int .i64 (md.m), .int .i64 (md.s), .slice a 0 c]) rfl rfl rfl) ?_
 rintro _ _ ⟨b1, rfl, rfl⟩
 refine WP.eff rfl rfl rfl (Eff.alloc rfl Ty.z84) ?_
 rintro _ _ ⟨b2, rfl, rfl⟩
 refine WP.nx ?_
 refine WPc.sr ?_
 refine WP.val rfl rfl rfl (Val.fieldAddr (j := 0) rfl Ty.fo35_0 rfl rfl) ?_
 refine WP.val rfl rfl rfl (Val.loadAgg (cs := [.int .i64 (md.m), .int .i64 (md.s)]) rfl Ty.ag32 rfl rfl (fun w h => h.range 1 rfl rfl)) ?_
 refine WP.eff rfl rfl rfl (Eff.call rfl rfl Try.call63 (revin_spec ⟨md.m, md.s⟩)) ?_
 rintro _ _ ⟨_, ⟨rfl, rfl⟩, rfl⟩
 show WP _ _ _ _ _ _ _ (Blk b2 [.int .i64 0, .int .i64 0, .slice none 0 0] 84 :: Blk b1 [.int .i64 (md.m), .int .i64 (md.s), .slice a 0 c] 35 :: _)
 refine WP.val rfl rfl rfl (Val.mk (cs := [.int .i64 (md.m), .int .i64 (md.s), .slice none 0 0]) rfl rfl (fun _ => by kernel_rfl)) ?_
 refine WP.eff rfl rfl rfl (Eff.alloc rfl Ty.z84) ?_
 rintro _ _ ⟨b3, rfl, rfl⟩
 refine WP.eff0 rfl rfl (Eff.storeAgg (cs := [.int .i64 (md.m), .int .i64 (md.s), .slice none 0 0]) (C' := [.int .i64 (md.m), .int .i64 (md.s), .slice none 0 0]) rfl Ty.ag84 rfl rfl rfl rfl (by simp) rfl) ?_
 rintro _ _ rfl
 refine WP.nx ?_
 refine WPc.seq ?_
 refine WPc.seq ?_
 refine WPc.conv (fun w h => Sat.kNil (R := GVPe 81) h) ?_
 refine WPc.conv (fun w h => h.ownNil (e := 135) (k := 4)) ?_
 show WPc _ _ _ _ _ _ (Own 135 4 (.slice none 0 0) 0 ([]) :: Kds (GVPe 81) [] :: Blk b3 [.int .i64 (md.m), .int .i64 (md.s), .slice none 0 0] 84 :: _)
 refine WPc.region ?_
 refine WP.val rfl rfl rfl (Val.assign rfl rfl) ?_
 refine WP.nx ?_
 refine WPc.block ?_
 refine WPc.perm pl5 ?_
 refine WPc.perm pl4 ?_
 iterate 4 (refine WPc.perm pl5 ?_)
 refine WPc.loop (ι := Nat × Value × List GV) (fun ⟨i, v3, g2⟩ => i ≤ 0 ∧ g2.map (·.1) = (([] : List GV).take i).map (·.1)) (fun ⟨i, v3, g2⟩ => [(1, .pointer (some ⟨b1, 0, none⟩)), (2, .pointer (some ⟨b2, 0, none⟩)), (3, .pointer (some ⟨b3, 0, none⟩)), (4, .int .i64 (((i : Nat) : Int)))]) (fun ⟨i, v3, g2⟩ => Own 135 4 v3 g2.length (flatOf GV.cells g2) :: Kds (GVPe 81) g2 :: Blk b3 [.int .i64 (md.m), .int .i64 (md.s), v3] 84 :: Blk b1 [.int .i64 (md.m), .int .i64 (md.s), .slice a 0 c] 35 :: Blk b2 [.int .i64 0, .int .i64 0, .slice none 0 0] 84 :: A :: F) (fun ⟨i, v3, g2⟩ => 0 - i) (0, .slice none 0 0, []) ⟨Nat.zero_le _, rfl⟩ ((Sub.cons rfl (Sub.cons rfl (Sub.cons rfl (Sub.cons rfl Sub.nil))))) (fun _ h => h) ?_
 rintro ⟨i, v3, g2⟩ ⟨hi, hg2⟩
 show WPc _ _ _ _ _ [(1, .pointer (some ⟨b1, 0, none⟩)), (2, .pointer (some ⟨b2, 0, none⟩)), (3, .pointer (some ⟨b3, 0, none⟩)), (4, .int .i64 (((i : Nat) : Int)))] (Own 135 4 v3 g2.length (flatOf GV.cells g2) :: Kds (GVPe 81) g2 :: Blk b3 [.int .i64 (md.m), .int .i64 (md.s), v3] 84 :: _)
 replace hi : i ≤ 0 := hi
 replace hg2 : g2.map (·.1) = (([] : List GV).take i).map (·.1) := hg2
 have hgn := congrArg List.length hg2
 rw [List.length_map, List.length_map, List.length_take] at hgn
 refine WPc.seq ?_
 refine WPc.sr ?_
 refine WP.val rfl rfl rfl (Val.move rfl rfl) ?_
 refine WP.val rfl rfl rfl (Val.fieldAddr (j := 2) rfl Ty.fo35_1 rfl rfl) ?_
 refine WP.val rfl rfl rfl (Val.load rfl Ty.sc33 rfl (fun w h => h.cell 3 rfl rfl)) ?_
 refine WP.val rfl rfl rfl (Val.len rfl Ty.sl33 rfl) ?_
 refine WP.val rfl rfl rfl (Val.lss rfl rfl rfl) ?_
 refine WP.nx ?_
 refine WPc.ifP rfl (fun h1 => ?_) (fun h1 => ?_)
 ·
  have h1 : (((i : Nat) : Int) < (0 : Int)) := h1
  exfalso; omega
 ·
  have h1 : ¬ (((i : Nat) : Int) < (0 : Int)) := h1
  refine WPc.exit ?_
  refine Out.then_exit ?_
  refine Out.then_exit ?_
  refine Out.block_exit ?_
  refine Out.next ?_
  refine WPc.seq ?_
  refine WPc.fact (fun w h => own_oneCell h) (fun on3 => ?_)
  refine WPc.region ?_
  refine WP.val rfl rfl rfl (Val.loadAgg (cs := [.int .i64 (md.m), .int .i64 (md.s), v3]) rfl Ty.ag84 rfl rfl (fun w h => h.range 2 rfl rfl)) ?_
  refine WP.perm pl4 ?_
  refine WP.eff0 rfl rfl (Eff.storeAgg (cs := [.int .i64 (md.m), .int .i64 (md.s), v3]) (C' := [.int .i64 (md.m), .int .i64 (md.s), v3]) rfl Ty.ag84 rfl rfl rfl (by simp only [List.all_cons, List.all_nil, Bool.and_true, oc_int, oc_str, oc_bool, oc_ptr, oc_slice, oc_iface, oc_map, on3]) (by simp) rfl) ?_
  rintro _ _ rfl
  refine WP.nx ?_
  refine WPc.ret ?_
  have hil : i = 0 := by omega
  rw [hil] at hg2
  refine Out.perm pl3 ?_
  refine Out.drop ?_
  refine Out.perm pl3 ?_
  refine Out.drop ?_
  exact Out.retRun (L' := _) (results_cell (cs := _) Try.results32 Ty.ag84 rfl rfl (fun w h => h.range 0 rfl rfl)) ⟨v3, g2, rfl, hg2, rfl⟩ (fun w h => h.drop)

set_option maxRecDepth 100000 in
set_option maxHeartbeats 1000000 in
theorem dumpin_row (A : HProp) (md : Rv) (l : List GV) (hsm : Small (l.map (·.1))) (hin : ∀ p ∈ l, Rd A 2 Rv.cells p.2 p.1.revs) (b0 o0 c0 : Nat) (hr : ∀ w, Holds A w → ∀ i x, l[i]? = some x → w.rangeAt b0 (o0 + i * 4) (GV.cells x)) : Does Try.prog 32 [.agg #[.int .i64 (md.m), .int .i64 (md.s), .slice (some ⟨b0, o0, none⟩) l.length c0]] [A] (fun v L => ∃ (v2 : Value) (g2 : List GV), v = .agg #[.int .i64 md.m, .int .i64 md.s, v2] ∧ g2.map (·.1) = l.map (·.1) ∧ L = [Own 135 4 v2 g2.length (flatOf GV.cells g2), Kds (GVPe 81) g2, A]) := by
 refine Does.enter 43 Try.func32 rfl rfl rfl fun W F => ?_
 show WPc _ _ _ _ _ [(0, .agg #[.int .i64 (md.m), .int .i64 (md.s), .slice (some ⟨b0, o0, none⟩) l.length c0])] (A :: F)
 refine WPc.sr ?_
 refine WP.eff rfl rfl rfl (Eff.box (C := [.int .i64 (md.m), .int .i64 (md.s), .slice (some ⟨b0, o0, none⟩) l.length c0]) rfl rfl rfl) ?_
 rintro _ _ ⟨b1, rfl, rfl⟩
 refine WP.eff rfl rfl rfl (Eff.alloc rfl Ty.z84) ?_
 rintro _ _ ⟨b2, rfl, rfl⟩
 refine WP.nx ?_
 refine WPc.sr ?_
 refine WP.val rfl rfl rfl (Val.fieldAddr (j := 0) rfl Ty.fo35_0 rfl rfl) ?_
 refine WP.val rfl rfl rfl (Val.loadAgg (cs := [.int .i64 (md.m), .int .i64 (md.s)]) rfl Ty.ag32 rfl rfl (fun w h => h.range 1 rfl rfl)) ?_
 refine WP.eff rfl rfl rfl (Eff.call rfl rfl Try.call63 (revin_spec ⟨md.m, md.s⟩)) ?_
 rintro _ _ ⟨_, ⟨rfl, rfl⟩, rfl⟩
 show WP _ _ _ _ _ _ _ (Blk b2 [.int .i64 0, .int .i64 0, .slice none 0 0] 84 :: Blk b1 [.int .i64 (md.m), .int .i64 (md.s), .slice (some ⟨b0, o0, none⟩) l.length c0] 35 :: _)
 refine WP.val rfl rfl rfl (Val.mk (cs := [.int .i64 (md.m), .int .i64 (md.s), .slice none 0 0]) rfl rfl (fun _ => by kernel_rfl)) ?_
 refine WP.eff rfl rfl rfl (Eff.alloc rfl Ty.z84) ?_
 rintro _ _ ⟨b3, rfl, rfl⟩
 refine WP.eff0 rfl rfl (Eff.storeAgg (cs := [.int .i64 (md.m), .int .i64 (md.s), .slice none 0 0]) (C' := [.int .i64 (md.m), .int .i64 (md.s), .slice none 0 0]) rfl Ty.ag84 rfl rfl rfl rfl (by simp) rfl) ?_
 rintro _ _ rfl
 refine WP.nx ?_
 refine WPc.seq ?_
 refine WPc.seq ?_
 refine WPc.conv (fun w h => Sat.kNil (R := GVPe 81) h) ?_
 refine WPc.conv (fun w h => h.ownNil (e := 135) (k := 4)) ?_
 show WPc _ _ _ _ _ _ (Own 135 4 (.slice none 0 0) 0 ([]) :: Kds (GVPe 81) [] :: Blk b3 [.int .i64 (md.m), .int .i64 (md.s), .slice none 0 0] 84 :: _)
 refine WPc.region ?_
 refine WP.val rfl rfl rfl (Val.assign rfl rfl) ?_
 refine WP.nx ?_
 refine WPc.block ?_
 refine WPc.perm pl5 ?_
 refine WPc.perm pl4 ?_
 iterate 4 (refine WPc.perm pl5 ?_)
 refine WPc.loop (ι := Nat × Value × List GV) (fun ⟨i, v3, g2⟩ => i ≤ l.length ∧ g2.map (·.1) = (l.take i).map (·.1)) (fun ⟨i, v3, g2⟩ => [(1, .pointer (some ⟨b1, 0, none⟩)), (2, .pointer (some ⟨b2, 0, none⟩)), (3, .pointer (some ⟨b3, 0, none⟩)), (4, .int .i64 (((i : Nat) : Int)))]) (fun ⟨i, v3, g2⟩ => Own 135 4 v3 g2.length (flatOf GV.cells g2) :: Kds (GVPe 81) g2 :: Blk b3 [.int .i64 (md.m), .int .i64 (md.s), v3] 84 :: Blk b1 [.int .i64 (md.m), .int .i64 (md.s), .slice (some ⟨b0, o0, none⟩) l.length c0] 35 :: Blk b2 [.int .i64 0, .int .i64 0, .slice none 0 0] 84 :: A :: F) (fun ⟨i, v3, g2⟩ => l.length - i) (0, .slice none 0 0, []) ⟨Nat.zero_le _, rfl⟩ ((Sub.cons rfl (Sub.cons rfl (Sub.cons rfl (Sub.cons rfl Sub.nil))))) (fun _ h => h) ?_
 rintro ⟨i, v3, g2⟩ ⟨hi, hg2⟩
 show WPc _ _ _ _ _ [(1, .pointer (some ⟨b1, 0, none⟩)), (2, .pointer (some ⟨b2, 0, none⟩)), (3, .pointer (some ⟨b3, 0, none⟩)), (4, .int .i64 (((i : Nat) : Int)))] (Own 135 4 v3 g2.length (flatOf GV.cells g2) :: Kds (GVPe 81) g2 :: Blk b3 [.int .i64 (md.m), .int .i64 (md.s), v3] 84 :: _)
 replace hi : i ≤ l.length := hi
 replace hg2 : g2.map (·.1) = (l.take i).map (·.1) := hg2
 have hgn := congrArg List.length hg2
 rw [List.length_map, List.length_map, List.length_take] at hgn
 have hlen := hsm.len
 refine WPc.seq ?_
 refine WPc.sr ?_
 refine WP.val rfl rfl rfl (Val.move rfl rfl) ?_
 refine WP.val rfl rfl rfl (Val.fieldAddr (j := 2) rfl Ty.fo35_1 rfl rfl) ?_
 refine WP.val rfl rfl rfl (Val.load rfl Ty.sc33 rfl (fun w h => h.cell 3 rfl rfl)) ?_
 refine WP.val rfl rfl rfl (Val.len rfl Ty.sl33 rfl) ?_
 refine WP.val rfl rfl rfl (Val.lss rfl rfl rfl) ?_
 refine WP.nx ?_
 refine WPc.ifP rfl (fun h1 => ?_) (fun h1 => ?_)
 ·
  have h1 : (((i : Nat) : Int) < ((l.length : Nat) : Int)) := h1
  refine WPc.skip ?_
  refine Out.next ?_
  refine WPc.seq ?_
  refine WPc.block ?_
  have hlt : i < l.length := by omega
  obtain ⟨x, hx⟩ : ∃ x, l[i]? = some x := ⟨_, List.getElem?_eq_getElem hlt⟩
  have hxm : x ∈ l := List.mem_iff_getElem?.2 ⟨_, hx⟩
  refine WPD.start (Sat W [Blk b3 [.int .i64 (md.m), .int .i64 (md.s), v3] 84, Blk b1 [.int .i64 (md.m), .int .i64 (md.s), .slice (some ⟨b0, o0, none⟩) l.length c0] 35, A]) Ty.mixed ?_
  refine WPD.tS 0 rfl rfl rfl rfl (fun w h => ((((h.perm pl5).perm pl4).perm pl4)).dropEnd (L := [_, _, _])) (Val.fieldAddr (j := 2) rfl Ty.fo84_1 rfl rfl) ?_
  refine WPD.tL 1 rfl rfl rfl rfl (fun w h => ((((h.perm pl5).perm pl4).perm pl4)).dropEnd (L := [_, _, _])) (Val.load rfl Ty.sc82 rfl (fun w h => h.cell 0 rfl rfl)) ?_
  refine WPD.tS 2 rfl rfl rfl rfl (fun w h => ((((h.perm pl5).perm pl4).perm pl4)).dropEnd (L := [_, _, _])) (Val.fieldAddr (j := 2) rfl Ty.fo35_1 rfl rfl) ?_
  refine WPD.tL 3 rfl rfl rfl rfl (fun w h => ((((h.perm pl5).perm pl4).perm pl4)).dropEnd (L := [_, _, _])) (Val.load rfl Ty.sc33 rfl (fun w h => h.cell 1 rfl rfl)) ?_
  refine WPD.tS 4 rfl rfl rfl rfl (fun w h => ((((h.perm pl5).perm pl4).perm pl4)).dropEnd (L := [_, _, _])) (Val.move rfl rfl) ?_
  refine WPD.tS 5 rfl rfl rfl rfl (fun w h => ((((h.perm pl5).perm pl4).perm pl4)).dropEnd (L := [_, _, _])) (Val.indexAddr (j := i) (q := o0 + i * 4) rfl Ty.sl33 rfl rfl (by omega) (by omega) (by omega)) ?_
  refine WPD.tS 6 rfl rfl rfl rfl (fun w h => ((((h.perm pl5).perm pl4).perm pl4)).dropEnd (L := [_, _, _])) (Val.fieldAddr (j := o0 + i * 4) rfl Ty.fo53_0 rfl rfl) ?_
  refine WPD.tL 7 rfl rfl rfl rfl (fun w h => ((((h.perm pl5).perm pl4).perm pl4)).dropEnd (L := [_, _, _])) (Val.load (v := .int .i64 (x.1.v)) rfl Ty.sc2 rfl (fun w h => hr w (h.at 2 rfl) i x hx 0 _ rfl)) ?_
  refine WPD.tS 8 rfl rfl rfl rfl (fun w h => ((((h.perm pl5).perm pl4).perm pl4)).dropEnd (L := [_, _, _])) (Val.fieldAddr (j := 2) rfl Ty.fo35_1 rfl rfl) ?_
  refine WPD.tL 9 rfl rfl rfl rfl (fun w h => ((((h.perm pl5).perm pl4).perm pl4)).dropEnd (L := [_, _, _])) (Val.load rfl Ty.sc33 rfl (fun w h => h.cell 1 rfl rfl)) ?_
  refine WPD.tS 10 rfl rfl rfl rfl (fun w h => ((((h.perm pl5).perm pl4).perm pl4)).dropEnd (L := [_, _, _])) (Val.move rfl rfl) ?_
  refine WPD.tS 11 rfl rfl rfl rfl (fun w h => ((((h.perm pl5).perm pl4).perm pl4)).dropEnd (L := [_, _, _])) (Val.indexAddr (j := i) (q := o0 + i * 4) rfl Ty.sl33 rfl rfl (by omega) (by omega) (by omega)) ?_
  refine WPD.tS 12 rfl rfl rfl rfl (fun w h => ((((h.perm pl5).perm pl4).perm pl4)).dropEnd (L := [_, _, _])) (Val.fieldAddr (j := o0 + i * 4 + 1) rfl Ty.fo53_1 rfl rfl) ?_
  refine WPD.tL 13 rfl rfl rfl rfl (fun w h => ((((h.perm pl5).perm pl4).perm pl4)).dropEnd (L := [_, _, _])) (Val.loadAgg (cs := [.int .i64 (x.1.c.m), .int .i64 (x.1.c.s)]) rfl Ty.ag32 rfl (by rfl) (fun w h => (fun j v hj => (by have h9 := hr w (h.at 2 rfl) i x hx (1 + j) v (by match j, hj with | 0, hj => exact hj | 1, hj => exact hj | j + 2, hj => simp at hj); rw [← Nat.add_assoc] at h9; exact h9)))) ?_
  refine WPD.tS 15 rfl rfl rfl rfl (fun w h => ((((h.perm pl5).perm pl4).perm pl4)).dropEnd (L := [_, _, _])) (Val.fieldAddr (j := 2) rfl Ty.fo35_1 rfl rfl) ?_
  refine WPD.tL 16 rfl rfl rfl rfl (fun w h => ((((h.perm pl5).perm pl4).perm pl4)).dropEnd (L := [_, _, _])) (Val.load rfl Ty.sc33 rfl (fun w h => h.cell 1 rfl rfl)) ?_
  refine WPD.tS 17 rfl rfl rfl rfl (fun w h => ((((h.perm pl5).perm pl4).perm pl4)).dropEnd (L := [_, _, _])) (Val.move rfl rfl) ?_
  refine WPD.tS 18 rfl rfl rfl rfl (fun w h => ((((h.perm pl5).perm pl4).perm pl4)).dropEnd (L := [_, _, _])) (Val.indexAddr (j := i) (q := o0 + i * 4) rfl Ty.sl33 rfl rfl (by omega) (by omega) (by omega)) ?_
  refine WPD.tS 19 rfl rfl rfl rfl (fun w h => ((((h.perm pl5).perm pl4).perm pl4)).dropEnd (L := [_, _, _])) (Val.fieldAddr (j := o0 + i * 4 + 3) rfl Ty.fo53_2 rfl rfl) ?_
  refine WPD.tL 20 rfl rfl rfl rfl (fun w h => ((((h.perm pl5).perm pl4).perm pl4)).dropEnd (L := [_, _, _])) (Val.load (v := x.2) rfl Ty.sc40 rfl (fun w h => hr w (h.at 2 rfl) i x hx 3 _ rfl)) ?_
  refine WPD.step 14 (by kernel_rfl) rfl rfl rfl rfl (Eff.call rfl rfl Try.call63 (revin_spec ⟨x.1.c.m, x.1.c.s⟩)) ?_
  rintro _ _ ⟨_, ⟨rfl, rfl⟩, rfl⟩
  refine ⟨(fun w h => ((((h.perm pl5).perm pl4).perm pl4)).dropEnd (L := [_, _, _])), ?_⟩
  refine WPD.perm pl5 ?_
  refine WPD.step 21 (by kernel_rfl) rfl rfl rfl rfl (Eff.call rfl rfl Try.call64 (revsin_spec A x.1.revs (hsm.inn hxm) x.2 (hin x hxm))) ?_
  rintro vr _ ⟨_, rfl, rfl⟩
  refine ⟨(fun w h => ((((h.perm pl1).perm pl5).perm pl5)).dropEnd (L := [_, _, _])), ?_⟩
  show WPD _ _ _ _ _ _ _ _ _ (Own 81 2 vr x.1.revs.length (flatOf Rv.cells x.1.revs) :: _)
  refine WPD.fact (fun w h => own_slice h) (fun hsl4 => ?_)
  obtain ⟨a4, k4, rfl⟩ := hsl4
  show WPD _ _ _ _ _ _ _ _ _ (Own 81 2 (.slice a4 x.1.revs.length k4) x.1.revs.length (flatOf Rv.cells x.1.revs) :: _)
  refine WPD.tS 22 rfl rfl rfl rfl (fun w h => ((((h.perm pl1).perm pl5).perm pl5)).dropEnd (L := [_, _, _])) (Val.mk (cs := [.int .i64 (x.1.v), .int .i64 (x.1.c.m), .int .i64 (x.1.c.s), .slice a4 x.1.revs.length k4]) rfl rfl (fun _ => by kernel_rfl)) ?_
  refine WPD.step 23 (by kernel_rfl) rfl rfl rfl rfl (Eff.mkSlice (C := [.int .i64 (x.1.v), .int .i64 (x.1.c.m), .int .i64 (x.1.c.s), .slice a4 x.1.revs.length k4]) rfl Ty.sl82 rfl (fun _ => by kernel_rfl)) ?_
  rintro _ _ ⟨b5, rfl, rfl⟩
  refine ⟨(fun w h => ((((h.perm pl2).perm pl6).perm pl6)).dropEnd (L := [_, _, _])), ?_⟩
  refine WPD.perm pl3 ?_
  refine WPD.stepC 24 (by kernel_rfl) rfl rfl rfl rfl (by kernel_rfl) (Eff.append (m := 1) (n0 := g2.length) (news := [.int .i64 (x.1.v), .int .i64 (x.1.c.m), .int .i64 (x.1.c.s), .slice a4 x.1.revs.length k4]) rfl Ty.sl82 Ty.z135 rfl rfl rfl (.slice Ty.sl82 rfl rfl (fun w h => cells_range (h.range 1 rfl rfl))) (by omega) (by omega)) ?_
  rintro v6 _ ⟨onev6, rfl⟩
  refine ⟨_, (fun _ h => h), ?_⟩
  refine WPD.tM 25 rfl rfl rfl rfl (Val.fieldAddr (j := 2) rfl Ty.fo84_1 rfl rfl) ?_
  refine WPD.perm pl5 ?_
  refine WPD.stepC0 26 (by kernel_rfl) rfl rfl rfl (by kernel_rfl) (Eff.store rfl Ty.sc82 rfl rfl onev6 (by simp) st2) ?_
  rintro _ _ rfl
  refine ⟨_, (fun _ h => h), ?_⟩
  refine WPD.done (by kernel_rfl) ?_
  refine Out.block ?_
  refine Out.next ?_
  refine WPc.region ?_
  refine WP.val rfl rfl rfl (Val.move rfl rfl) ?_
  refine WP.val rfl rfl rfl (Val.add (z := ((i + 1 : Nat) : Int)) rfl rfl rfl ((w64 (by omega) (by omega)).trans (by omega))) ?_
  refine WP.val rfl rfl rfl (Val.assign rfl rfl) ?_
  refine WP.nil ?_
  refine Out.perm pl2 ?_
  refine Out.drop ?_
  refine Out.perm pl3 ?_
  refine Out.perm pl6 ?_
  refine Out.perm pl6 ?_
  refine Out.perm pl3 ?_
  iterate 3 (refine Out.perm pl6 ?_)
  refine Out.again (i + 1, v6, g2 ++ [(x.1, .slice a4 x.1.revs.length k4)]) ?_ ?_ ?_ ?_
  ·
   exact (by show i + 1 ≤ l.length ∧ (g2 ++ [(x.1, _)] : List GV).map (·.1) = (l.take (i + 1)).map (·.1); rw [take_more hx, List.map_append, List.map_append, hg2]; exact ⟨by omega, rfl⟩)
  ·
   (dsimp only; omega)
  ·
   exact (Sub.cons rfl (Sub.cons rfl (Sub.cons rfl (Sub.cons rfl Sub.nil))))
  ·
   exact (fun w h => againE (p := (x.1, _)) (by rw [flatOf_append, flatOf_one, List.length_append]; exact h))
 ·
  have h1 : ¬ (((i : Nat) : Int) < ((l.length : Nat) : Int)) := h1
  refine WPc.exit ?_
  refine Out.then_exit ?_
  refine Out.then_exit ?_
  refine Out.block_exit ?_
  refine Out.next ?_
  refine WPc.seq ?_
  refine WPc.fact (fun w h => own_oneCell h) (fun on3 => ?_)
  refine WPc.region ?_
  refine WP.val rfl rfl rfl (Val.loadAgg (cs := [.int .i64 (md.m), .int .i64 (md.s), v3]) rfl Ty.ag84 rfl rfl (fun w h => h.range 2 rfl rfl)) ?_
  refine WP.perm pl4 ?_
  refine WP.eff0 rfl rfl (Eff.storeAgg (cs := [.int .i64 (md.m), .int .i64 (md.s), v3]) (C' := [.int .i64 (md.m), .int .i64 (md.s), v3]) rfl Ty.ag84 rfl rfl rfl (by simp only [List.all_cons, List.all_nil, Bool.and_true, oc_int, oc_str, oc_bool, oc_ptr, oc_slice, oc_iface, oc_map, on3]) (by simp) rfl) ?_
  rintro _ _ rfl
  refine WP.nx ?_
  refine WPc.ret ?_
  have hil : i = l.length := by omega
  rw [hil, List.take_length] at hg2
  refine Out.perm pl3 ?_
  refine Out.drop ?_
  refine Out.perm pl3 ?_
  refine Out.drop ?_
  exact Out.retRun (L' := _) (results_cell (cs := _) Try.results32 Ty.ag84 rfl rfl (fun w h => h.range 0 rfl rfl)) ⟨v3, g2, rfl, hg2, rfl⟩ (fun w h => h.drop)

theorem dumpin_spec (A : HProp) (md : Rv) (l : List GV) (hsm : Small (l.map (·.1))) (hin : ∀ p ∈ l, Rd A 2 Rv.cells p.2 p.1.revs) (va : Value) (hva : Rd A 4 GV.cells va l) : Does Try.prog 32 [.agg #[.int .i64 (md.m), .int .i64 (md.s), va]] [A] (fun v L => ∃ (v2 : Value) (g2 : List GV), v = .agg #[.int .i64 md.m, .int .i64 md.s, v2] ∧ g2.map (·.1) = l.map (·.1) ∧ L = [Own 135 4 v2 g2.length (flatOf GV.cells g2), Kds (GVPe 81) g2, A]) := by
 rcases hva with ⟨b0, o0, c0, rfl, hr⟩ | ⟨rfl, a, c, rfl⟩
 ·
  exact dumpin_row A md l hsm hin b0 o0 c0 hr
 ·
  exact dumpin_nil A md a c

end Go.Proofs.Ythicijpjpijdjaa.Kn

