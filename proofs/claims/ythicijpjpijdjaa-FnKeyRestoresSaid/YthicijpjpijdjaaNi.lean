import Derived.Test.YthicijpjpijdjaaNh
namespace Go.Proofs.Ythicijpjpijdjaa.Kx
open Go.RowKit Go.Proofs.Ythicijpjpijdjaa Go.Proofs.Ythicijpjpijdjaa.Sl Go.Proofs.Ythicijpjpijdjaa.KyP Go.Proofs.Ythicijpjpijdjaa.Ka Go.Proofs.Ythicijpjpijdjaa.Kb Go.Proofs.Ythicijpjpijdjaa.Kc Go.Proofs.Ythicijpjpijdjaa.Kd Go.Proofs.Ythicijpjpijdjaa.Ke Go.Proofs.Ythicijpjpijdjaa.Kf Go.Proofs.Ythicijpjpijdjaa.Kg Go.Proofs.Ythicijpjpijdjaa.Kh Go.Proofs.Ythicijpjpijdjaa.Ki Go.Proofs.Ythicijpjpijdjaa.Kj Go.Proofs.Ythicijpjpijdjaa.Kk Go.Proofs.Ythicijpjpijdjaa.Kl Go.Proofs.Ythicijpjpijdjaa.Km Go.Proofs.Ythicijpjpijdjaa.Kn Go.Proofs.Ythicijpjpijdjaa.Ko Go.Proofs.Ythicijpjpijdjaa.Kp Go.Proofs.Ythicijpjpijdjaa.Kq Go.Proofs.Ythicijpjpijdjaa.Kr Go.Proofs.Ythicijpjpijdjaa.Ks Go.Proofs.Ythicijpjpijdjaa.Kt Go.Proofs.Ythicijpjpijdjaa.Ku Go.Proofs.Ythicijpjpijdjaa.Kv Go.Proofs.Ythicijpjpijdjaa.Kw
set_option linter.unusedVariables false
set_option linter.unusedSimpArgs false
set_option linter.unusedSectionVars false


def kbase (s : KI) : List Gn := if s.gs.length = 0 then [⟨0, Rv0, []⟩] else s.gs
theorem kbase_small {s : KI} (h : Small s.gs) : (kbase s).length ≤ 200001 ∧ ∀ g ∈ kbase s, g.revs.length ≤ 200000 := by
  unfold kbase
  split
  · exact ⟨by simp, fun g hg => by rw [List.mem_singleton.1 hg]; exact Nat.zero_le _⟩
  · exact ⟨Nat.le_succ_of_le h.1, h.2⟩
/-- a revision is put -/
def kput (s : KI) (r : Rv) : KI := match (kbase s)[(kbase s).length - 1]? with
  | some g => ⟨r, (kbase s).take ((kbase s).length - 1) ++ [⟨nx g.v, if g.revs.length = 0 then r else g.c, g.revs ++ [r]⟩]⟩
  | none => s
theorem kput_of {s : KI} {r : Rv} {P : List Gn} {g : Gn} (h : P ++ [g] = kbase s) : kput s r = ⟨r, P ++ [⟨nx g.v, if g.revs.length = 0 then r else g.c, g.revs ++ [r]⟩]⟩ := by
  unfold kput
  rw [← h]
  simp
theorem kset (pre : List Value) (gi : List GV) (C sp : List Value) (j : Nat) (v : Value) (hC : C.length = 4) (hj : j < 4) : (pre ++ (flatOf GV.cells gi ++ C) ++ sp).set (pre.length + gi.length * 4 + j) v = pre ++ (flatOf GV.cells gi ++ C.set j v) ++ sp := by
  have hl := flatOf_length GV.len gi
  rw [List.append_assoc, List.append_assoc, List.set_append_right _ _ (by omega), List.set_append_right _ _ (by omega), List.set_append_left _ _ (by omega), ← List.append_assoc, ← List.append_assoc, ← List.append_assoc]
  rw [show pre.length + gi.length * 4 + j - pre.length - (flatOf GV.cells gi).length = j from by omega]
theorem kat (pre : List Value) (gi : List GV) (C sp : List Value) (j : Nat) (hC : C.length = 4) (hj : j < 4) : (pre ++ (flatOf GV.cells gi ++ C) ++ sp)[pre.length + gi.length * 4 + j]? = C[j]? := by
  have hl := flatOf_length GV.len gi
  rw [List.append_assoc, List.append_assoc, List.getElem?_append_right (by omega), List.getElem?_append_right (by omega), List.getElem?_append_left (by omega)]
  rw [show pre.length + gi.length * 4 + j - pre.length - (flatOf GV.cells gi).length = j from by omega]
theorem klt (pre : List Value) (gi : List GV) (C sp : List Value) (j : Nat) (hC : C.length = 4) (hj : j ≤ 4) : pre.length + gi.length * 4 + j ≤ (pre ++ (flatOf GV.cells gi ++ C) ++ sp).length := by
  have hl := flatOf_length GV.len gi
  simp only [List.length_append]; omega
theorem ksetA (pre : List Value) (gi : List GV) (g : Gn) (u : Value) (sp : List Value) (r : Rv) : (pre ++ (flatOf GV.cells gi ++ GV.cells (g, u)) ++ sp).take (pre.length + gi.length * 4 + 1) ++ ([.int .i64 r.m, .int .i64 r.s] : List Value) ++ (pre ++ (flatOf GV.cells gi ++ GV.cells (g, u)) ++ sp).drop (pre.length + gi.length * 4 + 1 + 2) = pre ++ (flatOf GV.cells gi ++ GV.cells (⟨g.v, r, g.revs⟩, u)) ++ sp := by
  have hl := flatOf_length GV.len gi
  have e : pre ++ (flatOf GV.cells gi ++ GV.cells (g, u)) ++ sp = (pre ++ flatOf GV.cells gi ++ ([.int .i64 g.v] : List Value)) ++ (([.int .i64 g.c.m, .int .i64 g.c.s] : List Value) ++ (u :: sp)) := by simp [GV.cells]
  have h1 : (pre ++ flatOf GV.cells gi ++ ([.int .i64 g.v] : List Value)).length = pre.length + gi.length * 4 + 1 := by simp only [List.length_append, List.length_singleton]; omega
  rw [e, ← h1, List.take_left, List.drop_append, List.drop_eq_nil_of_le (by omega), List.nil_append, Nat.add_sub_cancel_left]
  simp [GV.cells]
theorem meetAO {W w : World} {O : HProp} {gi : List GV} {p : GV} {L : List HProp} (h : Sat W (O :: Kds GVO (gi ++ [p]) :: L) w) : Sat W (O :: GVO p :: Kds GVO gi :: L) w := by
  have h1 := (h.perm (List.Perm.swap _ _ _)).kApp
  have h2 := (h1.perm (List.Perm.swap _ _ _)).kCons
  have h4 := (h2.perm (show List.Perm (GVO p :: Kds GVO [] :: Kds GVO gi :: O :: L) (Kds GVO [] :: GVO p :: Kds GVO gi :: O :: L) from List.Perm.swap _ _ _)).drop
  exact h4.perm ((List.Perm.cons _ (List.Perm.swap _ _ _)).trans (List.Perm.swap _ _ _))
theorem meetBO {W w : World} {O : HProp} {gi : List GV} {g : Gn} {L : List HProp} (hg : g.revs = []) (h : Sat W (O :: Kds GVO gi :: L) w) : Sat W (O :: GVO (g, .slice none 0 0) :: Kds GVO gi :: L) w := by
  have h1 := h.ownONil (e := 81) (k := 2)
  have h2 : Sat W (GVO (g, .slice none 0 0) :: O :: Kds GVO gi :: L) w := by
    unfold GVO; rw [hg]; exact h1
  exact h2.perm (List.Perm.swap _ _ _)
theorem againO {W w : World} {O : HProp} {gi : List GV} {p : GV} {L : List HProp} (h : Sat W (O :: GVO p :: Kds GVO gi :: L) w) : Sat W (O :: Kds GVO (gi ++ [p]) :: L) w := by
  have h1 : Sat W (GVO p :: Kds GVO gi :: O :: L) w := h.perm ((List.Perm.swap _ _ _).trans (List.Perm.cons _ (List.Perm.swap _ _ _)))
  have h2 := Sat.kPerm (R := GVO) (ms := gi ++ [p]) (by simpa using (List.perm_append_comm (l₁ := [p]) (l₂ := gi))) h1.kConsMk
  exact h2.perm (List.Perm.swap _ _ _)
/-- the index is put together again, with its last life by itself -/
theorem kis_fold {W w : World} {b : Nat} {ka : Option Addr} {kn kc : Nat} {md : Rv} {v u : Value} {gi : List GV} {g : Gn} {L : List HProp} (h : Sat W (OwnO 155 4 v (gi.length + 1) (flatOf GV.cells gi ++ GV.cells (g, u)) :: GVO (g, u) :: Kds GVO gi :: Blk b (kcells ka kn kc md v) 153 :: L) w) : Sat W (KIs b ka kn kc ⟨md, gi.map (·.1) ++ [g]⟩ :: L) w := by
  have h1 := againO h
  have h2 : Sat W (Blk b (kcells ka kn kc md v) 153 :: OwnO 155 4 v (gi.length + 1) (flatOf GV.cells gi ++ GV.cells (g, u)) :: Kds GVO (gi ++ [(g, u)]) :: L) w := h1.perm ((List.Perm.cons _ (List.Perm.swap _ _ _)).trans (List.Perm.swap _ _ _))
  refine kis_mk (s := ⟨md, gi.map (·.1) ++ [g]⟩) (vg := v) (gl := gi ++ [(g, u)]) (by simp) ?_
  rw [List.length_append, flatOf_append, flatOf_one]
  exact h2
set_option maxRecDepth 100000 in
set_option maxHeartbeats 2000000 in
theorem put_spec (b : Nat) (ka : Option Addr) (kn kc : Nat) (s : KI) (hsm : Small s.gs) (r : Rv) (hless : less s.md r) : Does Try.prog 95 [.pointer (some ⟨b, 0, none⟩), .pointer none, .int .i64 (r.m), .int .i64 (r.s)] [KIs b ka kn kc s] (fun v L => v = .tuple #[] ∧ L = [KIs b ka kn kc (kput s r)]) := by
  refine Does.enter 79 Try.func95 rfl rfl rfl fun W F => ?_
  show WPc _ _ _ _ _ [(0, .pointer (some ⟨b, 0, none⟩)), (1, .pointer none), (2, .int .i64 (r.m)), (3, .int .i64 (r.s))] (KIs b ka kn kc s :: F)
  refine WPc.seq ?_
  refine WPc.region ?_
  refine WP.val rfl rfl rfl (Val.move rfl rfl) ?_
  refine WP.val rfl rfl rfl (Val.move rfl rfl) ?_
  refine WP.val rfl rfl rfl (Val.mk (cs := [.int .i64 (r.m), .int .i64 (r.s)]) rfl rfl (fun _ => by kernel_rfl)) ?_
  refine WP.eff rfl rfl rfl (Eff.alloc rfl Ty.z81) ?_
  rintro _ _ ⟨b1, rfl, rfl⟩
  refine WP.eff0 rfl rfl (Eff.storeAgg (cs := [.int .i64 (r.m), .int .i64 (r.s)]) (C' := [.int .i64 (r.m), .int .i64 (r.s)]) rfl Ty.ag81 rfl rfl rfl rfl (by simp) rfl) ?_
  rintro _ _ rfl
  refine WP.nil ?_
  refine Out.next ?_
  refine WPc.seq ?_
  refine WPc.seq ?_
  refine WPc.perm pl1 ?_
  refine WPc.open (fun w h => kis_own h) ?_
  rintro ⟨vg, gl⟩
  refine WPc.pure (fun hgl => ?_)
  dsimp only at hgl
  have hgn : gl.length = s.gs.length := by rw [← hgl, List.length_map]
  show WPc _ _ _ _ _ _ (Blk b [.slice ka kn kc, .int .i64 (s.md.m), .int .i64 (s.md.s), vg] 153 :: OwnO 155 4 vg gl.length (flatOf GV.cells gl) :: Kds GVO gl :: Blk b1 [.int .i64 (r.m), .int .i64 (r.s)] 81 :: F)
  refine WPD.start (Sat W (Blk b [.slice ka kn kc, .int .i64 (s.md.m), .int .i64 (s.md.s), vg] 153 :: OwnO 155 4 vg gl.length (flatOf GV.cells gl) :: Kds GVO gl :: Blk b1 [.int .i64 (r.m), .int .i64 (r.s)] 81 :: F)) Ty.mixed ?_
  refine WPD.take 0 rfl rfl rfl rfl (by kernel_rfl) (by kernel_rfl) (by kernel_rfl) (by kernel_rfl) (fun _ _ _ h => h) (by kernel_rfl) (fun _ h => h) (Val.loadAgg (cs := [.int .i64 (r.m), .int .i64 (r.s)]) rfl Ty.ag81 rfl rfl (fun w h => h.range 3 rfl rfl)) ?_
  refine WPD.takeM 1 rfl rfl rfl rfl (by kernel_rfl) (by kernel_rfl) (by kernel_rfl) (by kernel_rfl) (fun _ _ _ h => h) (fun _ h => h) (Val.move rfl rfl) ?_
  refine WPD.takeM 2 rfl rfl rfl rfl (by kernel_rfl) (by kernel_rfl) (by kernel_rfl) (by kernel_rfl) (fun _ _ _ h => h) (fun _ h => h) (Val.nilCheck rfl rfl) ?_
  refine WPD.takeM 3 rfl rfl rfl rfl (by kernel_rfl) (by kernel_rfl) (by kernel_rfl) (by kernel_rfl) (fun _ _ _ h => h) (fun _ h => h) (Val.fieldAddr (j := 1) rfl Ty.fo153_1 rfl rfl) ?_
  refine WPD.take 4 rfl rfl rfl rfl (by kernel_rfl) (by kernel_rfl) (by kernel_rfl) (by kernel_rfl) (fun _ _ _ h => h) (by kernel_rfl) (fun _ h => h) (Val.loadAgg (cs := [.int .i64 (s.md.m), .int .i64 (s.md.s)]) rfl Ty.ag81 rfl rfl (fun w h => h.range 0 rfl rfl)) ?_
  refine WPD.stepC 5 (by kernel_rfl) rfl rfl rfl rfl (by kernel_rfl) (Eff.call rfl rfl Try.call111 (gt_spec r s.md)) ?_
  rintro _ _ ⟨_, ⟨rfl, rfl⟩, rfl⟩
  refine ⟨(Sat W (Blk b [.slice ka kn kc, .int .i64 (s.md.m), .int .i64 (s.md.s), vg] 153 :: OwnO 155 4 vg gl.length (flatOf GV.cells gl) :: Kds GVO gl :: Blk b1 [.int .i64 (r.m), .int .i64 (r.s)] 81 :: F)), (fun _ h => h), ?_⟩
  show WPD _ _ _ _ _ _ _ _ _ (Blk b [.slice ka kn kc, .int .i64 (s.md.m), .int .i64 (s.md.s), vg] 153 :: OwnO 155 4 vg gl.length (flatOf GV.cells gl) :: Kds GVO gl :: Blk b1 [.int .i64 (r.m), .int .i64 (r.s)] 81 :: F)
  refine WPD.takeM 6 rfl rfl rfl rfl (by kernel_rfl) (by kernel_rfl) (by kernel_rfl) (by kernel_rfl) (fun _ _ _ h => h) (fun _ h => h) (Val.notP rfl rfl) ?_
  refine WPD.done (by kernel_rfl) ?_
  refine Out.next ?_
  refine WPc.ifP rfl (fun h1 => ?_) (fun h1 => ?_)
  · skip
    have h1 : (¬ (less s.md r)) := h1
    exfalso; exact h1 hless
  · skip
    have h1 : ¬ (¬ (less s.md r)) := h1
    refine WPc.skip ?_
    refine Out.next ?_
    refine WPc.cut (ι := Value × List GV × GV) (fun ⟨v1, gi, p⟩ => gi.map (·.1) ++ [p.1] = kbase s) (fun ⟨v1, gi, p⟩ => [(0, .pointer (some ⟨b, 0, none⟩)), (8, .pointer (some ⟨b1, 0, none⟩))]) (fun ⟨v1, gi, p⟩ => OwnO 155 4 v1 (gi.length + 1) (flatOf GV.cells gi ++ GV.cells p) :: GVO p :: Kds GVO gi :: Blk b [.slice ka kn kc, .int .i64 (s.md.m), .int .i64 (s.md.s), v1] 153 :: Blk b1 [.int .i64 (r.m), .int .i64 (r.s)] 81 :: F) ?_ ?_
    · skip
      refine WPc.seq ?_
      refine WPc.region ?_
      refine WP.val rfl rfl rfl (Val.move rfl rfl) ?_
      refine WP.val rfl rfl rfl (Val.nilCheck rfl rfl) ?_
      refine WP.val rfl rfl rfl (Val.fieldAddr (j := 3) rfl Ty.fo153_2 rfl rfl) ?_
      refine WP.val rfl rfl rfl (Val.load rfl Ty.sc151 rfl (fun w h => h.cell 0 rfl rfl)) ?_
      refine WP.val rfl rfl rfl (Val.lenOwnO rfl Ty.sl151 rfl (fun w h => h.at 1 rfl)) ?_
      refine WP.val rfl rfl rfl (Val.eql rfl rfl rfl) ?_
      refine WP.nil ?_
      refine Out.next ?_
      refine WPc.ifP rfl (fun h2 => ?_) (fun h2 => ?_)
      · skip
        have h2 : (((gl.length : Nat) : Int) = (0 : Int)) := h2
        refine WPc.region ?_
        refine WP.val rfl rfl rfl (Val.move rfl rfl) ?_
        refine WP.val rfl rfl rfl (Val.move rfl rfl) ?_
        refine WP.val rfl rfl rfl (Val.nilCheck rfl rfl) ?_
        refine WP.val rfl rfl rfl (Val.fieldAddr (j := 3) rfl Ty.fo153_2 rfl rfl) ?_
        refine WP.val rfl rfl rfl (Val.load rfl Ty.sc151 rfl (fun w h => h.cell 0 rfl rfl)) ?_
        refine WP.val rfl rfl rfl (Val.mk (cs := [.int .i64 0, .int .i64 0, .int .i64 0, .slice none 0 0]) rfl rfl (fun _ => by kernel_rfl)) ?_
        refine WP.eff rfl rfl rfl (Eff.mkSlice (C := [.int .i64 0, .int .i64 0, .int .i64 0, .slice none 0 0]) rfl Ty.sl151 rfl (fun _ => by kernel_rfl)) ?_
        rintro _ _ ⟨b2, rfl, rfl⟩
        refine WP.perm pl2 ?_
        refine WP.eff rfl rfl rfl (Eff.appendO (m := 1) (n0 := gl.length) (news := [.int .i64 0, .int .i64 0, .int .i64 0, .slice none 0 0]) rfl Ty.sl151 Ty.z155 rfl rfl rfl (.slice Ty.sl151 rfl rfl (fun w h => cells_range (h.range 1 rfl rfl))) (by omega) (by omega)) ?_
        rintro v3 _ ⟨onev3, rfl⟩
        refine WP.val rfl rfl rfl (Val.nilCheck rfl rfl) ?_
        refine WP.val rfl rfl rfl (Val.fieldAddr (j := 3) rfl Ty.fo153_2 rfl rfl) ?_
        refine WP.perm pl2 ?_
        refine WP.eff0 rfl rfl (Eff.store rfl Ty.sc151 rfl rfl onev3 (by simp) st3) ?_
        rintro _ _ rfl
        refine WP.nil ?_
        refine Out.perm pl2 ?_
        refine Out.drop ?_
        refine Out.perm pl3 ?_
        refine Out.perm pl1 ?_
        refine Out.perm pl3 ?_
        refine Out.perm pl3 ?_
        refine Out.meet (v3, gl, (Gn.mk 0 Rv0 [], Value.slice none 0 0)) ?_ ?_ ?_
        · exact (show gl.map (·.1) ++ [⟨0, Rv0, []⟩] = kbase s by unfold kbase; rw [if_pos (by omega), List.eq_nil_of_length_eq_zero (l := gl) (by omega)]; rfl)
        · exact (Sub.cons rfl (Sub.cons rfl Sub.nil))
        · exact (fun w h => meetBO rfl h)
      · skip
        have h2 : ¬ (((gl.length : Nat) : Int) = (0 : Int)) := h2
        refine WPc.skip ?_
        obtain ⟨gi, p, rfl⟩ := snoc_of (l := gl) (fun h0 => by rw [h0] at hgn; simp only [List.length_nil] at hgn; simp_all)
        refine Out.perm pl3 ?_
        refine Out.perm pl1 ?_
        refine Out.perm pl3 ?_
        refine Out.perm pl3 ?_
        refine Out.meet (vg, gi, p) ?_ ?_ ?_
        · exact (show gi.map (·.1) ++ [p.1] = kbase s by unfold kbase; rw [if_neg (by omega), ← hgl]; simp)
        · exact (Sub.cons rfl (Sub.cons rfl Sub.nil))
        · exact (fun w h => meetAO (by rw [flatOf_append, flatOf_one, List.length_append] at h; exact h))
    · skip
      rintro ⟨v1, gi, p⟩ hp
      show WPc _ _ _ _ _ [(0, .pointer (some ⟨b, 0, none⟩)), (8, .pointer (some ⟨b1, 0, none⟩))] (OwnO 155 4 v1 (gi.length + 1) (flatOf GV.cells gi ++ GV.cells p) :: GVO p :: Kds GVO gi :: Blk b [.slice ka kn kc, .int .i64 (s.md.m), .int .i64 (s.md.s), v1] 153 :: Blk b1 [.int .i64 (r.m), .int .i64 (r.s)] 81 :: F)
      obtain ⟨g, u⟩ := p
      replace hp : gi.map (·.1) ++ [g] = kbase s := hp
      obtain ⟨hkl, hkx⟩ := kbase_small hsm
      have hsx : g.revs.length ≤ 200000 := hkx g (by rw [← hp]; simp)
      rw [← hp, List.length_append, List.length_map, List.length_singleton] at hkl
      refine WPc.seq ?_
      show WPc _ _ _ _ _ _ (OwnO 155 4 v1 (gi.length + 1) (flatOf GV.cells gi ++ GV.cells (g, u)) :: OwnO 81 2 u g.revs.length (flatOf Rv.cells g.revs) :: Kds GVO gi :: Blk b [.slice ka kn kc, .int .i64 (s.md.m), .int .i64 (s.md.s), v1] 153 :: Blk b1 [.int .i64 (r.m), .int .i64 (r.s)] 81 :: F)
      refine WPc.open (fun w h => h.ownOPos (by omega)) ?_
      rintro ⟨g4, cg4, pg4, spg4⟩
      refine WPc.pure (fun hvg4 => ?_)
      obtain ⟨rfl, hng4, hlg4, hsg4, hcg4⟩ := hvg4
      dsimp only at hng4 hlg4 hsg4 hcg4
      show WPc _ _ _ _ _ _ (Blk g4 (pg4 ++ (flatOf GV.cells gi ++ GV.cells (g, u)) ++ spg4) 155 :: OwnO 81 2 u g.revs.length (flatOf Rv.cells g.revs) :: Kds GVO gi :: Blk b [.slice ka kn kc, .int .i64 (s.md.m), .int .i64 (s.md.s), .slice (some ⟨g4, pg4.length, none⟩) (gi.length + 1) cg4] 153 :: Blk b1 [.int .i64 (r.m), .int .i64 (r.s)] 81 :: F)
      refine WPD.start (Sat W (Blk g4 (pg4 ++ (flatOf GV.cells gi ++ GV.cells (g, u)) ++ spg4) 155 :: OwnO 81 2 u g.revs.length (flatOf Rv.cells g.revs) :: Kds GVO gi :: Blk b [.slice ka kn kc, .int .i64 (s.md.m), .int .i64 (s.md.s), .slice (some ⟨g4, pg4.length, none⟩) (gi.length + 1) cg4] 153 :: Blk b1 [.int .i64 (r.m), .int .i64 (r.s)] 81 :: F)) Ty.mixed ?_
      refine WPD.takeM 0 rfl rfl rfl rfl (by kernel_rfl) (by kernel_rfl) (by kernel_rfl) (by kernel_rfl) (fun _ _ _ h => h) (fun _ h => h) (Val.move rfl rfl) ?_
      refine WPD.takeM 1 rfl rfl rfl rfl (by kernel_rfl) (by kernel_rfl) (by kernel_rfl) (by kernel_rfl) (fun _ _ _ h => h) (fun _ h => h) (Val.nilCheck rfl rfl) ?_
      refine WPD.takeM 2 rfl rfl rfl rfl (by kernel_rfl) (by kernel_rfl) (by kernel_rfl) (by kernel_rfl) (fun _ _ _ h => h) (fun _ h => h) (Val.fieldAddr (j := 3) rfl Ty.fo153_2 rfl rfl) ?_
      refine WPD.take 3 rfl rfl rfl rfl (by kernel_rfl) (by kernel_rfl) (by kernel_rfl) (by kernel_rfl) (fun _ _ _ h => h) (by kernel_rfl) (fun _ h => h) (Val.load rfl Ty.sc151 rfl (fun w h => h.cell 3 rfl rfl)) ?_
      refine WPD.takeM 4 rfl rfl rfl rfl (by kernel_rfl) (by kernel_rfl) (by kernel_rfl) (by kernel_rfl) (fun _ _ _ h => h) (fun _ h => h) (Val.move rfl rfl) ?_
      refine WPD.takeM 5 rfl rfl rfl rfl (by kernel_rfl) (by kernel_rfl) (by kernel_rfl) (by kernel_rfl) (fun _ _ _ h => h) (fun _ h => h) (Val.nilCheck rfl rfl) ?_
      refine WPD.takeM 6 rfl rfl rfl rfl (by kernel_rfl) (by kernel_rfl) (by kernel_rfl) (by kernel_rfl) (fun _ _ _ h => h) (fun _ h => h) (Val.fieldAddr (j := 3) rfl Ty.fo153_2 rfl rfl) ?_
      refine WPD.take 7 rfl rfl rfl rfl (by kernel_rfl) (by kernel_rfl) (by kernel_rfl) (by kernel_rfl) (fun _ _ _ h => h) (by kernel_rfl) (fun _ h => h) (Val.load rfl Ty.sc151 rfl (fun w h => h.cell 3 rfl rfl)) ?_
      refine WPD.take 8 rfl rfl rfl rfl (by kernel_rfl) (by kernel_rfl) (by kernel_rfl) (by kernel_rfl) (fun _ _ _ h => h) (by kernel_rfl) (fun _ h => h) (Val.len rfl Ty.sl151 rfl) ?_
      refine WPD.takeM 9 rfl rfl rfl rfl (by kernel_rfl) (by kernel_rfl) (by kernel_rfl) (by kernel_rfl) (fun _ _ _ h => h) (fun _ h => h) (Val.sub (z := ((gi.length : Nat) : Int)) rfl rfl rfl ((w64 (by omega) (by omega)).trans (by omega))) ?_
      refine WPD.takeM 10 rfl rfl rfl rfl (by kernel_rfl) (by kernel_rfl) (by kernel_rfl) (by kernel_rfl) (fun _ _ _ h => h) (fun _ h => h) (Val.indexAddr (j := gi.length) (q := pg4.length + gi.length * 4) rfl Ty.sl151 rfl rfl (by omega) (by omega) (by omega)) ?_
      refine WPD.takeM 11 rfl rfl rfl rfl (by kernel_rfl) (by kernel_rfl) (by kernel_rfl) (by kernel_rfl) (fun _ _ _ h => h) (fun _ h => h) (Val.assign rfl rfl) ?_
      refine WPD.done (by kernel_rfl) ?_
      refine Out.next ?_
      refine WPc.seq ?_
      refine WPc.seq ?_
      refine WPc.region ?_
      refine WP.val rfl rfl rfl (Val.move rfl rfl) ?_
      refine WP.val rfl rfl rfl (Val.nilCheck rfl rfl) ?_
      refine WP.val rfl rfl rfl (Val.fieldAddr (j := pg4.length + gi.length * 4 + 3) rfl Ty.fo155_2 rfl rfl) ?_
      refine WP.val rfl rfl rfl (Val.load (v := u) rfl Ty.sc132 rfl (fun w h => ((h.at 0 rfl).cell _).trans (kat _ gi _ _ 3 rfl (by omega)))) ?_
      refine WP.val rfl rfl rfl (Val.lenOwnO rfl Ty.sl132 rfl (fun w h => h.at 1 rfl)) ?_
      refine WP.val rfl rfl rfl (Val.eql rfl rfl rfl) ?_
      refine WP.nil ?_
      refine Out.next ?_
      refine WPc.ifP rfl (fun h3 => ?_) (fun h3 => ?_)
      · skip
        have h3 : (((g.revs.length : Nat) : Int) = (0 : Int)) := h3
        refine WPc.region ?_
        refine WP.val rfl rfl rfl (Val.move rfl rfl) ?_
        refine WP.val rfl rfl rfl (Val.loadAgg (cs := [.int .i64 (r.m), .int .i64 (r.s)]) rfl Ty.ag81 rfl rfl (fun w h => h.range 4 rfl rfl)) ?_
        refine WP.val rfl rfl rfl (Val.nilCheck rfl rfl) ?_
        refine WP.val rfl rfl rfl (Val.fieldAddr (j := pg4.length + gi.length * 4 + 1) rfl Ty.fo155_1 rfl rfl) ?_
        refine WP.eff0 rfl rfl (Eff.storeAgg (cs := [.int .i64 (r.m), .int .i64 (r.s)]) (C' := pg4 ++ (flatOf GV.cells gi ++ GV.cells (⟨g.v, r, g.revs⟩, u)) ++ spg4) rfl Ty.ag81 rfl rfl rfl rfl (klt _ gi _ _ 3 rfl (by omega)) (ksetA _ gi g u _ r)) ?_
        rintro _ _ rfl
        refine WP.nil ?_
        refine Out.next ?_
        refine WPc.seq ?_
        have hcc : (if g.revs.length = 0 then r else g.c) = r := if_pos (by omega)
        refine WPD.start (Sat W [Blk g4 (pg4 ++ (flatOf GV.cells gi ++ GV.cells (⟨g.v, r, g.revs⟩, u)) ++ spg4) 155, Blk b1 [.int .i64 (r.m), .int .i64 (r.s)] 81]) Ty.mixed ?_
        refine WPD.takeM 0 rfl rfl rfl rfl (by kernel_rfl) (by kernel_rfl) (by kernel_rfl) (by kernel_rfl) (fun _ _ _ h => h) (fun w h => (((h.perm pl4).perm pl1)).dropEnd (L := [_, _])) (Val.move rfl rfl) ?_
        refine WPD.takeM 1 rfl rfl rfl rfl (by kernel_rfl) (by kernel_rfl) (by kernel_rfl) (by kernel_rfl) (fun _ _ _ h => h) (fun w h => (((h.perm pl4).perm pl1)).dropEnd (L := [_, _])) (Val.move rfl rfl) ?_
        refine WPD.takeM 2 rfl rfl rfl rfl (by kernel_rfl) (by kernel_rfl) (by kernel_rfl) (by kernel_rfl) (fun _ _ _ h => h) (fun w h => (((h.perm pl4).perm pl1)).dropEnd (L := [_, _])) (Val.nilCheck rfl rfl) ?_
        refine WPD.takeM 3 rfl rfl rfl rfl (by kernel_rfl) (by kernel_rfl) (by kernel_rfl) (by kernel_rfl) (fun _ _ _ h => h) (fun w h => (((h.perm pl4).perm pl1)).dropEnd (L := [_, _])) (Val.fieldAddr (j := pg4.length + gi.length * 4 + 3) rfl Ty.fo155_2 rfl rfl) ?_
        refine WPD.take 4 rfl rfl rfl rfl (by kernel_rfl) (by kernel_rfl) (by kernel_rfl) (by kernel_rfl) (fun _ _ _ h => h) (by kernel_rfl) (fun w h => (((h.perm pl4).perm pl1)).dropEnd (L := [_, _])) (Val.load (v := u) rfl Ty.sc132 rfl (fun w h => ((h.at 0 rfl).cell _).trans (kat _ gi _ _ 3 rfl (by omega)))) ?_
        refine WPD.take 5 rfl rfl rfl rfl (by kernel_rfl) (by kernel_rfl) (by kernel_rfl) (by kernel_rfl) (fun _ _ _ h => h) (by kernel_rfl) (fun w h => (((h.perm pl4).perm pl1)).dropEnd (L := [_, _])) (Val.loadAgg (cs := [.int .i64 (r.m), .int .i64 (r.s)]) rfl Ty.ag81 rfl rfl (fun w h => h.range 1 rfl rfl)) ?_
        refine WPD.step 6 (by kernel_rfl) rfl rfl rfl rfl (Eff.mkSlice (C := [.int .i64 (r.m), .int .i64 (r.s)]) rfl Ty.sl132 rfl (fun _ => by kernel_rfl)) ?_
        rintro _ _ ⟨b5, rfl, rfl⟩
        refine ⟨(fun w h => (((h.perm pl5).perm pl2)).dropEnd (L := [_, _])), ?_⟩
        refine WPD.perm pl2 ?_
        refine WPD.stepC 7 (by kernel_rfl) rfl rfl rfl rfl (by kernel_rfl) (Eff.appendO (m := 1) (n0 := g.revs.length) (news := [.int .i64 (r.m), .int .i64 (r.s)]) rfl Ty.sl132 Ty.z81 rfl rfl rfl (.slice Ty.sl132 rfl rfl (fun w h => cells_range (h.range 1 rfl rfl))) (by omega) (by omega)) ?_
        rintro v6 _ ⟨onev6, rfl⟩
        refine ⟨(Sat W (OwnO 81 2 v6 (g.revs.length + 1) ((flatOf Rv.cells g.revs) ++ ([.int .i64 (r.m), .int .i64 (r.s)])) :: Blk b5 [.int .i64 (r.m), .int .i64 (r.s)] 81 :: Blk g4 (pg4 ++ (flatOf GV.cells gi ++ GV.cells (⟨g.v, r, g.revs⟩, u)) ++ spg4) 155 :: Kds GVO gi :: Blk b [.slice ka kn kc, .int .i64 (s.md.m), .int .i64 (s.md.s), .slice (some ⟨g4, pg4.length, none⟩) (gi.length + 1) cg4] 153 :: Blk b1 [.int .i64 (r.m), .int .i64 (r.s)] 81 :: F)), (fun _ h => h), ?_⟩
        refine WPD.takeM 8 rfl rfl rfl rfl (by kernel_rfl) (by kernel_rfl) (by kernel_rfl) (by kernel_rfl) (fun _ _ _ h => h) (fun _ h => h) (Val.nilCheck rfl rfl) ?_
        refine WPD.takeM 9 rfl rfl rfl rfl (by kernel_rfl) (by kernel_rfl) (by kernel_rfl) (by kernel_rfl) (fun _ _ _ h => h) (fun _ h => h) (Val.fieldAddr (j := pg4.length + gi.length * 4 + 3) rfl Ty.fo155_2 rfl rfl) ?_
        refine WPD.perm pl2 ?_
        refine WPD.stepC0 10 (by kernel_rfl) rfl rfl rfl (by kernel_rfl) (Eff.store (C' := pg4 ++ (flatOf GV.cells gi ++ GV.cells (⟨g.v, r, g.revs⟩, v6)) ++ spg4) rfl Ty.sc132 rfl rfl onev6 (klt _ gi _ _ 4 rfl (by omega)) (kset _ gi _ _ 3 v6 rfl (by omega))) ?_
        rintro _ _ rfl
        refine ⟨(Sat W (Blk g4 (pg4 ++ (flatOf GV.cells gi ++ GV.cells (⟨g.v, r, g.revs⟩, v6)) ++ spg4) 155 :: OwnO 81 2 v6 (g.revs.length + 1) ((flatOf Rv.cells g.revs) ++ ([.int .i64 (r.m), .int .i64 (r.s)])) :: Blk b5 [.int .i64 (r.m), .int .i64 (r.s)] 81 :: Kds GVO gi :: Blk b [.slice ka kn kc, .int .i64 (s.md.m), .int .i64 (s.md.s), .slice (some ⟨g4, pg4.length, none⟩) (gi.length + 1) cg4] 153 :: Blk b1 [.int .i64 (r.m), .int .i64 (r.s)] 81 :: F)), (fun _ h => h), ?_⟩
        refine WPD.done (by kernel_rfl) ?_
        refine Out.next ?_
        refine WPc.seq ?_
        refine WPc.region ?_
        refine WP.val rfl rfl rfl (Val.move rfl rfl) ?_
        refine WP.val rfl rfl rfl (Val.nilCheck rfl rfl) ?_
        refine WP.val rfl rfl rfl (Val.fieldAddr (j := pg4.length + gi.length * 4) rfl Ty.fo155_0 rfl rfl) ?_
        refine WP.val rfl rfl rfl (Val.load (v := .int .i64 (g.v)) rfl Ty.sc2 rfl (fun w h => ((h.at 0 rfl).cell _).trans (kat _ gi _ _ 0 rfl (by omega)))) ?_
        refine WP.val rfl rfl rfl (Val.add (z := nx g.v) rfl rfl rfl rfl) ?_
        refine WP.val rfl rfl rfl (Val.nilCheck rfl rfl) ?_
        refine WP.val rfl rfl rfl (Val.fieldAddr (j := pg4.length + gi.length * 4) rfl Ty.fo155_0 rfl rfl) ?_
        refine WP.eff0 rfl rfl (Eff.store (C' := pg4 ++ (flatOf GV.cells gi ++ GV.cells (⟨nx g.v, r, g.revs⟩, v6)) ++ spg4) rfl Ty.sc2 rfl rfl rfl (klt _ gi _ _ 1 rfl (by omega)) (kset _ gi _ _ 0 _ rfl (by omega))) ?_
        rintro _ _ rfl
        refine WP.nil ?_
        refine Out.next ?_
        refine WPc.region ?_
        refine WP.val rfl rfl rfl (Val.move rfl rfl) ?_
        refine WP.val rfl rfl rfl (Val.loadAgg (cs := [.int .i64 (r.m), .int .i64 (r.s)]) rfl Ty.ag81 rfl rfl (fun w h => h.range 5 rfl rfl)) ?_
        refine WP.val rfl rfl rfl (Val.nilCheck rfl rfl) ?_
        refine WP.val rfl rfl rfl (Val.fieldAddr (j := 1) rfl Ty.fo153_1 rfl rfl) ?_
        refine WP.perm pl4 ?_
        refine WP.eff0 rfl rfl (Eff.storeAgg (cs := [.int .i64 (r.m), .int .i64 (r.s)]) (C' := [.slice ka kn kc, .int .i64 (r.m), .int .i64 (r.s), .slice (some ⟨g4, pg4.length, none⟩) (gi.length + 1) cg4]) rfl Ty.ag81 rfl rfl rfl rfl (by simp) rfl) ?_
        rintro _ _ rfl
        refine WP.nil ?_
        refine Out.perm pl1 ?_
        refine Out.conv (fun w h => Sat.ownOMk (e := 155) (k := 4) (b := g4) (m := gi.length + 1) (cap := cg4) (pre := pg4) (xs := flatOf GV.cells gi ++ GV.cells (⟨nx g.v, r, g.revs⟩, v6)) (sp := spg4) (by exact h) (by omega) (by rw [List.length_append, flatOf_length GV.len]; show _ + 4 = _; omega) (by rw [hsg4]) hcg4 rfl) ?_
        refine Out.perm pl3 ?_
        refine Out.drop ?_
        refine Out.perm pl4 ?_
        refine Out.drop ?_
        refine Out.perm pl1 ?_
        refine Out.perm pl3 ?_
        refine Out.perm pl3 ?_
        refine Out.perm pl3 ?_
        exact Out.end0 (L' := _) Try.results95 ⟨rfl, rfl⟩ (fun w h => by rw [kput_of hp, hcc]; refine kis_fold (v := .slice (some ⟨g4, pg4.length, none⟩) (gi.length + 1) cg4) (u := v6) (g := ⟨nx g.v, r, g.revs ++ [r]⟩) ?_; unfold GVO; dsimp only; rw [flatOf_append, flatOf_one, List.length_append]; exact h)
      · skip
        have h3 : ¬ (((g.revs.length : Nat) : Int) = (0 : Int)) := h3
        refine WPc.skip ?_
        refine Out.next ?_
        refine WPc.seq ?_
        have hcc : (if g.revs.length = 0 then r else g.c) = g.c := if_neg (by omega)
        refine WPD.start (Sat W [Blk g4 (pg4 ++ (flatOf GV.cells gi ++ GV.cells (g, u)) ++ spg4) 155, Blk b1 [.int .i64 (r.m), .int .i64 (r.s)] 81]) Ty.mixed ?_
        refine WPD.takeM 0 rfl rfl rfl rfl (by kernel_rfl) (by kernel_rfl) (by kernel_rfl) (by kernel_rfl) (fun _ _ _ h => h) (fun w h => (((h.perm pl4).perm pl1)).dropEnd (L := [_, _])) (Val.move rfl rfl) ?_
        refine WPD.takeM 1 rfl rfl rfl rfl (by kernel_rfl) (by kernel_rfl) (by kernel_rfl) (by kernel_rfl) (fun _ _ _ h => h) (fun w h => (((h.perm pl4).perm pl1)).dropEnd (L := [_, _])) (Val.move rfl rfl) ?_
        refine WPD.takeM 2 rfl rfl rfl rfl (by kernel_rfl) (by kernel_rfl) (by kernel_rfl) (by kernel_rfl) (fun _ _ _ h => h) (fun w h => (((h.perm pl4).perm pl1)).dropEnd (L := [_, _])) (Val.nilCheck rfl rfl) ?_
        refine WPD.takeM 3 rfl rfl rfl rfl (by kernel_rfl) (by kernel_rfl) (by kernel_rfl) (by kernel_rfl) (fun _ _ _ h => h) (fun w h => (((h.perm pl4).perm pl1)).dropEnd (L := [_, _])) (Val.fieldAddr (j := pg4.length + gi.length * 4 + 3) rfl Ty.fo155_2 rfl rfl) ?_
        refine WPD.take 4 rfl rfl rfl rfl (by kernel_rfl) (by kernel_rfl) (by kernel_rfl) (by kernel_rfl) (fun _ _ _ h => h) (by kernel_rfl) (fun w h => (((h.perm pl4).perm pl1)).dropEnd (L := [_, _])) (Val.load (v := u) rfl Ty.sc132 rfl (fun w h => ((h.at 0 rfl).cell _).trans (kat _ gi _ _ 3 rfl (by omega)))) ?_
        refine WPD.take 5 rfl rfl rfl rfl (by kernel_rfl) (by kernel_rfl) (by kernel_rfl) (by kernel_rfl) (fun _ _ _ h => h) (by kernel_rfl) (fun w h => (((h.perm pl4).perm pl1)).dropEnd (L := [_, _])) (Val.loadAgg (cs := [.int .i64 (r.m), .int .i64 (r.s)]) rfl Ty.ag81 rfl rfl (fun w h => h.range 1 rfl rfl)) ?_
        refine WPD.step 6 (by kernel_rfl) rfl rfl rfl rfl (Eff.mkSlice (C := [.int .i64 (r.m), .int .i64 (r.s)]) rfl Ty.sl132 rfl (fun _ => by kernel_rfl)) ?_
        rintro _ _ ⟨b7, rfl, rfl⟩
        refine ⟨(fun w h => (((h.perm pl5).perm pl2)).dropEnd (L := [_, _])), ?_⟩
        refine WPD.perm pl2 ?_
        refine WPD.stepC 7 (by kernel_rfl) rfl rfl rfl rfl (by kernel_rfl) (Eff.appendO (m := 1) (n0 := g.revs.length) (news := [.int .i64 (r.m), .int .i64 (r.s)]) rfl Ty.sl132 Ty.z81 rfl rfl rfl (.slice Ty.sl132 rfl rfl (fun w h => cells_range (h.range 1 rfl rfl))) (by omega) (by omega)) ?_
        rintro v8 _ ⟨onev8, rfl⟩
        refine ⟨(Sat W (OwnO 81 2 v8 (g.revs.length + 1) ((flatOf Rv.cells g.revs) ++ ([.int .i64 (r.m), .int .i64 (r.s)])) :: Blk b7 [.int .i64 (r.m), .int .i64 (r.s)] 81 :: Blk g4 (pg4 ++ (flatOf GV.cells gi ++ GV.cells (g, u)) ++ spg4) 155 :: Kds GVO gi :: Blk b [.slice ka kn kc, .int .i64 (s.md.m), .int .i64 (s.md.s), .slice (some ⟨g4, pg4.length, none⟩) (gi.length + 1) cg4] 153 :: Blk b1 [.int .i64 (r.m), .int .i64 (r.s)] 81 :: F)), (fun _ h => h), ?_⟩
        refine WPD.takeM 8 rfl rfl rfl rfl (by kernel_rfl) (by kernel_rfl) (by kernel_rfl) (by kernel_rfl) (fun _ _ _ h => h) (fun _ h => h) (Val.nilCheck rfl rfl) ?_
        refine WPD.takeM 9 rfl rfl rfl rfl (by kernel_rfl) (by kernel_rfl) (by kernel_rfl) (by kernel_rfl) (fun _ _ _ h => h) (fun _ h => h) (Val.fieldAddr (j := pg4.length + gi.length * 4 + 3) rfl Ty.fo155_2 rfl rfl) ?_
        refine WPD.perm pl2 ?_
        refine WPD.stepC0 10 (by kernel_rfl) rfl rfl rfl (by kernel_rfl) (Eff.store (C' := pg4 ++ (flatOf GV.cells gi ++ GV.cells (⟨g.v, g.c, g.revs⟩, v8)) ++ spg4) rfl Ty.sc132 rfl rfl onev8 (klt _ gi _ _ 4 rfl (by omega)) (kset _ gi _ _ 3 v8 rfl (by omega))) ?_
        rintro _ _ rfl
        refine ⟨(Sat W (Blk g4 (pg4 ++ (flatOf GV.cells gi ++ GV.cells (⟨g.v, g.c, g.revs⟩, v8)) ++ spg4) 155 :: OwnO 81 2 v8 (g.revs.length + 1) ((flatOf Rv.cells g.revs) ++ ([.int .i64 (r.m), .int .i64 (r.s)])) :: Blk b7 [.int .i64 (r.m), .int .i64 (r.s)] 81 :: Kds GVO gi :: Blk b [.slice ka kn kc, .int .i64 (s.md.m), .int .i64 (s.md.s), .slice (some ⟨g4, pg4.length, none⟩) (gi.length + 1) cg4] 153 :: Blk b1 [.int .i64 (r.m), .int .i64 (r.s)] 81 :: F)), (fun _ h => h), ?_⟩
        refine WPD.done (by kernel_rfl) ?_
        refine Out.next ?_
        refine WPc.seq ?_
        refine WPc.region ?_
        refine WP.val rfl rfl rfl (Val.move rfl rfl) ?_
        refine WP.val rfl rfl rfl (Val.nilCheck rfl rfl) ?_
        refine WP.val rfl rfl rfl (Val.fieldAddr (j := pg4.length + gi.length * 4) rfl Ty.fo155_0 rfl rfl) ?_
        refine WP.val rfl rfl rfl (Val.load (v := .int .i64 (g.v)) rfl Ty.sc2 rfl (fun w h => ((h.at 0 rfl).cell _).trans (kat _ gi _ _ 0 rfl (by omega)))) ?_
        refine WP.val rfl rfl rfl (Val.add (z := nx g.v) rfl rfl rfl rfl) ?_
        refine WP.val rfl rfl rfl (Val.nilCheck rfl rfl) ?_
        refine WP.val rfl rfl rfl (Val.fieldAddr (j := pg4.length + gi.length * 4) rfl Ty.fo155_0 rfl rfl) ?_
        refine WP.eff0 rfl rfl (Eff.store (C' := pg4 ++ (flatOf GV.cells gi ++ GV.cells (⟨nx g.v, g.c, g.revs⟩, v8)) ++ spg4) rfl Ty.sc2 rfl rfl rfl (klt _ gi _ _ 1 rfl (by omega)) (kset _ gi _ _ 0 _ rfl (by omega))) ?_
        rintro _ _ rfl
        refine WP.nil ?_
        refine Out.next ?_
        refine WPc.region ?_
        refine WP.val rfl rfl rfl (Val.move rfl rfl) ?_
        refine WP.val rfl rfl rfl (Val.loadAgg (cs := [.int .i64 (r.m), .int .i64 (r.s)]) rfl Ty.ag81 rfl rfl (fun w h => h.range 5 rfl rfl)) ?_
        refine WP.val rfl rfl rfl (Val.nilCheck rfl rfl) ?_
        refine WP.val rfl rfl rfl (Val.fieldAddr (j := 1) rfl Ty.fo153_1 rfl rfl) ?_
        refine WP.perm pl4 ?_
        refine WP.eff0 rfl rfl (Eff.storeAgg (cs := [.int .i64 (r.m), .int .i64 (r.s)]) (C' := [.slice ka kn kc, .int .i64 (r.m), .int .i64 (r.s), .slice (some ⟨g4, pg4.length, none⟩) (gi.length + 1) cg4]) rfl Ty.ag81 rfl rfl rfl rfl (by simp) rfl) ?_
        rintro _ _ rfl
        refine WP.nil ?_
        refine Out.perm pl1 ?_
        refine Out.conv (fun w h => Sat.ownOMk (e := 155) (k := 4) (b := g4) (m := gi.length + 1) (cap := cg4) (pre := pg4) (xs := flatOf GV.cells gi ++ GV.cells (⟨nx g.v, g.c, g.revs⟩, v8)) (sp := spg4) (by exact h) (by omega) (by rw [List.length_append, flatOf_length GV.len]; show _ + 4 = _; omega) (by rw [hsg4]) hcg4 rfl) ?_
        refine Out.perm pl3 ?_
        refine Out.drop ?_
        refine Out.perm pl4 ?_
        refine Out.drop ?_
        refine Out.perm pl1 ?_
        refine Out.perm pl3 ?_
        refine Out.perm pl3 ?_
        refine Out.perm pl3 ?_
        exact Out.end0 (L' := _) Try.results95 ⟨rfl, rfl⟩ (fun w h => by rw [kput_of hp, hcc]; refine kis_fold (v := .slice (some ⟨g4, pg4.length, none⟩) (gi.length + 1) cg4) (u := v8) (g := ⟨nx g.v, g.c, g.revs ++ [r]⟩) ?_; unfold GVO; dsimp only; rw [flatOf_append, flatOf_one, List.length_append]; exact h)
set_option maxRecDepth 100000 in
set_option maxHeartbeats 2000000 in
theorem zput_spec (b : Nat) (ka : Option Addr) (kn kc : Nat) (s : KI) (hsm : Small s.gs) (r : Rv) (hless : less s.md r) : Does Try.prog 66 [.agg #[.pointer (some ⟨b, 0, none⟩)], .agg #[.int .i64 (r.m), .int .i64 (r.s)]] [KIs b ka kn kc s] (fun v L => v = .tuple #[] ∧ L = [KIs b ka kn kc (kput s r)]) := by
  refine Does.enter 11 Try.func66 rfl rfl rfl fun W F => ?_
  show WPc _ _ _ _ _ [(0, .agg #[.pointer (some ⟨b, 0, none⟩)]), (1, .agg #[.int .i64 (r.m), .int .i64 (r.s)])] (KIs b ka kn kc s :: F)
  refine WPc.seq ?_
  refine WPc.region ?_
  refine WP.eff rfl rfl rfl (Eff.box (C := [.pointer (some ⟨b, 0, none⟩)]) rfl rfl rfl) ?_
  rintro _ _ ⟨b1, rfl, rfl⟩
  refine WP.eff rfl rfl rfl (Eff.box (C := [.int .i64 (r.m), .int .i64 (r.s)]) rfl rfl rfl) ?_
  rintro _ _ ⟨b2, rfl, rfl⟩
  refine WP.nil ?_
  refine Out.next ?_
  refine WPc.region ?_
  refine WP.val rfl rfl rfl (Val.fieldAddr (j := 0) rfl Ty.fo78_0 rfl rfl) ?_
  refine WP.val rfl rfl rfl (Val.load rfl Ty.sc76 rfl (fun w h => h.cell 1 rfl rfl)) ?_
  refine WP.val rfl rfl rfl (Val.fieldAddr (j := 0) rfl Ty.fo81_0 rfl rfl) ?_
  refine WP.val rfl rfl rfl (Val.load rfl Ty.sc2 rfl (fun w h => h.cell 0 rfl rfl)) ?_
  refine WP.val rfl rfl rfl (Val.fieldAddr (j := 1) rfl Ty.fo81_1 rfl rfl) ?_
  refine WP.val rfl rfl rfl (Val.load rfl Ty.sc2 rfl (fun w h => h.cell 0 rfl rfl)) ?_
  refine WP.perm pl2 ?_
  refine WP.eff rfl rfl rfl (Eff.call rfl rfl Try.call95 (put_spec b ka kn kc s hsm r hless)) ?_
  rintro _ _ ⟨_, ⟨rfl, rfl⟩, rfl⟩
  show WP _ _ _ _ _ _ _ (KIs b ka kn kc (kput s r) :: Blk b2 [.int .i64 (r.m), .int .i64 (r.s)] 81 :: Blk b1 [.pointer (some ⟨b, 0, none⟩)] 78 :: F)
  refine WP.nil ?_
  refine Out.perm pl1 ?_
  refine Out.drop ?_
  refine Out.perm pl1 ?_
  refine Out.drop ?_
  exact Out.end0 (L' := _) Try.results66 ⟨rfl, rfl⟩ (fun _ h => h)

end Go.Proofs.Ythicijpjpijdjaa.Kx

namespace Go.Proofs.Ythicijpjpijdjaa.Ky
open Go.RowKit Go.Proofs.Ythicijpjpijdjaa Go.Proofs.Ythicijpjpijdjaa.Sl Go.Proofs.Ythicijpjpijdjaa.KyP Go.Proofs.Ythicijpjpijdjaa.Ka Go.Proofs.Ythicijpjpijdjaa.Kb Go.Proofs.Ythicijpjpijdjaa.Kc Go.Proofs.Ythicijpjpijdjaa.Kd Go.Proofs.Ythicijpjpijdjaa.Ke Go.Proofs.Ythicijpjpijdjaa.Kf Go.Proofs.Ythicijpjpijdjaa.Kg Go.Proofs.Ythicijpjpijdjaa.Kh Go.Proofs.Ythicijpjpijdjaa.Ki Go.Proofs.Ythicijpjpijdjaa.Kj Go.Proofs.Ythicijpjpijdjaa.Kk Go.Proofs.Ythicijpjpijdjaa.Kl Go.Proofs.Ythicijpjpijdjaa.Km Go.Proofs.Ythicijpjpijdjaa.Kn Go.Proofs.Ythicijpjpijdjaa.Ko Go.Proofs.Ythicijpjpijdjaa.Kp Go.Proofs.Ythicijpjpijdjaa.Kq Go.Proofs.Ythicijpjpijdjaa.Kr Go.Proofs.Ythicijpjpijdjaa.Ks Go.Proofs.Ythicijpjpijdjaa.Kt Go.Proofs.Ythicijpjpijdjaa.Ku Go.Proofs.Ythicijpjpijdjaa.Kv Go.Proofs.Ythicijpjpijdjaa.Kw Go.Proofs.Ythicijpjpijdjaa.Kx
set_option linter.unusedVariables false
set_option linter.unusedSimpArgs false
set_option linter.unusedSectionVars false


/-- an answer, with the index behind it -/
def KAns (a : KA) (vr : Value) (md : Rv) (vg : Value) : Value := .agg #[.bool a.ok, .int .i64 a.mod.m, .int .i64 a.mod.s, .int .i64 a.cre.m, .int .i64 a.cre.s, .int .i64 a.ver, vr, .int .i64 md.m, .int .i64 md.s, vg]
def kgetA (gs : List Gn) (at_ : Int) : KA := match kget gs at_ with
  | some (r, c, x) => ⟨true, r, c, x, []⟩
  | none => KA0
set_option maxRecDepth 100000 in
set_option maxHeartbeats 2000000 in
theorem keyed_put (b : Nat) (ka : Option Addr) (kn kc : Nat) (s : KI) (hsm : Small s.gs) (o : KOp) (hk : o.k = 1) (hless : less s.md o.r) (hsm2 : Small (kput s o.r).gs) : Does Try.prog 35 [.agg #[.pointer (some ⟨b, 0, none⟩)], .agg #[.int .i64 (o.k), .int .i64 (o.r.m), .int .i64 (o.r.s), .int .i64 (o.c.m), .int .i64 (o.c.s), .int .i64 (o.v), .int .i64 (o.at_)]] [KIs b ka kn kc s] (fun v L => ∃ (vr vg : Value) (g2 : List GV), v = KAns ({ KA0 with ok := true } : KA) vr (kput s o.r).md vg ∧ g2.map (·.1) = (kput s o.r).gs ∧ L = [Own 32 2 vr ({ KA0 with ok := true } : KA).revs.length (flatOf Rv.cells ({ KA0 with ok := true } : KA).revs), Own 53 4 vg g2.length (flatOf GV.cells g2), Kds (GVPe 32) g2, KIs b ka kn kc (kput s o.r)]) := by
  refine Does.enter 104 Try.func35 rfl rfl rfl fun W F => ?_
  show WPc _ _ _ _ _ [(0, .agg #[.pointer (some ⟨b, 0, none⟩)]), (1, .agg #[.int .i64 (o.k), .int .i64 (o.r.m), .int .i64 (o.r.s), .int .i64 (o.c.m), .int .i64 (o.c.s), .int .i64 (o.v), .int .i64 (o.at_)])] (KIs b ka kn kc s :: F)
  refine WPc.seq ?_
  refine WPc.region ?_
  refine WP.eff rfl rfl rfl (Eff.box (C := [.pointer (some ⟨b, 0, none⟩)]) rfl rfl rfl) ?_
  rintro _ _ ⟨b1, rfl, rfl⟩
  refine WP.eff rfl rfl rfl (Eff.box (C := [.int .i64 (o.k), .int .i64 (o.r.m), .int .i64 (o.r.s), .int .i64 (o.c.m), .int .i64 (o.c.s), .int .i64 (o.v), .int .i64 (o.at_)]) rfl rfl rfl) ?_
  rintro _ _ ⟨b2, rfl, rfl⟩
  refine WP.eff rfl rfl rfl (Eff.alloc rfl Ty.z42) ?_
  rintro _ _ ⟨b3, rfl, rfl⟩
  refine WP.nil ?_
  refine Out.next ?_
  refine WPc.seq ?_
  refine WPc.region ?_
  refine WP.val rfl rfl rfl (Val.mk (cs := [.bool false, .int .i64 0, .int .i64 0, .int .i64 0, .int .i64 0, .int .i64 0, .slice none 0 0, .int .i64 0, .int .i64 0, .slice none 0 0]) rfl rfl (fun _ => by kernel_rfl)) ?_
  refine WP.eff rfl rfl rfl (Eff.alloc rfl Ty.z42) ?_
  rintro _ _ ⟨b4, rfl, rfl⟩
  refine WP.eff0 rfl rfl (Eff.storeAgg (cs := [.bool false, .int .i64 0, .int .i64 0, .int .i64 0, .int .i64 0, .int .i64 0, .slice none 0 0, .int .i64 0, .int .i64 0, .slice none 0 0]) (C' := [.bool false, .int .i64 0, .int .i64 0, .int .i64 0, .int .i64 0, .int .i64 0, .slice none 0 0, .int .i64 0, .int .i64 0, .slice none 0 0]) rfl Ty.ag42 rfl rfl rfl rfl (by simp) rfl) ?_
  rintro _ _ rfl
  refine WP.nil ?_
  refine Out.next ?_
  refine WPc.seq ?_
  refine WPc.seq ?_
  refine WPc.region ?_
  refine WP.val rfl rfl rfl (Val.fieldAddr (j := 0) rfl Ty.fo38_0 rfl rfl) ?_
  refine WP.val rfl rfl rfl (Val.load rfl Ty.sc3 rfl (fun w h => h.cell 2 rfl rfl)) ?_
  refine WP.nil ?_
  refine Out.next ?_
  refine WPc.block ?_
  refine WPc.seq ?_
  refine WPc.region ?_
  refine WP.val rfl rfl rfl (Val.eql rfl rfl rfl) ?_
  refine WP.val rfl rfl rfl (Val.assign rfl rfl) ?_
  refine WP.nil ?_
  refine Out.next ?_
  refine WPc.ifP rfl (fun h1 => ?_) (fun h1 => ?_)
  · skip
    have h1 : (o.k = (1 : Int)) := h1
    refine WPc.seq ?_
    refine WPD.start (Sat W [Blk b1 [.pointer (some ⟨b, 0, none⟩)] 78, Blk b2 [.int .i64 (o.k), .int .i64 (o.r.m), .int .i64 (o.r.s), .int .i64 (o.c.m), .int .i64 (o.c.s), .int .i64 (o.v), .int .i64 (o.at_)] 38]) Ty.mixed ?_
    refine WPD.take 0 rfl rfl rfl rfl (by kernel_rfl) (by kernel_rfl) (by kernel_rfl) (by kernel_rfl) (fun _ _ _ h => h) (by kernel_rfl) (fun w h => (((h.perm pl2).perm pl3)).dropEnd (L := [_, _])) (Val.loadAgg (cs := [.pointer (some ⟨b, 0, none⟩)]) rfl Ty.ag78 rfl rfl (fun w h => h.range 0 rfl rfl)) ?_
    refine WPD.takeM 1 rfl rfl rfl rfl (by kernel_rfl) (by kernel_rfl) (by kernel_rfl) (by kernel_rfl) (fun _ _ _ h => h) (fun w h => (((h.perm pl2).perm pl3)).dropEnd (L := [_, _])) (Val.fieldAddr (j := 1) rfl Ty.fo38_1 rfl rfl) ?_
    refine WPD.take 2 rfl rfl rfl rfl (by kernel_rfl) (by kernel_rfl) (by kernel_rfl) (by kernel_rfl) (fun _ _ _ h => h) (by kernel_rfl) (fun w h => (((h.perm pl2).perm pl3)).dropEnd (L := [_, _])) (Val.loadAgg (cs := [.int .i64 (o.r.m), .int .i64 (o.r.s)]) rfl Ty.ag32 rfl rfl (fun w h => h.range 1 rfl rfl)) ?_
    refine WPD.step 3 (by kernel_rfl) rfl rfl rfl rfl (Eff.call rfl rfl Try.call63 (revin_spec ⟨o.r.m, o.r.s⟩)) ?_
    rintro _ _ ⟨_, ⟨rfl, rfl⟩, rfl⟩
    refine ⟨(fun w h => (((h.perm pl2).perm pl3)).dropEnd (L := [_, _])), ?_⟩
    show WPD _ _ _ _ _ _ _ _ _ (Blk b4 [.bool false, .int .i64 0, .int .i64 0, .int .i64 0, .int .i64 0, .int .i64 0, .slice none 0 0, .int .i64 0, .int .i64 0, .slice none 0 0] 42 :: Blk b3 [.bool false, .int .i64 0, .int .i64 0, .int .i64 0, .int .i64 0, .int .i64 0, .slice none 0 0, .int .i64 0, .int .i64 0, .slice none 0 0] 42 :: Blk b2 [.int .i64 (o.k), .int .i64 (o.r.m), .int .i64 (o.r.s), .int .i64 (o.c.m), .int .i64 (o.c.s), .int .i64 (o.v), .int .i64 (o.at_)] 38 :: Blk b1 [.pointer (some ⟨b, 0, none⟩)] 78 :: KIs b ka kn kc s :: F)
    refine WPD.perm pl4 ?_
    refine WPD.stepC 4 (by kernel_rfl) rfl rfl rfl rfl (by kernel_rfl) (Eff.call rfl rfl Try.call66 (zput_spec b ka kn kc s hsm o.r hless)) ?_
    rintro _ _ ⟨_, ⟨rfl, rfl⟩, rfl⟩
    refine ⟨(Sat W (KIs b ka kn kc (kput s o.r) :: Blk b4 [.bool false, .int .i64 0, .int .i64 0, .int .i64 0, .int .i64 0, .int .i64 0, .slice none 0 0, .int .i64 0, .int .i64 0, .slice none 0 0] 42 :: Blk b3 [.bool false, .int .i64 0, .int .i64 0, .int .i64 0, .int .i64 0, .int .i64 0, .slice none 0 0, .int .i64 0, .int .i64 0, .slice none 0 0] 42 :: Blk b2 [.int .i64 (o.k), .int .i64 (o.r.m), .int .i64 (o.r.s), .int .i64 (o.c.m), .int .i64 (o.c.s), .int .i64 (o.v), .int .i64 (o.at_)] 38 :: Blk b1 [.pointer (some ⟨b, 0, none⟩)] 78 :: F)), (fun _ h => h), ?_⟩
    show WPD _ _ _ _ _ _ _ _ _ (KIs b ka kn kc (kput s o.r) :: Blk b4 [.bool false, .int .i64 0, .int .i64 0, .int .i64 0, .int .i64 0, .int .i64 0, .slice none 0 0, .int .i64 0, .int .i64 0, .slice none 0 0] 42 :: Blk b3 [.bool false, .int .i64 0, .int .i64 0, .int .i64 0, .int .i64 0, .int .i64 0, .slice none 0 0, .int .i64 0, .int .i64 0, .slice none 0 0] 42 :: Blk b2 [.int .i64 (o.k), .int .i64 (o.r.m), .int .i64 (o.r.s), .int .i64 (o.c.m), .int .i64 (o.c.s), .int .i64 (o.v), .int .i64 (o.at_)] 38 :: Blk b1 [.pointer (some ⟨b, 0, none⟩)] 78 :: F)
    refine WPD.done (by kernel_rfl) ?_
    refine Out.next ?_
    refine WPc.region ?_
    refine WP.val rfl rfl rfl (Val.fieldAddr (j := 0) rfl Ty.fo42_0 rfl rfl) ?_
    refine WP.perm pl1 ?_
    refine WP.eff0 rfl rfl (Eff.store rfl Ty.sc4 rfl rfl rfl (by simp) st0) ?_
    rintro _ _ rfl
    refine WP.nil ?_
    refine Out.block ?_
    refine Out.next ?_
    refine WPc.seq ?_
    refine WPc.region ?_
    refine WP.val rfl rfl rfl (Val.loadAgg (cs := [.pointer (some ⟨b, 0, none⟩)]) rfl Ty.ag78 rfl rfl (fun w h => h.range 4 rfl rfl)) ?_
    refine WP.perm pl1 ?_
    refine WP.eff rfl rfl rfl (Eff.call rfl rfl Try.call79 (kidump_spec b ka kn kc (kput s o.r) hsm2)) ?_
    rintro _ _ ⟨_, ⟨v2, g2, rfl, hg2, rfl⟩, rfl⟩
    show WP _ _ _ _ _ _ _ (Own 135 4 v2 g2.length (flatOf GV.cells g2) :: Kds (GVPe 81) g2 :: KIs b ka kn kc (kput s o.r) :: Blk b4 [.bool true, .int .i64 0, .int .i64 0, .int .i64 0, .int .i64 0, .int .i64 0, .slice none 0 0, .int .i64 0, .int .i64 0, .slice none 0 0] 42 :: Blk b3 [.bool false, .int .i64 0, .int .i64 0, .int .i64 0, .int .i64 0, .int .i64 0, .slice none 0 0, .int .i64 0, .int .i64 0, .slice none 0 0] 42 :: Blk b2 [.int .i64 (o.k), .int .i64 (o.r.m), .int .i64 (o.r.s), .int .i64 (o.c.m), .int .i64 (o.c.s), .int .i64 (o.v), .int .i64 (o.at_)] 38 :: Blk b1 [.pointer (some ⟨b, 0, none⟩)] 78 :: F)
    refine WP.perm pl1 ?_
    refine WP.perm pl1 ?_
    refine WP.open (fun w h => gens_open h) ?_
    rintro E2
    refine WP.pure (fun hE2 => ?_)
    obtain ⟨rE2, backE2⟩ := hE2
    show WP _ _ _ _ _ _ _ (E2 :: KIs b ka kn kc (kput s o.r) :: Blk b4 [.bool true, .int .i64 0, .int .i64 0, .int .i64 0, .int .i64 0, .int .i64 0, .slice none 0 0, .int .i64 0, .int .i64 0, .slice none 0 0] 42 :: Blk b3 [.bool false, .int .i64 0, .int .i64 0, .int .i64 0, .int .i64 0, .int .i64 0, .slice none 0 0, .int .i64 0, .int .i64 0, .slice none 0 0] 42 :: Blk b2 [.int .i64 (o.k), .int .i64 (o.r.m), .int .i64 (o.r.s), .int .i64 (o.c.m), .int .i64 (o.c.s), .int .i64 (o.v), .int .i64 (o.at_)] 38 :: Blk b1 [.pointer (some ⟨b, 0, none⟩)] 78 :: F)
    have hs2 : Small (g2.map (·.1)) := by rw [hg2]; exact hsm2
    refine WP.eff rfl rfl rfl (Eff.call rfl rfl Try.call78 (dumpout_spec E2 (kput s o.r).md g2 hs2 rE2.inn v2 rE2.rd)) ?_
    rintro _ _ ⟨_, ⟨v3, g3, rfl, hg3, rfl⟩, rfl⟩
    show WP _ _ _ _ _ _ _ (Own 53 4 v3 g3.length (flatOf GV.cells g3) :: Kds (GVPe 32) g3 :: E2 :: KIs b ka kn kc (kput s o.r) :: Blk b4 [.bool true, .int .i64 0, .int .i64 0, .int .i64 0, .int .i64 0, .int .i64 0, .slice none 0 0, .int .i64 0, .int .i64 0, .slice none 0 0] 42 :: Blk b3 [.bool false, .int .i64 0, .int .i64 0, .int .i64 0, .int .i64 0, .int .i64 0, .slice none 0 0, .int .i64 0, .int .i64 0, .slice none 0 0] 42 :: Blk b2 [.int .i64 (o.k), .int .i64 (o.r.m), .int .i64 (o.r.s), .int .i64 (o.c.m), .int .i64 (o.c.s), .int .i64 (o.v), .int .i64 (o.at_)] 38 :: Blk b1 [.pointer (some ⟨b, 0, none⟩)] 78 :: F)
    refine WP.fact (fun w h => own_oneCell h) (fun on3 => ?_)
    refine WP.val rfl rfl rfl (Val.fieldAddr (j := 7) rfl Ty.fo42_5 rfl rfl) ?_
    refine WP.perm pl4 ?_
    refine WP.eff0 rfl rfl (Eff.storeAgg (cs := [.int .i64 ((kput s o.r).md.m), .int .i64 ((kput s o.r).md.s), v3]) (C' := [.bool true, .int .i64 0, .int .i64 0, .int .i64 0, .int .i64 0, .int .i64 0, .slice none 0 0, .int .i64 ((kput s o.r).md.m), .int .i64 ((kput s o.r).md.s), v3]) rfl Ty.ag35 rfl rfl rfl (by simp only [List.all_cons, List.all_nil, Bool.and_true, oc_int, oc_str, oc_bool, oc_ptr, oc_slice, oc_iface, oc_map, on3]) (by simp) rfl) ?_
    rintro _ _ rfl
    refine WP.nil ?_
    refine Out.next ?_
    refine WPc.seq ?_
    refine WPc.region ?_
    refine WP.val rfl rfl rfl (Val.loadAgg (cs := [.bool true, .int .i64 0, .int .i64 0, .int .i64 0, .int .i64 0, .int .i64 0, .slice none 0 0, .int .i64 ((kput s o.r).md.m), .int .i64 ((kput s o.r).md.s), v3]) rfl Ty.ag42 rfl rfl (fun w h => h.range 0 rfl rfl)) ?_
    refine WP.perm pl5 ?_
    refine WP.eff0 rfl rfl (Eff.storeAgg (cs := [.bool true, .int .i64 0, .int .i64 0, .int .i64 0, .int .i64 0, .int .i64 0, .slice none 0 0, .int .i64 ((kput s o.r).md.m), .int .i64 ((kput s o.r).md.s), v3]) (C' := [.bool true, .int .i64 0, .int .i64 0, .int .i64 0, .int .i64 0, .int .i64 0, .slice none 0 0, .int .i64 ((kput s o.r).md.m), .int .i64 ((kput s o.r).md.s), v3]) rfl Ty.ag42 rfl rfl rfl (by simp only [List.all_cons, List.all_nil, Bool.and_true, oc_int, oc_str, oc_bool, oc_ptr, oc_slice, oc_iface, oc_map, on3]) (by simp) rfl) ?_
    rintro _ _ rfl
    refine WP.nil ?_
    refine Out.next ?_
    refine WPc.ret ?_
    refine Out.conv (fun w h => h.ownNil (e := 32) (k := 2)) ?_
    refine Out.perm pl2 ?_
    refine Out.drop ?_
    refine Out.perm pl4 ?_
    refine Out.drop ?_
    refine Out.perm pl5 ?_
    refine Out.drop ?_
    refine Out.perm pl5 ?_
    refine Out.drop ?_
    refine Out.perm pl4 ?_
    refine Out.perm pl4 ?_
    refine Out.perm pl4 ?_
    refine Out.perm pl3 ?_
    refine Out.perm pl4 ?_
    exact Out.retRun (L' := _) (results_cell (cs := _) Try.results35 Ty.ag42 rfl rfl (fun w h => h.range 0 rfl rfl)) ⟨(.slice none 0 0), v3, g3, by rfl, hg3.trans hg2, by rfl⟩ (fun w h => h.drop)
  · skip
    have h1 : ¬ (o.k = (1 : Int)) := h1
    exfalso; omega
set_option maxRecDepth 100000 in
set_option maxHeartbeats 2000000 in
theorem keyed_get (b : Nat) (ka : Option Addr) (kn kc : Nat) (s : KI) (hsm : Small s.gs) (o : KOp) (hk : o.k = 5) (hemp : emp s.gs = false) (hsm2 : Small s.gs) : Does Try.prog 35 [.agg #[.pointer (some ⟨b, 0, none⟩)], .agg #[.int .i64 (o.k), .int .i64 (o.r.m), .int .i64 (o.r.s), .int .i64 (o.c.m), .int .i64 (o.c.s), .int .i64 (o.v), .int .i64 (o.at_)]] [KIs b ka kn kc s] (fun v L => ∃ (vr vg : Value) (g2 : List GV), v = KAns (kgetA s.gs o.at_) vr s.md vg ∧ g2.map (·.1) = s.gs ∧ L = [Own 32 2 vr (kgetA s.gs o.at_).revs.length (flatOf Rv.cells (kgetA s.gs o.at_).revs), Own 53 4 vg g2.length (flatOf GV.cells g2), Kds (GVPe 32) g2, KIs b ka kn kc s]) := by
  refine Does.enter 104 Try.func35 rfl rfl rfl fun W F => ?_
  show WPc _ _ _ _ _ [(0, .agg #[.pointer (some ⟨b, 0, none⟩)]), (1, .agg #[.int .i64 (o.k), .int .i64 (o.r.m), .int .i64 (o.r.s), .int .i64 (o.c.m), .int .i64 (o.c.s), .int .i64 (o.v), .int .i64 (o.at_)])] (KIs b ka kn kc s :: F)
  refine WPc.seq ?_
  refine WPc.region ?_
  refine WP.eff rfl rfl rfl (Eff.box (C := [.pointer (some ⟨b, 0, none⟩)]) rfl rfl rfl) ?_
  rintro _ _ ⟨b1, rfl, rfl⟩
  refine WP.eff rfl rfl rfl (Eff.box (C := [.int .i64 (o.k), .int .i64 (o.r.m), .int .i64 (o.r.s), .int .i64 (o.c.m), .int .i64 (o.c.s), .int .i64 (o.v), .int .i64 (o.at_)]) rfl rfl rfl) ?_
  rintro _ _ ⟨b2, rfl, rfl⟩
  refine WP.eff rfl rfl rfl (Eff.alloc rfl Ty.z42) ?_
  rintro _ _ ⟨b3, rfl, rfl⟩
  refine WP.nil ?_
  refine Out.next ?_
  refine WPc.seq ?_
  refine WPc.region ?_
  refine WP.val rfl rfl rfl (Val.mk (cs := [.bool false, .int .i64 0, .int .i64 0, .int .i64 0, .int .i64 0, .int .i64 0, .slice none 0 0, .int .i64 0, .int .i64 0, .slice none 0 0]) rfl rfl (fun _ => by kernel_rfl)) ?_
  refine WP.eff rfl rfl rfl (Eff.alloc rfl Ty.z42) ?_
  rintro _ _ ⟨b4, rfl, rfl⟩
  refine WP.eff0 rfl rfl (Eff.storeAgg (cs := [.bool false, .int .i64 0, .int .i64 0, .int .i64 0, .int .i64 0, .int .i64 0, .slice none 0 0, .int .i64 0, .int .i64 0, .slice none 0 0]) (C' := [.bool false, .int .i64 0, .int .i64 0, .int .i64 0, .int .i64 0, .int .i64 0, .slice none 0 0, .int .i64 0, .int .i64 0, .slice none 0 0]) rfl Ty.ag42 rfl rfl rfl rfl (by simp) rfl) ?_
  rintro _ _ rfl
  refine WP.nil ?_
  refine Out.next ?_
  refine WPc.seq ?_
  refine WPc.seq ?_
  refine WPc.region ?_
  refine WP.val rfl rfl rfl (Val.fieldAddr (j := 0) rfl Ty.fo38_0 rfl rfl) ?_
  refine WP.val rfl rfl rfl (Val.load rfl Ty.sc3 rfl (fun w h => h.cell 2 rfl rfl)) ?_
  refine WP.nil ?_
  refine Out.next ?_
  refine WPc.block ?_
  refine WPc.seq ?_
  refine WPc.region ?_
  refine WP.val rfl rfl rfl (Val.eql rfl rfl rfl) ?_
  refine WP.val rfl rfl rfl (Val.assign rfl rfl) ?_
  refine WP.nil ?_
  refine Out.next ?_
  refine WPc.ifP rfl (fun h1 => ?_) (fun h1 => ?_)
  · skip
    have h1 : (o.k = (1 : Int)) := h1
    exfalso; omega
  · skip
    have h1 : ¬ (o.k = (1 : Int)) := h1
    refine WPc.seq ?_
    refine WPc.region ?_
    refine WP.val rfl rfl rfl (Val.eql rfl rfl rfl) ?_
    refine WP.val rfl rfl rfl (Val.assign rfl rfl) ?_
    refine WP.nil ?_
    refine Out.next ?_
    refine WPc.ifP rfl (fun h2 => ?_) (fun h2 => ?_)
    · skip
      have h2 : (o.k = (2 : Int)) := h2
      exfalso; omega
    · skip
      have h2 : ¬ (o.k = (2 : Int)) := h2
      refine WPc.seq ?_
      refine WPc.region ?_
      refine WP.val rfl rfl rfl (Val.eql rfl rfl rfl) ?_
      refine WP.val rfl rfl rfl (Val.assign rfl rfl) ?_
      refine WP.nil ?_
      refine Out.next ?_
      refine WPc.ifP rfl (fun h3 => ?_) (fun h3 => ?_)
      · skip
        have h3 : (o.k = (3 : Int)) := h3
        exfalso; omega
      · skip
        have h3 : ¬ (o.k = (3 : Int)) := h3
        refine WPc.seq ?_
        refine WPc.region ?_
        refine WP.val rfl rfl rfl (Val.eql rfl rfl rfl) ?_
        refine WP.val rfl rfl rfl (Val.assign rfl rfl) ?_
        refine WP.nil ?_
        refine Out.next ?_
        refine WPc.ifP rfl (fun h4 => ?_) (fun h4 => ?_)
        · skip
          have h4 : (o.k = (4 : Int)) := h4
          exfalso; omega
        · skip
          have h4 : ¬ (o.k = (4 : Int)) := h4
          refine WPc.seq ?_
          refine WPc.region ?_
          refine WP.val rfl rfl rfl (Val.eql rfl rfl rfl) ?_
          refine WP.val rfl rfl rfl (Val.assign rfl rfl) ?_
          refine WP.nil ?_
          refine Out.next ?_
          refine WPc.ifP rfl (fun h5 => ?_) (fun h5 => ?_)
          · skip
            have h5 : (o.k = (5 : Int)) := h5
            refine WPc.seq ?_
            refine WPc.region ?_
            refine WP.val rfl rfl rfl (Val.loadAgg (cs := [.pointer (some ⟨b, 0, none⟩)]) rfl Ty.ag78 rfl rfl (fun w h => h.range 3 rfl rfl)) ?_
            refine WP.val rfl rfl rfl (Val.fieldAddr (j := 6) rfl Ty.fo38_4 rfl rfl) ?_
            refine WP.val rfl rfl rfl (Val.load rfl Ty.sc2 rfl (fun w h => h.cell 2 rfl rfl)) ?_
            refine WP.perm pl4 ?_
            refine WP.eff rfl rfl rfl (Eff.call rfl rfl Try.call70 (zget_spec b ka kn kc s hsm hemp o.at_)) ?_
            rintro _ _ ⟨_, ⟨er, ⟨r, c, x, hget, rfl⟩, rfl⟩, rfl⟩
            show WP _ _ _ _ _ _ _ (KIs b ka kn kc s :: Blk b4 [.bool false, .int .i64 0, .int .i64 0, .int .i64 0, .int .i64 0, .int .i64 0, .slice none 0 0, .int .i64 0, .int .i64 0, .slice none 0 0] 42 :: Blk b3 [.bool false, .int .i64 0, .int .i64 0, .int .i64 0, .int .i64 0, .int .i64 0, .slice none 0 0, .int .i64 0, .int .i64 0, .slice none 0 0] 42 :: Blk b2 [.int .i64 (o.k), .int .i64 (o.r.m), .int .i64 (o.r.s), .int .i64 (o.c.m), .int .i64 (o.c.s), .int .i64 (o.v), .int .i64 (o.at_)] 38 :: Blk b1 [.pointer (some ⟨b, 0, none⟩)] 78 :: F)
            refine WP.val rfl rfl rfl (Val.move rfl rfl) ?_
            refine WP.val rfl rfl rfl (Val.extract rfl rfl rfl) ?_
            refine WP.val rfl rfl rfl (Val.extract rfl rfl rfl) ?_
            refine WP.val rfl rfl rfl (Val.extract rfl rfl rfl) ?_
            refine WP.val rfl rfl rfl (Val.extract rfl rfl rfl) ?_
            refine WP.eff rfl rfl rfl (Eff.alloc rfl Ty.z81) ?_
            rintro _ _ ⟨b5, rfl, rfl⟩
            refine WP.eff rfl rfl rfl (Eff.alloc rfl Ty.z81) ?_
            rintro _ _ ⟨b6, rfl, rfl⟩
            refine WP.perm pl1 ?_
            refine WP.eff0 rfl rfl (Eff.storeAgg (cs := [.int .i64 (r.m), .int .i64 (r.s)]) (C' := [.int .i64 (r.m), .int .i64 (r.s)]) rfl Ty.ag81 rfl rfl rfl rfl (by simp) rfl) ?_
            rintro _ _ rfl
            refine WP.perm pl1 ?_
            refine WP.eff0 rfl rfl (Eff.storeAgg (cs := [.int .i64 (c.m), .int .i64 (c.s)]) (C' := [.int .i64 (c.m), .int .i64 (c.s)]) rfl Ty.ag81 rfl rfl rfl rfl (by simp) rfl) ?_
            rintro _ _ rfl
            refine WP.val rfl rfl rfl (Val.assign rfl rfl) ?_
            refine WP.val rfl rfl rfl (Val.assign rfl rfl) ?_
            refine WP.nil ?_
            refine Out.next ?_
            rcases hget with ⟨hget, rfl⟩ | ⟨hget, hr0, hc0, hx0, ev, rfl⟩
            · skip
              have ha : kgetA s.gs o.at_ = ⟨true, r, c, x, []⟩ := by unfold kgetA; rw [hget]
              refine WPD.start (Sat W [Blk b5 [.int .i64 (r.m), .int .i64 (r.s)] 81, Blk b6 [.int .i64 (c.m), .int .i64 (c.s)] 81]) Ty.mixed ?_
              refine WPD.takeM 0 rfl rfl rfl rfl (by kernel_rfl) (by kernel_rfl) (by kernel_rfl) (by kernel_rfl) (fun _ _ _ h => h) (fun w h => ((h.perm pl1)).dropEnd (L := [_, _])) (Val.move rfl rfl) ?_
              refine WPD.takeM 1 rfl rfl rfl rfl (by kernel_rfl) (by kernel_rfl) (by kernel_rfl) (by kernel_rfl) (fun _ _ _ h => h) (fun w h => ((h.perm pl1)).dropEnd (L := [_, _])) (Val.nilI rfl Ty.if112 rfl) ?_
              refine WPD.take 2 rfl rfl rfl rfl (by kernel_rfl) (by kernel_rfl) (by kernel_rfl) (by kernel_rfl) (fun _ _ _ h => h) (by kernel_rfl) (fun w h => ((h.perm pl1)).dropEnd (L := [_, _])) (Val.loadAgg (cs := [.int .i64 (r.m), .int .i64 (r.s)]) rfl Ty.ag81 rfl rfl (fun w h => h.range 0 rfl rfl)) ?_
              refine WPD.take 4 rfl rfl rfl rfl (by kernel_rfl) (by kernel_rfl) (by kernel_rfl) (by kernel_rfl) (fun _ _ _ h => h) (by kernel_rfl) (fun w h => ((h.perm pl1)).dropEnd (L := [_, _])) (Val.loadAgg (cs := [.int .i64 (c.m), .int .i64 (c.s)]) rfl Ty.ag81 rfl rfl (fun w h => h.range 1 rfl rfl)) ?_
              refine WPD.takeM 6 rfl rfl rfl rfl (by kernel_rfl) (by kernel_rfl) (by kernel_rfl) (by kernel_rfl) (fun _ _ _ h => h) (fun w h => ((h.perm pl1)).dropEnd (L := [_, _])) (Val.move rfl rfl) ?_
              refine WPD.step 3 (by kernel_rfl) rfl rfl rfl rfl (Eff.call rfl rfl Try.call71 (revout_spec ⟨r.m, r.s⟩)) ?_
              rintro _ _ ⟨_, ⟨rfl, rfl⟩, rfl⟩
              refine ⟨(fun w h => ((h.perm pl1)).dropEnd (L := [_, _])), ?_⟩
              show WPD _ _ _ _ _ _ _ _ _ (Blk b6 [.int .i64 (c.m), .int .i64 (c.s)] 81 :: Blk b5 [.int .i64 (r.m), .int .i64 (r.s)] 81 :: KIs b ka kn kc s :: Blk b4 [.bool false, .int .i64 0, .int .i64 0, .int .i64 0, .int .i64 0, .int .i64 0, .slice none 0 0, .int .i64 0, .int .i64 0, .slice none 0 0] 42 :: Blk b3 [.bool false, .int .i64 0, .int .i64 0, .int .i64 0, .int .i64 0, .int .i64 0, .slice none 0 0, .int .i64 0, .int .i64 0, .slice none 0 0] 42 :: Blk b2 [.int .i64 (o.k), .int .i64 (o.r.m), .int .i64 (o.r.s), .int .i64 (o.c.m), .int .i64 (o.c.s), .int .i64 (o.v), .int .i64 (o.at_)] 38 :: Blk b1 [.pointer (some ⟨b, 0, none⟩)] 78 :: F)
              refine WPD.stepC 5 (by kernel_rfl) rfl rfl rfl rfl (by kernel_rfl) (Eff.call rfl rfl Try.call71 (revout_spec ⟨c.m, c.s⟩)) ?_
              rintro _ _ ⟨_, ⟨rfl, rfl⟩, rfl⟩
              refine ⟨(Sat W (Blk b6 [.int .i64 (c.m), .int .i64 (c.s)] 81 :: Blk b5 [.int .i64 (r.m), .int .i64 (r.s)] 81 :: KIs b ka kn kc s :: Blk b4 [.bool false, .int .i64 0, .int .i64 0, .int .i64 0, .int .i64 0, .int .i64 0, .slice none 0 0, .int .i64 0, .int .i64 0, .slice none 0 0] 42 :: Blk b3 [.bool false, .int .i64 0, .int .i64 0, .int .i64 0, .int .i64 0, .int .i64 0, .slice none 0 0, .int .i64 0, .int .i64 0, .slice none 0 0] 42 :: Blk b2 [.int .i64 (o.k), .int .i64 (o.r.m), .int .i64 (o.r.s), .int .i64 (o.c.m), .int .i64 (o.c.s), .int .i64 (o.v), .int .i64 (o.at_)] 38 :: Blk b1 [.pointer (some ⟨b, 0, none⟩)] 78 :: F)), (fun _ h => h), ?_⟩
              show WPD _ _ _ _ _ _ _ _ _ (Blk b6 [.int .i64 (c.m), .int .i64 (c.s)] 81 :: Blk b5 [.int .i64 (r.m), .int .i64 (r.s)] 81 :: KIs b ka kn kc s :: Blk b4 [.bool false, .int .i64 0, .int .i64 0, .int .i64 0, .int .i64 0, .int .i64 0, .slice none 0 0, .int .i64 0, .int .i64 0, .slice none 0 0] 42 :: Blk b3 [.bool false, .int .i64 0, .int .i64 0, .int .i64 0, .int .i64 0, .int .i64 0, .slice none 0 0, .int .i64 0, .int .i64 0, .slice none 0 0] 42 :: Blk b2 [.int .i64 (o.k), .int .i64 (o.r.m), .int .i64 (o.r.s), .int .i64 (o.c.m), .int .i64 (o.c.s), .int .i64 (o.v), .int .i64 (o.at_)] 38 :: Blk b1 [.pointer (some ⟨b, 0, none⟩)] 78 :: F)
              refine WPD.takeM 7 rfl rfl rfl rfl (by kernel_rfl) (by kernel_rfl) (by kernel_rfl) (by kernel_rfl) (fun _ _ _ h => h) (fun _ h => h) (Val.mk (cs := [.bool true, .int .i64 (r.m), .int .i64 (r.s), .int .i64 (c.m), .int .i64 (c.s), .int .i64 (x), .slice none 0 0, .int .i64 0, .int .i64 0, .slice none 0 0]) rfl rfl (fun _ => by kernel_rfl)) ?_
              refine WPD.perm pl3 ?_
              refine WPD.stepC0 8 (by kernel_rfl) rfl rfl rfl (by kernel_rfl) (Eff.storeAgg (cs := [.bool true, .int .i64 (r.m), .int .i64 (r.s), .int .i64 (c.m), .int .i64 (c.s), .int .i64 (x), .slice none 0 0, .int .i64 0, .int .i64 0, .slice none 0 0]) (C' := [.bool true, .int .i64 (r.m), .int .i64 (r.s), .int .i64 (c.m), .int .i64 (c.s), .int .i64 (x), .slice none 0 0, .int .i64 0, .int .i64 0, .slice none 0 0]) rfl Ty.ag42 rfl rfl rfl rfl (by simp) rfl) ?_
              rintro _ _ rfl
              refine ⟨(Sat W (Blk b4 [.bool true, .int .i64 (r.m), .int .i64 (r.s), .int .i64 (c.m), .int .i64 (c.s), .int .i64 (x), .slice none 0 0, .int .i64 0, .int .i64 0, .slice none 0 0] 42 :: Blk b6 [.int .i64 (c.m), .int .i64 (c.s)] 81 :: Blk b5 [.int .i64 (r.m), .int .i64 (r.s)] 81 :: KIs b ka kn kc s :: Blk b3 [.bool false, .int .i64 0, .int .i64 0, .int .i64 0, .int .i64 0, .int .i64 0, .slice none 0 0, .int .i64 0, .int .i64 0, .slice none 0 0] 42 :: Blk b2 [.int .i64 (o.k), .int .i64 (o.r.m), .int .i64 (o.r.s), .int .i64 (o.c.m), .int .i64 (o.c.s), .int .i64 (o.v), .int .i64 (o.at_)] 38 :: Blk b1 [.pointer (some ⟨b, 0, none⟩)] 78 :: F)), (fun _ h => h), ?_⟩
              refine WPD.done (by kernel_rfl) ?_
              refine Out.block ?_
              refine Out.next ?_
              refine WPc.seq ?_
              refine WPc.region ?_
              refine WP.val rfl rfl rfl (Val.loadAgg (cs := [.pointer (some ⟨b, 0, none⟩)]) rfl Ty.ag78 rfl rfl (fun w h => h.range 6 rfl rfl)) ?_
              refine WP.perm pl3 ?_
              refine WP.eff rfl rfl rfl (Eff.call rfl rfl Try.call79 (kidump_spec b ka kn kc s hsm2)) ?_
              rintro _ _ ⟨_, ⟨v2, g2, rfl, hg2, rfl⟩, rfl⟩
              show WP _ _ _ _ _ _ _ (Own 135 4 v2 g2.length (flatOf GV.cells g2) :: Kds (GVPe 81) g2 :: KIs b ka kn kc s :: Blk b4 [.bool true, .int .i64 (r.m), .int .i64 (r.s), .int .i64 (c.m), .int .i64 (c.s), .int .i64 (x), .slice none 0 0, .int .i64 0, .int .i64 0, .slice none 0 0] 42 :: Blk b6 [.int .i64 (c.m), .int .i64 (c.s)] 81 :: Blk b5 [.int .i64 (r.m), .int .i64 (r.s)] 81 :: Blk b3 [.bool false, .int .i64 0, .int .i64 0, .int .i64 0, .int .i64 0, .int .i64 0, .slice none 0 0, .int .i64 0, .int .i64 0, .slice none 0 0] 42 :: Blk b2 [.int .i64 (o.k), .int .i64 (o.r.m), .int .i64 (o.r.s), .int .i64 (o.c.m), .int .i64 (o.c.s), .int .i64 (o.v), .int .i64 (o.at_)] 38 :: Blk b1 [.pointer (some ⟨b, 0, none⟩)] 78 :: F)
              refine WP.perm pl1 ?_
              refine WP.perm pl1 ?_
              refine WP.open (fun w h => gens_open h) ?_
              rintro E2
              refine WP.pure (fun hE2 => ?_)
              obtain ⟨rE2, backE2⟩ := hE2
              show WP _ _ _ _ _ _ _ (E2 :: KIs b ka kn kc s :: Blk b4 [.bool true, .int .i64 (r.m), .int .i64 (r.s), .int .i64 (c.m), .int .i64 (c.s), .int .i64 (x), .slice none 0 0, .int .i64 0, .int .i64 0, .slice none 0 0] 42 :: Blk b6 [.int .i64 (c.m), .int .i64 (c.s)] 81 :: Blk b5 [.int .i64 (r.m), .int .i64 (r.s)] 81 :: Blk b3 [.bool false, .int .i64 0, .int .i64 0, .int .i64 0, .int .i64 0, .int .i64 0, .slice none 0 0, .int .i64 0, .int .i64 0, .slice none 0 0] 42 :: Blk b2 [.int .i64 (o.k), .int .i64 (o.r.m), .int .i64 (o.r.s), .int .i64 (o.c.m), .int .i64 (o.c.s), .int .i64 (o.v), .int .i64 (o.at_)] 38 :: Blk b1 [.pointer (some ⟨b, 0, none⟩)] 78 :: F)
              have hs2 : Small (g2.map (·.1)) := by rw [hg2]; exact hsm2
              refine WP.eff rfl rfl rfl (Eff.call rfl rfl Try.call78 (dumpout_spec E2 s.md g2 hs2 rE2.inn v2 rE2.rd)) ?_
              rintro _ _ ⟨_, ⟨v3, g3, rfl, hg3, rfl⟩, rfl⟩
              show WP _ _ _ _ _ _ _ (Own 53 4 v3 g3.length (flatOf GV.cells g3) :: Kds (GVPe 32) g3 :: E2 :: KIs b ka kn kc s :: Blk b4 [.bool true, .int .i64 (r.m), .int .i64 (r.s), .int .i64 (c.m), .int .i64 (c.s), .int .i64 (x), .slice none 0 0, .int .i64 0, .int .i64 0, .slice none 0 0] 42 :: Blk b6 [.int .i64 (c.m), .int .i64 (c.s)] 81 :: Blk b5 [.int .i64 (r.m), .int .i64 (r.s)] 81 :: Blk b3 [.bool false, .int .i64 0, .int .i64 0, .int .i64 0, .int .i64 0, .int .i64 0, .slice none 0 0, .int .i64 0, .int .i64 0, .slice none 0 0] 42 :: Blk b2 [.int .i64 (o.k), .int .i64 (o.r.m), .int .i64 (o.r.s), .int .i64 (o.c.m), .int .i64 (o.c.s), .int .i64 (o.v), .int .i64 (o.at_)] 38 :: Blk b1 [.pointer (some ⟨b, 0, none⟩)] 78 :: F)
              refine WP.fact (fun w h => own_oneCell h) (fun on3 => ?_)
              refine WP.val rfl rfl rfl (Val.fieldAddr (j := 7) rfl Ty.fo42_5 rfl rfl) ?_
              refine WP.perm pl4 ?_
              refine WP.eff0 rfl rfl (Eff.storeAgg (cs := [.int .i64 (s.md.m), .int .i64 (s.md.s), v3]) (C' := [.bool true, .int .i64 (r.m), .int .i64 (r.s), .int .i64 (c.m), .int .i64 (c.s), .int .i64 (x), .slice none 0 0, .int .i64 (s.md.m), .int .i64 (s.md.s), v3]) rfl Ty.ag35 rfl rfl rfl (by simp only [List.all_cons, List.all_nil, Bool.and_true, oc_int, oc_str, oc_bool, oc_ptr, oc_slice, oc_iface, oc_map, on3]) (by simp) rfl) ?_
              rintro _ _ rfl
              refine WP.nil ?_
              refine Out.next ?_
              refine WPc.seq ?_
              refine WPc.region ?_
              refine WP.val rfl rfl rfl (Val.loadAgg (cs := [.bool true, .int .i64 (r.m), .int .i64 (r.s), .int .i64 (c.m), .int .i64 (c.s), .int .i64 (x), .slice none 0 0, .int .i64 (s.md.m), .int .i64 (s.md.s), v3]) rfl Ty.ag42 rfl rfl (fun w h => h.range 0 rfl rfl)) ?_
              refine WP.perm pl7 ?_
              refine WP.eff0 rfl rfl (Eff.storeAgg (cs := [.bool true, .int .i64 (r.m), .int .i64 (r.s), .int .i64 (c.m), .int .i64 (c.s), .int .i64 (x), .slice none 0 0, .int .i64 (s.md.m), .int .i64 (s.md.s), v3]) (C' := [.bool true, .int .i64 (r.m), .int .i64 (r.s), .int .i64 (c.m), .int .i64 (c.s), .int .i64 (x), .slice none 0 0, .int .i64 (s.md.m), .int .i64 (s.md.s), v3]) rfl Ty.ag42 rfl rfl rfl (by simp only [List.all_cons, List.all_nil, Bool.and_true, oc_int, oc_str, oc_bool, oc_ptr, oc_slice, oc_iface, oc_map, on3]) (by simp) rfl) ?_
              rintro _ _ rfl
              refine WP.nil ?_
              refine Out.next ?_
              refine WPc.ret ?_
              refine Out.conv (fun w h => h.ownNil (e := 32) (k := 2)) ?_
              refine Out.perm pl2 ?_
              refine Out.drop ?_
              refine Out.perm pl4 ?_
              refine Out.drop ?_
              refine Out.perm pl5 ?_
              refine Out.drop ?_
              refine Out.perm pl5 ?_
              refine Out.drop ?_
              refine Out.perm pl5 ?_
              refine Out.drop ?_
              refine Out.perm pl5 ?_
              refine Out.drop ?_
              refine Out.perm pl4 ?_
              refine Out.perm pl4 ?_
              refine Out.perm pl4 ?_
              refine Out.perm pl3 ?_
              refine Out.perm pl4 ?_
              exact Out.retRun (L' := _) (results_cell (cs := _) Try.results35 Ty.ag42 rfl rfl (fun w h => h.range 0 rfl rfl)) ⟨(.slice none 0 0), v3, g3, by rw [ha] <;> rfl, hg3.trans hg2, by rw [ha] <;> rfl⟩ (fun w h => h.drop)
            · skip
              have ha : kgetA s.gs o.at_ = ⟨false, r, c, x, []⟩ := by unfold kgetA; rw [hget, hr0, hc0, hx0]; rfl
              refine WPD.start (Sat W [Blk b5 [.int .i64 (r.m), .int .i64 (r.s)] 81, Blk b6 [.int .i64 (c.m), .int .i64 (c.s)] 81]) Ty.mixed ?_
              refine WPD.takeM 0 rfl rfl rfl rfl (by kernel_rfl) (by kernel_rfl) (by kernel_rfl) (by kernel_rfl) (fun _ _ _ h => h) (fun w h => ((h.perm pl1)).dropEnd (L := [_, _])) (Val.move rfl rfl) ?_
              refine WPD.takeM 1 rfl rfl rfl rfl (by kernel_rfl) (by kernel_rfl) (by kernel_rfl) (by kernel_rfl) (fun _ _ _ h => h) (fun w h => ((h.perm pl1)).dropEnd (L := [_, _])) (Val.someI rfl Ty.if112 rfl) ?_
              refine WPD.take 2 rfl rfl rfl rfl (by kernel_rfl) (by kernel_rfl) (by kernel_rfl) (by kernel_rfl) (fun _ _ _ h => h) (by kernel_rfl) (fun w h => ((h.perm pl1)).dropEnd (L := [_, _])) (Val.loadAgg (cs := [.int .i64 (r.m), .int .i64 (r.s)]) rfl Ty.ag81 rfl rfl (fun w h => h.range 0 rfl rfl)) ?_
              refine WPD.take 4 rfl rfl rfl rfl (by kernel_rfl) (by kernel_rfl) (by kernel_rfl) (by kernel_rfl) (fun _ _ _ h => h) (by kernel_rfl) (fun w h => ((h.perm pl1)).dropEnd (L := [_, _])) (Val.loadAgg (cs := [.int .i64 (c.m), .int .i64 (c.s)]) rfl Ty.ag81 rfl rfl (fun w h => h.range 1 rfl rfl)) ?_
              refine WPD.takeM 6 rfl rfl rfl rfl (by kernel_rfl) (by kernel_rfl) (by kernel_rfl) (by kernel_rfl) (fun _ _ _ h => h) (fun w h => ((h.perm pl1)).dropEnd (L := [_, _])) (Val.move rfl rfl) ?_
              refine WPD.step 3 (by kernel_rfl) rfl rfl rfl rfl (Eff.call rfl rfl Try.call71 (revout_spec ⟨r.m, r.s⟩)) ?_
              rintro _ _ ⟨_, ⟨rfl, rfl⟩, rfl⟩
              refine ⟨(fun w h => ((h.perm pl1)).dropEnd (L := [_, _])), ?_⟩
              show WPD _ _ _ _ _ _ _ _ _ (Blk b6 [.int .i64 (c.m), .int .i64 (c.s)] 81 :: Blk b5 [.int .i64 (r.m), .int .i64 (r.s)] 81 :: KIs b ka kn kc s :: Blk b4 [.bool false, .int .i64 0, .int .i64 0, .int .i64 0, .int .i64 0, .int .i64 0, .slice none 0 0, .int .i64 0, .int .i64 0, .slice none 0 0] 42 :: Blk b3 [.bool false, .int .i64 0, .int .i64 0, .int .i64 0, .int .i64 0, .int .i64 0, .slice none 0 0, .int .i64 0, .int .i64 0, .slice none 0 0] 42 :: Blk b2 [.int .i64 (o.k), .int .i64 (o.r.m), .int .i64 (o.r.s), .int .i64 (o.c.m), .int .i64 (o.c.s), .int .i64 (o.v), .int .i64 (o.at_)] 38 :: Blk b1 [.pointer (some ⟨b, 0, none⟩)] 78 :: F)
              refine WPD.stepC 5 (by kernel_rfl) rfl rfl rfl rfl (by kernel_rfl) (Eff.call rfl rfl Try.call71 (revout_spec ⟨c.m, c.s⟩)) ?_
              rintro _ _ ⟨_, ⟨rfl, rfl⟩, rfl⟩
              refine ⟨(Sat W (Blk b6 [.int .i64 (c.m), .int .i64 (c.s)] 81 :: Blk b5 [.int .i64 (r.m), .int .i64 (r.s)] 81 :: KIs b ka kn kc s :: Blk b4 [.bool false, .int .i64 0, .int .i64 0, .int .i64 0, .int .i64 0, .int .i64 0, .slice none 0 0, .int .i64 0, .int .i64 0, .slice none 0 0] 42 :: Blk b3 [.bool false, .int .i64 0, .int .i64 0, .int .i64 0, .int .i64 0, .int .i64 0, .slice none 0 0, .int .i64 0, .int .i64 0, .slice none 0 0] 42 :: Blk b2 [.int .i64 (o.k), .int .i64 (o.r.m), .int .i64 (o.r.s), .int .i64 (o.c.m), .int .i64 (o.c.s), .int .i64 (o.v), .int .i64 (o.at_)] 38 :: Blk b1 [.pointer (some ⟨b, 0, none⟩)] 78 :: F)), (fun _ h => h), ?_⟩
              show WPD _ _ _ _ _ _ _ _ _ (Blk b6 [.int .i64 (c.m), .int .i64 (c.s)] 81 :: Blk b5 [.int .i64 (r.m), .int .i64 (r.s)] 81 :: KIs b ka kn kc s :: Blk b4 [.bool false, .int .i64 0, .int .i64 0, .int .i64 0, .int .i64 0, .int .i64 0, .slice none 0 0, .int .i64 0, .int .i64 0, .slice none 0 0] 42 :: Blk b3 [.bool false, .int .i64 0, .int .i64 0, .int .i64 0, .int .i64 0, .int .i64 0, .slice none 0 0, .int .i64 0, .int .i64 0, .slice none 0 0] 42 :: Blk b2 [.int .i64 (o.k), .int .i64 (o.r.m), .int .i64 (o.r.s), .int .i64 (o.c.m), .int .i64 (o.c.s), .int .i64 (o.v), .int .i64 (o.at_)] 38 :: Blk b1 [.pointer (some ⟨b, 0, none⟩)] 78 :: F)
              refine WPD.takeM 7 rfl rfl rfl rfl (by kernel_rfl) (by kernel_rfl) (by kernel_rfl) (by kernel_rfl) (fun _ _ _ h => h) (fun _ h => h) (Val.mk (cs := [.bool false, .int .i64 (r.m), .int .i64 (r.s), .int .i64 (c.m), .int .i64 (c.s), .int .i64 (x), .slice none 0 0, .int .i64 0, .int .i64 0, .slice none 0 0]) rfl rfl (fun _ => by kernel_rfl)) ?_
              refine WPD.perm pl3 ?_
              refine WPD.stepC0 8 (by kernel_rfl) rfl rfl rfl (by kernel_rfl) (Eff.storeAgg (cs := [.bool false, .int .i64 (r.m), .int .i64 (r.s), .int .i64 (c.m), .int .i64 (c.s), .int .i64 (x), .slice none 0 0, .int .i64 0, .int .i64 0, .slice none 0 0]) (C' := [.bool false, .int .i64 (r.m), .int .i64 (r.s), .int .i64 (c.m), .int .i64 (c.s), .int .i64 (x), .slice none 0 0, .int .i64 0, .int .i64 0, .slice none 0 0]) rfl Ty.ag42 rfl rfl rfl rfl (by simp) rfl) ?_
              rintro _ _ rfl
              refine ⟨(Sat W (Blk b4 [.bool false, .int .i64 (r.m), .int .i64 (r.s), .int .i64 (c.m), .int .i64 (c.s), .int .i64 (x), .slice none 0 0, .int .i64 0, .int .i64 0, .slice none 0 0] 42 :: Blk b6 [.int .i64 (c.m), .int .i64 (c.s)] 81 :: Blk b5 [.int .i64 (r.m), .int .i64 (r.s)] 81 :: KIs b ka kn kc s :: Blk b3 [.bool false, .int .i64 0, .int .i64 0, .int .i64 0, .int .i64 0, .int .i64 0, .slice none 0 0, .int .i64 0, .int .i64 0, .slice none 0 0] 42 :: Blk b2 [.int .i64 (o.k), .int .i64 (o.r.m), .int .i64 (o.r.s), .int .i64 (o.c.m), .int .i64 (o.c.s), .int .i64 (o.v), .int .i64 (o.at_)] 38 :: Blk b1 [.pointer (some ⟨b, 0, none⟩)] 78 :: F)), (fun _ h => h), ?_⟩
              refine WPD.done (by kernel_rfl) ?_
              refine Out.block ?_
              refine Out.next ?_
              refine WPc.seq ?_
              refine WPc.region ?_
              refine WP.val rfl rfl rfl (Val.loadAgg (cs := [.pointer (some ⟨b, 0, none⟩)]) rfl Ty.ag78 rfl rfl (fun w h => h.range 6 rfl rfl)) ?_
              refine WP.perm pl3 ?_
              refine WP.eff rfl rfl rfl (Eff.call rfl rfl Try.call79 (kidump_spec b ka kn kc s hsm2)) ?_
              rintro _ _ ⟨_, ⟨v2, g2, rfl, hg2, rfl⟩, rfl⟩
              show WP _ _ _ _ _ _ _ (Own 135 4 v2 g2.length (flatOf GV.cells g2) :: Kds (GVPe 81) g2 :: KIs b ka kn kc s :: Blk b4 [.bool false, .int .i64 (r.m), .int .i64 (r.s), .int .i64 (c.m), .int .i64 (c.s), .int .i64 (x), .slice none 0 0, .int .i64 0, .int .i64 0, .slice none 0 0] 42 :: Blk b6 [.int .i64 (c.m), .int .i64 (c.s)] 81 :: Blk b5 [.int .i64 (r.m), .int .i64 (r.s)] 81 :: Blk b3 [.bool false, .int .i64 0, .int .i64 0, .int .i64 0, .int .i64 0, .int .i64 0, .slice none 0 0, .int .i64 0, .int .i64 0, .slice none 0 0] 42 :: Blk b2 [.int .i64 (o.k), .int .i64 (o.r.m), .int .i64 (o.r.s), .int .i64 (o.c.m), .int .i64 (o.c.s), .int .i64 (o.v), .int .i64 (o.at_)] 38 :: Blk b1 [.pointer (some ⟨b, 0, none⟩)] 78 :: F)
              refine WP.perm pl1 ?_
              refine WP.perm pl1 ?_
              refine WP.open (fun w h => gens_open h) ?_
              rintro E2
              refine WP.pure (fun hE2 => ?_)
              obtain ⟨rE2, backE2⟩ := hE2
              show WP _ _ _ _ _ _ _ (E2 :: KIs b ka kn kc s :: Blk b4 [.bool false, .int .i64 (r.m), .int .i64 (r.s), .int .i64 (c.m), .int .i64 (c.s), .int .i64 (x), .slice none 0 0, .int .i64 0, .int .i64 0, .slice none 0 0] 42 :: Blk b6 [.int .i64 (c.m), .int .i64 (c.s)] 81 :: Blk b5 [.int .i64 (r.m), .int .i64 (r.s)] 81 :: Blk b3 [.bool false, .int .i64 0, .int .i64 0, .int .i64 0, .int .i64 0, .int .i64 0, .slice none 0 0, .int .i64 0, .int .i64 0, .slice none 0 0] 42 :: Blk b2 [.int .i64 (o.k), .int .i64 (o.r.m), .int .i64 (o.r.s), .int .i64 (o.c.m), .int .i64 (o.c.s), .int .i64 (o.v), .int .i64 (o.at_)] 38 :: Blk b1 [.pointer (some ⟨b, 0, none⟩)] 78 :: F)
              have hs2 : Small (g2.map (·.1)) := by rw [hg2]; exact hsm2
              refine WP.eff rfl rfl rfl (Eff.call rfl rfl Try.call78 (dumpout_spec E2 s.md g2 hs2 rE2.inn v2 rE2.rd)) ?_
              rintro _ _ ⟨_, ⟨v3, g3, rfl, hg3, rfl⟩, rfl⟩
              show WP _ _ _ _ _ _ _ (Own 53 4 v3 g3.length (flatOf GV.cells g3) :: Kds (GVPe 32) g3 :: E2 :: KIs b ka kn kc s :: Blk b4 [.bool false, .int .i64 (r.m), .int .i64 (r.s), .int .i64 (c.m), .int .i64 (c.s), .int .i64 (x), .slice none 0 0, .int .i64 0, .int .i64 0, .slice none 0 0] 42 :: Blk b6 [.int .i64 (c.m), .int .i64 (c.s)] 81 :: Blk b5 [.int .i64 (r.m), .int .i64 (r.s)] 81 :: Blk b3 [.bool false, .int .i64 0, .int .i64 0, .int .i64 0, .int .i64 0, .int .i64 0, .slice none 0 0, .int .i64 0, .int .i64 0, .slice none 0 0] 42 :: Blk b2 [.int .i64 (o.k), .int .i64 (o.r.m), .int .i64 (o.r.s), .int .i64 (o.c.m), .int .i64 (o.c.s), .int .i64 (o.v), .int .i64 (o.at_)] 38 :: Blk b1 [.pointer (some ⟨b, 0, none⟩)] 78 :: F)
              refine WP.fact (fun w h => own_oneCell h) (fun on3 => ?_)
              refine WP.val rfl rfl rfl (Val.fieldAddr (j := 7) rfl Ty.fo42_5 rfl rfl) ?_
              refine WP.perm pl4 ?_
              refine WP.eff0 rfl rfl (Eff.storeAgg (cs := [.int .i64 (s.md.m), .int .i64 (s.md.s), v3]) (C' := [.bool false, .int .i64 (r.m), .int .i64 (r.s), .int .i64 (c.m), .int .i64 (c.s), .int .i64 (x), .slice none 0 0, .int .i64 (s.md.m), .int .i64 (s.md.s), v3]) rfl Ty.ag35 rfl rfl rfl (by simp only [List.all_cons, List.all_nil, Bool.and_true, oc_int, oc_str, oc_bool, oc_ptr, oc_slice, oc_iface, oc_map, on3]) (by simp) rfl) ?_
              rintro _ _ rfl
              refine WP.nil ?_
              refine Out.next ?_
              refine WPc.seq ?_
              refine WPc.region ?_
              refine WP.val rfl rfl rfl (Val.loadAgg (cs := [.bool false, .int .i64 (r.m), .int .i64 (r.s), .int .i64 (c.m), .int .i64 (c.s), .int .i64 (x), .slice none 0 0, .int .i64 (s.md.m), .int .i64 (s.md.s), v3]) rfl Ty.ag42 rfl rfl (fun w h => h.range 0 rfl rfl)) ?_
              refine WP.perm pl7 ?_
              refine WP.eff0 rfl rfl (Eff.storeAgg (cs := [.bool false, .int .i64 (r.m), .int .i64 (r.s), .int .i64 (c.m), .int .i64 (c.s), .int .i64 (x), .slice none 0 0, .int .i64 (s.md.m), .int .i64 (s.md.s), v3]) (C' := [.bool false, .int .i64 (r.m), .int .i64 (r.s), .int .i64 (c.m), .int .i64 (c.s), .int .i64 (x), .slice none 0 0, .int .i64 (s.md.m), .int .i64 (s.md.s), v3]) rfl Ty.ag42 rfl rfl rfl (by simp only [List.all_cons, List.all_nil, Bool.and_true, oc_int, oc_str, oc_bool, oc_ptr, oc_slice, oc_iface, oc_map, on3]) (by simp) rfl) ?_
              rintro _ _ rfl
              refine WP.nil ?_
              refine Out.next ?_
              refine WPc.ret ?_
              refine Out.conv (fun w h => h.ownNil (e := 32) (k := 2)) ?_
              refine Out.perm pl2 ?_
              refine Out.drop ?_
              refine Out.perm pl4 ?_
              refine Out.drop ?_
              refine Out.perm pl5 ?_
              refine Out.drop ?_
              refine Out.perm pl5 ?_
              refine Out.drop ?_
              refine Out.perm pl5 ?_
              refine Out.drop ?_
              refine Out.perm pl5 ?_
              refine Out.drop ?_
              refine Out.perm pl4 ?_
              refine Out.perm pl4 ?_
              refine Out.perm pl4 ?_
              refine Out.perm pl3 ?_
              refine Out.perm pl4 ?_
              exact Out.retRun (L' := _) (results_cell (cs := _) Try.results35 Ty.ag42 rfl rfl (fun w h => h.range 0 rfl rfl)) ⟨(.slice none 0 0), v3, g3, by rw [ha] <;> rfl, hg3.trans hg2, by rw [ha] <;> rfl⟩ (fun w h => h.drop)
          · skip
            have h5 : ¬ (o.k = (5 : Int)) := h5
            exfalso; omega

end Go.Proofs.Ythicijpjpijdjaa.Ky

namespace Go.Proofs.Ythicijpjpijdjaa.Kz
open Go.RowKit Go.Proofs.Ythicijpjpijdjaa Go.Proofs.Ythicijpjpijdjaa.Sl Go.Proofs.Ythicijpjpijdjaa.KyP Go.Proofs.Ythicijpjpijdjaa.Ka Go.Proofs.Ythicijpjpijdjaa.Kb Go.Proofs.Ythicijpjpijdjaa.Kc Go.Proofs.Ythicijpjpijdjaa.Kd Go.Proofs.Ythicijpjpijdjaa.Ke Go.Proofs.Ythicijpjpijdjaa.Kf Go.Proofs.Ythicijpjpijdjaa.Kg Go.Proofs.Ythicijpjpijdjaa.Kh Go.Proofs.Ythicijpjpijdjaa.Ki Go.Proofs.Ythicijpjpijdjaa.Kj Go.Proofs.Ythicijpjpijdjaa.Kk Go.Proofs.Ythicijpjpijdjaa.Kl Go.Proofs.Ythicijpjpijdjaa.Km Go.Proofs.Ythicijpjpijdjaa.Kn Go.Proofs.Ythicijpjpijdjaa.Ko Go.Proofs.Ythicijpjpijdjaa.Kp Go.Proofs.Ythicijpjpijdjaa.Kq Go.Proofs.Ythicijpjpijdjaa.Kr Go.Proofs.Ythicijpjpijdjaa.Ks Go.Proofs.Ythicijpjpijdjaa.Kt Go.Proofs.Ythicijpjpijdjaa.Ku Go.Proofs.Ythicijpjpijdjaa.Kv Go.Proofs.Ythicijpjpijdjaa.Kw Go.Proofs.Ythicijpjpijdjaa.Kx Go.Proofs.Ythicijpjpijdjaa.Ky
set_option linter.unusedVariables false
set_option linter.unusedSimpArgs false
set_option linter.unusedSectionVars false


/-- one operation, from one index to the next, with its answer -/
abbrev Stp : Type := KI → KOp → KI → KA → Prop
def StOk (St : Stp) : Prop := ∀ (b : Nat) (ka : Option Addr) (kn kc : Nat) (s : KI) (o : KOp) (s' : KI) (a : KA), St s o s' a → Does Try.prog 35 [.agg #[.pointer (some ⟨b, 0, none⟩)], .agg o.cells.toArray] [KIs b ka kn kc s] (fun v L => ∃ (vr vg : Value) (g2 : List GV), v = KAns a vr s'.md vg ∧ g2.map (·.1) = s'.gs ∧ L = [Own 32 2 vr a.revs.length (flatOf Rv.cells a.revs), Own 53 4 vg g2.length (flatOf GV.cells g2), Kds (GVPe 32) g2, KIs b ka kn kc s'])
def stAt (s : KI) (ans : List (KA × KI)) : Nat → KI
  | 0 => s
  | i + 1 => match ans[i]? with
    | some x => x.2
    | none => s
def Runs (St : Stp) (s : KI) (l : List KOp) (ans : List (KA × KI)) : Prop := ans.length = l.length ∧ ∀ (i : Nat) (o : KOp) (x : KA × KI), l[i]? = some o → ans[i]? = some x → St (stAt s ans i) o x.2 x.1
theorem stAt_step {s : KI} {ans : List (KA × KI)} {i : Nat} {x : KA × KI} (h : ans[i]? = some x) : stAt s ans (i + 1) = x.2 := by
  show (match ans[i]? with | some x => x.2 | none => s) = _
  rw [h]
structure WK where
  a : KA
  s : KI
  vr : Value
  vg : Value
  gl : List GV
def WK.cells (x : WK) : List Value := [.bool x.a.ok, .int .i64 x.a.mod.m, .int .i64 x.a.mod.s, .int .i64 x.a.cre.m, .int .i64 x.a.cre.s, .int .i64 x.a.ver, x.vr, .int .i64 x.s.md.m, .int .i64 x.s.md.s, x.vg]
theorem WK.len (x : WK) : x.cells.length = 10 := rfl
def WK.pr (x : WK) : KA × KI := (x.a, x.s)
def WKP (x : WK) : HProp := Sep [Own 32 2 x.vr x.a.revs.length (flatOf Rv.cells x.a.revs), Own 53 4 x.vg x.gl.length (flatOf GV.cells x.gl), Kds (GVPe 32) x.gl]
theorem againK {W w : World} {O : HProp} {was : List WK} {x : WK} {L : List HProp} (h : Sat W (O :: Own 32 2 x.vr x.a.revs.length (flatOf Rv.cells x.a.revs) :: Own 53 4 x.vg x.gl.length (flatOf GV.cells x.gl) :: Kds (GVPe 32) x.gl :: Kds WKP was :: L) w) : Sat W (O :: Kds WKP (was ++ [x]) :: L) w := by
  have h1 : Sat W ([Own 32 2 x.vr x.a.revs.length (flatOf Rv.cells x.a.revs), Own 53 4 x.vg x.gl.length (flatOf GV.cells x.gl), Kds (GVPe 32) x.gl] ++ (O :: Kds WKP was :: L)) w := h.perm ((List.Perm.swap _ _ _).trans (List.Perm.cons _ ((List.Perm.swap _ _ _).trans (List.Perm.cons _ (List.Perm.swap _ _ _)))))
  have h2 : Sat W (WKP x :: O :: Kds WKP was :: L) w := Sat.sep_mk h1
  have h3 := (h2.perm (show List.Perm _ (WKP x :: Kds WKP was :: O :: L) from List.Perm.cons _ (List.Perm.swap _ _ _))).kConsMk
  have h4 := Sat.kPerm (R := WKP) (ms := was ++ [x]) (by simpa using (List.perm_append_comm (l₁ := [x]) (l₂ := was))) h3
  exact h4.perm (List.Perm.swap _ _ _)
theorem gensK_snoc {was : List WK} {x : WK} (h : ∀ x ∈ was, x.gl.map (·.1) = x.s.gs) (hx : x.gl.map (·.1) = x.s.gs) : ∀ y ∈ was ++ [x], y.gl.map (·.1) = y.s.gs := fun y hy => (List.mem_append.1 hy).elim (h y) (fun hy => by rw [List.mem_singleton.1 hy]; exact hx)
set_option maxRecDepth 100000 in
set_option maxHeartbeats 2000000 in
theorem key1_nil (A : HProp) (bo bu bz b : Nat) (ka : Option Addr) (kn kc : Nat) (St : Stp) (hS : StOk St) (s : KI) (ans : List (KA × KI)) (hruns : Runs St s [] ans) (a : Option Addr) (c : Nat) : Does Try.prog 34 [.pointer (some ⟨bo, 0, none⟩), .pointer (some ⟨bu, 0, none⟩), .pointer (some ⟨bz, 0, none⟩)] [Blk bo [.slice a 0 c] 22, Blk bu [.slice none 0 0] 24, Blk bz [.pointer (some ⟨b, 0, none⟩)] 78, KIs b ka kn kc s, A] (fun v L => v = .tuple #[] ∧ ∃ (v5 : Value) (was : List WK), was.map WK.pr = ans ∧ (∀ x ∈ was, x.gl.map (·.1) = x.s.gs) ∧ L = [Blk bu [v5] 24, Own 42 10 v5 was.length (flatOf WK.cells was), Kds WKP was, KIs b ka kn kc (stAt s ans 0), A]) := by
  refine Does.enter 19 Try.func34 rfl rfl rfl fun W F => ?_
  show WPc _ _ _ _ _ [(0, .pointer (some ⟨bo, 0, none⟩)), (1, .pointer (some ⟨bu, 0, none⟩)), (2, .pointer (some ⟨bz, 0, none⟩))] (Blk bo [.slice a 0 c] 22 :: Blk bu [.slice none 0 0] 24 :: Blk bz [.pointer (some ⟨b, 0, none⟩)] 78 :: KIs b ka kn kc s :: A :: F)
  refine WPc.seq ?_
  refine WPc.conv (fun w h => Sat.kNil (R := WKP) h) ?_
  refine WPc.conv (fun w h => h.ownNil (e := 42) (k := 10)) ?_
  show WPc _ _ _ _ _ _ (Own 42 10 (.slice none 0 0) 0 ([]) :: Kds WKP [] :: Blk bo [.slice a 0 c] 22 :: Blk bu [.slice none 0 0] 24 :: Blk bz [.pointer (some ⟨b, 0, none⟩)] 78 :: KIs b ka kn kc s :: A :: F)
  refine WPc.region ?_
  refine WP.val rfl rfl rfl (Val.assign rfl rfl) ?_
  refine WP.nil ?_
  refine Out.next ?_
  refine WPc.block ?_
  refine WPc.perm pl6 ?_
  refine WPc.perm pl5 ?_
  refine WPc.perm pl4 ?_
  refine WPc.perm pl6 ?_
  refine WPc.perm pl6 ?_
  refine WPc.perm pl6 ?_
  refine WPc.perm pl6 ?_
  refine WPc.loop (ι := Nat × Value × List WK) (fun ⟨i, v5, was⟩ => i ≤ 0 ∧ was.map WK.pr = ans.take i ∧ ∀ x ∈ was, x.gl.map (·.1) = x.s.gs) (fun ⟨i, v5, was⟩ => [(0, .pointer (some ⟨bo, 0, none⟩)), (1, .pointer (some ⟨bu, 0, none⟩)), (2, .pointer (some ⟨bz, 0, none⟩)), (3, .int .i64 (((i : Nat) : Int)))]) (fun ⟨i, v5, was⟩ => Own 42 10 v5 was.length (flatOf WK.cells was) :: Kds WKP was :: Blk bu [v5] 24 :: KIs b ka kn kc (stAt s ans i) :: Blk bo [.slice a 0 c] 22 :: Blk bz [.pointer (some ⟨b, 0, none⟩)] 78 :: A :: F) (fun ⟨i, v5, was⟩ => 0 - i) (0, .slice none 0 0, []) ⟨Nat.zero_le _, rfl, fun x hx => by cases hx⟩ ((Sub.cons rfl (Sub.cons rfl (Sub.cons rfl (Sub.cons rfl Sub.nil))))) (fun _ h => h) ?_
  rintro ⟨i, v5, was⟩ ⟨hi, hwas, hgs⟩
  show WPc _ _ _ _ _ [(0, .pointer (some ⟨bo, 0, none⟩)), (1, .pointer (some ⟨bu, 0, none⟩)), (2, .pointer (some ⟨bz, 0, none⟩)), (3, .int .i64 (((i : Nat) : Int)))] (Own 42 10 v5 was.length (flatOf WK.cells was) :: Kds WKP was :: Blk bu [v5] 24 :: KIs b ka kn kc (stAt s ans i) :: Blk bo [.slice a 0 c] 22 :: Blk bz [.pointer (some ⟨b, 0, none⟩)] 78 :: A :: F)
  replace hi : i ≤ 0 := hi
  replace hwas : was.map WK.pr = ans.take i := hwas
  replace hgs : ∀ x ∈ was, x.gl.map (·.1) = x.s.gs := hgs
  have hwl := congrArg List.length hwas
  rw [List.length_map, List.length_take, hruns.1] at hwl
  refine WPc.seq ?_
  refine WPc.seq ?_
  refine WPc.region ?_
  refine WP.val rfl rfl rfl (Val.move rfl rfl) ?_
  refine WP.val rfl rfl rfl (Val.load rfl Ty.sc22 rfl (fun w h => h.cell 4 rfl rfl)) ?_
  refine WP.val rfl rfl rfl (Val.len rfl Ty.sl22 rfl) ?_
  refine WP.val rfl rfl rfl (Val.lss rfl rfl rfl) ?_
  refine WP.nil ?_
  refine Out.next ?_
  refine WPc.ifP rfl (fun h1 => ?_) (fun h1 => ?_)
  · skip
    have h1 : (((i : Nat) : Int) < (0 : Int)) := h1
    exfalso; omega
  · skip
    have h1 : ¬ (((i : Nat) : Int) < (0 : Int)) := h1
    refine WPc.exit ?_
    refine Out.then_exit ?_
    refine Out.then_exit ?_
    refine Out.block_exit ?_
    have hil : i = 0 := by omega
    rw [hil, ← show ans.length = 0 from hruns.1, List.take_length] at hwas
    refine Out.perm pl4 ?_
    refine Out.drop ?_
    refine Out.perm pl4 ?_
    refine Out.drop ?_
    refine Out.perm pl4 ?_
    refine Out.perm pl4 ?_
    refine Out.perm pl3 ?_
    refine Out.perm pl3 ?_
    refine Out.perm pl4 ?_
    exact Out.end0 (L' := _) Try.results34 ⟨rfl, v5, was, hwas, hgs, rfl⟩ (fun w h => by rw [hil] at h; exact h)

set_option maxRecDepth 100000 in
set_option maxHeartbeats 2000000 in
theorem key1_row (A : HProp) (bo bu bz b : Nat) (ka : Option Addr) (kn kc : Nat) (St : Stp) (hS : StOk St) (s : KI) (ans : List (KA × KI)) (l : List KOp) (hl : l.length ≤ 65540) (hruns : Runs St s l ans) (b0 o0 c0 : Nat) (hr : ∀ w, Holds A w → ∀ i x, l[i]? = some x → w.rangeAt b0 (o0 + i * 7) (KOp.cells x)) : Does Try.prog 34 [.pointer (some ⟨bo, 0, none⟩), .pointer (some ⟨bu, 0, none⟩), .pointer (some ⟨bz, 0, none⟩)] [Blk bo [.slice (some ⟨b0, o0, none⟩) l.length c0] 22, Blk bu [.slice none 0 0] 24, Blk bz [.pointer (some ⟨b, 0, none⟩)] 78, KIs b ka kn kc s, A] (fun v L => v = .tuple #[] ∧ ∃ (v5 : Value) (was : List WK), was.map WK.pr = ans ∧ (∀ x ∈ was, x.gl.map (·.1) = x.s.gs) ∧ L = [Blk bu [v5] 24, Own 42 10 v5 was.length (flatOf WK.cells was), Kds WKP was, KIs b ka kn kc (stAt s ans l.length), A]) := by
  refine Does.enter 19 Try.func34 rfl rfl rfl fun W F => ?_
  show WPc _ _ _ _ _ [(0, .pointer (some ⟨bo, 0, none⟩)), (1, .pointer (some ⟨bu, 0, none⟩)), (2, .pointer (some ⟨bz, 0, none⟩))] (Blk bo [.slice (some ⟨b0, o0, none⟩) l.length c0] 22 :: Blk bu [.slice none 0 0] 24 :: Blk bz [.pointer (some ⟨b, 0, none⟩)] 78 :: KIs b ka kn kc s :: A :: F)
  refine WPc.seq ?_
  refine WPc.conv (fun w h => Sat.kNil (R := WKP) h) ?_
  refine WPc.conv (fun w h => h.ownNil (e := 42) (k := 10)) ?_
  show WPc _ _ _ _ _ _ (Own 42 10 (.slice none 0 0) 0 ([]) :: Kds WKP [] :: Blk bo [.slice (some ⟨b0, o0, none⟩) l.length c0] 22 :: Blk bu [.slice none 0 0] 24 :: Blk bz [.pointer (some ⟨b, 0, none⟩)] 78 :: KIs b ka kn kc s :: A :: F)
  refine WPc.region ?_
  refine WP.val rfl rfl rfl (Val.assign rfl rfl) ?_
  refine WP.nil ?_
  refine Out.next ?_
  refine WPc.block ?_
  refine WPc.perm pl6 ?_
  refine WPc.perm pl5 ?_
  refine WPc.perm pl4 ?_
  refine WPc.perm pl6 ?_
  refine WPc.perm pl6 ?_
  refine WPc.perm pl6 ?_
  refine WPc.perm pl6 ?_
  refine WPc.loop (ι := Nat × Value × List WK) (fun ⟨i, v5, was⟩ => i ≤ l.length ∧ was.map WK.pr = ans.take i ∧ ∀ x ∈ was, x.gl.map (·.1) = x.s.gs) (fun ⟨i, v5, was⟩ => [(0, .pointer (some ⟨bo, 0, none⟩)), (1, .pointer (some ⟨bu, 0, none⟩)), (2, .pointer (some ⟨bz, 0, none⟩)), (3, .int .i64 (((i : Nat) : Int)))]) (fun ⟨i, v5, was⟩ => Own 42 10 v5 was.length (flatOf WK.cells was) :: Kds WKP was :: Blk bu [v5] 24 :: KIs b ka kn kc (stAt s ans i) :: Blk bo [.slice (some ⟨b0, o0, none⟩) l.length c0] 22 :: Blk bz [.pointer (some ⟨b, 0, none⟩)] 78 :: A :: F) (fun ⟨i, v5, was⟩ => l.length - i) (0, .slice none 0 0, []) ⟨Nat.zero_le _, rfl, fun x hx => by cases hx⟩ ((Sub.cons rfl (Sub.cons rfl (Sub.cons rfl (Sub.cons rfl Sub.nil))))) (fun _ h => h) ?_
  rintro ⟨i, v5, was⟩ ⟨hi, hwas, hgs⟩
  show WPc _ _ _ _ _ [(0, .pointer (some ⟨bo, 0, none⟩)), (1, .pointer (some ⟨bu, 0, none⟩)), (2, .pointer (some ⟨bz, 0, none⟩)), (3, .int .i64 (((i : Nat) : Int)))] (Own 42 10 v5 was.length (flatOf WK.cells was) :: Kds WKP was :: Blk bu [v5] 24 :: KIs b ka kn kc (stAt s ans i) :: Blk bo [.slice (some ⟨b0, o0, none⟩) l.length c0] 22 :: Blk bz [.pointer (some ⟨b, 0, none⟩)] 78 :: A :: F)
  replace hi : i ≤ l.length := hi
  replace hwas : was.map WK.pr = ans.take i := hwas
  replace hgs : ∀ x ∈ was, x.gl.map (·.1) = x.s.gs := hgs
  have hwl := congrArg List.length hwas
  rw [List.length_map, List.length_take, hruns.1] at hwl
  refine WPc.seq ?_
  refine WPc.seq ?_
  refine WPc.region ?_
  refine WP.val rfl rfl rfl (Val.move rfl rfl) ?_
  refine WP.val rfl rfl rfl (Val.load rfl Ty.sc22 rfl (fun w h => h.cell 4 rfl rfl)) ?_
  refine WP.val rfl rfl rfl (Val.len rfl Ty.sl22 rfl) ?_
  refine WP.val rfl rfl rfl (Val.lss rfl rfl rfl) ?_
  refine WP.nil ?_
  refine Out.next ?_
  refine WPc.ifP rfl (fun h1 => ?_) (fun h1 => ?_)
  · skip
    have h1 : (((i : Nat) : Int) < ((l.length : Nat) : Int)) := h1
    refine WPc.skip ?_
    refine Out.next ?_
    refine WPc.seq ?_
    refine WPc.block ?_
    have hlt : i < l.length := by omega
    obtain ⟨o, hx⟩ : ∃ o, l[i]? = some o := ⟨_, List.getElem?_eq_getElem hlt⟩
    obtain ⟨x, hxa⟩ : ∃ x, ans[i]? = some x := ⟨_, List.getElem?_eq_getElem (by rw [hruns.1]; exact hlt)⟩
    refine WPD.start (Sat W [Blk bu [v5] 24, Blk bz [.pointer (some ⟨b, 0, none⟩)] 78, Blk bo [.slice (some ⟨b0, o0, none⟩) l.length c0] 22, A]) Ty.mixed ?_
    refine WPD.take 0 rfl rfl rfl rfl (by kernel_rfl) (by kernel_rfl) (by kernel_rfl) (by kernel_rfl) (fun _ _ _ h => h) (by kernel_rfl) (fun w h => (((((h.perm pl6).perm pl5).perm pl6).perm pl5)).dropEnd (L := [_, _, _, _])) (Val.load rfl Ty.sc24 rfl (fun w h => h.cell 0 rfl rfl)) ?_
    refine WPD.take 1 rfl rfl rfl rfl (by kernel_rfl) (by kernel_rfl) (by kernel_rfl) (by kernel_rfl) (fun _ _ _ h => h) (by kernel_rfl) (fun w h => (((((h.perm pl6).perm pl5).perm pl6).perm pl5)).dropEnd (L := [_, _, _, _])) (Val.loadAgg (cs := [.pointer (some ⟨b, 0, none⟩)]) rfl Ty.ag78 rfl rfl (fun w h => h.range 1 rfl rfl)) ?_
    refine WPD.take 2 rfl rfl rfl rfl (by kernel_rfl) (by kernel_rfl) (by kernel_rfl) (by kernel_rfl) (fun _ _ _ h => h) (by kernel_rfl) (fun w h => (((((h.perm pl6).perm pl5).perm pl6).perm pl5)).dropEnd (L := [_, _, _, _])) (Val.load rfl Ty.sc22 rfl (fun w h => h.cell 2 rfl rfl)) ?_
    refine WPD.takeM 3 rfl rfl rfl rfl (by kernel_rfl) (by kernel_rfl) (by kernel_rfl) (by kernel_rfl) (fun _ _ _ h => h) (fun w h => (((((h.perm pl6).perm pl5).perm pl6).perm pl5)).dropEnd (L := [_, _, _, _])) (Val.move rfl rfl) ?_
    refine WPD.takeM 4 rfl rfl rfl rfl (by kernel_rfl) (by kernel_rfl) (by kernel_rfl) (by kernel_rfl) (fun _ _ _ h => h) (fun w h => (((((h.perm pl6).perm pl5).perm pl6).perm pl5)).dropEnd (L := [_, _, _, _])) (Val.indexAddr (j := i) (q := o0 + i * 7) rfl Ty.sl22 rfl rfl (by omega) (by omega) (by omega)) ?_
    refine WPD.take 5 rfl rfl rfl rfl (by kernel_rfl) (by kernel_rfl) (by kernel_rfl) (by kernel_rfl) (fun _ _ _ h => h) (by kernel_rfl) (fun w h => (((((h.perm pl6).perm pl5).perm pl6).perm pl5)).dropEnd (L := [_, _, _, _])) (Val.loadAgg (cs := (KOp.cells o)) rfl Ty.ag38 rfl (by rfl) (fun w h => hr w (h.at 3 rfl) i o hx)) ?_
    refine WPD.perm pl3 ?_
    refine WPD.step 6 (by kernel_rfl) rfl rfl rfl rfl (Eff.call rfl rfl Try.call35 (hS b ka kn kc _ _ _ _ (hruns.2 i o x hx hxa))) ?_
    rintro _ _ ⟨_, ⟨vr, vg, g2, rfl, hg2, rfl⟩, rfl⟩
    refine ⟨(fun w h => (((((h.perm pl9).perm pl8).perm pl9).perm pl9)).dropEnd (L := [_, _, _, _])), ?_⟩
    show WPD _ _ _ _ _ _ _ _ _ (Own 32 2 vr x.1.revs.length (flatOf Rv.cells x.1.revs) :: Own 53 4 vg g2.length (flatOf GV.cells g2) :: Kds (GVPe 32) g2 :: KIs b ka kn kc x.2 :: Own 42 10 v5 was.length (flatOf WK.cells was) :: Kds WKP was :: Blk bu [v5] 24 :: Blk bo [.slice (some ⟨b0, o0, none⟩) l.length c0] 22 :: Blk bz [.pointer (some ⟨b, 0, none⟩)] 78 :: A :: F)
    refine WPD.fact (fun w h => own_oneCell h) (fun onr => ?_)
    refine WPD.perm pl1 ?_
    refine WPD.fact (fun w h => own_oneCell h) (fun ong => ?_)
    refine WPD.step 7 (by kernel_rfl) rfl rfl rfl rfl (Eff.mkSlice (C := [.bool (x.1.ok), .int .i64 (x.1.mod.m), .int .i64 (x.1.mod.s), .int .i64 (x.1.cre.m), .int .i64 (x.1.cre.s), .int .i64 (x.1.ver), vr, .int .i64 (x.2.md.m), .int .i64 (x.2.md.s), vg]) rfl Ty.sl24 rfl (fun _ => by kernel_rfl)) ?_
    rintro _ _ ⟨b1, rfl, rfl⟩
    refine ⟨(fun w h => (((((h.perm pl10).perm pl9).perm pl10).perm pl10)).dropEnd (L := [_, _, _, _])), ?_⟩
    refine WPD.perm pl5 ?_
    refine WPD.stepC 8 (by kernel_rfl) rfl rfl rfl rfl (by kernel_rfl) (Eff.append (m := 1) (n0 := was.length) (news := [.bool (x.1.ok), .int .i64 (x.1.mod.m), .int .i64 (x.1.mod.s), .int .i64 (x.1.cre.m), .int .i64 (x.1.cre.s), .int .i64 (x.1.ver), vr, .int .i64 (x.2.md.m), .int .i64 (x.2.md.s), vg]) rfl Ty.sl24 Ty.z42 rfl rfl rfl (.slice Ty.sl24 rfl (by simp only [List.all_cons, List.all_nil, Bool.and_true, oc_int, oc_str, oc_bool, oc_ptr, oc_slice, oc_iface, oc_map, onr, ong]) (fun w h => cells_range (h.range 1 rfl rfl))) (by omega) (by omega)) ?_
    rintro v2 _ ⟨onev2, rfl⟩
    refine ⟨(Sat W (Own 42 10 v2 (was.length + 1) ((flatOf WK.cells was) ++ ([.bool (x.1.ok), .int .i64 (x.1.mod.m), .int .i64 (x.1.mod.s), .int .i64 (x.1.cre.m), .int .i64 (x.1.cre.s), .int .i64 (x.1.ver), vr, .int .i64 (x.2.md.m), .int .i64 (x.2.md.s), vg])) :: Blk b1 [.bool (x.1.ok), .int .i64 (x.1.mod.m), .int .i64 (x.1.mod.s), .int .i64 (x.1.cre.m), .int .i64 (x.1.cre.s), .int .i64 (x.1.ver), vr, .int .i64 (x.2.md.m), .int .i64 (x.2.md.s), vg] 42 :: Own 53 4 vg g2.length (flatOf GV.cells g2) :: Own 32 2 vr x.1.revs.length (flatOf Rv.cells x.1.revs) :: Kds (GVPe 32) g2 :: KIs b ka kn kc x.2 :: Kds WKP was :: Blk bu [v5] 24 :: Blk bo [.slice (some ⟨b0, o0, none⟩) l.length c0] 22 :: Blk bz [.pointer (some ⟨b, 0, none⟩)] 78 :: A :: F)), (fun _ h => h), ?_⟩
    refine WPD.perm pl7 ?_
    refine WPD.stepC0 9 (by kernel_rfl) rfl rfl rfl (by kernel_rfl) (Eff.store rfl Ty.sc24 rfl rfl onev2 (by simp) st0) ?_
    rintro _ _ rfl
    refine ⟨(Sat W (Blk bu [v2] 24 :: Own 42 10 v2 (was.length + 1) ((flatOf WK.cells was) ++ ([.bool (x.1.ok), .int .i64 (x.1.mod.m), .int .i64 (x.1.mod.s), .int .i64 (x.1.cre.m), .int .i64 (x.1.cre.s), .int .i64 (x.1.ver), vr, .int .i64 (x.2.md.m), .int .i64 (x.2.md.s), vg])) :: Blk b1 [.bool (x.1.ok), .int .i64 (x.1.mod.m), .int .i64 (x.1.mod.s), .int .i64 (x.1.cre.m), .int .i64 (x.1.cre.s), .int .i64 (x.1.ver), vr, .int .i64 (x.2.md.m), .int .i64 (x.2.md.s), vg] 42 :: Own 53 4 vg g2.length (flatOf GV.cells g2) :: Own 32 2 vr x.1.revs.length (flatOf Rv.cells x.1.revs) :: Kds (GVPe 32) g2 :: KIs b ka kn kc x.2 :: Kds WKP was :: Blk bo [.slice (some ⟨b0, o0, none⟩) l.length c0] 22 :: Blk bz [.pointer (some ⟨b, 0, none⟩)] 78 :: A :: F)), (fun _ h => h), ?_⟩
    refine WPD.done (by kernel_rfl) ?_
    refine Out.block ?_
    refine Out.next ?_
    refine WPc.region ?_
    refine WP.val rfl rfl rfl (Val.move rfl rfl) ?_
    refine WP.val rfl rfl rfl (Val.add (z := ((i + 1 : Nat) : Int)) rfl rfl rfl ((w64 (by omega) (by omega)).trans (by omega))) ?_
    refine WP.val rfl rfl rfl (Val.assign rfl rfl) ?_
    refine WP.nil ?_
    refine Out.perm pl2 ?_
    refine Out.drop ?_
    refine Out.perm pl9 ?_
    refine Out.perm pl9 ?_
    refine Out.perm pl9 ?_
    refine Out.perm pl8 ?_
    refine Out.perm pl4 ?_
    refine Out.perm pl9 ?_
    refine Out.perm pl9 ?_
    refine Out.perm pl8 ?_
    refine Out.perm pl9 ?_
    refine Out.perm pl9 ?_
    refine Out.again (i + 1, v2, was ++ [⟨x.1, x.2, vr, vg, g2⟩]) ?_ ?_ ?_ ?_
    · exact (by refine ⟨by show i + 1 ≤ l.length; omega, ?_, gensK_snoc hgs hg2⟩; rw [take_more hxa, List.map_append, hwas]; rfl)
    · (dsimp only; omega)
    · exact (Sub.cons rfl (Sub.cons rfl (Sub.cons rfl (Sub.cons rfl Sub.nil))))
    · exact (fun w h => againK (x := ⟨x.1, x.2, vr, vg, g2⟩) (by dsimp only; rw [stAt_step hxa, flatOf_append, flatOf_one, List.length_append]; exact h))
  · skip
    have h1 : ¬ (((i : Nat) : Int) < ((l.length : Nat) : Int)) := h1
    refine WPc.exit ?_
    refine Out.then_exit ?_
    refine Out.then_exit ?_
    refine Out.block_exit ?_
    have hil : i = l.length := by omega
    rw [hil, ← hruns.1, List.take_length] at hwas
    refine Out.perm pl4 ?_
    refine Out.drop ?_
    refine Out.perm pl4 ?_
    refine Out.drop ?_
    refine Out.perm pl4 ?_
    refine Out.perm pl4 ?_
    refine Out.perm pl3 ?_
    refine Out.perm pl3 ?_
    refine Out.perm pl4 ?_
    exact Out.end0 (L' := _) Try.results34 ⟨rfl, v5, was, hwas, hgs, rfl⟩ (fun w h => by rw [hil] at h; exact h)

theorem key1_spec (A : HProp) (bo bu bz b : Nat) (ka : Option Addr) (kn kc : Nat) (St : Stp) (hS : StOk St) (s : KI) (ans : List (KA × KI)) (l : List KOp) (hl : l.length ≤ 65540) (hruns : Runs St s l ans) (va : Value) (hva : Rd A 7 KOp.cells va l) : Does Try.prog 34 [.pointer (some ⟨bo, 0, none⟩), .pointer (some ⟨bu, 0, none⟩), .pointer (some ⟨bz, 0, none⟩)] [Blk bo [va] 22, Blk bu [.slice none 0 0] 24, Blk bz [.pointer (some ⟨b, 0, none⟩)] 78, KIs b ka kn kc s, A] (fun v L => v = .tuple #[] ∧ ∃ (v5 : Value) (was : List WK), was.map WK.pr = ans ∧ (∀ x ∈ was, x.gl.map (·.1) = x.s.gs) ∧ L = [Blk bu [v5] 24, Own 42 10 v5 was.length (flatOf WK.cells was), Kds WKP was, KIs b ka kn kc (stAt s ans l.length), A]) := by
  rcases hva with ⟨b0, o0, c0, rfl, hr⟩ | ⟨rfl, a, c, rfl⟩
  · exact key1_row A bo bu bz b ka kn kc St hS s ans l hl hruns b0 o0 c0 hr
  · exact key1_nil A bo bu bz b ka kn kc St hS s ans hruns a c

end Go.Proofs.Ythicijpjpijdjaa.Kz

