import Derived.Test.YthicijpjpijdjaaNm
namespace Go.Proofs.Ythicijpjpijdjaa.Lk
open Go.RowKit Go.Proofs.Ythicijpjpijdjaa Go.Proofs.Ythicijpjpijdjaa.Sl Go.Proofs.Ythicijpjpijdjaa.KyP Go.Proofs.Ythicijpjpijdjaa.Ka Go.Proofs.Ythicijpjpijdjaa.Kb Go.Proofs.Ythicijpjpijdjaa.Kc Go.Proofs.Ythicijpjpijdjaa.Kd Go.Proofs.Ythicijpjpijdjaa.Ke Go.Proofs.Ythicijpjpijdjaa.Kf Go.Proofs.Ythicijpjpijdjaa.Kg Go.Proofs.Ythicijpjpijdjaa.Kh Go.Proofs.Ythicijpjpijdjaa.Ki Go.Proofs.Ythicijpjpijdjaa.Kj Go.Proofs.Ythicijpjpijdjaa.Kk Go.Proofs.Ythicijpjpijdjaa.Kl Go.Proofs.Ythicijpjpijdjaa.Km Go.Proofs.Ythicijpjpijdjaa.Kn Go.Proofs.Ythicijpjpijdjaa.Ko Go.Proofs.Ythicijpjpijdjaa.Kp Go.Proofs.Ythicijpjpijdjaa.Kq Go.Proofs.Ythicijpjpijdjaa.Kr Go.Proofs.Ythicijpjpijdjaa.Ks Go.Proofs.Ythicijpjpijdjaa.Kt Go.Proofs.Ythicijpjpijdjaa.Ku Go.Proofs.Ythicijpjpijdjaa.Kv Go.Proofs.Ythicijpjpijdjaa.Kw Go.Proofs.Ythicijpjpijdjaa.Kx Go.Proofs.Ythicijpjpijdjaa.Ky Go.Proofs.Ythicijpjpijdjaa.Kz Go.Proofs.Ythicijpjpijdjaa.La Go.Proofs.Ythicijpjpijdjaa.Lb Go.Proofs.Ythicijpjpijdjaa.Lc Go.Proofs.Ythicijpjpijdjaa.Ld Go.Proofs.Ythicijpjpijdjaa.Le Go.Proofs.Ythicijpjpijdjaa.Lf Go.Proofs.Ythicijpjpijdjaa.Lg Go.Proofs.Ythicijpjpijdjaa.Lh Go.Proofs.Ythicijpjpijdjaa.KyQ Go.Proofs.Ythicijpjpijdjaa.KyR Go.Proofs.Ythicijpjpijdjaa.Li Go.Proofs.Ythicijpjpijdjaa.Lj
set_option linter.unusedVariables false
set_option linter.unusedSimpArgs false
set_option linter.unusedSectionVars false


/-- the key is taken away -/
def ktomb (s : KI) (r : Rv) : KI := ⟨(kput s r).md, (kput s r).gs ++ [⟨0, Rv0, []⟩]⟩
/-- a key is restored -/
def krest (c r : Rv) (v : Int) : KI := ⟨r, [⟨v, c, [r]⟩]⟩
theorem kis_tail {W w : World} {b : Nat} {ka : Option Addr} {kn kc : Nat} {s : KI} {v : Value} {gl : List GV} {L : List HProp} (hgl : gl.map (·.1) = s.gs) (h : Sat W (OwnO 155 4 v (gl.length + 1) (flatOf GV.cells gl ++ GV.cells (⟨0, Rv0, []⟩, .slice none 0 0)) :: Kds GVO gl :: Blk b (kcells ka kn kc s.md v) 153 :: L) w) : Sat W (KIs b ka kn kc ⟨s.md, s.gs ++ [⟨0, Rv0, []⟩]⟩ :: L) w := by
  rw [← hgl]
  exact kis_fold (md := s.md) (gi := gl) (g := ⟨0, Rv0, []⟩) (meetBO rfl h)
theorem kis_one {W w : World} {b : Nat} {ka : Option Addr} {kn kc : Nat} {c r : Rv} {x : Int} {v u : Value} {L : List HProp} (h : Sat W (OwnO 155 4 v 1 (GV.cells (⟨x, c, [r]⟩, u)) :: OwnO 81 2 u 1 (Rv.cells r) :: Blk b (kcells ka kn kc r v) 153 :: L) w) : Sat W (KIs b ka kn kc (krest c r x) :: L) w := by
  have h1 : Sat W (OwnO 155 4 v 1 (GV.cells (⟨x, c, [r]⟩, u)) :: GVO (⟨x, c, [r]⟩, u) :: Kds GVO [] :: Blk b (kcells ka kn kc r v) 153 :: L) w := (Sat.kNil (R := GVO) (h.perm ((List.Perm.swap _ _ _)))).perm (by
    refine List.Perm.trans (List.Perm.swap _ _ _) ?_
    refine List.Perm.trans (List.Perm.cons _ (List.Perm.swap _ _ _)) ?_
    exact List.Perm.swap _ _ _)
  exact kis_fold (md := r) (gi := []) (g := ⟨x, c, [r]⟩) (u := u) h1
set_option maxRecDepth 100000 in
set_option maxHeartbeats 2000000 in
theorem zsince_spec (b : Nat) (ka : Option Addr) (kn kc : Nat) (s : KI) (hsm : Small s.gs) (hemp : emp s.gs = false) (hgpos : 0 < s.gs.length) (hpos : ∀ g ∈ s.gs, ∀ r ∈ g.revs, 1 ≤ r.m) (at_ : Int) : Does Try.prog 73 [.agg #[.pointer (some ⟨b, 0, none⟩)], .int .i64 (at_)] [KIs b ka kn kc s] (fun v L => L = [Own 81 2 v (ksince s.gs at_).length (flatOf Rv.cells (ksince s.gs at_)), KIs b ka kn kc s]) := by
  refine Does.enter 9 Try.func73 rfl rfl rfl fun W F => ?_
  show WPc _ _ _ _ _ [(0, .agg #[.pointer (some ⟨b, 0, none⟩)]), (1, .int .i64 (at_))] (KIs b ka kn kc s :: F)
  refine WPc.seq ?_
  refine WPc.region ?_
  refine WP.eff rfl rfl rfl (Eff.box (C := [.pointer (some ⟨b, 0, none⟩)]) rfl rfl rfl) ?_
  rintro _ _ ⟨b1, rfl, rfl⟩
  refine WP.val rfl rfl rfl (Val.assign rfl rfl) ?_
  refine WP.nil ?_
  refine Out.next ?_
  refine WPc.seq ?_
  refine WPc.perm pl1 ?_
  refine WPc.open (fun w h => kis_rd h) ?_
  rintro ⟨vg, gl, E⟩
  refine WPc.pure (fun hkis => ?_)
  obtain ⟨hgl, hG, back⟩ := hkis
  dsimp only at hgl hG back
  have hsg : Small (gl.map (·.1)) := by rw [hgl]; exact hsm
  show WPc _ _ _ _ _ _ (Blk b [.slice ka kn kc, .int .i64 (s.md.m), .int .i64 (s.md.s), vg] 153 :: E :: Blk b1 [.pointer (some ⟨b, 0, none⟩)] 78 :: F)
  have hgp : 0 < gl.length := by rw [← List.length_map (f := Prod.fst)]; rw [hgl]; exact hgpos
  obtain ⟨b0, o0, c0, rfl, hr⟩ := Rd.row hG.rd hgp
  show WPc _ _ _ _ _ _ (Blk b [.slice ka kn kc, .int .i64 (s.md.m), .int .i64 (s.md.s), .slice (some ⟨b0, o0, none⟩) gl.length c0] 153 :: E :: Blk b1 [.pointer (some ⟨b, 0, none⟩)] 78 :: F)
  refine WPc.region ?_
  refine WP.val rfl rfl rfl (Val.fieldAddr (j := 0) rfl Ty.fo78_0 rfl rfl) ?_
  refine WP.val rfl rfl rfl (Val.load rfl Ty.sc76 rfl (fun w h => h.cell 2 rfl rfl)) ?_
  refine WP.val rfl rfl rfl (Val.move rfl rfl) ?_
  refine WP.perm pl1 ?_
  refine WP.perm pl1 ?_
  refine WP.eff rfl rfl rfl (Eff.call rfl rfl Try.call100 (ksince_row E b ka kn kc s.md at_ gl hsg hG.inn hgp (by rw [hgl]; exact hemp) (fun p hp r hrr => hpos p.1 (by rw [← hgl]; exact List.mem_map_of_mem hp) r hrr) b0 o0 c0 hr)) ?_
  rintro w1 _ ⟨_, rfl, rfl⟩
  show WP _ _ _ _ _ _ _ (Own 81 2 w1 ((ksince (gl.map (·.1)) at_).length) (flatOf Rv.cells (ksince (gl.map (·.1)) at_)) :: Blk b [.slice ka kn kc, .int .i64 (s.md.m), .int .i64 (s.md.s), .slice (some ⟨b0, o0, none⟩) gl.length c0] 153 :: E :: Blk b1 [.pointer (some ⟨b, 0, none⟩)] 78 :: F)
  refine WP.perm pl2 ?_
  refine WP.perm pl2 ?_
  refine WP.conv (fun w h => back w _ h) ?_
  show WP _ _ _ _ _ _ _ (KIs b ka kn kc s :: Own 81 2 w1 ((ksince (gl.map (·.1)) at_).length) (flatOf Rv.cells (ksince (gl.map (·.1)) at_)) :: Blk b1 [.pointer (some ⟨b, 0, none⟩)] 78 :: F)
  refine WP.perm pl1 ?_
  skip
  refine WP.val rfl rfl rfl (Val.assign rfl rfl) ?_
  refine WP.nil ?_
  refine Out.next ?_
  refine WPc.ret ?_
  refine Out.perm pl2 ?_
  refine Out.drop ?_
  exact Out.ret1 (L' := _) Try.results73 rfl rfl (fun w h => by rw [hgl] at h; exact h)
set_option maxRecDepth 100000 in
set_option maxHeartbeats 2000000 in
theorem keyed_since (b : Nat) (ka : Option Addr) (kn kc : Nat) (s : KI) (hsm : Small s.gs) (o : KOp) (hk : o.k = 6) (hemp : emp s.gs = false) (hgpos : 0 < s.gs.length) (hpos : ∀ g ∈ s.gs, ∀ r ∈ g.revs, 1 ≤ r.m) (hkl : (ksince s.gs o.at_).length ≤ 200000) (hsm2 : Small s.gs) : Does Try.prog 35 [.agg #[.pointer (some ⟨b, 0, none⟩)], .agg #[.int .i64 (o.k), .int .i64 (o.r.m), .int .i64 (o.r.s), .int .i64 (o.c.m), .int .i64 (o.c.s), .int .i64 (o.v), .int .i64 (o.at_)]] [KIs b ka kn kc s] (fun v L => ∃ (vr vg : Value) (g2 : List GV), v = KAns ({ KA0 with revs := ksince s.gs o.at_ } : KA) vr s.md vg ∧ g2.map (·.1) = s.gs ∧ L = [Own 32 2 vr ({ KA0 with revs := ksince s.gs o.at_ } : KA).revs.length (flatOf Rv.cells ({ KA0 with revs := ksince s.gs o.at_ } : KA).revs), Own 53 4 vg g2.length (flatOf GV.cells g2), Kds (GVPe 32) g2, KIs b ka kn kc s]) := by
  refine Does.enter 104 Try.func35 rfl rfl rfl fun W F => ?_
  show WPc _ _ _ _ _ [(0, .agg #[.pointer (some ⟨b, 0, none⟩)]), (1, .agg #[.int .i64 (o.k), .int .i64 (o.r.m), .int .i64 (o.r.s), .int .i64 (o.c.m), .int .i64 (o.c.s), .int .i64 (o.v), .int .i64 (o.at_)])] (KIs b ka kn kc s :: F)
  refine WPc.seq ?_
  refine WPc.region ?_
  refine WP.eff rfl rfl rfl (Eff.box (C := [.pointer (some ⟨b, 0, none⟩)]) rfl rfl rfl) ?_
  rintro _ _ ⟨b1, rfl, rfl⟩
  refine WP.eff rfl rfl rfl (Eff.box (C := [.int .i64 (o.k), .int .i64 (o.r.m), .int .i64 (o.r.s), .int .i64 (o.c.m), .int .i64 (o.c.s), .int .i64 (o.v), .int .i64 (o.at_)]) rfl rfl rfl) ?_
  rintro _ _ ⟨b2, rfl, rfl⟩
  refine WP.eff rfl rfl rfl (Eff.alloc rfl Ty.z42) ?_
  rintro _ _ ⟨b3, rfl, rfl⟩
  refine WP.nil ?_
  refine Out.next ?_
  refine WPc.seq ?_
  refine WPc.region ?_
  refine WP.val rfl rfl rfl (Val.mk (cs := [.bool false, .int .i64 0, .int .i64 0, .int .i64 0, .int .i64 0, .int .i64 0, .slice none 0 0, .int .i64 0, .int .i64 0, .slice none 0 0]) rfl rfl (fun _ => by kernel_rfl)) ?_
  refine WP.eff rfl rfl rfl (Eff.alloc rfl Ty.z42) ?_
  rintro _ _ ⟨b4, rfl, rfl⟩
  refine WP.eff0 rfl rfl (Eff.storeAgg (cs := [.bool false, .int .i64 0, .int .i64 0, .int .i64 0, .int .i64 0, .int .i64 0, .slice none 0 0, .int .i64 0, .int .i64 0, .slice none 0 0]) (C' := [.bool false, .int .i64 0, .int .i64 0, .int .i64 0, .int .i64 0, .int .i64 0, .slice none 0 0, .int .i64 0, .int .i64 0, .slice none 0 0]) rfl Ty.ag42 rfl rfl rfl rfl (by simp) rfl) ?_
  rintro _ _ rfl
  refine WP.nil ?_
  refine Out.next ?_
  refine WPc.seq ?_
  refine WPc.seq ?_
  refine WPc.region ?_
  refine WP.val rfl rfl rfl (Val.fieldAddr (j := 0) rfl Ty.fo38_0 rfl rfl) ?_
  refine WP.val rfl rfl rfl (Val.load rfl Ty.sc3 rfl (fun w h => h.cell 2 rfl rfl)) ?_
  refine WP.nil ?_
  refine Out.next ?_
  refine WPc.block ?_
  refine WPc.seq ?_
  refine WPc.region ?_
  refine WP.val rfl rfl rfl (Val.eql rfl rfl rfl) ?_
  refine WP.val rfl rfl rfl (Val.assign rfl rfl) ?_
  refine WP.nil ?_
  refine Out.next ?_
  refine WPc.ifP rfl (fun h1 => ?_) (fun h1 => ?_)
  · skip
    have h1 : (o.k = (1 : Int)) := h1
    exfalso; omega
  · skip
    have h1 : ¬ (o.k = (1 : Int)) := h1
    refine WPc.seq ?_
    refine WPc.region ?_
    refine WP.val rfl rfl rfl (Val.eql rfl rfl rfl) ?_
    refine WP.val rfl rfl rfl (Val.assign rfl rfl) ?_
    refine WP.nil ?_
    refine Out.next ?_
    refine WPc.ifP rfl (fun h2 => ?_) (fun h2 => ?_)
    · skip
      have h2 : (o.k = (2 : Int)) := h2
      exfalso; omega
    · skip
      have h2 : ¬ (o.k = (2 : Int)) := h2
      refine WPc.seq ?_
      refine WPc.region ?_
      refine WP.val rfl rfl rfl (Val.eql rfl rfl rfl) ?_
      refine WP.val rfl rfl rfl (Val.assign rfl rfl) ?_
      refine WP.nil ?_
      refine Out.next ?_
      refine WPc.ifP rfl (fun h3 => ?_) (fun h3 => ?_)
      · skip
        have h3 : (o.k = (3 : Int)) := h3
        exfalso; omega
      · skip
        have h3 : ¬ (o.k = (3 : Int)) := h3
        refine WPc.seq ?_
        refine WPc.region ?_
        refine WP.val rfl rfl rfl (Val.eql rfl rfl rfl) ?_
        refine WP.val rfl rfl rfl (Val.assign rfl rfl) ?_
        refine WP.nil ?_
        refine Out.next ?_
        refine WPc.ifP rfl (fun h4 => ?_) (fun h4 => ?_)
        · skip
          have h4 : (o.k = (4 : Int)) := h4
          exfalso; omega
        · skip
          have h4 : ¬ (o.k = (4 : Int)) := h4
          refine WPc.seq ?_
          refine WPc.region ?_
          refine WP.val rfl rfl rfl (Val.eql rfl rfl rfl) ?_
          refine WP.val rfl rfl rfl (Val.assign rfl rfl) ?_
          refine WP.nil ?_
          refine Out.next ?_
          refine WPc.ifP rfl (fun h5 => ?_) (fun h5 => ?_)
          · skip
            have h5 : (o.k = (5 : Int)) := h5
            exfalso; omega
          · skip
            have h5 : ¬ (o.k = (5 : Int)) := h5
            refine WPc.seq ?_
            refine WPc.region ?_
            refine WP.val rfl rfl rfl (Val.eql rfl rfl rfl) ?_
            refine WP.val rfl rfl rfl (Val.assign rfl rfl) ?_
            refine WP.nil ?_
            refine Out.next ?_
            refine WPc.ifP rfl (fun h6 => ?_) (fun h6 => ?_)
            · skip
              have h6 : (o.k = (6 : Int)) := h6
              refine WPc.region ?_
              refine WP.val rfl rfl rfl (Val.loadAgg (cs := [.pointer (some ⟨b, 0, none⟩)]) rfl Ty.ag78 rfl rfl (fun w h => h.range 3 rfl rfl)) ?_
              refine WP.val rfl rfl rfl (Val.fieldAddr (j := 6) rfl Ty.fo38_4 rfl rfl) ?_
              refine WP.val rfl rfl rfl (Val.load rfl Ty.sc2 rfl (fun w h => h.cell 2 rfl rfl)) ?_
              refine WP.perm pl4 ?_
              refine WP.eff rfl rfl rfl (Eff.call rfl rfl Try.call73 (zsince_spec b ka kn kc s hsm hemp hgpos hpos o.at_)) ?_
              rintro w1 _ ⟨_, rfl, rfl⟩
              show WP _ _ _ _ _ _ _ (Own 81 2 w1 ((ksince s.gs o.at_).length) (flatOf Rv.cells (ksince s.gs o.at_)) :: KIs b ka kn kc s :: Blk b4 [.bool false, .int .i64 0, .int .i64 0, .int .i64 0, .int .i64 0, .int .i64 0, .slice none 0 0, .int .i64 0, .int .i64 0, .slice none 0 0] 42 :: Blk b3 [.bool false, .int .i64 0, .int .i64 0, .int .i64 0, .int .i64 0, .int .i64 0, .slice none 0 0, .int .i64 0, .int .i64 0, .slice none 0 0] 42 :: Blk b2 [.int .i64 (o.k), .int .i64 (o.r.m), .int .i64 (o.r.s), .int .i64 (o.c.m), .int .i64 (o.c.s), .int .i64 (o.v), .int .i64 (o.at_)] 38 :: Blk b1 [.pointer (some ⟨b, 0, none⟩)] 78 :: F)
              refine WP.open (fun w h => own_rdG (l := (ksince s.gs o.at_)) Rv.len h) ?_
              rintro EW
              refine WP.pure (fun hEW => ?_)
              show WP _ _ _ _ _ _ _ (EW :: KIs b ka kn kc s :: Blk b4 [.bool false, .int .i64 0, .int .i64 0, .int .i64 0, .int .i64 0, .int .i64 0, .slice none 0 0, .int .i64 0, .int .i64 0, .slice none 0 0] 42 :: Blk b3 [.bool false, .int .i64 0, .int .i64 0, .int .i64 0, .int .i64 0, .int .i64 0, .slice none 0 0, .int .i64 0, .int .i64 0, .slice none 0 0] 42 :: Blk b2 [.int .i64 (o.k), .int .i64 (o.r.m), .int .i64 (o.r.s), .int .i64 (o.c.m), .int .i64 (o.c.s), .int .i64 (o.v), .int .i64 (o.at_)] 38 :: Blk b1 [.pointer (some ⟨b, 0, none⟩)] 78 :: F)
              refine WP.eff rfl rfl rfl (Eff.call rfl rfl Try.call72 (revsout_spec EW (ksince s.gs o.at_) hkl w1 hEW)) ?_
              rintro vk _ ⟨_, rfl, rfl⟩
              show WP _ _ _ _ _ _ _ (Own 32 2 vk ((ksince s.gs o.at_).length) (flatOf Rv.cells (ksince s.gs o.at_)) :: EW :: KIs b ka kn kc s :: Blk b4 [.bool false, .int .i64 0, .int .i64 0, .int .i64 0, .int .i64 0, .int .i64 0, .slice none 0 0, .int .i64 0, .int .i64 0, .slice none 0 0] 42 :: Blk b3 [.bool false, .int .i64 0, .int .i64 0, .int .i64 0, .int .i64 0, .int .i64 0, .slice none 0 0, .int .i64 0, .int .i64 0, .slice none 0 0] 42 :: Blk b2 [.int .i64 (o.k), .int .i64 (o.r.m), .int .i64 (o.r.s), .int .i64 (o.c.m), .int .i64 (o.c.s), .int .i64 (o.v), .int .i64 (o.at_)] 38 :: Blk b1 [.pointer (some ⟨b, 0, none⟩)] 78 :: F)
              refine WP.fact (fun w h => own_oneCell h) (fun onk => ?_)
              refine WP.val rfl rfl rfl (Val.fieldAddr (j := 6) rfl Ty.fo42_4 rfl rfl) ?_
              refine WP.perm pl3 ?_
              refine WP.eff0 rfl rfl (Eff.store rfl Ty.sc40 rfl rfl onk (by simp) st6) ?_
              rintro _ _ rfl
              refine WP.nil ?_
              refine Out.block ?_
              refine Out.next ?_
              refine WPc.seq ?_
              refine WPc.region ?_
              refine WP.val rfl rfl rfl (Val.loadAgg (cs := [.pointer (some ⟨b, 0, none⟩)]) rfl Ty.ag78 rfl rfl (fun w h => h.range 6 rfl rfl)) ?_
              refine WP.perm pl3 ?_
              refine WP.eff rfl rfl rfl (Eff.call rfl rfl Try.call79 (kidump_spec b ka kn kc s hsm2)) ?_
              rintro _ _ ⟨_, ⟨v2, g2, rfl, hg2, rfl⟩, rfl⟩
              show WP _ _ _ _ _ _ _ (Own 135 4 v2 g2.length (flatOf GV.cells g2) :: Kds (GVPe 81) g2 :: KIs b ka kn kc s :: Blk b4 [.bool false, .int .i64 0, .int .i64 0, .int .i64 0, .int .i64 0, .int .i64 0, vk, .int .i64 0, .int .i64 0, .slice none 0 0] 42 :: Own 32 2 vk ((ksince s.gs o.at_).length) (flatOf Rv.cells (ksince s.gs o.at_)) :: EW :: Blk b3 [.bool false, .int .i64 0, .int .i64 0, .int .i64 0, .int .i64 0, .int .i64 0, .slice none 0 0, .int .i64 0, .int .i64 0, .slice none 0 0] 42 :: Blk b2 [.int .i64 (o.k), .int .i64 (o.r.m), .int .i64 (o.r.s), .int .i64 (o.c.m), .int .i64 (o.c.s), .int .i64 (o.v), .int .i64 (o.at_)] 38 :: Blk b1 [.pointer (some ⟨b, 0, none⟩)] 78 :: F)
              refine WP.perm pl1 ?_
              refine WP.perm pl1 ?_
              refine WP.open (fun w h => gens_open h) ?_
              rintro E2
              refine WP.pure (fun hE2 => ?_)
              obtain ⟨rE2, backE2⟩ := hE2
              show WP _ _ _ _ _ _ _ (E2 :: KIs b ka kn kc s :: Blk b4 [.bool false, .int .i64 0, .int .i64 0, .int .i64 0, .int .i64 0, .int .i64 0, vk, .int .i64 0, .int .i64 0, .slice none 0 0] 42 :: Own 32 2 vk ((ksince s.gs o.at_).length) (flatOf Rv.cells (ksince s.gs o.at_)) :: EW :: Blk b3 [.bool false, .int .i64 0, .int .i64 0, .int .i64 0, .int .i64 0, .int .i64 0, .slice none 0 0, .int .i64 0, .int .i64 0, .slice none 0 0] 42 :: Blk b2 [.int .i64 (o.k), .int .i64 (o.r.m), .int .i64 (o.r.s), .int .i64 (o.c.m), .int .i64 (o.c.s), .int .i64 (o.v), .int .i64 (o.at_)] 38 :: Blk b1 [.pointer (some ⟨b, 0, none⟩)] 78 :: F)
              have hs2 : Small (g2.map (·.1)) := by rw [hg2]; exact hsm2
              refine WP.eff rfl rfl rfl (Eff.call rfl rfl Try.call78 (dumpout_spec E2 s.md g2 hs2 rE2.inn v2 rE2.rd)) ?_
              rintro _ _ ⟨_, ⟨v3, g3, rfl, hg3, rfl⟩, rfl⟩
              show WP _ _ _ _ _ _ _ (Own 53 4 v3 g3.length (flatOf GV.cells g3) :: Kds (GVPe 32) g3 :: E2 :: KIs b ka kn kc s :: Blk b4 [.bool false, .int .i64 0, .int .i64 0, .int .i64 0, .int .i64 0, .int .i64 0, vk, .int .i64 0, .int .i64 0, .slice none 0 0] 42 :: Own 32 2 vk ((ksince s.gs o.at_).length) (flatOf Rv.cells (ksince s.gs o.at_)) :: EW :: Blk b3 [.bool false, .int .i64 0, .int .i64 0, .int .i64 0, .int .i64 0, .int .i64 0, .slice none 0 0, .int .i64 0, .int .i64 0, .slice none 0 0] 42 :: Blk b2 [.int .i64 (o.k), .int .i64 (o.r.m), .int .i64 (o.r.s), .int .i64 (o.c.m), .int .i64 (o.c.s), .int .i64 (o.v), .int .i64 (o.at_)] 38 :: Blk b1 [.pointer (some ⟨b, 0, none⟩)] 78 :: F)
              refine WP.fact (fun w h => own_oneCell h) (fun on3 => ?_)
              refine WP.val rfl rfl rfl (Val.fieldAddr (j := 7) rfl Ty.fo42_5 rfl rfl) ?_
              refine WP.perm pl4 ?_
              refine WP.eff0 rfl rfl (Eff.storeAgg (cs := [.int .i64 (s.md.m), .int .i64 (s.md.s), v3]) (C' := [.bool false, .int .i64 0, .int .i64 0, .int .i64 0, .int .i64 0, .int .i64 0, vk, .int .i64 (s.md.m), .int .i64 (s.md.s), v3]) rfl Ty.ag35 rfl rfl rfl (by simp only [List.all_cons, List.all_nil, Bool.and_true, oc_int, oc_str, oc_bool, oc_ptr, oc_slice, oc_iface, oc_map, on3]) (by simp) rfl) ?_
              rintro _ _ rfl
              refine WP.nil ?_
              refine Out.next ?_
              refine WPc.seq ?_
              refine WPc.region ?_
              refine WP.val rfl rfl rfl (Val.loadAgg (cs := [.bool false, .int .i64 0, .int .i64 0, .int .i64 0, .int .i64 0, .int .i64 0, vk, .int .i64 (s.md.m), .int .i64 (s.md.s), v3]) rfl Ty.ag42 rfl rfl (fun w h => h.range 0 rfl rfl)) ?_
              refine WP.perm pl7 ?_
              refine WP.eff0 rfl rfl (Eff.storeAgg (cs := [.bool false, .int .i64 0, .int .i64 0, .int .i64 0, .int .i64 0, .int .i64 0, vk, .int .i64 (s.md.m), .int .i64 (s.md.s), v3]) (C' := [.bool false, .int .i64 0, .int .i64 0, .int .i64 0, .int .i64 0, .int .i64 0, vk, .int .i64 (s.md.m), .int .i64 (s.md.s), v3]) rfl Ty.ag42 rfl rfl rfl (by simp only [List.all_cons, List.all_nil, Bool.and_true, oc_int, oc_str, oc_bool, oc_ptr, oc_slice, oc_iface, oc_map, onk, on3]) (by simp) rfl) ?_
              rintro _ _ rfl
              refine WP.nil ?_
              refine Out.next ?_
              refine WPc.ret ?_
              refine Out.perm pl1 ?_
              refine Out.drop ?_
              refine Out.perm pl3 ?_
              refine Out.drop ?_
              refine Out.perm pl5 ?_
              refine Out.drop ?_
              refine Out.perm pl5 ?_
              refine Out.drop ?_
              refine Out.perm pl5 ?_
              refine Out.drop ?_
              refine Out.perm pl3 ?_
              refine Out.perm pl3 ?_
              refine Out.perm pl3 ?_
              refine Out.perm pl4 ?_
              refine Out.perm pl4 ?_
              exact Out.retRun (L' := _) (results_cell (cs := _) Try.results35 Ty.ag42 rfl rfl (fun w h => h.range 0 rfl rfl)) ⟨vk, v3, g3, by rfl, hg3.trans hg2, by rfl⟩ (fun w h => h.drop)
            · skip
              have h6 : ¬ (o.k = (6 : Int)) := h6
              exfalso; omega

theorem kput_small {s : KI} (h : Small s.gs) (r : Rv) : (kput s r).gs.length ≤ 200001 := by
  have hb := (kbase_small h).1
  unfold kput
  split
  · simp; omega
  · have := h.1; omega
set_option maxRecDepth 100000 in
set_option maxHeartbeats 2000000 in
theorem tomb_yes (b : Nat) (ka : Option Addr) (kn kc : Nat) (s : KI) (hsm : Small s.gs) (hemp : emp s.gs = false) (hgpos : 0 < s.gs.length) (r : Rv) (hlast : ∀ g, s.gs[s.gs.length - 1]? = some g → 0 < g.revs.length) (hless : less s.md r) : Does Try.prog 96 [.pointer (some ⟨b, 0, none⟩), .pointer none, .int .i64 (r.m), .int .i64 (r.s)] [KIs b ka kn kc s] (fun v L => v = .nilIface ∧ L = [KIs b ka kn kc (ktomb s r)]) := by
  refine Does.enter 40 Try.func96 rfl rfl rfl fun W F => ?_
  show WPc _ _ _ _ _ [(0, .pointer (some ⟨b, 0, none⟩)), (1, .pointer none), (2, .int .i64 (r.m)), (3, .int .i64 (r.s))] (KIs b ka kn kc s :: F)
  refine WPc.seq ?_
  refine WPc.region ?_
  refine WP.val rfl rfl rfl (Val.assign rfl rfl) ?_
  refine WP.nil ?_
  refine Out.next ?_
  refine WPc.seq ?_
  refine WPc.seq ?_
  refine WPc.open (fun w h => kis_rd h) ?_
  rintro ⟨vg, gl, E⟩
  refine WPc.pure (fun hkis => ?_)
  obtain ⟨hgl, hG, back⟩ := hkis
  dsimp only at hgl hG back
  have hsg : Small (gl.map (·.1)) := by rw [hgl]; exact hsm
  show WPc _ _ _ _ _ _ (Blk b [.slice ka kn kc, .int .i64 (s.md.m), .int .i64 (s.md.s), vg] 153 :: E :: F)
  have hgp : 0 < gl.length := by rw [← List.length_map (f := Prod.fst)]; rw [hgl]; exact hgpos
  obtain ⟨b0, o0, c0, rfl, hr⟩ := Rd.row hG.rd hgp
  show WPc _ _ _ _ _ _ (Blk b [.slice ka kn kc, .int .i64 (s.md.m), .int .i64 (s.md.s), .slice (some ⟨b0, o0, none⟩) gl.length c0] 153 :: E :: F)
  have hlen := hsg.len
  refine WPc.region ?_
  refine WP.val rfl rfl rfl (Val.move rfl rfl) ?_
  refine WP.perm pl1 ?_
  refine WP.perm pl1 ?_
  refine WP.eff rfl rfl rfl (Eff.call rfl rfl Try.call105 (kempty_row E b ka kn kc s.md gl hsg hG.inn b0 o0 c0 hr)) ?_
  rintro _ _ ⟨_, ⟨rfl, rfl⟩, rfl⟩
  show WP _ _ _ _ _ _ _ (Blk b [.slice ka kn kc, .int .i64 (s.md.m), .int .i64 (s.md.s), .slice (some ⟨b0, o0, none⟩) gl.length c0] 153 :: E :: F)
  refine WP.nil ?_
  refine Out.next ?_
  refine WPc.cond rfl (fun h1 => ?_) (fun h1 => ?_)
  · skip
    have h1 : ((emp (gl.map (·.1)))) = true := h1
    exfalso; rw [hgl, hemp] at h1; cases h1
  · skip
    have h1 : ((emp (gl.map (·.1)))) = false := h1
    refine WPc.skip ?_
    refine Out.next ?_
    refine WPc.seq ?_
    refine WPc.seq ?_
    obtain ⟨⟨g, u⟩, hx⟩ : ∃ x, gl[gl.length - 1]? = some x := ⟨_, List.getElem?_eq_getElem (by omega)⟩
    have hin1 : Rd E 2 Rv.cells u g.revs := hG.inn _ (List.mem_iff_getElem?.2 ⟨_, hx⟩)
    have hgn : gl.length = s.gs.length := by rw [← hgl, List.length_map]
    have hgj : s.gs[s.gs.length - 1]? = some g := by rw [← hgl, List.length_map, List.getElem?_map, hx]; rfl
    have hgz := hlast g hgj
    refine WPD.start (Sat W (Blk b [.slice ka kn kc, .int .i64 (s.md.m), .int .i64 (s.md.s), .slice (some ⟨b0, o0, none⟩) gl.length c0] 153 :: E :: F)) Ty.mixed ?_
    refine WPD.takeM 0 rfl rfl rfl rfl (by kernel_rfl) (by kernel_rfl) (by kernel_rfl) (by kernel_rfl) (fun _ _ _ h => h) (fun _ h => h) (Val.move rfl rfl) ?_
    refine WPD.takeM 1 rfl rfl rfl rfl (by kernel_rfl) (by kernel_rfl) (by kernel_rfl) (by kernel_rfl) (fun _ _ _ h => h) (fun _ h => h) (Val.nilCheck rfl rfl) ?_
    refine WPD.takeM 2 rfl rfl rfl rfl (by kernel_rfl) (by kernel_rfl) (by kernel_rfl) (by kernel_rfl) (fun _ _ _ h => h) (fun _ h => h) (Val.fieldAddr (j := 3) rfl Ty.fo153_2 rfl rfl) ?_
    refine WPD.take 3 rfl rfl rfl rfl (by kernel_rfl) (by kernel_rfl) (by kernel_rfl) (by kernel_rfl) (fun _ _ _ h => h) (by kernel_rfl) (fun _ h => h) (Val.load rfl Ty.sc151 rfl (fun w h => h.cell 0 rfl rfl)) ?_
    refine WPD.takeM 4 rfl rfl rfl rfl (by kernel_rfl) (by kernel_rfl) (by kernel_rfl) (by kernel_rfl) (fun _ _ _ h => h) (fun _ h => h) (Val.move rfl rfl) ?_
    refine WPD.takeM 5 rfl rfl rfl rfl (by kernel_rfl) (by kernel_rfl) (by kernel_rfl) (by kernel_rfl) (fun _ _ _ h => h) (fun _ h => h) (Val.nilCheck rfl rfl) ?_
    refine WPD.takeM 6 rfl rfl rfl rfl (by kernel_rfl) (by kernel_rfl) (by kernel_rfl) (by kernel_rfl) (fun _ _ _ h => h) (fun _ h => h) (Val.fieldAddr (j := 3) rfl Ty.fo153_2 rfl rfl) ?_
    refine WPD.take 7 rfl rfl rfl rfl (by kernel_rfl) (by kernel_rfl) (by kernel_rfl) (by kernel_rfl) (fun _ _ _ h => h) (by kernel_rfl) (fun _ h => h) (Val.load rfl Ty.sc151 rfl (fun w h => h.cell 0 rfl rfl)) ?_
    refine WPD.take 8 rfl rfl rfl rfl (by kernel_rfl) (by kernel_rfl) (by kernel_rfl) (by kernel_rfl) (fun _ _ _ h => h) (by kernel_rfl) (fun _ h => h) (Val.len rfl Ty.sl151 rfl) ?_
    refine WPD.takeM 9 rfl rfl rfl rfl (by kernel_rfl) (by kernel_rfl) (by kernel_rfl) (by kernel_rfl) (fun _ _ _ h => h) (fun _ h => h) (Val.sub (z := ((gl.length - 1 : Nat) : Int)) rfl rfl rfl ((w64 (by omega) (by omega)).trans (by omega))) ?_
    refine WPD.takeM 10 rfl rfl rfl rfl (by kernel_rfl) (by kernel_rfl) (by kernel_rfl) (by kernel_rfl) (fun _ _ _ h => h) (fun _ h => h) (Val.indexAddr (j := gl.length - 1) (q := o0 + (gl.length - 1) * 4) rfl Ty.sl151 rfl rfl (by omega) (by omega) (by omega)) ?_
    refine WPD.perm pl1 ?_
    refine WPD.stepC 11 (by kernel_rfl) rfl rfl rfl rfl (by kernel_rfl) (Eff.call rfl rfl Try.call112 (gempty_row E gl b0 o0 hr (gl.length - 1) g u hx hin1)) ?_
    rintro _ _ ⟨_, ⟨rfl, rfl⟩, rfl⟩
    refine ⟨(Sat W (E :: Blk b [.slice ka kn kc, .int .i64 (s.md.m), .int .i64 (s.md.s), .slice (some ⟨b0, o0, none⟩) gl.length c0] 153 :: F)), (fun _ h => h), ?_⟩
    show WPD _ _ _ _ _ _ _ _ _ (E :: Blk b [.slice ka kn kc, .int .i64 (s.md.m), .int .i64 (s.md.s), .slice (some ⟨b0, o0, none⟩) gl.length c0] 153 :: F)
    refine WPD.done (by kernel_rfl) ?_
    refine Out.next ?_
    refine WPc.ifP rfl (fun h2 => ?_) (fun h2 => ?_)
    · skip
      have h2 : (g.revs.length = 0) := h2
      exfalso; omega
    · skip
      have h2 : ¬ (g.revs.length = 0) := h2
      refine WPc.skip ?_
      refine Out.next ?_
      refine WPc.seq ?_
      refine WPc.perm pl1 ?_
      refine WPc.conv (fun w h => back w _ h) ?_
      show WPc _ _ _ _ _ _ (KIs b ka kn kc s :: F)
      refine WPc.region ?_
      refine WP.val rfl rfl rfl (Val.move rfl rfl) ?_
      refine WP.val rfl rfl rfl (Val.move rfl rfl) ?_
      refine WP.val rfl rfl rfl (Val.move rfl rfl) ?_
      refine WP.val rfl rfl rfl (Val.move rfl rfl) ?_
      refine WP.eff rfl rfl rfl (Eff.call rfl rfl Try.call95 (put_spec b ka kn kc s hsm r hless)) ?_
      rintro _ _ ⟨_, ⟨rfl, rfl⟩, rfl⟩
      show WP _ _ _ _ _ _ _ (KIs b ka kn kc (kput s r) :: F)
      refine WP.nil ?_
      refine Out.next ?_
      refine WPc.seq ?_
      refine WPc.open (fun w h => kis_own h) ?_
      rintro ⟨vg, gl⟩
      refine WPc.pure (fun hgl => ?_)
      dsimp only at hgl
      have hgn : gl.length = (kput s r).gs.length := by rw [← hgl, List.length_map]
      show WPc _ _ _ _ _ _ (Blk b [.slice ka kn kc, .int .i64 ((kput s r).md.m), .int .i64 ((kput s r).md.s), vg] 153 :: OwnO 155 4 vg gl.length (flatOf GV.cells gl) :: Kds GVO gl :: F)
      have hn2 : gl.length ≤ 200001 := by rw [hgn]; exact kput_small hsm r
      refine WPc.region ?_
      refine WP.val rfl rfl rfl (Val.move rfl rfl) ?_
      refine WP.val rfl rfl rfl (Val.move rfl rfl) ?_
      refine WP.val rfl rfl rfl (Val.nilCheck rfl rfl) ?_
      refine WP.val rfl rfl rfl (Val.fieldAddr (j := 3) rfl Ty.fo153_2 rfl rfl) ?_
      refine WP.val rfl rfl rfl (Val.load rfl Ty.sc151 rfl (fun w h => h.cell 0 rfl rfl)) ?_
      refine WP.val rfl rfl rfl (Val.mk (cs := [.int .i64 0, .int .i64 0, .int .i64 0, .slice none 0 0]) rfl rfl (fun _ => by kernel_rfl)) ?_
      refine WP.eff rfl rfl rfl (Eff.mkSlice (C := [.int .i64 0, .int .i64 0, .int .i64 0, .slice none 0 0]) rfl Ty.sl151 rfl (fun _ => by kernel_rfl)) ?_
      rintro _ _ ⟨b1, rfl, rfl⟩
      refine WP.perm pl2 ?_
      refine WP.eff rfl rfl rfl (Eff.appendO (m := 1) (n0 := gl.length) (news := [.int .i64 0, .int .i64 0, .int .i64 0, .slice none 0 0]) rfl Ty.sl151 Ty.z155 rfl rfl rfl (.slice Ty.sl151 rfl rfl (fun w h => cells_range (h.range 1 rfl rfl))) (by omega) (by omega)) ?_
      rintro v2 _ ⟨onev2, rfl⟩
      refine WP.val rfl rfl rfl (Val.nilCheck rfl rfl) ?_
      refine WP.val rfl rfl rfl (Val.fieldAddr (j := 3) rfl Ty.fo153_2 rfl rfl) ?_
      refine WP.perm pl2 ?_
      refine WP.eff0 rfl rfl (Eff.store rfl Ty.sc151 rfl rfl onev2 (by simp) st3) ?_
      rintro _ _ rfl
      refine WP.nil ?_
      refine Out.next ?_
      refine WPc.seq ?_
      refine WPc.region ?_
      refine WP.val rfl rfl rfl (Val.assign rfl rfl) ?_
      refine WP.nil ?_
      refine Out.next ?_
      refine WPc.ret ?_
      refine Out.perm pl2 ?_
      refine Out.drop ?_
      refine Out.perm pl2 ?_
      refine Out.perm pl2 ?_
      exact Out.ret1 (L' := _) Try.results96 rfl ⟨rfl, rfl⟩ (fun w h => kis_tail hgl h)
set_option maxRecDepth 100000 in
set_option maxHeartbeats 2000000 in
theorem tomb_no (b : Nat) (ka : Option Addr) (kn kc : Nat) (s : KI) (hsm : Small s.gs) (hemp : emp s.gs = false) (hgpos : 0 < s.gs.length) (r : Rv) (hlast : ∀ g, s.gs[s.gs.length - 1]? = some g → g.revs.length = 0) : Does Try.prog 96 [.pointer (some ⟨b, 0, none⟩), .pointer none, .int .i64 (r.m), .int .i64 (r.s)] [KIs b ka kn kc s] (fun v L => ∃ ev, v = .iface 247 ev ∧ L = [KIs b ka kn kc s]) := by
  refine Does.enter 40 Try.func96 rfl rfl rfl fun W F => ?_
  show WPc _ _ _ _ _ [(0, .pointer (some ⟨b, 0, none⟩)), (1, .pointer none), (2, .int .i64 (r.m)), (3, .int .i64 (r.s))] (KIs b ka kn kc s :: F)
  refine WPc.seq ?_
  refine WPc.region ?_
  refine WP.val rfl rfl rfl (Val.assign rfl rfl) ?_
  refine WP.nil ?_
  refine Out.next ?_
  refine WPc.seq ?_
  refine WPc.seq ?_
  refine WPc.open (fun w h => kis_rd h) ?_
  rintro ⟨vg, gl, E⟩
  refine WPc.pure (fun hkis => ?_)
  obtain ⟨hgl, hG, back⟩ := hkis
  dsimp only at hgl hG back
  have hsg : Small (gl.map (·.1)) := by rw [hgl]; exact hsm
  show WPc _ _ _ _ _ _ (Blk b [.slice ka kn kc, .int .i64 (s.md.m), .int .i64 (s.md.s), vg] 153 :: E :: F)
  have hgp : 0 < gl.length := by rw [← List.length_map (f := Prod.fst)]; rw [hgl]; exact hgpos
  obtain ⟨b0, o0, c0, rfl, hr⟩ := Rd.row hG.rd hgp
  show WPc _ _ _ _ _ _ (Blk b [.slice ka kn kc, .int .i64 (s.md.m), .int .i64 (s.md.s), .slice (some ⟨b0, o0, none⟩) gl.length c0] 153 :: E :: F)
  have hlen := hsg.len
  refine WPc.region ?_
  refine WP.val rfl rfl rfl (Val.move rfl rfl) ?_
  refine WP.perm pl1 ?_
  refine WP.perm pl1 ?_
  refine WP.eff rfl rfl rfl (Eff.call rfl rfl Try.call105 (kempty_row E b ka kn kc s.md gl hsg hG.inn b0 o0 c0 hr)) ?_
  rintro _ _ ⟨_, ⟨rfl, rfl⟩, rfl⟩
  show WP _ _ _ _ _ _ _ (Blk b [.slice ka kn kc, .int .i64 (s.md.m), .int .i64 (s.md.s), .slice (some ⟨b0, o0, none⟩) gl.length c0] 153 :: E :: F)
  refine WP.nil ?_
  refine Out.next ?_
  refine WPc.cond rfl (fun h1 => ?_) (fun h1 => ?_)
  · skip
    have h1 : ((emp (gl.map (·.1)))) = true := h1
    exfalso; rw [hgl, hemp] at h1; cases h1
  · skip
    have h1 : ((emp (gl.map (·.1)))) = false := h1
    refine WPc.skip ?_
    refine Out.next ?_
    refine WPc.seq ?_
    refine WPc.seq ?_
    obtain ⟨⟨g, u⟩, hx⟩ : ∃ x, gl[gl.length - 1]? = some x := ⟨_, List.getElem?_eq_getElem (by omega)⟩
    have hin1 : Rd E 2 Rv.cells u g.revs := hG.inn _ (List.mem_iff_getElem?.2 ⟨_, hx⟩)
    have hgn : gl.length = s.gs.length := by rw [← hgl, List.length_map]
    have hgj : s.gs[s.gs.length - 1]? = some g := by rw [← hgl, List.length_map, List.getElem?_map, hx]; rfl
    have hgz := hlast g hgj
    refine WPD.start (Sat W (Blk b [.slice ka kn kc, .int .i64 (s.md.m), .int .i64 (s.md.s), .slice (some ⟨b0, o0, none⟩) gl.length c0] 153 :: E :: F)) Ty.mixed ?_
    refine WPD.takeM 0 rfl rfl rfl rfl (by kernel_rfl) (by kernel_rfl) (by kernel_rfl) (by kernel_rfl) (fun _ _ _ h => h) (fun _ h => h) (Val.move rfl rfl) ?_
    refine WPD.takeM 1 rfl rfl rfl rfl (by kernel_rfl) (by kernel_rfl) (by kernel_rfl) (by kernel_rfl) (fun _ _ _ h => h) (fun _ h => h) (Val.nilCheck rfl rfl) ?_
    refine WPD.takeM 2 rfl rfl rfl rfl (by kernel_rfl) (by kernel_rfl) (by kernel_rfl) (by kernel_rfl) (fun _ _ _ h => h) (fun _ h => h) (Val.fieldAddr (j := 3) rfl Ty.fo153_2 rfl rfl) ?_
    refine WPD.take 3 rfl rfl rfl rfl (by kernel_rfl) (by kernel_rfl) (by kernel_rfl) (by kernel_rfl) (fun _ _ _ h => h) (by kernel_rfl) (fun _ h => h) (Val.load rfl Ty.sc151 rfl (fun w h => h.cell 0 rfl rfl)) ?_
    refine WPD.takeM 4 rfl rfl rfl rfl (by kernel_rfl) (by kernel_rfl) (by kernel_rfl) (by kernel_rfl) (fun _ _ _ h => h) (fun _ h => h) (Val.move rfl rfl) ?_
    refine WPD.takeM 5 rfl rfl rfl rfl (by kernel_rfl) (by kernel_rfl) (by kernel_rfl) (by kernel_rfl) (fun _ _ _ h => h) (fun _ h => h) (Val.nilCheck rfl rfl) ?_
    refine WPD.takeM 6 rfl rfl rfl rfl (by kernel_rfl) (by kernel_rfl) (by kernel_rfl) (by kernel_rfl) (fun _ _ _ h => h) (fun _ h => h) (Val.fieldAddr (j := 3) rfl Ty.fo153_2 rfl rfl) ?_
    refine WPD.take 7 rfl rfl rfl rfl (by kernel_rfl) (by kernel_rfl) (by kernel_rfl) (by kernel_rfl) (fun _ _ _ h => h) (by kernel_rfl) (fun _ h => h) (Val.load rfl Ty.sc151 rfl (fun w h => h.cell 0 rfl rfl)) ?_
    refine WPD.take 8 rfl rfl rfl rfl (by kernel_rfl) (by kernel_rfl) (by kernel_rfl) (by kernel_rfl) (fun _ _ _ h => h) (by kernel_rfl) (fun _ h => h) (Val.len rfl Ty.sl151 rfl) ?_
    refine WPD.takeM 9 rfl rfl rfl rfl (by kernel_rfl) (by kernel_rfl) (by kernel_rfl) (by kernel_rfl) (fun _ _ _ h => h) (fun _ h => h) (Val.sub (z := ((gl.length - 1 : Nat) : Int)) rfl rfl rfl ((w64 (by omega) (by omega)).trans (by omega))) ?_
    refine WPD.takeM 10 rfl rfl rfl rfl (by kernel_rfl) (by kernel_rfl) (by kernel_rfl) (by kernel_rfl) (fun _ _ _ h => h) (fun _ h => h) (Val.indexAddr (j := gl.length - 1) (q := o0 + (gl.length - 1) * 4) rfl Ty.sl151 rfl rfl (by omega) (by omega) (by omega)) ?_
    refine WPD.perm pl1 ?_
    refine WPD.stepC 11 (by kernel_rfl) rfl rfl rfl rfl (by kernel_rfl) (Eff.call rfl rfl Try.call112 (gempty_row E gl b0 o0 hr (gl.length - 1) g u hx hin1)) ?_
    rintro _ _ ⟨_, ⟨rfl, rfl⟩, rfl⟩
    refine ⟨(Sat W (E :: Blk b [.slice ka kn kc, .int .i64 (s.md.m), .int .i64 (s.md.s), .slice (some ⟨b0, o0, none⟩) gl.length c0] 153 :: F)), (fun _ h => h), ?_⟩
    show WPD _ _ _ _ _ _ _ _ _ (E :: Blk b [.slice ka kn kc, .int .i64 (s.md.m), .int .i64 (s.md.s), .slice (some ⟨b0, o0, none⟩) gl.length c0] 153 :: F)
    refine WPD.done (by kernel_rfl) ?_
    refine Out.next ?_
    refine WPc.ifP rfl (fun h2 => ?_) (fun h2 => ?_)
    · skip
      have h2 : (g.revs.length = 0) := h2
      refine WPc.seq ?_
      refine WPc.region ?_
      refine WP.val rfl rfl rfl (Val.iface rfl rfl Ty.ni247) ?_
      refine WP.val rfl rfl rfl (Val.assign rfl rfl) ?_
      refine WP.nil ?_
      refine Out.next ?_
      refine WPc.ret ?_
      refine Out.then_ret ?_
      refine Out.perm pl1 ?_
      refine Out.conv (fun w h => back w _ h) ?_
      show Out _ _ _ _ _ (KIs b ka kn kc s :: F)
      exact Out.ret1 (L' := _) Try.results96 rfl ⟨_, rfl, rfl⟩ (fun _ h => h)
    · skip
      have h2 : ¬ (g.revs.length = 0) := h2
      exfalso; omega
set_option maxRecDepth 100000 in
set_option maxHeartbeats 2000000 in
theorem ztomb_yes (b : Nat) (ka : Option Addr) (kn kc : Nat) (s : KI) (hsm : Small s.gs) (hemp : emp s.gs = false) (hgpos : 0 < s.gs.length) (r : Rv) (hlast : ∀ g, s.gs[s.gs.length - 1]? = some g → 0 < g.revs.length) (hless : less s.md r) : Does Try.prog 67 [.agg #[.pointer (some ⟨b, 0, none⟩)], .agg #[.int .i64 (r.m), .int .i64 (r.s)]] [KIs b ka kn kc s] (fun v L => v = .nilIface ∧ L = [KIs b ka kn kc (ktomb s r)]) := by
  refine Does.enter 12 Try.func67 rfl rfl rfl fun W F => ?_
  show WPc _ _ _ _ _ [(0, .agg #[.pointer (some ⟨b, 0, none⟩)]), (1, .agg #[.int .i64 (r.m), .int .i64 (r.s)])] (KIs b ka kn kc s :: F)
  refine WPc.seq ?_
  refine WPc.region ?_
  refine WP.eff rfl rfl rfl (Eff.box (C := [.pointer (some ⟨b, 0, none⟩)]) rfl rfl rfl) ?_
  rintro _ _ ⟨b1, rfl, rfl⟩
  refine WP.eff rfl rfl rfl (Eff.box (C := [.int .i64 (r.m), .int .i64 (r.s)]) rfl rfl rfl) ?_
  rintro _ _ ⟨b2, rfl, rfl⟩
  refine WP.val rfl rfl rfl (Val.assign rfl rfl) ?_
  refine WP.nil ?_
  refine Out.next ?_
  refine WPc.seq ?_
  refine WPc.region ?_
  refine WP.val rfl rfl rfl (Val.fieldAddr (j := 0) rfl Ty.fo78_0 rfl rfl) ?_
  refine WP.val rfl rfl rfl (Val.load rfl Ty.sc76 rfl (fun w h => h.cell 1 rfl rfl)) ?_
  refine WP.val rfl rfl rfl (Val.fieldAddr (j := 0) rfl Ty.fo81_0 rfl rfl) ?_
  refine WP.val rfl rfl rfl (Val.load rfl Ty.sc2 rfl (fun w h => h.cell 0 rfl rfl)) ?_
  refine WP.val rfl rfl rfl (Val.fieldAddr (j := 1) rfl Ty.fo81_1 rfl rfl) ?_
  refine WP.val rfl rfl rfl (Val.load rfl Ty.sc2 rfl (fun w h => h.cell 0 rfl rfl)) ?_
  refine WP.perm pl2 ?_
  refine WP.eff rfl rfl rfl (Eff.call rfl rfl Try.call96 (tomb_yes b ka kn kc s hsm hemp hgpos r hlast hless)) ?_
  rintro _ _ ⟨_, ⟨rfl, rfl⟩, rfl⟩
  show WP _ _ _ _ _ _ _ (KIs b ka kn kc (ktomb s r) :: Blk b2 [.int .i64 (r.m), .int .i64 (r.s)] 81 :: Blk b1 [.pointer (some ⟨b, 0, none⟩)] 78 :: F)
  refine WP.val rfl rfl rfl (Val.assign rfl rfl) ?_
  refine WP.nil ?_
  refine Out.next ?_
  refine WPc.ret ?_
  refine Out.perm pl1 ?_
  refine Out.drop ?_
  refine Out.perm pl1 ?_
  refine Out.drop ?_
  exact Out.ret1 (L' := _) Try.results67 rfl ⟨rfl, rfl⟩ (fun _ h => h)
set_option maxRecDepth 100000 in
set_option maxHeartbeats 2000000 in
theorem keyed_tomb_yes (b : Nat) (ka : Option Addr) (kn kc : Nat) (s : KI) (hsm : Small s.gs) (o : KOp) (hk : o.k = 2) (hemp : emp s.gs = false) (hgpos : 0 < s.gs.length) (hlast : ∀ g, s.gs[s.gs.length - 1]? = some g → 0 < g.revs.length) (hless : less s.md o.r) (hsm2 : Small (ktomb s o.r).gs) : Does Try.prog 35 [.agg #[.pointer (some ⟨b, 0, none⟩)], .agg #[.int .i64 (o.k), .int .i64 (o.r.m), .int .i64 (o.r.s), .int .i64 (o.c.m), .int .i64 (o.c.s), .int .i64 (o.v), .int .i64 (o.at_)]] [KIs b ka kn kc s] (fun v L => ∃ (vr vg : Value) (g2 : List GV), v = KAns ({ KA0 with ok := true } : KA) vr (ktomb s o.r).md vg ∧ g2.map (·.1) = (ktomb s o.r).gs ∧ L = [Own 32 2 vr ({ KA0 with ok := true } : KA).revs.length (flatOf Rv.cells ({ KA0 with ok := true } : KA).revs), Own 53 4 vg g2.length (flatOf GV.cells g2), Kds (GVPe 32) g2, KIs b ka kn kc (ktomb s o.r)]) := by
  refine Does.enter 104 Try.func35 rfl rfl rfl fun W F => ?_
  show WPc _ _ _ _ _ [(0, .agg #[.pointer (some ⟨b, 0, none⟩)]), (1, .agg #[.int .i64 (o.k), .int .i64 (o.r.m), .int .i64 (o.r.s), .int .i64 (o.c.m), .int .i64 (o.c.s), .int .i64 (o.v), .int .i64 (o.at_)])] (KIs b ka kn kc s :: F)
  refine WPc.seq ?_
  refine WPc.region ?_
  refine WP.eff rfl rfl rfl (Eff.box (C := [.pointer (some ⟨b, 0, none⟩)]) rfl rfl rfl) ?_
  rintro _ _ ⟨b1, rfl, rfl⟩
  refine WP.eff rfl rfl rfl (Eff.box (C := [.int .i64 (o.k), .int .i64 (o.r.m), .int .i64 (o.r.s), .int .i64 (o.c.m), .int .i64 (o.c.s), .int .i64 (o.v), .int .i64 (o.at_)]) rfl rfl rfl) ?_
  rintro _ _ ⟨b2, rfl, rfl⟩
  refine WP.eff rfl rfl rfl (Eff.alloc rfl Ty.z42) ?_
  rintro _ _ ⟨b3, rfl, rfl⟩
  refine WP.nil ?_
  refine Out.next ?_
  refine WPc.seq ?_
  refine WPc.region ?_
  refine WP.val rfl rfl rfl (Val.mk (cs := [.bool false, .int .i64 0, .int .i64 0, .int .i64 0, .int .i64 0, .int .i64 0, .slice none 0 0, .int .i64 0, .int .i64 0, .slice none 0 0]) rfl rfl (fun _ => by kernel_rfl)) ?_
  refine WP.eff rfl rfl rfl (Eff.alloc rfl Ty.z42) ?_
  rintro _ _ ⟨b4, rfl, rfl⟩
  refine WP.eff0 rfl rfl (Eff.storeAgg (cs := [.bool false, .int .i64 0, .int .i64 0, .int .i64 0, .int .i64 0, .int .i64 0, .slice none 0 0, .int .i64 0, .int .i64 0, .slice none 0 0]) (C' := [.bool false, .int .i64 0, .int .i64 0, .int .i64 0, .int .i64 0, .int .i64 0, .slice none 0 0, .int .i64 0, .int .i64 0, .slice none 0 0]) rfl Ty.ag42 rfl rfl rfl rfl (by simp) rfl) ?_
  rintro _ _ rfl
  refine WP.nil ?_
  refine Out.next ?_
  refine WPc.seq ?_
  refine WPc.seq ?_
  refine WPc.region ?_
  refine WP.val rfl rfl rfl (Val.fieldAddr (j := 0) rfl Ty.fo38_0 rfl rfl) ?_
  refine WP.val rfl rfl rfl (Val.load rfl Ty.sc3 rfl (fun w h => h.cell 2 rfl rfl)) ?_
  refine WP.nil ?_
  refine Out.next ?_
  refine WPc.block ?_
  refine WPc.seq ?_
  refine WPc.region ?_
  refine WP.val rfl rfl rfl (Val.eql rfl rfl rfl) ?_
  refine WP.val rfl rfl rfl (Val.assign rfl rfl) ?_
  refine WP.nil ?_
  refine Out.next ?_
  refine WPc.ifP rfl (fun h1 => ?_) (fun h1 => ?_)
  · skip
    have h1 : (o.k = (1 : Int)) := h1
    exfalso; omega
  · skip
    have h1 : ¬ (o.k = (1 : Int)) := h1
    refine WPc.seq ?_
    refine WPc.region ?_
    refine WP.val rfl rfl rfl (Val.eql rfl rfl rfl) ?_
    refine WP.val rfl rfl rfl (Val.assign rfl rfl) ?_
    refine WP.nil ?_
    refine Out.next ?_
    refine WPc.ifP rfl (fun h2 => ?_) (fun h2 => ?_)
    · skip
      have h2 : (o.k = (2 : Int)) := h2
      refine WPD.start (Sat W [Blk b1 [.pointer (some ⟨b, 0, none⟩)] 78, Blk b2 [.int .i64 (o.k), .int .i64 (o.r.m), .int .i64 (o.r.s), .int .i64 (o.c.m), .int .i64 (o.c.s), .int .i64 (o.v), .int .i64 (o.at_)] 38]) Ty.mixed ?_
      refine WPD.take 0 rfl rfl rfl rfl (by kernel_rfl) (by kernel_rfl) (by kernel_rfl) (by kernel_rfl) (fun _ _ _ h => h) (by kernel_rfl) (fun w h => (((h.perm pl2).perm pl3)).dropEnd (L := [_, _])) (Val.loadAgg (cs := [.pointer (some ⟨b, 0, none⟩)]) rfl Ty.ag78 rfl rfl (fun w h => h.range 0 rfl rfl)) ?_
      refine WPD.takeM 1 rfl rfl rfl rfl (by kernel_rfl) (by kernel_rfl) (by kernel_rfl) (by kernel_rfl) (fun _ _ _ h => h) (fun w h => (((h.perm pl2).perm pl3)).dropEnd (L := [_, _])) (Val.fieldAddr (j := 1) rfl Ty.fo38_1 rfl rfl) ?_
      refine WPD.take 2 rfl rfl rfl rfl (by kernel_rfl) (by kernel_rfl) (by kernel_rfl) (by kernel_rfl) (fun _ _ _ h => h) (by kernel_rfl) (fun w h => (((h.perm pl2).perm pl3)).dropEnd (L := [_, _])) (Val.loadAgg (cs := [.int .i64 (o.r.m), .int .i64 (o.r.s)]) rfl Ty.ag32 rfl rfl (fun w h => h.range 1 rfl rfl)) ?_
      refine WPD.step 3 (by kernel_rfl) rfl rfl rfl rfl (Eff.call rfl rfl Try.call63 (revin_spec ⟨o.r.m, o.r.s⟩)) ?_
      rintro _ _ ⟨_, ⟨rfl, rfl⟩, rfl⟩
      refine ⟨(fun w h => (((h.perm pl2).perm pl3)).dropEnd (L := [_, _])), ?_⟩
      show WPD _ _ _ _ _ _ _ _ _ (Blk b4 [.bool false, .int .i64 0, .int .i64 0, .int .i64 0, .int .i64 0, .int .i64 0, .slice none 0 0, .int .i64 0, .int .i64 0, .slice none 0 0] 42 :: Blk b3 [.bool false, .int .i64 0, .int .i64 0, .int .i64 0, .int .i64 0, .int .i64 0, .slice none 0 0, .int .i64 0, .int .i64 0, .slice none 0 0] 42 :: Blk b2 [.int .i64 (o.k), .int .i64 (o.r.m), .int .i64 (o.r.s), .int .i64 (o.c.m), .int .i64 (o.c.s), .int .i64 (o.v), .int .i64 (o.at_)] 38 :: Blk b1 [.pointer (some ⟨b, 0, none⟩)] 78 :: KIs b ka kn kc s :: F)
      refine WPD.perm pl4 ?_
      refine WPD.stepC 4 (by kernel_rfl) rfl rfl rfl rfl (by kernel_rfl) (Eff.call rfl rfl Try.call67 (ztomb_yes b ka kn kc s hsm hemp hgpos o.r hlast hless)) ?_
      rintro _ _ ⟨_, ⟨rfl, rfl⟩, rfl⟩
      refine ⟨(Sat W (KIs b ka kn kc (ktomb s o.r) :: Blk b4 [.bool false, .int .i64 0, .int .i64 0, .int .i64 0, .int .i64 0, .int .i64 0, .slice none 0 0, .int .i64 0, .int .i64 0, .slice none 0 0] 42 :: Blk b3 [.bool false, .int .i64 0, .int .i64 0, .int .i64 0, .int .i64 0, .int .i64 0, .slice none 0 0, .int .i64 0, .int .i64 0, .slice none 0 0] 42 :: Blk b2 [.int .i64 (o.k), .int .i64 (o.r.m), .int .i64 (o.r.s), .int .i64 (o.c.m), .int .i64 (o.c.s), .int .i64 (o.v), .int .i64 (o.at_)] 38 :: Blk b1 [.pointer (some ⟨b, 0, none⟩)] 78 :: F)), (fun _ h => h), ?_⟩
      show WPD _ _ _ _ _ _ _ _ _ (KIs b ka kn kc (ktomb s o.r) :: Blk b4 [.bool false, .int .i64 0, .int .i64 0, .int .i64 0, .int .i64 0, .int .i64 0, .slice none 0 0, .int .i64 0, .int .i64 0, .slice none 0 0] 42 :: Blk b3 [.bool false, .int .i64 0, .int .i64 0, .int .i64 0, .int .i64 0, .int .i64 0, .slice none 0 0, .int .i64 0, .int .i64 0, .slice none 0 0] 42 :: Blk b2 [.int .i64 (o.k), .int .i64 (o.r.m), .int .i64 (o.r.s), .int .i64 (o.c.m), .int .i64 (o.c.s), .int .i64 (o.v), .int .i64 (o.at_)] 38 :: Blk b1 [.pointer (some ⟨b, 0, none⟩)] 78 :: F)
      refine WPD.takeM 5 rfl rfl rfl rfl (by kernel_rfl) (by kernel_rfl) (by kernel_rfl) (by kernel_rfl) (fun _ _ _ h => h) (fun _ h => h) (Val.nilI rfl Ty.if112 rfl) ?_
      refine WPD.takeM 6 rfl rfl rfl rfl (by kernel_rfl) (by kernel_rfl) (by kernel_rfl) (by kernel_rfl) (fun _ _ _ h => h) (fun _ h => h) (Val.fieldAddr (j := 0) rfl Ty.fo42_0 rfl rfl) ?_
      refine WPD.perm pl1 ?_
      refine WPD.stepC0 7 (by kernel_rfl) rfl rfl rfl (by kernel_rfl) (Eff.store rfl Ty.sc4 rfl rfl rfl (by simp) st0) ?_
      rintro _ _ rfl
      refine ⟨(Sat W (Blk b4 [.bool true, .int .i64 0, .int .i64 0, .int .i64 0, .int .i64 0, .int .i64 0, .slice none 0 0, .int .i64 0, .int .i64 0, .slice none 0 0] 42 :: KIs b ka kn kc (ktomb s o.r) :: Blk b3 [.bool false, .int .i64 0, .int .i64 0, .int .i64 0, .int .i64 0, .int .i64 0, .slice none 0 0, .int .i64 0, .int .i64 0, .slice none 0 0] 42 :: Blk b2 [.int .i64 (o.k), .int .i64 (o.r.m), .int .i64 (o.r.s), .int .i64 (o.c.m), .int .i64 (o.c.s), .int .i64 (o.v), .int .i64 (o.at_)] 38 :: Blk b1 [.pointer (some ⟨b, 0, none⟩)] 78 :: F)), (fun _ h => h), ?_⟩
      refine WPD.done (by kernel_rfl) ?_
      refine Out.block ?_
      refine Out.next ?_
      refine WPc.seq ?_
      refine WPc.region ?_
      refine WP.val rfl rfl rfl (Val.loadAgg (cs := [.pointer (some ⟨b, 0, none⟩)]) rfl Ty.ag78 rfl rfl (fun w h => h.range 4 rfl rfl)) ?_
      refine WP.perm pl1 ?_
      refine WP.eff rfl rfl rfl (Eff.call rfl rfl Try.call79 (kidump_spec b ka kn kc (ktomb s o.r) hsm2)) ?_
      rintro _ _ ⟨_, ⟨v2, g2, rfl, hg2, rfl⟩, rfl⟩
      show WP _ _ _ _ _ _ _ (Own 135 4 v2 g2.length (flatOf GV.cells g2) :: Kds (GVPe 81) g2 :: KIs b ka kn kc (ktomb s o.r) :: Blk b4 [.bool true, .int .i64 0, .int .i64 0, .int .i64 0, .int .i64 0, .int .i64 0, .slice none 0 0, .int .i64 0, .int .i64 0, .slice none 0 0] 42 :: Blk b3 [.bool false, .int .i64 0, .int .i64 0, .int .i64 0, .int .i64 0, .int .i64 0, .slice none 0 0, .int .i64 0, .int .i64 0, .slice none 0 0] 42 :: Blk b2 [.int .i64 (o.k), .int .i64 (o.r.m), .int .i64 (o.r.s), .int .i64 (o.c.m), .int .i64 (o.c.s), .int .i64 (o.v), .int .i64 (o.at_)] 38 :: Blk b1 [.pointer (some ⟨b, 0, none⟩)] 78 :: F)
      refine WP.perm pl1 ?_
      refine WP.perm pl1 ?_
      refine WP.open (fun w h => gens_open h) ?_
      rintro E2
      refine WP.pure (fun hE2 => ?_)
      obtain ⟨rE2, backE2⟩ := hE2
      show WP _ _ _ _ _ _ _ (E2 :: KIs b ka kn kc (ktomb s o.r) :: Blk b4 [.bool true, .int .i64 0, .int .i64 0, .int .i64 0, .int .i64 0, .int .i64 0, .slice none 0 0, .int .i64 0, .int .i64 0, .slice none 0 0] 42 :: Blk b3 [.bool false, .int .i64 0, .int .i64 0, .int .i64 0, .int .i64 0, .int .i64 0, .slice none 0 0, .int .i64 0, .int .i64 0, .slice none 0 0] 42 :: Blk b2 [.int .i64 (o.k), .int .i64 (o.r.m), .int .i64 (o.r.s), .int .i64 (o.c.m), .int .i64 (o.c.s), .int .i64 (o.v), .int .i64 (o.at_)] 38 :: Blk b1 [.pointer (some ⟨b, 0, none⟩)] 78 :: F)
      have hs2 : Small (g2.map (·.1)) := by rw [hg2]; exact hsm2
      refine WP.eff rfl rfl rfl (Eff.call rfl rfl Try.call78 (dumpout_spec E2 (ktomb s o.r).md g2 hs2 rE2.inn v2 rE2.rd)) ?_
      rintro _ _ ⟨_, ⟨v3, g3, rfl, hg3, rfl⟩, rfl⟩
      show WP _ _ _ _ _ _ _ (Own 53 4 v3 g3.length (flatOf GV.cells g3) :: Kds (GVPe 32) g3 :: E2 :: KIs b ka kn kc (ktomb s o.r) :: Blk b4 [.bool true, .int .i64 0, .int .i64 0, .int .i64 0, .int .i64 0, .int .i64 0, .slice none 0 0, .int .i64 0, .int .i64 0, .slice none 0 0] 42 :: Blk b3 [.bool false, .int .i64 0, .int .i64 0, .int .i64 0, .int .i64 0, .int .i64 0, .slice none 0 0, .int .i64 0, .int .i64 0, .slice none 0 0] 42 :: Blk b2 [.int .i64 (o.k), .int .i64 (o.r.m), .int .i64 (o.r.s), .int .i64 (o.c.m), .int .i64 (o.c.s), .int .i64 (o.v), .int .i64 (o.at_)] 38 :: Blk b1 [.pointer (some ⟨b, 0, none⟩)] 78 :: F)
      refine WP.fact (fun w h => own_oneCell h) (fun on3 => ?_)
      refine WP.val rfl rfl rfl (Val.fieldAddr (j := 7) rfl Ty.fo42_5 rfl rfl) ?_
      refine WP.perm pl4 ?_
      refine WP.eff0 rfl rfl (Eff.storeAgg (cs := [.int .i64 ((ktomb s o.r).md.m), .int .i64 ((ktomb s o.r).md.s), v3]) (C' := [.bool true, .int .i64 0, .int .i64 0, .int .i64 0, .int .i64 0, .int .i64 0, .slice none 0 0, .int .i64 ((ktomb s o.r).md.m), .int .i64 ((ktomb s o.r).md.s), v3]) rfl Ty.ag35 rfl rfl rfl (by simp only [List.all_cons, List.all_nil, Bool.and_true, oc_int, oc_str, oc_bool, oc_ptr, oc_slice, oc_iface, oc_map, on3]) (by simp) rfl) ?_
      rintro _ _ rfl
      refine WP.nil ?_
      refine Out.next ?_
      refine WPc.seq ?_
      refine WPc.region ?_
      refine WP.val rfl rfl rfl (Val.loadAgg (cs := [.bool true, .int .i64 0, .int .i64 0, .int .i64 0, .int .i64 0, .int .i64 0, .slice none 0 0, .int .i64 ((ktomb s o.r).md.m), .int .i64 ((ktomb s o.r).md.s), v3]) rfl Ty.ag42 rfl rfl (fun w h => h.range 0 rfl rfl)) ?_
      refine WP.perm pl5 ?_
      refine WP.eff0 rfl rfl (Eff.storeAgg (cs := [.bool true, .int .i64 0, .int .i64 0, .int .i64 0, .int .i64 0, .int .i64 0, .slice none 0 0, .int .i64 ((ktomb s o.r).md.m), .int .i64 ((ktomb s o.r).md.s), v3]) (C' := [.bool true, .int .i64 0, .int .i64 0, .int .i64 0, .int .i64 0, .int .i64 0, .slice none 0 0, .int .i64 ((ktomb s o.r).md.m), .int .i64 ((ktomb s o.r).md.s), v3]) rfl Ty.ag42 rfl rfl rfl (by simp only [List.all_cons, List.all_nil, Bool.and_true, oc_int, oc_str, oc_bool, oc_ptr, oc_slice, oc_iface, oc_map, on3]) (by simp) rfl) ?_
      rintro _ _ rfl
      refine WP.nil ?_
      refine Out.next ?_
      refine WPc.ret ?_
      refine Out.conv (fun w h => h.ownNil (e := 32) (k := 2)) ?_
      refine Out.perm pl2 ?_
      refine Out.drop ?_
      refine Out.perm pl4 ?_
      refine Out.drop ?_
      refine Out.perm pl5 ?_
      refine Out.drop ?_
      refine Out.perm pl5 ?_
      refine Out.drop ?_
      refine Out.perm pl4 ?_
      refine Out.perm pl4 ?_
      refine Out.perm pl4 ?_
      refine Out.perm pl3 ?_
      refine Out.perm pl4 ?_
      exact Out.retRun (L' := _) (results_cell (cs := _) Try.results35 Ty.ag42 rfl rfl (fun w h => h.range 0 rfl rfl)) ⟨(.slice none 0 0), v3, g3, by rfl, hg3.trans hg2, by rfl⟩ (fun w h => h.drop)
    · skip
      have h2 : ¬ (o.k = (2 : Int)) := h2
      exfalso; omega
set_option maxRecDepth 100000 in
set_option maxHeartbeats 2000000 in
theorem ztomb_no (b : Nat) (ka : Option Addr) (kn kc : Nat) (s : KI) (hsm : Small s.gs) (hemp : emp s.gs = false) (hgpos : 0 < s.gs.length) (r : Rv) (hlast : ∀ g, s.gs[s.gs.length - 1]? = some g → g.revs.length = 0) : Does Try.prog 67 [.agg #[.pointer (some ⟨b, 0, none⟩)], .agg #[.int .i64 (r.m), .int .i64 (r.s)]] [KIs b ka kn kc s] (fun v L => ∃ ev, v = .iface 247 ev ∧ L = [KIs b ka kn kc s]) := by
  refine Does.enter 12 Try.func67 rfl rfl rfl fun W F => ?_
  show WPc _ _ _ _ _ [(0, .agg #[.pointer (some ⟨b, 0, none⟩)]), (1, .agg #[.int .i64 (r.m), .int .i64 (r.s)])] (KIs b ka kn kc s :: F)
  refine WPc.seq ?_
  refine WPc.region ?_
  refine WP.eff rfl rfl rfl (Eff.box (C := [.pointer (some ⟨b, 0, none⟩)]) rfl rfl rfl) ?_
  rintro _ _ ⟨b1, rfl, rfl⟩
  refine WP.eff rfl rfl rfl (Eff.box (C := [.int .i64 (r.m), .int .i64 (r.s)]) rfl rfl rfl) ?_
  rintro _ _ ⟨b2, rfl, rfl⟩
  refine WP.val rfl rfl rfl (Val.assign rfl rfl) ?_
  refine WP.nil ?_
  refine Out.next ?_
  refine WPc.seq ?_
  refine WPc.region ?_
  refine WP.val rfl rfl rfl (Val.fieldAddr (j := 0) rfl Ty.fo78_0 rfl rfl) ?_
  refine WP.val rfl rfl rfl (Val.load rfl Ty.sc76 rfl (fun w h => h.cell 1 rfl rfl)) ?_
  refine WP.val rfl rfl rfl (Val.fieldAddr (j := 0) rfl Ty.fo81_0 rfl rfl) ?_
  refine WP.val rfl rfl rfl (Val.load rfl Ty.sc2 rfl (fun w h => h.cell 0 rfl rfl)) ?_
  refine WP.val rfl rfl rfl (Val.fieldAddr (j := 1) rfl Ty.fo81_1 rfl rfl) ?_
  refine WP.val rfl rfl rfl (Val.load rfl Ty.sc2 rfl (fun w h => h.cell 0 rfl rfl)) ?_
  refine WP.perm pl2 ?_
  refine WP.eff rfl rfl rfl (Eff.call rfl rfl Try.call96 (tomb_no b ka kn kc s hsm hemp hgpos r hlast)) ?_
  rintro _ _ ⟨_, ⟨ev, rfl, rfl⟩, rfl⟩
  show WP _ _ _ _ _ _ _ (KIs b ka kn kc s :: Blk b2 [.int .i64 (r.m), .int .i64 (r.s)] 81 :: Blk b1 [.pointer (some ⟨b, 0, none⟩)] 78 :: F)
  refine WP.val rfl rfl rfl (Val.assign rfl rfl) ?_
  refine WP.nil ?_
  refine Out.next ?_
  refine WPc.ret ?_
  refine Out.perm pl1 ?_
  refine Out.drop ?_
  refine Out.perm pl1 ?_
  refine Out.drop ?_
  exact Out.ret1 (L' := _) Try.results67 rfl ⟨ev, rfl, rfl⟩ (fun _ h => h)
set_option maxRecDepth 100000 in
set_option maxHeartbeats 2000000 in
theorem keyed_tomb_no (b : Nat) (ka : Option Addr) (kn kc : Nat) (s : KI) (hsm : Small s.gs) (o : KOp) (hk : o.k = 2) (hemp : emp s.gs = false) (hgpos : 0 < s.gs.length) (hlast : ∀ g, s.gs[s.gs.length - 1]? = some g → g.revs.length = 0) (hsm2 : Small s.gs) : Does Try.prog 35 [.agg #[.pointer (some ⟨b, 0, none⟩)], .agg #[.int .i64 (o.k), .int .i64 (o.r.m), .int .i64 (o.r.s), .int .i64 (o.c.m), .int .i64 (o.c.s), .int .i64 (o.v), .int .i64 (o.at_)]] [KIs b ka kn kc s] (fun v L => ∃ (vr vg : Value) (g2 : List GV), v = KAns KA0 vr s.md vg ∧ g2.map (·.1) = s.gs ∧ L = [Own 32 2 vr KA0.revs.length (flatOf Rv.cells KA0.revs), Own 53 4 vg g2.length (flatOf GV.cells g2), Kds (GVPe 32) g2, KIs b ka kn kc s]) := by
  refine Does.enter 104 Try.func35 rfl rfl rfl fun W F => ?_
  show WPc _ _ _ _ _ [(0, .agg #[.pointer (some ⟨b, 0, none⟩)]), (1, .agg #[.int .i64 (o.k), .int .i64 (o.r.m), .int .i64 (o.r.s), .int .i64 (o.c.m), .int .i64 (o.c.s), .int .i64 (o.v), .int .i64 (o.at_)])] (KIs b ka kn kc s :: F)
  refine WPc.seq ?_
  refine WPc.region ?_
  refine WP.eff rfl rfl rfl (Eff.box (C := [.pointer (some ⟨b, 0, none⟩)]) rfl rfl rfl) ?_
  rintro _ _ ⟨b1, rfl, rfl⟩
  refine WP.eff rfl rfl rfl (Eff.box (C := [.int .i64 (o.k), .int .i64 (o.r.m), .int .i64 (o.r.s), .int .i64 (o.c.m), .int .i64 (o.c.s), .int .i64 (o.v), .int .i64 (o.at_)]) rfl rfl rfl) ?_
  rintro _ _ ⟨b2, rfl, rfl⟩
  refine WP.eff rfl rfl rfl (Eff.alloc rfl Ty.z42) ?_
  rintro _ _ ⟨b3, rfl, rfl⟩
  refine WP.nil ?_
  refine Out.next ?_
  refine WPc.seq ?_
  refine WPc.region ?_
  refine WP.val rfl rfl rfl (Val.mk (cs := [.bool false, .int .i64 0, .int .i64 0, .int .i64 0, .int .i64 0, .int .i64 0, .slice none 0 0, .int .i64 0, .int .i64 0, .slice none 0 0]) rfl rfl (fun _ => by kernel_rfl)) ?_
  refine WP.eff rfl rfl rfl (Eff.alloc rfl Ty.z42) ?_
  rintro _ _ ⟨b4, rfl, rfl⟩
  refine WP.eff0 rfl rfl (Eff.storeAgg (cs := [.bool false, .int .i64 0, .int .i64 0, .int .i64 0, .int .i64 0, .int .i64 0, .slice none 0 0, .int .i64 0, .int .i64 0, .slice none 0 0]) (C' := [.bool false, .int .i64 0, .int .i64 0, .int .i64 0, .int .i64 0, .int .i64 0, .slice none 0 0, .int .i64 0, .int .i64 0, .slice none 0 0]) rfl Ty.ag42 rfl rfl rfl rfl (by simp) rfl) ?_
  rintro _ _ rfl
  refine WP.nil ?_
  refine Out.next ?_
  refine WPc.seq ?_
  refine WPc.seq ?_
  refine WPc.region ?_
  refine WP.val rfl rfl rfl (Val.fieldAddr (j := 0) rfl Ty.fo38_0 rfl rfl) ?_
  refine WP.val rfl rfl rfl (Val.load rfl Ty.sc3 rfl (fun w h => h.cell 2 rfl rfl)) ?_
  refine WP.nil ?_
  refine Out.next ?_
  refine WPc.block ?_
  refine WPc.seq ?_
  refine WPc.region ?_
  refine WP.val rfl rfl rfl (Val.eql rfl rfl rfl) ?_
  refine WP.val rfl rfl rfl (Val.assign rfl rfl) ?_
  refine WP.nil ?_
  refine Out.next ?_
  refine WPc.ifP rfl (fun h1 => ?_) (fun h1 => ?_)
  · skip
    have h1 : (o.k = (1 : Int)) := h1
    exfalso; omega
  · skip
    have h1 : ¬ (o.k = (1 : Int)) := h1
    refine WPc.seq ?_
    refine WPc.region ?_
    refine WP.val rfl rfl rfl (Val.eql rfl rfl rfl) ?_
    refine WP.val rfl rfl rfl (Val.assign rfl rfl) ?_
    refine WP.nil ?_
    refine Out.next ?_
    refine WPc.ifP rfl (fun h2 => ?_) (fun h2 => ?_)
    · skip
      have h2 : (o.k = (2 : Int)) := h2
      refine WPD.start (Sat W [Blk b1 [.pointer (some ⟨b, 0, none⟩)] 78, Blk b2 [.int .i64 (o.k), .int .i64 (o.r.m), .int .i64 (o.r.s), .int .i64 (o.c.m), .int .i64 (o.c.s), .int .i64 (o.v), .int .i64 (o.at_)] 38]) Ty.mixed ?_
      refine WPD.take 0 rfl rfl rfl rfl (by kernel_rfl) (by kernel_rfl) (by kernel_rfl) (by kernel_rfl) (fun _ _ _ h => h) (by kernel_rfl) (fun w h => (((h.perm pl2).perm pl3)).dropEnd (L := [_, _])) (Val.loadAgg (cs := [.pointer (some ⟨b, 0, none⟩)]) rfl Ty.ag78 rfl rfl (fun w h => h.range 0 rfl rfl)) ?_
      refine WPD.takeM 1 rfl rfl rfl rfl (by kernel_rfl) (by kernel_rfl) (by kernel_rfl) (by kernel_rfl) (fun _ _ _ h => h) (fun w h => (((h.perm pl2).perm pl3)).dropEnd (L := [_, _])) (Val.fieldAddr (j := 1) rfl Ty.fo38_1 rfl rfl) ?_
      refine WPD.take 2 rfl rfl rfl rfl (by kernel_rfl) (by kernel_rfl) (by kernel_rfl) (by kernel_rfl) (fun _ _ _ h => h) (by kernel_rfl) (fun w h => (((h.perm pl2).perm pl3)).dropEnd (L := [_, _])) (Val.loadAgg (cs := [.int .i64 (o.r.m), .int .i64 (o.r.s)]) rfl Ty.ag32 rfl rfl (fun w h => h.range 1 rfl rfl)) ?_
      refine WPD.step 3 (by kernel_rfl) rfl rfl rfl rfl (Eff.call rfl rfl Try.call63 (revin_spec ⟨o.r.m, o.r.s⟩)) ?_
      rintro _ _ ⟨_, ⟨rfl, rfl⟩, rfl⟩
      refine ⟨(fun w h => (((h.perm pl2).perm pl3)).dropEnd (L := [_, _])), ?_⟩
      show WPD _ _ _ _ _ _ _ _ _ (Blk b4 [.bool false, .int .i64 0, .int .i64 0, .int .i64 0, .int .i64 0, .int .i64 0, .slice none 0 0, .int .i64 0, .int .i64 0, .slice none 0 0] 42 :: Blk b3 [.bool false, .int .i64 0, .int .i64 0, .int .i64 0, .int .i64 0, .int .i64 0, .slice none 0 0, .int .i64 0, .int .i64 0, .slice none 0 0] 42 :: Blk b2 [.int .i64 (o.k), .int .i64 (o.r.m), .int .i64 (o.r.s), .int .i64 (o.c.m), .int .i64 (o.c.s), .int .i64 (o.v), .int .i64 (o.at_)] 38 :: Blk b1 [.pointer (some ⟨b, 0, none⟩)] 78 :: KIs b ka kn kc s :: F)
      refine WPD.perm pl4 ?_
      refine WPD.stepC 4 (by kernel_rfl) rfl rfl rfl rfl (by kernel_rfl) (Eff.call rfl rfl Try.call67 (ztomb_no b ka kn kc s hsm hemp hgpos o.r hlast)) ?_
      rintro _ _ ⟨_, ⟨ev, rfl, rfl⟩, rfl⟩
      refine ⟨(Sat W (KIs b ka kn kc s :: Blk b4 [.bool false, .int .i64 0, .int .i64 0, .int .i64 0, .int .i64 0, .int .i64 0, .slice none 0 0, .int .i64 0, .int .i64 0, .slice none 0 0] 42 :: Blk b3 [.bool false, .int .i64 0, .int .i64 0, .int .i64 0, .int .i64 0, .int .i64 0, .slice none 0 0, .int .i64 0, .int .i64 0, .slice none 0 0] 42 :: Blk b2 [.int .i64 (o.k), .int .i64 (o.r.m), .int .i64 (o.r.s), .int .i64 (o.c.m), .int .i64 (o.c.s), .int .i64 (o.v), .int .i64 (o.at_)] 38 :: Blk b1 [.pointer (some ⟨b, 0, none⟩)] 78 :: F)), (fun _ h => h), ?_⟩
      show WPD _ _ _ _ _ _ _ _ _ (KIs b ka kn kc s :: Blk b4 [.bool false, .int .i64 0, .int .i64 0, .int .i64 0, .int .i64 0, .int .i64 0, .slice none 0 0, .int .i64 0, .int .i64 0, .slice none 0 0] 42 :: Blk b3 [.bool false, .int .i64 0, .int .i64 0, .int .i64 0, .int .i64 0, .int .i64 0, .slice none 0 0, .int .i64 0, .int .i64 0, .slice none 0 0] 42 :: Blk b2 [.int .i64 (o.k), .int .i64 (o.r.m), .int .i64 (o.r.s), .int .i64 (o.c.m), .int .i64 (o.c.s), .int .i64 (o.v), .int .i64 (o.at_)] 38 :: Blk b1 [.pointer (some ⟨b, 0, none⟩)] 78 :: F)
      refine WPD.takeM 5 rfl rfl rfl rfl (by kernel_rfl) (by kernel_rfl) (by kernel_rfl) (by kernel_rfl) (fun _ _ _ h => h) (fun _ h => h) (Val.someI rfl Ty.if112 rfl) ?_
      refine WPD.takeM 6 rfl rfl rfl rfl (by kernel_rfl) (by kernel_rfl) (by kernel_rfl) (by kernel_rfl) (fun _ _ _ h => h) (fun _ h => h) (Val.fieldAddr (j := 0) rfl Ty.fo42_0 rfl rfl) ?_
      refine WPD.perm pl1 ?_
      refine WPD.stepC0 7 (by kernel_rfl) rfl rfl rfl (by kernel_rfl) (Eff.store rfl Ty.sc4 rfl rfl rfl (by simp) st0) ?_
      rintro _ _ rfl
      refine ⟨(Sat W (Blk b4 [.bool false, .int .i64 0, .int .i64 0, .int .i64 0, .int .i64 0, .int .i64 0, .slice none 0 0, .int .i64 0, .int .i64 0, .slice none 0 0] 42 :: KIs b ka kn kc s :: Blk b3 [.bool false, .int .i64 0, .int .i64 0, .int .i64 0, .int .i64 0, .int .i64 0, .slice none 0 0, .int .i64 0, .int .i64 0, .slice none 0 0] 42 :: Blk b2 [.int .i64 (o.k), .int .i64 (o.r.m), .int .i64 (o.r.s), .int .i64 (o.c.m), .int .i64 (o.c.s), .int .i64 (o.v), .int .i64 (o.at_)] 38 :: Blk b1 [.pointer (some ⟨b, 0, none⟩)] 78 :: F)), (fun _ h => h), ?_⟩
      refine WPD.done (by kernel_rfl) ?_
      refine Out.block ?_
      refine Out.next ?_
      refine WPc.seq ?_
      refine WPc.region ?_
      refine WP.val rfl rfl rfl (Val.loadAgg (cs := [.pointer (some ⟨b, 0, none⟩)]) rfl Ty.ag78 rfl rfl (fun w h => h.range 4 rfl rfl)) ?_
      refine WP.perm pl1 ?_
      refine WP.eff rfl rfl rfl (Eff.call rfl rfl Try.call79 (kidump_spec b ka kn kc s hsm2)) ?_
      rintro _ _ ⟨_, ⟨v2, g2, rfl, hg2, rfl⟩, rfl⟩
      show WP _ _ _ _ _ _ _ (Own 135 4 v2 g2.length (flatOf GV.cells g2) :: Kds (GVPe 81) g2 :: KIs b ka kn kc s :: Blk b4 [.bool false, .int .i64 0, .int .i64 0, .int .i64 0, .int .i64 0, .int .i64 0, .slice none 0 0, .int .i64 0, .int .i64 0, .slice none 0 0] 42 :: Blk b3 [.bool false, .int .i64 0, .int .i64 0, .int .i64 0, .int .i64 0, .int .i64 0, .slice none 0 0, .int .i64 0, .int .i64 0, .slice none 0 0] 42 :: Blk b2 [.int .i64 (o.k), .int .i64 (o.r.m), .int .i64 (o.r.s), .int .i64 (o.c.m), .int .i64 (o.c.s), .int .i64 (o.v), .int .i64 (o.at_)] 38 :: Blk b1 [.pointer (some ⟨b, 0, none⟩)] 78 :: F)
      refine WP.perm pl1 ?_
      refine WP.perm pl1 ?_
      refine WP.open (fun w h => gens_open h) ?_
      rintro E2
      refine WP.pure (fun hE2 => ?_)
      obtain ⟨rE2, backE2⟩ := hE2
      show WP _ _ _ _ _ _ _ (E2 :: KIs b ka kn kc s :: Blk b4 [.bool false, .int .i64 0, .int .i64 0, .int .i64 0, .int .i64 0, .int .i64 0, .slice none 0 0, .int .i64 0, .int .i64 0, .slice none 0 0] 42 :: Blk b3 [.bool false, .int .i64 0, .int .i64 0, .int .i64 0, .int .i64 0, .int .i64 0, .slice none 0 0, .int .i64 0, .int .i64 0, .slice none 0 0] 42 :: Blk b2 [.int .i64 (o.k), .int .i64 (o.r.m), .int .i64 (o.r.s), .int .i64 (o.c.m), .int .i64 (o.c.s), .int .i64 (o.v), .int .i64 (o.at_)] 38 :: Blk b1 [.pointer (some ⟨b, 0, none⟩)] 78 :: F)
      have hs2 : Small (g2.map (·.1)) := by rw [hg2]; exact hsm2
      refine WP.eff rfl rfl rfl (Eff.call rfl rfl Try.call78 (dumpout_spec E2 s.md g2 hs2 rE2.inn v2 rE2.rd)) ?_
      rintro _ _ ⟨_, ⟨v3, g3, rfl, hg3, rfl⟩, rfl⟩
      show WP _ _ _ _ _ _ _ (Own 53 4 v3 g3.length (flatOf GV.cells g3) :: Kds (GVPe 32) g3 :: E2 :: KIs b ka kn kc s :: Blk b4 [.bool false, .int .i64 0, .int .i64 0, .int .i64 0, .int .i64 0, .int .i64 0, .slice none 0 0, .int .i64 0, .int .i64 0, .slice none 0 0] 42 :: Blk b3 [.bool false, .int .i64 0, .int .i64 0, .int .i64 0, .int .i64 0, .int .i64 0, .slice none 0 0, .int .i64 0, .int .i64 0, .slice none 0 0] 42 :: Blk b2 [.int .i64 (o.k), .int .i64 (o.r.m), .int .i64 (o.r.s), .int .i64 (o.c.m), .int .i64 (o.c.s), .int .i64 (o.v), .int .i64 (o.at_)] 38 :: Blk b1 [.pointer (some ⟨b, 0, none⟩)] 78 :: F)
      refine WP.fact (fun w h => own_oneCell h) (fun on3 => ?_)
      refine WP.val rfl rfl rfl (Val.fieldAddr (j := 7) rfl Ty.fo42_5 rfl rfl) ?_
      refine WP.perm pl4 ?_
      refine WP.eff0 rfl rfl (Eff.storeAgg (cs := [.int .i64 (s.md.m), .int .i64 (s.md.s), v3]) (C' := [.bool false, .int .i64 0, .int .i64 0, .int .i64 0, .int .i64 0, .int .i64 0, .slice none 0 0, .int .i64 (s.md.m), .int .i64 (s.md.s), v3]) rfl Ty.ag35 rfl rfl rfl (by simp only [List.all_cons, List.all_nil, Bool.and_true, oc_int, oc_str, oc_bool, oc_ptr, oc_slice, oc_iface, oc_map, on3]) (by simp) rfl) ?_
      rintro _ _ rfl
      refine WP.nil ?_
      refine Out.next ?_
      refine WPc.seq ?_
      refine WPc.region ?_
      refine WP.val rfl rfl rfl (Val.loadAgg (cs := [.bool false, .int .i64 0, .int .i64 0, .int .i64 0, .int .i64 0, .int .i64 0, .slice none 0 0, .int .i64 (s.md.m), .int .i64 (s.md.s), v3]) rfl Ty.ag42 rfl rfl (fun w h => h.range 0 rfl rfl)) ?_
      refine WP.perm pl5 ?_
      refine WP.eff0 rfl rfl (Eff.storeAgg (cs := [.bool false, .int .i64 0, .int .i64 0, .int .i64 0, .int .i64 0, .int .i64 0, .slice none 0 0, .int .i64 (s.md.m), .int .i64 (s.md.s), v3]) (C' := [.bool false, .int .i64 0, .int .i64 0, .int .i64 0, .int .i64 0, .int .i64 0, .slice none 0 0, .int .i64 (s.md.m), .int .i64 (s.md.s), v3]) rfl Ty.ag42 rfl rfl rfl (by simp only [List.all_cons, List.all_nil, Bool.and_true, oc_int, oc_str, oc_bool, oc_ptr, oc_slice, oc_iface, oc_map, on3]) (by simp) rfl) ?_
      rintro _ _ rfl
      refine WP.nil ?_
      refine Out.next ?_
      refine WPc.ret ?_
      refine Out.conv (fun w h => h.ownNil (e := 32) (k := 2)) ?_
      refine Out.perm pl2 ?_
      refine Out.drop ?_
      refine Out.perm pl4 ?_
      refine Out.drop ?_
      refine Out.perm pl5 ?_
      refine Out.drop ?_
      refine Out.perm pl5 ?_
      refine Out.drop ?_
      refine Out.perm pl4 ?_
      refine Out.perm pl4 ?_
      refine Out.perm pl4 ?_
      refine Out.perm pl3 ?_
      refine Out.perm pl4 ?_
      exact Out.retRun (L' := _) (results_cell (cs := _) Try.results35 Ty.ag42 rfl rfl (fun w h => h.range 0 rfl rfl)) ⟨(.slice none 0 0), v3, g3, by rfl, hg3.trans hg2, by rfl⟩ (fun w h => h.drop)
    · skip
      have h2 : ¬ (o.k = (2 : Int)) := h2
      exfalso; omega
set_option maxRecDepth 100000 in
set_option maxHeartbeats 2000000 in
theorem rest_spec (b : Nat) (ka : Option Addr) (kn kc : Nat) (s : KI) (hsm : Small s.gs) (hgs0 : s.gs = []) (c r : Rv) (x : Int) : Does Try.prog 97 [.pointer (some ⟨b, 0, none⟩), .pointer none, .agg #[.int .i64 (c.m), .int .i64 (c.s)], .agg #[.int .i64 (r.m), .int .i64 (r.s)], .int .i64 (x)] [KIs b ka kn kc s] (fun v L => v = .tuple #[] ∧ L = [KIs b ka kn kc (krest c r x)]) := by
  refine Does.enter 37 Try.func97 rfl rfl rfl fun W F => ?_
  show WPc _ _ _ _ _ [(0, .pointer (some ⟨b, 0, none⟩)), (1, .pointer none), (2, .agg #[.int .i64 (c.m), .int .i64 (c.s)]), (3, .agg #[.int .i64 (r.m), .int .i64 (r.s)]), (4, .int .i64 (x))] (KIs b ka kn kc s :: F)
  refine WPc.seq ?_
  refine WPc.region ?_
  refine WP.eff rfl rfl rfl (Eff.box (C := [.int .i64 (c.m), .int .i64 (c.s)]) rfl rfl rfl) ?_
  rintro _ _ ⟨b1, rfl, rfl⟩
  refine WP.eff rfl rfl rfl (Eff.box (C := [.int .i64 (r.m), .int .i64 (r.s)]) rfl rfl rfl) ?_
  rintro _ _ ⟨b2, rfl, rfl⟩
  refine WP.nil ?_
  refine Out.next ?_
  refine WPc.seq ?_
  refine WPc.seq ?_
  refine WPc.perm pl2 ?_
  refine WPc.open (fun w h => kis_own h) ?_
  rintro ⟨vg, gl⟩
  refine WPc.pure (fun hgl => ?_)
  dsimp only at hgl
  have hgn : gl.length = s.gs.length := by rw [← hgl, List.length_map]
  show WPc _ _ _ _ _ _ (Blk b [.slice ka kn kc, .int .i64 (s.md.m), .int .i64 (s.md.s), vg] 153 :: OwnO 155 4 vg gl.length (flatOf GV.cells gl) :: Kds GVO gl :: Blk b2 [.int .i64 (r.m), .int .i64 (r.s)] 81 :: Blk b1 [.int .i64 (c.m), .int .i64 (c.s)] 81 :: F)
  have hg0 : gl.length = 0 := by rw [hgn, hgs0]; rfl
  obtain rfl := List.eq_nil_of_length_eq_zero hg0
  show WPc _ _ _ _ _ _ (Blk b [.slice ka kn kc, .int .i64 (s.md.m), .int .i64 (s.md.s), vg] 153 :: OwnO 155 4 vg 0 ([]) :: Kds GVO [] :: Blk b2 [.int .i64 (r.m), .int .i64 (r.s)] 81 :: Blk b1 [.int .i64 (c.m), .int .i64 (c.s)] 81 :: F)
  refine WPc.region ?_
  refine WP.val rfl rfl rfl (Val.move rfl rfl) ?_
  refine WP.val rfl rfl rfl (Val.nilCheck rfl rfl) ?_
  refine WP.val rfl rfl rfl (Val.fieldAddr (j := 3) rfl Ty.fo153_2 rfl rfl) ?_
  refine WP.val rfl rfl rfl (Val.load rfl Ty.sc151 rfl (fun w h => h.cell 0 rfl rfl)) ?_
  refine WP.val rfl rfl rfl (Val.lenOwnO rfl Ty.sl151 rfl (fun w h => h.at 1 rfl)) ?_
  refine WP.val rfl rfl rfl (Val.neq rfl rfl rfl) ?_
  refine WP.nil ?_
  refine Out.next ?_
  refine WPc.ifP rfl (fun h1 => ?_) (fun h1 => ?_)
  · skip
    have h1 : (((0 : Nat) : Int) ≠ (0 : Int)) := h1
    exfalso; omega
  · skip
    have h1 : ¬ (((0 : Nat) : Int) ≠ (0 : Int)) := h1
    refine WPc.skip ?_
    refine Out.next ?_
    refine WPc.seq ?_
    refine WPc.region ?_
    refine WP.val rfl rfl rfl (Val.move rfl rfl) ?_
    refine WP.val rfl rfl rfl (Val.loadAgg (cs := [.int .i64 (r.m), .int .i64 (r.s)]) rfl Ty.ag81 rfl rfl (fun w h => h.range 3 rfl rfl)) ?_
    refine WP.val rfl rfl rfl (Val.nilCheck rfl rfl) ?_
    refine WP.val rfl rfl rfl (Val.fieldAddr (j := 1) rfl Ty.fo153_1 rfl rfl) ?_
    refine WP.eff0 rfl rfl (Eff.storeAgg (cs := [.int .i64 (r.m), .int .i64 (r.s)]) (C' := [.slice ka kn kc, .int .i64 (r.m), .int .i64 (r.s), vg]) rfl Ty.ag81 rfl rfl rfl rfl (by simp) rfl) ?_
    rintro _ _ rfl
    refine WP.nil ?_
    refine Out.next ?_
    refine WPc.seq ?_
    refine WPc.region ?_
    refine WP.val rfl rfl rfl (Val.loadAgg (cs := [.int .i64 (c.m), .int .i64 (c.s)]) rfl Ty.ag81 rfl rfl (fun w h => h.range 4 rfl rfl)) ?_
    refine WP.val rfl rfl rfl (Val.move rfl rfl) ?_
    refine WP.val rfl rfl rfl (Val.loadAgg (cs := [.int .i64 (r.m), .int .i64 (r.s)]) rfl Ty.ag81 rfl rfl (fun w h => h.range 3 rfl rfl)) ?_
    refine WP.eff rfl rfl rfl (Eff.mkSlice (C := [.int .i64 (r.m), .int .i64 (r.s)]) rfl Ty.sl132 rfl (fun _ => by kernel_rfl)) ?_
    rintro _ _ ⟨b3, rfl, rfl⟩
    refine WP.val rfl rfl rfl (Val.mk (cs := [.int .i64 (x), .int .i64 (c.m), .int .i64 (c.s), .slice (some ⟨b3, 0, none⟩) 1 1]) rfl rfl (fun _ => by kernel_rfl)) ?_
    refine WP.eff rfl rfl rfl (Eff.alloc rfl Ty.z155) ?_
    rintro _ _ ⟨b4, rfl, rfl⟩
    refine WP.eff0 rfl rfl (Eff.storeAgg (cs := [.int .i64 (x), .int .i64 (c.m), .int .i64 (c.s), .slice (some ⟨b3, 0, none⟩) 1 1]) (C' := [.int .i64 (x), .int .i64 (c.m), .int .i64 (c.s), .slice (some ⟨b3, 0, none⟩) 1 1]) rfl Ty.ag155 rfl rfl rfl rfl (by simp) rfl) ?_
    rintro _ _ rfl
    refine WP.nil ?_
    refine Out.next ?_
    refine WPD.start (Sat W [Blk b [.slice ka kn kc, .int .i64 (r.m), .int .i64 (r.s), vg] 153, Blk b4 [.int .i64 (x), .int .i64 (c.m), .int .i64 (c.s), .slice (some ⟨b3, 0, none⟩) 1 1] 155]) Ty.mixed ?_
    refine WPD.takeM 0 rfl rfl rfl rfl (by kernel_rfl) (by kernel_rfl) (by kernel_rfl) (by kernel_rfl) (fun _ _ _ h => h) (fun w h => ((h.perm pl2)).dropEnd (L := [_, _])) (Val.move rfl rfl) ?_
    refine WPD.takeM 1 rfl rfl rfl rfl (by kernel_rfl) (by kernel_rfl) (by kernel_rfl) (by kernel_rfl) (fun _ _ _ h => h) (fun w h => ((h.perm pl2)).dropEnd (L := [_, _])) (Val.move rfl rfl) ?_
    refine WPD.takeM 2 rfl rfl rfl rfl (by kernel_rfl) (by kernel_rfl) (by kernel_rfl) (by kernel_rfl) (fun _ _ _ h => h) (fun w h => ((h.perm pl2)).dropEnd (L := [_, _])) (Val.nilCheck rfl rfl) ?_
    refine WPD.takeM 3 rfl rfl rfl rfl (by kernel_rfl) (by kernel_rfl) (by kernel_rfl) (by kernel_rfl) (fun _ _ _ h => h) (fun w h => ((h.perm pl2)).dropEnd (L := [_, _])) (Val.fieldAddr (j := 3) rfl Ty.fo153_2 rfl rfl) ?_
    refine WPD.take 4 rfl rfl rfl rfl (by kernel_rfl) (by kernel_rfl) (by kernel_rfl) (by kernel_rfl) (fun _ _ _ h => h) (by kernel_rfl) (fun w h => ((h.perm pl2)).dropEnd (L := [_, _])) (Val.load rfl Ty.sc151 rfl (fun w h => h.cell 0 rfl rfl)) ?_
    refine WPD.take 5 rfl rfl rfl rfl (by kernel_rfl) (by kernel_rfl) (by kernel_rfl) (by kernel_rfl) (fun _ _ _ h => h) (by kernel_rfl) (fun w h => ((h.perm pl2)).dropEnd (L := [_, _])) (Val.loadAgg (cs := [.int .i64 (x), .int .i64 (c.m), .int .i64 (c.s), .slice (some ⟨b3, 0, none⟩) 1 1]) rfl Ty.ag155 rfl rfl (fun w h => h.range 1 rfl rfl)) ?_
    refine WPD.step 6 (by kernel_rfl) rfl rfl rfl rfl (Eff.mkSlice (C := [.int .i64 (x), .int .i64 (c.m), .int .i64 (c.s), .slice (some ⟨b3, 0, none⟩) 1 1]) rfl Ty.sl151 rfl (fun _ => by kernel_rfl)) ?_
    rintro _ _ ⟨b5, rfl, rfl⟩
    refine ⟨(fun w h => (((h.perm pl1).perm pl3)).dropEnd (L := [_, _])), ?_⟩
    refine WPD.perm pl4 ?_
    refine WPD.stepC 7 (by kernel_rfl) rfl rfl rfl rfl (by kernel_rfl) (Eff.appendO (m := 1) (n0 := 0) (news := [.int .i64 (x), .int .i64 (c.m), .int .i64 (c.s), .slice (some ⟨b3, 0, none⟩) 1 1]) rfl Ty.sl151 Ty.z155 rfl rfl rfl (.slice Ty.sl151 rfl rfl (fun w h => cells_range (h.range 1 rfl rfl))) (by omega) (by omega)) ?_
    rintro v6 _ ⟨onev6, rfl⟩
    refine ⟨(Sat W (OwnO 155 4 v6 (0 + 1) (([]) ++ ([.int .i64 (x), .int .i64 (c.m), .int .i64 (c.s), .slice (some ⟨b3, 0, none⟩) 1 1])) :: Blk b5 [.int .i64 (x), .int .i64 (c.m), .int .i64 (c.s), .slice (some ⟨b3, 0, none⟩) 1 1] 155 :: Blk b4 [.int .i64 (x), .int .i64 (c.m), .int .i64 (c.s), .slice (some ⟨b3, 0, none⟩) 1 1] 155 :: Blk b3 [.int .i64 (r.m), .int .i64 (r.s)] 81 :: Blk b [.slice ka kn kc, .int .i64 (r.m), .int .i64 (r.s), vg] 153 :: Kds GVO [] :: Blk b2 [.int .i64 (r.m), .int .i64 (r.s)] 81 :: Blk b1 [.int .i64 (c.m), .int .i64 (c.s)] 81 :: F)), (fun _ h => h), ?_⟩
    refine WPD.takeM 8 rfl rfl rfl rfl (by kernel_rfl) (by kernel_rfl) (by kernel_rfl) (by kernel_rfl) (fun _ _ _ h => h) (fun _ h => h) (Val.nilCheck rfl rfl) ?_
    refine WPD.takeM 9 rfl rfl rfl rfl (by kernel_rfl) (by kernel_rfl) (by kernel_rfl) (by kernel_rfl) (fun _ _ _ h => h) (fun _ h => h) (Val.fieldAddr (j := 3) rfl Ty.fo153_2 rfl rfl) ?_
    refine WPD.perm pl4 ?_
    refine WPD.stepC0 10 (by kernel_rfl) rfl rfl rfl (by kernel_rfl) (Eff.store rfl Ty.sc151 rfl rfl onev6 (by simp) st3) ?_
    rintro _ _ rfl
    refine ⟨(Sat W (Blk b [.slice ka kn kc, .int .i64 (r.m), .int .i64 (r.s), v6] 153 :: OwnO 155 4 v6 (0 + 1) (([]) ++ ([.int .i64 (x), .int .i64 (c.m), .int .i64 (c.s), .slice (some ⟨b3, 0, none⟩) 1 1])) :: Blk b5 [.int .i64 (x), .int .i64 (c.m), .int .i64 (c.s), .slice (some ⟨b3, 0, none⟩) 1 1] 155 :: Blk b4 [.int .i64 (x), .int .i64 (c.m), .int .i64 (c.s), .slice (some ⟨b3, 0, none⟩) 1 1] 155 :: Blk b3 [.int .i64 (r.m), .int .i64 (r.s)] 81 :: Kds GVO [] :: Blk b2 [.int .i64 (r.m), .int .i64 (r.s)] 81 :: Blk b1 [.int .i64 (c.m), .int .i64 (c.s)] 81 :: F)), (fun _ h => h), ?_⟩
    refine WPD.done (by kernel_rfl) ?_
    refine Out.perm pl4 ?_
    refine Out.conv (fun w h => Sat.ownOMk (e := 81) (k := 2) (b := b3) (m := 1) (cap := 1) (pre := []) (xs := Rv.cells r) (sp := []) (off := 0) (by exact h) (Nat.le_refl _) rfl rfl (by decide) rfl) ?_
    refine Out.perm pl3 ?_
    refine Out.drop ?_
    refine Out.perm pl3 ?_
    refine Out.drop ?_
    refine Out.perm pl3 ?_
    refine Out.drop ?_
    refine Out.perm pl3 ?_
    refine Out.drop ?_
    refine Out.perm pl3 ?_
    refine Out.drop ?_
    refine Out.perm pl1 ?_
    refine Out.perm pl1 ?_
    refine Out.perm pl2 ?_
    exact Out.end0 (L' := _) Try.results97 ⟨rfl, rfl⟩ (fun w h => kis_one (u := .slice (some ⟨b3, 0, none⟩) 1 1) (by simp only [Nat.zero_add, List.nil_append] at h; exact h))
set_option maxRecDepth 100000 in
set_option maxHeartbeats 2000000 in
theorem zrest_spec (b : Nat) (ka : Option Addr) (kn kc : Nat) (s : KI) (hsm : Small s.gs) (hgs0 : s.gs = []) (c r : Rv) (x : Int) : Does Try.prog 68 [.agg #[.pointer (some ⟨b, 0, none⟩)], .agg #[.int .i64 (c.m), .int .i64 (c.s)], .agg #[.int .i64 (r.m), .int .i64 (r.s)], .int .i64 (x)] [KIs b ka kn kc s] (fun v L => v = .tuple #[] ∧ L = [KIs b ka kn kc (krest c r x)]) := by
  refine Does.enter 14 Try.func68 rfl rfl rfl fun W F => ?_
  show WPc _ _ _ _ _ [(0, .agg #[.pointer (some ⟨b, 0, none⟩)]), (1, .agg #[.int .i64 (c.m), .int .i64 (c.s)]), (2, .agg #[.int .i64 (r.m), .int .i64 (r.s)]), (3, .int .i64 (x))] (KIs b ka kn kc s :: F)
  refine WPc.seq ?_
  refine WPc.region ?_
  refine WP.eff rfl rfl rfl (Eff.box (C := [.pointer (some ⟨b, 0, none⟩)]) rfl rfl rfl) ?_
  rintro _ _ ⟨b1, rfl, rfl⟩
  refine WP.eff rfl rfl rfl (Eff.box (C := [.int .i64 (c.m), .int .i64 (c.s)]) rfl rfl rfl) ?_
  rintro _ _ ⟨b2, rfl, rfl⟩
  refine WP.eff rfl rfl rfl (Eff.box (C := [.int .i64 (r.m), .int .i64 (r.s)]) rfl rfl rfl) ?_
  rintro _ _ ⟨b3, rfl, rfl⟩
  refine WP.nil ?_
  refine Out.next ?_
  refine WPc.region ?_
  refine WP.val rfl rfl rfl (Val.fieldAddr (j := 0) rfl Ty.fo78_0 rfl rfl) ?_
  refine WP.val rfl rfl rfl (Val.load rfl Ty.sc76 rfl (fun w h => h.cell 2 rfl rfl)) ?_
  refine WP.val rfl rfl rfl (Val.loadAgg (cs := [.int .i64 (c.m), .int .i64 (c.s)]) rfl Ty.ag81 rfl rfl (fun w h => h.range 1 rfl rfl)) ?_
  refine WP.val rfl rfl rfl (Val.loadAgg (cs := [.int .i64 (r.m), .int .i64 (r.s)]) rfl Ty.ag81 rfl rfl (fun w h => h.range 0 rfl rfl)) ?_
  refine WP.val rfl rfl rfl (Val.move rfl rfl) ?_
  refine WP.perm pl3 ?_
  refine WP.eff rfl rfl rfl (Eff.call rfl rfl Try.call97 (rest_spec b ka kn kc s hsm hgs0 c r x)) ?_
  rintro _ _ ⟨_, ⟨rfl, rfl⟩, rfl⟩
  show WP _ _ _ _ _ _ _ (KIs b ka kn kc (krest c r x) :: Blk b3 [.int .i64 (r.m), .int .i64 (r.s)] 81 :: Blk b2 [.int .i64 (c.m), .int .i64 (c.s)] 81 :: Blk b1 [.pointer (some ⟨b, 0, none⟩)] 78 :: F)
  refine WP.nil ?_
  refine Out.perm pl1 ?_
  refine Out.drop ?_
  refine Out.perm pl1 ?_
  refine Out.drop ?_
  refine Out.perm pl1 ?_
  refine Out.drop ?_
  exact Out.end0 (L' := _) Try.results68 ⟨rfl, rfl⟩ (fun _ h => h)
set_option maxRecDepth 100000 in
set_option maxHeartbeats 2000000 in
theorem keyed_rest (b : Nat) (ka : Option Addr) (kn kc : Nat) (s : KI) (hsm : Small s.gs) (o : KOp) (hk : o.k = 3) (hgs0 : s.gs = []) (hsm2 : Small (krest o.c o.r o.v).gs) : Does Try.prog 35 [.agg #[.pointer (some ⟨b, 0, none⟩)], .agg #[.int .i64 (o.k), .int .i64 (o.r.m), .int .i64 (o.r.s), .int .i64 (o.c.m), .int .i64 (o.c.s), .int .i64 (o.v), .int .i64 (o.at_)]] [KIs b ka kn kc s] (fun v L => ∃ (vr vg : Value) (g2 : List GV), v = KAns ({ KA0 with ok := true } : KA) vr (krest o.c o.r o.v).md vg ∧ g2.map (·.1) = (krest o.c o.r o.v).gs ∧ L = [Own 32 2 vr ({ KA0 with ok := true } : KA).revs.length (flatOf Rv.cells ({ KA0 with ok := true } : KA).revs), Own 53 4 vg g2.length (flatOf GV.cells g2), Kds (GVPe 32) g2, KIs b ka kn kc (krest o.c o.r o.v)]) := by
  refine Does.enter 104 Try.func35 rfl rfl rfl fun W F => ?_
  show WPc _ _ _ _ _ [(0, .agg #[.pointer (some ⟨b, 0, none⟩)]), (1, .agg #[.int .i64 (o.k), .int .i64 (o.r.m), .int .i64 (o.r.s), .int .i64 (o.c.m), .int .i64 (o.c.s), .int .i64 (o.v), .int .i64 (o.at_)])] (KIs b ka kn kc s :: F)
  refine WPc.seq ?_
  refine WPc.region ?_
  refine WP.eff rfl rfl rfl (Eff.box (C := [.pointer (some ⟨b, 0, none⟩)]) rfl rfl rfl) ?_
  rintro _ _ ⟨b1, rfl, rfl⟩
  refine WP.eff rfl rfl rfl (Eff.box (C := [.int .i64 (o.k), .int .i64 (o.r.m), .int .i64 (o.r.s), .int .i64 (o.c.m), .int .i64 (o.c.s), .int .i64 (o.v), .int .i64 (o.at_)]) rfl rfl rfl) ?_
  rintro _ _ ⟨b2, rfl, rfl⟩
  refine WP.eff rfl rfl rfl (Eff.alloc rfl Ty.z42) ?_
  rintro _ _ ⟨b3, rfl, rfl⟩
  refine WP.nil ?_
  refine Out.next ?_
  refine WPc.seq ?_
  refine WPc.region ?_
  refine WP.val rfl rfl rfl (Val.mk (cs := [.bool false, .int .i64 0, .int .i64 0, .int .i64 0, .int .i64 0, .int .i64 0, .slice none 0 0, .int .i64 0, .int .i64 0, .slice none 0 0]) rfl rfl (fun _ => by kernel_rfl)) ?_
  refine WP.eff rfl rfl rfl (Eff.alloc rfl Ty.z42) ?_
  rintro _ _ ⟨b4, rfl, rfl⟩
  refine WP.eff0 rfl rfl (Eff.storeAgg (cs := [.bool false, .int .i64 0, .int .i64 0, .int .i64 0, .int .i64 0, .int .i64 0, .slice none 0 0, .int .i64 0, .int .i64 0, .slice none 0 0]) (C' := [.bool false, .int .i64 0, .int .i64 0, .int .i64 0, .int .i64 0, .int .i64 0, .slice none 0 0, .int .i64 0, .int .i64 0, .slice none 0 0]) rfl Ty.ag42 rfl rfl rfl rfl (by simp) rfl) ?_
  rintro _ _ rfl
  refine WP.nil ?_
  refine Out.next ?_
  refine WPc.seq ?_
  refine WPc.seq ?_
  refine WPc.region ?_
  refine WP.val rfl rfl rfl (Val.fieldAddr (j := 0) rfl Ty.fo38_0 rfl rfl) ?_
  refine WP.val rfl rfl rfl (Val.load rfl Ty.sc3 rfl (fun w h => h.cell 2 rfl rfl)) ?_
  refine WP.nil ?_
  refine Out.next ?_
  refine WPc.block ?_
  refine WPc.seq ?_
  refine WPc.region ?_
  refine WP.val rfl rfl rfl (Val.eql rfl rfl rfl) ?_
  refine WP.val rfl rfl rfl (Val.assign rfl rfl) ?_
  refine WP.nil ?_
  refine Out.next ?_
  refine WPc.ifP rfl (fun h1 => ?_) (fun h1 => ?_)
  · skip
    have h1 : (o.k = (1 : Int)) := h1
    exfalso; omega
  · skip
    have h1 : ¬ (o.k = (1 : Int)) := h1
    refine WPc.seq ?_
    refine WPc.region ?_
    refine WP.val rfl rfl rfl (Val.eql rfl rfl rfl) ?_
    refine WP.val rfl rfl rfl (Val.assign rfl rfl) ?_
    refine WP.nil ?_
    refine Out.next ?_
    refine WPc.ifP rfl (fun h2 => ?_) (fun h2 => ?_)
    · skip
      have h2 : (o.k = (2 : Int)) := h2
      exfalso; omega
    · skip
      have h2 : ¬ (o.k = (2 : Int)) := h2
      refine WPc.seq ?_
      refine WPc.region ?_
      refine WP.val rfl rfl rfl (Val.eql rfl rfl rfl) ?_
      refine WP.val rfl rfl rfl (Val.assign rfl rfl) ?_
      refine WP.nil ?_
      refine Out.next ?_
      refine WPc.ifP rfl (fun h3 => ?_) (fun h3 => ?_)
      · skip
        have h3 : (o.k = (3 : Int)) := h3
        refine WPc.seq ?_
        refine WPD.start (Sat W [Blk b1 [.pointer (some ⟨b, 0, none⟩)] 78, Blk b2 [.int .i64 (o.k), .int .i64 (o.r.m), .int .i64 (o.r.s), .int .i64 (o.c.m), .int .i64 (o.c.s), .int .i64 (o.v), .int .i64 (o.at_)] 38]) Ty.mixed ?_
        refine WPD.take 0 rfl rfl rfl rfl (by kernel_rfl) (by kernel_rfl) (by kernel_rfl) (by kernel_rfl) (fun _ _ _ h => h) (by kernel_rfl) (fun w h => (((h.perm pl2).perm pl3)).dropEnd (L := [_, _])) (Val.loadAgg (cs := [.pointer (some ⟨b, 0, none⟩)]) rfl Ty.ag78 rfl rfl (fun w h => h.range 0 rfl rfl)) ?_
        refine WPD.takeM 1 rfl rfl rfl rfl (by kernel_rfl) (by kernel_rfl) (by kernel_rfl) (by kernel_rfl) (fun _ _ _ h => h) (fun w h => (((h.perm pl2).perm pl3)).dropEnd (L := [_, _])) (Val.fieldAddr (j := 3) rfl Ty.fo38_2 rfl rfl) ?_
        refine WPD.take 2 rfl rfl rfl rfl (by kernel_rfl) (by kernel_rfl) (by kernel_rfl) (by kernel_rfl) (fun _ _ _ h => h) (by kernel_rfl) (fun w h => (((h.perm pl2).perm pl3)).dropEnd (L := [_, _])) (Val.loadAgg (cs := [.int .i64 (o.c.m), .int .i64 (o.c.s)]) rfl Ty.ag32 rfl rfl (fun w h => h.range 1 rfl rfl)) ?_
        refine WPD.takeM 4 rfl rfl rfl rfl (by kernel_rfl) (by kernel_rfl) (by kernel_rfl) (by kernel_rfl) (fun _ _ _ h => h) (fun w h => (((h.perm pl2).perm pl3)).dropEnd (L := [_, _])) (Val.fieldAddr (j := 1) rfl Ty.fo38_1 rfl rfl) ?_
        refine WPD.take 5 rfl rfl rfl rfl (by kernel_rfl) (by kernel_rfl) (by kernel_rfl) (by kernel_rfl) (fun _ _ _ h => h) (by kernel_rfl) (fun w h => (((h.perm pl2).perm pl3)).dropEnd (L := [_, _])) (Val.loadAgg (cs := [.int .i64 (o.r.m), .int .i64 (o.r.s)]) rfl Ty.ag32 rfl rfl (fun w h => h.range 1 rfl rfl)) ?_
        refine WPD.takeM 7 rfl rfl rfl rfl (by kernel_rfl) (by kernel_rfl) (by kernel_rfl) (by kernel_rfl) (fun _ _ _ h => h) (fun w h => (((h.perm pl2).perm pl3)).dropEnd (L := [_, _])) (Val.fieldAddr (j := 5) rfl Ty.fo38_3 rfl rfl) ?_
        refine WPD.take 8 rfl rfl rfl rfl (by kernel_rfl) (by kernel_rfl) (by kernel_rfl) (by kernel_rfl) (fun _ _ _ h => h) (by kernel_rfl) (fun w h => (((h.perm pl2).perm pl3)).dropEnd (L := [_, _])) (Val.load rfl Ty.sc2 rfl (fun w h => h.cell 1 rfl rfl)) ?_
        refine WPD.step 3 (by kernel_rfl) rfl rfl rfl rfl (Eff.call rfl rfl Try.call63 (revin_spec ⟨o.c.m, o.c.s⟩)) ?_
        rintro _ _ ⟨_, ⟨rfl, rfl⟩, rfl⟩
        refine ⟨(fun w h => (((h.perm pl2).perm pl3)).dropEnd (L := [_, _])), ?_⟩
        show WPD _ _ _ _ _ _ _ _ _ (Blk b4 [.bool false, .int .i64 0, .int .i64 0, .int .i64 0, .int .i64 0, .int .i64 0, .slice none 0 0, .int .i64 0, .int .i64 0, .slice none 0 0] 42 :: Blk b3 [.bool false, .int .i64 0, .int .i64 0, .int .i64 0, .int .i64 0, .int .i64 0, .slice none 0 0, .int .i64 0, .int .i64 0, .slice none 0 0] 42 :: Blk b2 [.int .i64 (o.k), .int .i64 (o.r.m), .int .i64 (o.r.s), .int .i64 (o.c.m), .int .i64 (o.c.s), .int .i64 (o.v), .int .i64 (o.at_)] 38 :: Blk b1 [.pointer (some ⟨b, 0, none⟩)] 78 :: KIs b ka kn kc s :: F)
        refine WPD.step 6 (by kernel_rfl) rfl rfl rfl rfl (Eff.call rfl rfl Try.call63 (revin_spec ⟨o.r.m, o.r.s⟩)) ?_
        rintro _ _ ⟨_, ⟨rfl, rfl⟩, rfl⟩
        refine ⟨(fun w h => (((h.perm pl2).perm pl3)).dropEnd (L := [_, _])), ?_⟩
        show WPD _ _ _ _ _ _ _ _ _ (Blk b4 [.bool false, .int .i64 0, .int .i64 0, .int .i64 0, .int .i64 0, .int .i64 0, .slice none 0 0, .int .i64 0, .int .i64 0, .slice none 0 0] 42 :: Blk b3 [.bool false, .int .i64 0, .int .i64 0, .int .i64 0, .int .i64 0, .int .i64 0, .slice none 0 0, .int .i64 0, .int .i64 0, .slice none 0 0] 42 :: Blk b2 [.int .i64 (o.k), .int .i64 (o.r.m), .int .i64 (o.r.s), .int .i64 (o.c.m), .int .i64 (o.c.s), .int .i64 (o.v), .int .i64 (o.at_)] 38 :: Blk b1 [.pointer (some ⟨b, 0, none⟩)] 78 :: KIs b ka kn kc s :: F)
        refine WPD.perm pl4 ?_
        refine WPD.stepC 9 (by kernel_rfl) rfl rfl rfl rfl (by kernel_rfl) (Eff.call rfl rfl Try.call68 (zrest_spec b ka kn kc s hsm hgs0 o.c o.r o.v)) ?_
        rintro _ _ ⟨_, ⟨rfl, rfl⟩, rfl⟩
        refine ⟨(Sat W (KIs b ka kn kc (krest o.c o.r o.v) :: Blk b4 [.bool false, .int .i64 0, .int .i64 0, .int .i64 0, .int .i64 0, .int .i64 0, .slice none 0 0, .int .i64 0, .int .i64 0, .slice none 0 0] 42 :: Blk b3 [.bool false, .int .i64 0, .int .i64 0, .int .i64 0, .int .i64 0, .int .i64 0, .slice none 0 0, .int .i64 0, .int .i64 0, .slice none 0 0] 42 :: Blk b2 [.int .i64 (o.k), .int .i64 (o.r.m), .int .i64 (o.r.s), .int .i64 (o.c.m), .int .i64 (o.c.s), .int .i64 (o.v), .int .i64 (o.at_)] 38 :: Blk b1 [.pointer (some ⟨b, 0, none⟩)] 78 :: F)), (fun _ h => h), ?_⟩
        show WPD _ _ _ _ _ _ _ _ _ (KIs b ka kn kc (krest o.c o.r o.v) :: Blk b4 [.bool false, .int .i64 0, .int .i64 0, .int .i64 0, .int .i64 0, .int .i64 0, .slice none 0 0, .int .i64 0, .int .i64 0, .slice none 0 0] 42 :: Blk b3 [.bool false, .int .i64 0, .int .i64 0, .int .i64 0, .int .i64 0, .int .i64 0, .slice none 0 0, .int .i64 0, .int .i64 0, .slice none 0 0] 42 :: Blk b2 [.int .i64 (o.k), .int .i64 (o.r.m), .int .i64 (o.r.s), .int .i64 (o.c.m), .int .i64 (o.c.s), .int .i64 (o.v), .int .i64 (o.at_)] 38 :: Blk b1 [.pointer (some ⟨b, 0, none⟩)] 78 :: F)
        refine WPD.done (by kernel_rfl) ?_
        refine Out.next ?_
        refine WPc.region ?_
        refine WP.val rfl rfl rfl (Val.fieldAddr (j := 0) rfl Ty.fo42_0 rfl rfl) ?_
        refine WP.perm pl1 ?_
        refine WP.eff0 rfl rfl (Eff.store rfl Ty.sc4 rfl rfl rfl (by simp) st0) ?_
        rintro _ _ rfl
        refine WP.nil ?_
        refine Out.block ?_
        refine Out.next ?_
        refine WPc.seq ?_
        refine WPc.region ?_
        refine WP.val rfl rfl rfl (Val.loadAgg (cs := [.pointer (some ⟨b, 0, none⟩)]) rfl Ty.ag78 rfl rfl (fun w h => h.range 4 rfl rfl)) ?_
        refine WP.perm pl1 ?_
        refine WP.eff rfl rfl rfl (Eff.call rfl rfl Try.call79 (kidump_spec b ka kn kc (krest o.c o.r o.v) hsm2)) ?_
        rintro _ _ ⟨_, ⟨v2, g2, rfl, hg2, rfl⟩, rfl⟩
        show WP _ _ _ _ _ _ _ (Own 135 4 v2 g2.length (flatOf GV.cells g2) :: Kds (GVPe 81) g2 :: KIs b ka kn kc (krest o.c o.r o.v) :: Blk b4 [.bool true, .int .i64 0, .int .i64 0, .int .i64 0, .int .i64 0, .int .i64 0, .slice none 0 0, .int .i64 0, .int .i64 0, .slice none 0 0] 42 :: Blk b3 [.bool false, .int .i64 0, .int .i64 0, .int .i64 0, .int .i64 0, .int .i64 0, .slice none 0 0, .int .i64 0, .int .i64 0, .slice none 0 0] 42 :: Blk b2 [.int .i64 (o.k), .int .i64 (o.r.m), .int .i64 (o.r.s), .int .i64 (o.c.m), .int .i64 (o.c.s), .int .i64 (o.v), .int .i64 (o.at_)] 38 :: Blk b1 [.pointer (some ⟨b, 0, none⟩)] 78 :: F)
        refine WP.perm pl1 ?_
        refine WP.perm pl1 ?_
        refine WP.open (fun w h => gens_open h) ?_
        rintro E2
        refine WP.pure (fun hE2 => ?_)
        obtain ⟨rE2, backE2⟩ := hE2
        show WP _ _ _ _ _ _ _ (E2 :: KIs b ka kn kc (krest o.c o.r o.v) :: Blk b4 [.bool true, .int .i64 0, .int .i64 0, .int .i64 0, .int .i64 0, .int .i64 0, .slice none 0 0, .int .i64 0, .int .i64 0, .slice none 0 0] 42 :: Blk b3 [.bool false, .int .i64 0, .int .i64 0, .int .i64 0, .int .i64 0, .int .i64 0, .slice none 0 0, .int .i64 0, .int .i64 0, .slice none 0 0] 42 :: Blk b2 [.int .i64 (o.k), .int .i64 (o.r.m), .int .i64 (o.r.s), .int .i64 (o.c.m), .int .i64 (o.c.s), .int .i64 (o.v), .int .i64 (o.at_)] 38 :: Blk b1 [.pointer (some ⟨b, 0, none⟩)] 78 :: F)
        have hs2 : Small (g2.map (·.1)) := by rw [hg2]; exact hsm2
        refine WP.eff rfl rfl rfl (Eff.call rfl rfl Try.call78 (dumpout_spec E2 (krest o.c o.r o.v).md g2 hs2 rE2.inn v2 rE2.rd)) ?_
        rintro _ _ ⟨_, ⟨v3, g3, rfl, hg3, rfl⟩, rfl⟩
        show WP _ _ _ _ _ _ _ (Own 53 4 v3 g3.length (flatOf GV.cells g3) :: Kds (GVPe 32) g3 :: E2 :: KIs b ka kn kc (krest o.c o.r o.v) :: Blk b4 [.bool true, .int .i64 0, .int .i64 0, .int .i64 0, .int .i64 0, .int .i64 0, .slice none 0 0, .int .i64 0, .int .i64 0, .slice none 0 0] 42 :: Blk b3 [.bool false, .int .i64 0, .int .i64 0, .int .i64 0, .int .i64 0, .int .i64 0, .slice none 0 0, .int .i64 0, .int .i64 0, .slice none 0 0] 42 :: Blk b2 [.int .i64 (o.k), .int .i64 (o.r.m), .int .i64 (o.r.s), .int .i64 (o.c.m), .int .i64 (o.c.s), .int .i64 (o.v), .int .i64 (o.at_)] 38 :: Blk b1 [.pointer (some ⟨b, 0, none⟩)] 78 :: F)
        refine WP.fact (fun w h => own_oneCell h) (fun on3 => ?_)
        refine WP.val rfl rfl rfl (Val.fieldAddr (j := 7) rfl Ty.fo42_5 rfl rfl) ?_
        refine WP.perm pl4 ?_
        refine WP.eff0 rfl rfl (Eff.storeAgg (cs := [.int .i64 ((krest o.c o.r o.v).md.m), .int .i64 ((krest o.c o.r o.v).md.s), v3]) (C' := [.bool true, .int .i64 0, .int .i64 0, .int .i64 0, .int .i64 0, .int .i64 0, .slice none 0 0, .int .i64 ((krest o.c o.r o.v).md.m), .int .i64 ((krest o.c o.r o.v).md.s), v3]) rfl Ty.ag35 rfl rfl rfl (by simp only [List.all_cons, List.all_nil, Bool.and_true, oc_int, oc_str, oc_bool, oc_ptr, oc_slice, oc_iface, oc_map, on3]) (by simp) rfl) ?_
        rintro _ _ rfl
        refine WP.nil ?_
        refine Out.next ?_
        refine WPc.seq ?_
        refine WPc.region ?_
        refine WP.val rfl rfl rfl (Val.loadAgg (cs := [.bool true, .int .i64 0, .int .i64 0, .int .i64 0, .int .i64 0, .int .i64 0, .slice none 0 0, .int .i64 ((krest o.c o.r o.v).md.m), .int .i64 ((krest o.c o.r o.v).md.s), v3]) rfl Ty.ag42 rfl rfl (fun w h => h.range 0 rfl rfl)) ?_
        refine WP.perm pl5 ?_
        refine WP.eff0 rfl rfl (Eff.storeAgg (cs := [.bool true, .int .i64 0, .int .i64 0, .int .i64 0, .int .i64 0, .int .i64 0, .slice none 0 0, .int .i64 ((krest o.c o.r o.v).md.m), .int .i64 ((krest o.c o.r o.v).md.s), v3]) (C' := [.bool true, .int .i64 0, .int .i64 0, .int .i64 0, .int .i64 0, .int .i64 0, .slice none 0 0, .int .i64 ((krest o.c o.r o.v).md.m), .int .i64 ((krest o.c o.r o.v).md.s), v3]) rfl Ty.ag42 rfl rfl rfl (by simp only [List.all_cons, List.all_nil, Bool.and_true, oc_int, oc_str, oc_bool, oc_ptr, oc_slice, oc_iface, oc_map, on3]) (by simp) rfl) ?_
        rintro _ _ rfl
        refine WP.nil ?_
        refine Out.next ?_
        refine WPc.ret ?_
        refine Out.conv (fun w h => h.ownNil (e := 32) (k := 2)) ?_
        refine Out.perm pl2 ?_
        refine Out.drop ?_
        refine Out.perm pl4 ?_
        refine Out.drop ?_
        refine Out.perm pl5 ?_
        refine Out.drop ?_
        refine Out.perm pl5 ?_
        refine Out.drop ?_
        refine Out.perm pl4 ?_
        refine Out.perm pl4 ?_
        refine Out.perm pl4 ?_
        refine Out.perm pl3 ?_
        refine Out.perm pl4 ?_
        exact Out.retRun (L' := _) (results_cell (cs := _) Try.results35 Ty.ag42 rfl rfl (fun w h => h.range 0 rfl rfl)) ⟨(.slice none 0 0), v3, g3, by rfl, hg3.trans hg2, by rfl⟩ (fun w h => h.drop)
      · skip
        have h3 : ¬ (o.k = (3 : Int)) := h3
        exfalso; omega

end Go.Proofs.Ythicijpjpijdjaa.Lk

namespace Go.Proofs.Ythicijpjpijdjaa.Ll
open Go.RowKit Go.Proofs.Ythicijpjpijdjaa Go.Proofs.Ythicijpjpijdjaa.Sl Go.Proofs.Ythicijpjpijdjaa.KyP Go.Proofs.Ythicijpjpijdjaa.Ka Go.Proofs.Ythicijpjpijdjaa.Kb Go.Proofs.Ythicijpjpijdjaa.Kc Go.Proofs.Ythicijpjpijdjaa.Kd Go.Proofs.Ythicijpjpijdjaa.Ke Go.Proofs.Ythicijpjpijdjaa.Kf Go.Proofs.Ythicijpjpijdjaa.Kg Go.Proofs.Ythicijpjpijdjaa.Kh Go.Proofs.Ythicijpjpijdjaa.Ki Go.Proofs.Ythicijpjpijdjaa.Kj Go.Proofs.Ythicijpjpijdjaa.Kk Go.Proofs.Ythicijpjpijdjaa.Kl Go.Proofs.Ythicijpjpijdjaa.Km Go.Proofs.Ythicijpjpijdjaa.Kn Go.Proofs.Ythicijpjpijdjaa.Ko Go.Proofs.Ythicijpjpijdjaa.Kp Go.Proofs.Ythicijpjpijdjaa.Kq Go.Proofs.Ythicijpjpijdjaa.Kr Go.Proofs.Ythicijpjpijdjaa.Ks Go.Proofs.Ythicijpjpijdjaa.Kt Go.Proofs.Ythicijpjpijdjaa.Ku Go.Proofs.Ythicijpjpijdjaa.Kv Go.Proofs.Ythicijpjpijdjaa.Kw Go.Proofs.Ythicijpjpijdjaa.Kx Go.Proofs.Ythicijpjpijdjaa.Ky Go.Proofs.Ythicijpjpijdjaa.Kz Go.Proofs.Ythicijpjpijdjaa.La Go.Proofs.Ythicijpjpijdjaa.Lb Go.Proofs.Ythicijpjpijdjaa.Lc Go.Proofs.Ythicijpjpijdjaa.Ld Go.Proofs.Ythicijpjpijdjaa.Le Go.Proofs.Ythicijpjpijdjaa.Lf Go.Proofs.Ythicijpjpijdjaa.Lg Go.Proofs.Ythicijpjpijdjaa.Lh Go.Proofs.Ythicijpjpijdjaa.KyQ Go.Proofs.Ythicijpjpijdjaa.KyR Go.Proofs.Ythicijpjpijdjaa.Li Go.Proofs.Ythicijpjpijdjaa.Lj Go.Proofs.Ythicijpjpijdjaa.Lk
set_option linter.unusedVariables false
set_option linter.unusedSimpArgs false
set_option linter.unusedSectionVars false


theorem equal81 (d : Nat) (a b : Int) (w : World) : (Op.equalIn (d + 2) 81 (.agg #[.int .i64 a, .int .i64 b]) (.agg #[.int .i64 a, .int .i64 b])).run Try.prog w = .ok true w := by
  have hi : ∀ (a : Int) (w : World), (Op.equalIn (d + 1) 2 (.int .i64 a) (.int .i64 a)).run Try.prog w = .ok true w := fun a w => by
    unfold Op.equalIn
    simp
  unfold Op.equalIn
  simp [Try.stoodInHeld81, part, forIn, hi]
theorem check81e (em : Bool) (r : Rv) (w : World) : (Instr.checkKey em 10000 81 (rk r)).run Try.prog w = .ok () w := by
  have c2 : ∀ (d : Nat) (a : Int) (w : World), (Instr.checkKey em (d + 1) 2 (.int .i64 a)).run Try.prog w = .ok () w := fun d a w => by
    unfold Instr.checkKey
    simp [run_underlying Try.underlying2 w]
  have h : ∀ d : Nat, (Instr.checkKey em (d + 1 + 1) 81 (rk r)).run Try.prog w = .ok () w := fun d => by
    unfold Instr.checkKey
    simp only [Sem.run_bind, run_underlying Try.underlying81 w, Result.andThen_ok, rk]
    rw [← Array.forIn_toList]
    simp [List.forIn_cons, List.forIn_nil, p0, p1, c2]
  exact h 9998
theorem find81 (r : Rv) (v : Value) (w : World) : (Instr.findKey 81 (rk r) [{ key := rk r, val := v, born := 0 }]).run Try.prog w = .ok (some (0, v)) w := by
  have h : (Op.equal 81 (rk r) (rk r)).run Try.prog w = .ok true w := equal81 9998 r.m r.s w
  unfold Instr.findKey
  simp [run_underlying Try.underlying81 w, Instr.findNow, Instr.sameNow, Instr.findAsking, h]
section
variable {W : World} {Q : Exit → Act → World → Prop} {n : Nat} {l : List (Nat × Value)} {L : List HProp} {o : Oper}
theorem Eff.moDel {x ix : Operand} {b : Nat} {r : Rv} (ho : o.op = .call { callee := .builtin .delete, args := #[x, ix], argTypes := #[145, 81] }) (hx : ev l x = some (.map (some b))) (hi : ev l ix = some (rk r)) : Eff Try.prog W Q n l (MO b (some r) :: L) o (Sets (Obk b (.map #[] 1) :: L)) := fun a w hf hs K hK => by
  have hb : w.heap[b]? = some (.map #[{ key := rk r, val := .agg #[], born := 0 }] 1) := hs.head.obk
  have e2 : (execOp a.eval o).run Try.prog w = .ok (.value (.tuple #[])) { w with heap := w.heap.setIfInBounds b (.map #[] 1) } := by
    simp [execOp, ho, resolve, hf.ev hx, hf.ev hi, Go.invoke, Go.builtin, Builtin.delete_, run_underlying Try.underlying145 w, MapKept.run_getObj_map hb, check81e, find81, MapKept.run_setObj_map _ hb, Result.andThen]
  have hh := MapKept.heap_set (o' := .map #[] 1) hb
  unfold Oper.wp
  rw [e2, Oper.upon_value]
  exact hK _ _ _ rfl (hs.write _ rfl rfl rfl (by simp) hh.1 hh.2)
/-- the loop over a map from which its one entry was taken -/
theorem Eff.mdRange {x : Operand} {b : Nat} (ho : o.op = .range 145 x) (hx : ev l x = some (.map (some b))) : Eff Try.prog W Q n l (Obk b (.map #[] 1) :: L) o (fun u M => ∃ it, u = .pointer (some ⟨it, 0, none⟩) ∧ M = Obk it (.mapIter (some b) 1 #[] 1) :: Obk b (.map #[] 1) :: L) := fun a w hf hs K hK => by
  have hb : w.heap[b]? = some (.map #[] 1) := hs.head.obk
  have hr := run_range_map w 145 81 215 b #[] 1 Try.underlying145 hb
  unfold Oper.wp
  simp only [execOp, ho, hf.ev hx, Sem.run_bind, hr]
  exact hK _ _ _ ⟨_, rfl, rfl⟩ (hs.alloc _)
theorem Eff.mdEnd {x : Operand} {it b : Nat} (ho : o.op = .next x false) (hx : ev l x = some (.pointer (some ⟨it, 0, none⟩))) : Eff Try.prog W Q n l (Obk it (.mapIter (some b) 1 #[] 1) :: Obk b (.map #[] 1) :: L) o (fun u M => u = .tuple #[.bool false] ∧ M = Obk it (.mapIter (some b) 1 #[] 1) :: Obk b (.map #[] 1) :: L) := fun a w hf hs K hK => by
  have hr : w.heap[it]? = some (.mapIter (some b) 1 #[] 1) := hs.head.obk
  have hb : w.heap[b]? = some (.map #[] 1) := hs.drop.head.obk
  have hn : (Instr.next (.pointer (some ⟨it, 0, none⟩)) false o.type).run Try.prog w = .ok (.tuple #[.bool false]) w := by
    rcases run_next_at (P := Try.prog) w o.type it b 1 1 #[] #[] 1 hr hb (by simp) (Nat.le_refl _) with ⟨-, h⟩ | ⟨e, he, -⟩
    · exact h
    · simp [leftOf] at he
  unfold Oper.wp
  simp only [execOp, ho, hf.ev hx, Sem.run_bind, hn]
  exact hK _ _ _ ⟨rfl, rfl⟩ hs
end
/-- whether what a compaction would keep is an end, which is left out -/
def kdel (s : KI) (at_ : Int) : Bool := match s.gs[gx s.gs at_ (s.gs.length - 1) 0]? with
  | some g => decide (0 < g.revs.length ∧ wk g.revs at_ g.revs.length = g.revs.length ∧ gx s.gs at_ (s.gs.length - 1) 0 + 1 ≠ s.gs.length)
  | none => false
def MOD (b : Nat) (q : Option Rv) (d : Bool) : HProp := if d then Obk b (.map #[] 1) else MO b q
def kkeep (s : KI) (at_ : Int) : List Rv := if kdel s at_ then [] else (kav s at_).toList
theorem kdel_of {s : KI} {at_ : Int} {i : Nat} {g : Gn} (hg : s.gs[i]? = some g) (hi : gx s.gs at_ (s.gs.length - 1) 0 = i) : kdel s at_ = decide (0 < g.revs.length ∧ wk g.revs at_ g.revs.length = g.revs.length ∧ i + 1 ≠ s.gs.length) := by unfold kdel; rw [hi, hg]
theorem kav_at {s : KI} {at_ : Int} {i : Nat} {g : Gn} (hg : s.gs[i]? = some g) (hi : gx s.gs at_ (s.gs.length - 1) 0 = i) : kav s at_ = wkr g.revs at_ := by unfold kav; rw [hi, hg]
set_option maxRecDepth 100000 in
set_option maxHeartbeats 2000000 in
theorem keep_spec (b : Nat) (ka : Option Addr) (kn kc : Nat) (s : KI) (hsm : Small s.gs) (hemp : emp s.gs = false) (hgpos : 0 < s.gs.length) (hfull : Full s.gs) (at_ : Int) (mb : Nat) : Does Try.prog 104 [.pointer (some ⟨b, 0, none⟩), .int .i64 (at_), .map (some mb)] [KIs b ka kn kc s, MO mb none] (fun v L => v = .tuple #[] ∧ L = [KIs b ka kn kc s, MOD mb (kav s at_) (kdel s at_)]) := by
  refine Does.enter 53 Try.func104 rfl rfl rfl fun W F => ?_
  show WPc _ _ _ _ _ [(0, .pointer (some ⟨b, 0, none⟩)), (1, .int .i64 (at_)), (2, .map (some mb))] (KIs b ka kn kc s :: MO mb none :: F)
  refine WPc.seq ?_
  refine WPc.seq ?_
  refine WPc.open (fun w h => kis_rd h) ?_
  rintro ⟨vg, gl, E⟩
  refine WPc.pure (fun hkis => ?_)
  obtain ⟨hgl, hG, back⟩ := hkis
  dsimp only at hgl hG back
  have hsg : Small (gl.map (·.1)) := by rw [hgl]; exact hsm
  show WPc _ _ _ _ _ _ (Blk b [.slice ka kn kc, .int .i64 (s.md.m), .int .i64 (s.md.s), vg] 153 :: E :: MO mb none :: F)
  have hgp : 0 < gl.length := by rw [← List.length_map (f := Prod.fst)]; rw [hgl]; exact hgpos
  obtain ⟨b0, o0, c0, rfl, hr⟩ := Rd.row hG.rd hgp
  show WPc _ _ _ _ _ _ (Blk b [.slice ka kn kc, .int .i64 (s.md.m), .int .i64 (s.md.s), .slice (some ⟨b0, o0, none⟩) gl.length c0] 153 :: E :: MO mb none :: F)
  refine WPc.region ?_
  refine WP.val rfl rfl rfl (Val.move rfl rfl) ?_
  refine WP.perm pl1 ?_
  refine WP.perm pl1 ?_
  refine WP.eff rfl rfl rfl (Eff.call rfl rfl Try.call105 (kempty_row E b ka kn kc s.md gl hsg hG.inn b0 o0 c0 hr)) ?_
  rintro _ _ ⟨_, ⟨rfl, rfl⟩, rfl⟩
  show WP _ _ _ _ _ _ _ (Blk b [.slice ka kn kc, .int .i64 (s.md.m), .int .i64 (s.md.s), .slice (some ⟨b0, o0, none⟩) gl.length c0] 153 :: E :: MO mb none :: F)
  refine WP.nil ?_
  refine Out.next ?_
  refine WPc.cond rfl (fun h1 => ?_) (fun h1 => ?_)
  · skip
    have h1 : ((emp (gl.map (·.1)))) = true := h1
    exfalso; rw [hgl, hemp] at h1; cases h1
  · skip
    have h1 : ((emp (gl.map (·.1)))) = false := h1
    refine WPc.skip ?_
    refine Out.next ?_
    refine WPc.seq ?_
    refine WPc.region ?_
    refine WP.val rfl rfl rfl (Val.move rfl rfl) ?_
    refine WP.val rfl rfl rfl (Val.move rfl rfl) ?_
    refine WP.val rfl rfl rfl (Val.move rfl rfl) ?_
    refine WP.perm pl2 ?_
    refine WP.perm pl2 ?_
    refine WP.perm pl2 ?_
    refine WP.eff rfl rfl rfl (Eff.call rfl rfl Try.call117 (docompact_spec E b ka kn kc s.md at_ mb gl hsg hG.inn hgp (by rw [hgl]; exact hfull) b0 o0 c0 hr)) ?_
    rintro _ _ ⟨_, ⟨i, g, hi, hgj, hgx, rfl, rfl⟩, rfl⟩
    show WP _ _ _ _ _ _ _ (Blk b [.slice ka kn kc, .int .i64 (s.md.m), .int .i64 (s.md.s), .slice (some ⟨b0, o0, none⟩) gl.length c0] 153 :: E :: MO mb (wkr g.revs at_) :: F)
    refine WP.val rfl rfl rfl (Val.move rfl rfl) ?_
    refine WP.val rfl rfl rfl (Val.extract rfl rfl rfl) ?_
    refine WP.val rfl rfl rfl (Val.extract rfl rfl rfl) ?_
    refine WP.val rfl rfl rfl (Val.assign rfl rfl) ?_
    refine WP.val rfl rfl rfl (Val.assign rfl rfl) ?_
    refine WP.nil ?_
    refine Out.next ?_
    refine WPc.seq ?_
    obtain ⟨⟨g1, u⟩, hx⟩ : ∃ x, gl[i]? = some x := ⟨_, List.getElem?_eq_getElem hi⟩
    obtain rfl : g1 = g := by rw [List.getElem?_map, hx] at hgj; exact Option.some.inj hgj
    have hin1 : Rd E 2 Rv.cells u g1.revs := hG.inn _ (List.mem_iff_getElem?.2 ⟨_, hx⟩)
    have hgn : gl.length = s.gs.length := by rw [← hgl, List.length_map]
    rw [hgl] at hgj
    have hgx2 : gx s.gs at_ (s.gs.length - 1) 0 = i := by rw [← hgn, ← hgl]; exact hgx
    have hsx : g1.revs.length ≤ 200000 := hsg.inn (List.mem_iff_getElem?.2 ⟨_, hx⟩)
    have hlen := hsg.len
    have hwl := wk_le g1.revs at_ g1.revs.length
    have hkd := kdel_of hgj hgx2
    have hka := kav_at hgj hgx2
    show WPc _ _ _ _ _ _ (Blk b [.slice ka kn kc, .int .i64 (s.md.m), .int .i64 (s.md.s), .slice (some ⟨b0, o0, none⟩) gl.length c0] 153 :: E :: MO mb (wkr g1.revs at_) :: F)
    refine WPc.region ?_
    refine WP.val rfl rfl rfl (Val.move rfl rfl) ?_
    refine WP.val rfl rfl rfl (Val.nilCheck rfl rfl) ?_
    refine WP.val rfl rfl rfl (Val.fieldAddr (j := 3) rfl Ty.fo153_2 rfl rfl) ?_
    refine WP.val rfl rfl rfl (Val.load rfl Ty.sc151 rfl (fun w h => h.cell 0 rfl rfl)) ?_
    refine WP.val rfl rfl rfl (Val.move rfl rfl) ?_
    refine WP.val rfl rfl rfl (Val.indexAddr (j := i) (q := o0 + i * 4) rfl Ty.sl151 rfl rfl (by omega) (by omega) (by omega)) ?_
    refine WP.val rfl rfl rfl (Val.assign rfl rfl) ?_
    refine WP.nil ?_
    refine Out.next ?_
    refine WPc.seq ?_
    refine WPc.region ?_
    refine WP.val rfl rfl rfl (Val.move rfl rfl) ?_
    refine WP.perm pl1 ?_
    refine WP.eff rfl rfl rfl (Eff.call rfl rfl Try.call112 (gempty_row E gl b0 o0 hr i g1 _ hx hin1)) ?_
    rintro _ _ ⟨_, ⟨rfl, rfl⟩, rfl⟩
    show WP _ _ _ _ _ _ _ (E :: Blk b [.slice ka kn kc, .int .i64 (s.md.m), .int .i64 (s.md.s), .slice (some ⟨b0, o0, none⟩) gl.length c0] 153 :: MO mb (wkr g1.revs at_) :: F)
    refine WP.val rfl rfl rfl (Val.notP rfl rfl) ?_
    refine WP.nil ?_
    refine Out.next ?_
    refine WPc.ifP rfl (fun h2 => ?_) (fun h2 => ?_)
    · skip
      have h2 : (¬ (g1.revs.length = 0)) := h2
      refine WPc.seq ?_
      refine WPc.region ?_
      refine WP.val rfl rfl rfl (Val.move rfl rfl) ?_
      refine WP.val rfl rfl rfl (Val.move rfl rfl) ?_
      refine WP.val rfl rfl rfl (Val.nilCheck rfl rfl) ?_
      refine WP.val rfl rfl rfl (Val.fieldAddr (j := o0 + i * 4 + 3) rfl Ty.fo155_2 rfl rfl) ?_
      refine WP.val rfl rfl rfl (Val.load (v := u) rfl Ty.sc132 rfl (fun w h => hr w (h.at 0 rfl) i (g1, u) hx 3 _ rfl)) ?_
      refine WP.val rfl rfl rfl (Rd.len hin1 rfl Ty.sl132 rfl) ?_
      refine WP.val rfl rfl rfl (Val.sub (z := ((g1.revs.length - 1 : Nat) : Int)) rfl rfl rfl ((w64 (by omega) (by omega)).trans (by omega))) ?_
      refine WP.val rfl rfl rfl (Val.eql rfl rfl rfl) ?_
      refine WP.val rfl rfl rfl (Val.move rfl rfl) ?_
      refine WP.split 35 rfl (fun h3 => ?_) (fun h3 => ?_)
      · skip
        have h3 : (((wk g1.revs at_ g1.revs.length : Int) - 1) = ((g1.revs.length - 1 : Nat) : Int)) := h3
        refine WP.valG rfl rfl rfl rfl rfl rfl rfl (Val.move rfl rfl) ?_
        refine WP.valG rfl rfl rfl rfl rfl rfl rfl (Val.move rfl rfl) ?_
        refine WP.valG rfl rfl rfl rfl rfl rfl rfl (Val.nilCheck rfl rfl) ?_
        refine WP.valG rfl rfl rfl rfl rfl rfl rfl (Val.fieldAddr (j := 3) rfl Ty.fo153_2 rfl rfl) ?_
        refine WP.valG rfl rfl rfl rfl rfl rfl rfl (Val.load rfl Ty.sc151 rfl (fun w h => h.cell 1 rfl rfl)) ?_
        refine WP.valG rfl rfl rfl rfl rfl rfl rfl (Val.len rfl Ty.sl151 rfl) ?_
        refine WP.valG rfl rfl rfl rfl rfl rfl rfl (Val.sub (z := ((gl.length - 1 : Nat) : Int)) rfl rfl rfl ((w64 (by omega) (by omega)).trans (by omega))) ?_
        refine WP.valG rfl rfl rfl rfl rfl rfl rfl (Val.neq rfl rfl rfl) ?_
        refine WP.val rfl rfl rfl (Val.pickT rfl rfl rfl) ?_
        refine WP.nil ?_
        refine Out.next ?_
        refine WPc.ifP rfl (fun h4 => ?_) (fun h4 => ?_)
        · skip
          have h4 : (((i : Nat) : Int) ≠ ((gl.length - 1 : Nat) : Int)) := h4
          obtain ⟨bi, oi, ci, rfl, hri⟩ := Rd.row hin1 (by omega)
          obtain ⟨n, hn⟩ : ∃ n, wk g1.revs at_ g1.revs.length = n + 1 := ⟨g1.revs.length - 1, by omega⟩
          obtain ⟨r, hrn⟩ : ∃ y, g1.revs[n]? = some y := ⟨_, List.getElem?_eq_getElem (by omega)⟩
          have hwr := wkr_some hn hrn
          refine WPc.know 7 (.int .i64 ((n : Nat) : Int)) rfl (congrArg (Value.int .i64) (by omega)) ?_
          refine WPc.perm pl2 ?_
          refine WPc.conv (M := MO mb (some r) :: E :: Blk b [.slice ka kn kc, .int .i64 (s.md.m), .int .i64 (s.md.s), .slice (some ⟨b0, o0, none⟩) gl.length c0] 153 :: F) (fun w h => by rw [hwr] at h; exact h) ?_
          refine WPc.region ?_
          refine WP.val rfl rfl rfl (Val.move rfl rfl) ?_
          refine WP.val rfl rfl rfl (Val.move rfl rfl) ?_
          refine WP.val rfl rfl rfl (Val.nilCheck rfl rfl) ?_
          refine WP.val rfl rfl rfl (Val.fieldAddr (j := o0 + i * 4 + 3) rfl Ty.fo155_2 rfl rfl) ?_
          refine WP.val rfl rfl rfl (Val.load (v := .slice (some ⟨bi, oi, none⟩) g1.revs.length ci) rfl Ty.sc132 rfl (fun w h => hr w (h.at 1 rfl) i (g1, _) hx 3 _ rfl)) ?_
          refine WP.val rfl rfl rfl (Val.move rfl rfl) ?_
          refine WP.val rfl rfl rfl (Val.indexAddr (j := n) (q := oi + n * 2) rfl Ty.sl132 rfl rfl (by omega) (by omega) (by omega)) ?_
          refine WP.val rfl rfl rfl (Val.loadAgg (cs := (Rv.cells r)) rfl Ty.ag81 rfl (by rfl) (fun w h => hri w (h.at 1 rfl) n r hrn)) ?_
          refine WP.eff0 rfl rfl (Eff.moDel rfl rfl rfl) ?_
          rintro _ _ rfl
          refine WP.nil ?_
          refine Out.perm pl1 ?_
          refine Out.perm pl2 ?_
          refine Out.conv (fun w h => back w _ h) ?_
          show Out _ _ _ _ _ (KIs b ka kn kc s :: Obk mb (.map #[] 1) :: F)
          exact Out.end0 (L' := _) Try.results104 ⟨rfl, rfl⟩ (fun w h => by unfold MOD; rw [show kdel s at_ = true from (by rw [hkd]; exact decide_eq_true (by omega)), hka]; exact h)
        · skip
          have h4 : ¬ (((i : Nat) : Int) ≠ ((gl.length - 1 : Nat) : Int)) := h4
          refine WPc.skip ?_
          refine Out.perm pl1 ?_
          refine Out.conv (fun w h => back w _ h) ?_
          show Out _ _ _ _ _ (KIs b ka kn kc s :: MO mb (wkr g1.revs at_) :: F)
          exact Out.end0 (L' := _) Try.results104 ⟨rfl, rfl⟩ (fun w h => by unfold MOD; rw [show kdel s at_ = false from (by rw [hkd]; exact decide_eq_false (by omega)), hka]; exact h)
      · skip
        have h3 : ¬ (((wk g1.revs at_ g1.revs.length : Int) - 1) = ((g1.revs.length - 1 : Nat) : Int)) := h3
        refine WP.skip rfl rfl rfl rfl rfl rfl rfl ?_
        refine WP.skip rfl rfl rfl rfl rfl rfl rfl ?_
        refine WP.skip rfl rfl rfl rfl rfl rfl rfl ?_
        refine WP.skip rfl rfl rfl rfl rfl rfl rfl ?_
        refine WP.skip rfl rfl rfl rfl rfl rfl rfl ?_
        refine WP.skip rfl rfl rfl rfl rfl rfl rfl ?_
        refine WP.skip rfl rfl rfl rfl rfl rfl rfl ?_
        refine WP.skip rfl rfl rfl rfl rfl rfl rfl ?_
        refine WP.val rfl rfl rfl (Val.pickF rfl rfl rfl) ?_
        refine WP.nil ?_
        refine Out.next ?_
        refine WPc.condF rfl rfl ?_
        refine WPc.skip ?_
        refine Out.perm pl1 ?_
        refine Out.conv (fun w h => back w _ h) ?_
        show Out _ _ _ _ _ (KIs b ka kn kc s :: MO mb (wkr g1.revs at_) :: F)
        exact Out.end0 (L' := _) Try.results104 ⟨rfl, rfl⟩ (fun w h => by unfold MOD; rw [show kdel s at_ = false from (by rw [hkd]; exact decide_eq_false (by omega)), hka]; exact h)
    · skip
      have h2 : ¬ (¬ (g1.revs.length = 0)) := h2
      refine WPc.skip ?_
      refine Out.perm pl1 ?_
      refine Out.conv (fun w h => back w _ h) ?_
      show Out _ _ _ _ _ (KIs b ka kn kc s :: MO mb (wkr g1.revs at_) :: F)
      exact Out.end0 (L' := _) Try.results104 ⟨rfl, rfl⟩ (fun w h => by unfold MOD; rw [show kdel s at_ = false from (by rw [hkd]; exact decide_eq_false (by omega)), hka]; exact h)
set_option maxRecDepth 100000 in
set_option maxHeartbeats 2000000 in
theorem zkeep_spec (b : Nat) (ka : Option Addr) (kn kc : Nat) (s : KI) (hsm : Small s.gs) (hemp : emp s.gs = false) (hgpos : 0 < s.gs.length) (hfull : Full s.gs) (at_ : Int) : Does Try.prog 76 [.agg #[.pointer (some ⟨b, 0, none⟩)], .int .i64 (at_)] [KIs b ka kn kc s] (fun v L => ∃ mb : Nat, v = .map (some mb) ∧ L = [MOD mb (kav s at_) (kdel s at_), KIs b ka kn kc s]) := by
  refine Does.enter 13 Try.func76 rfl rfl rfl fun W F => ?_
  show WPc _ _ _ _ _ [(0, .agg #[.pointer (some ⟨b, 0, none⟩)]), (1, .int .i64 (at_))] (KIs b ka kn kc s :: F)
  refine WPc.seq ?_
  refine WPc.region ?_
  refine WP.eff rfl rfl rfl (Eff.box (C := [.pointer (some ⟨b, 0, none⟩)]) rfl rfl rfl) ?_
  rintro _ _ ⟨b1, rfl, rfl⟩
  refine WP.val rfl rfl rfl (Val.assign rfl rfl) ?_
  refine WP.nil ?_
  refine Out.next ?_
  refine WPc.seq ?_
  refine WPc.region ?_
  refine WP.eff rfl rfl rfl (Eff.moMake rfl) ?_
  rintro _ _ ⟨mb, rfl, rfl⟩
  refine WP.val rfl rfl rfl (Val.assign rfl rfl) ?_
  refine WP.nil ?_
  refine Out.next ?_
  refine WPc.seq ?_
  refine WPc.region ?_
  refine WP.val rfl rfl rfl (Val.fieldAddr (j := 0) rfl Ty.fo78_0 rfl rfl) ?_
  refine WP.val rfl rfl rfl (Val.load rfl Ty.sc76 rfl (fun w h => h.cell 1 rfl rfl)) ?_
  refine WP.val rfl rfl rfl (Val.move rfl rfl) ?_
  refine WP.val rfl rfl rfl (Val.move rfl rfl) ?_
  refine WP.perm pl2 ?_
  refine WP.eff rfl rfl rfl (Eff.call rfl rfl Try.call104 (keep_spec b ka kn kc s hsm hemp hgpos hfull at_ mb)) ?_
  rintro _ _ ⟨_, ⟨rfl, rfl⟩, rfl⟩
  show WP _ _ _ _ _ _ _ (KIs b ka kn kc s :: MOD mb (kav s at_) (kdel s at_) :: Blk b1 [.pointer (some ⟨b, 0, none⟩)] 78 :: F)
  refine WP.nil ?_
  refine Out.next ?_
  refine WPc.seq ?_
  refine WPc.region ?_
  refine WP.val rfl rfl rfl (Val.move rfl rfl) ?_
  refine WP.val rfl rfl rfl (Val.assign rfl rfl) ?_
  refine WP.nil ?_
  refine Out.next ?_
  refine WPc.ret ?_
  refine Out.perm pl2 ?_
  refine Out.drop ?_
  refine Out.perm pl1 ?_
  exact Out.ret1 (L' := _) Try.results76 rfl ⟨mb, rfl, rfl⟩ (fun _ h => h)
set_option maxRecDepth 100000 in
set_option maxHeartbeats 2000000 in
theorem kept_d (mb : Nat) : Does Try.prog 74 [.map (some mb)] [Obk mb (.map #[] 1)] (fun v L => L = [Own 32 2 v 0 []]) := by
  refine Does.enter 19 Try.func74 rfl rfl rfl fun W F => ?_
  show WPc _ _ _ _ _ [(0, .map (some mb))] (Obk mb (.map #[] 1) :: F)
  refine WPc.seq ?_
  refine WPc.region ?_
  refine WP.val rfl rfl rfl (Val.assign rfl rfl) ?_
  refine WP.nil ?_
  refine Out.next ?_
  refine WPc.seq ?_
  refine WPc.region ?_
  refine WP.val rfl rfl rfl (Val.assign rfl rfl) ?_
  refine WP.nil ?_
  refine Out.next ?_
  refine WPc.seq ?_
  refine WPc.seq ?_
  refine WPc.conv (fun w h => h.ownNil (e := 32) (k := 2)) ?_
  show WPc _ _ _ _ _ _ (Own 32 2 (.slice none 0 0) 0 ([]) :: Obk mb (.map #[] 1) :: F)
  refine WPc.region ?_
  refine WP.val rfl rfl rfl (Val.move rfl rfl) ?_
  refine WP.perm pl1 ?_
  refine WP.eff rfl rfl rfl (Eff.mdRange rfl rfl) ?_
  rintro _ _ ⟨it, rfl, rfl⟩
  refine WP.nil ?_
  refine Out.next ?_
  refine WPc.block ?_
  refine WPc.perm pl1 ?_
  refine WPc.perm pl1 ?_
  refine WPc.perm pl2 ?_
  refine WPc.loop (ι := Value) (fun v => True) (fun v => [(3, v), (6, .pointer (some ⟨it, 0, none⟩))]) (fun v => Own 32 2 v 0 ([]) :: Obk it (.mapIter (some mb) 1 #[] 1) :: Obk mb (.map #[] 1) :: F) (fun v => 0) (.slice none 0 0) trivial ((Sub.cons rfl (Sub.cons rfl Sub.nil))) (fun _ h => h) ?_
  rintro v -
  show WPc _ _ _ _ _ [(3, v), (6, .pointer (some ⟨it, 0, none⟩))] (Own 32 2 v 0 ([]) :: Obk it (.mapIter (some mb) 1 #[] 1) :: Obk mb (.map #[] 1) :: F)
  refine WPc.seq ?_
  refine WPc.region ?_
  refine WP.perm pl2 ?_
  refine WP.perm pl2 ?_
  refine WP.eff rfl rfl rfl (Eff.mdEnd rfl rfl) ?_
  rintro _ _ ⟨rfl, rfl⟩
  refine WP.val rfl rfl rfl (Val.extract rfl rfl rfl) ?_
  refine WP.nil ?_
  refine Out.next ?_
  refine WPc.seq ?_
  refine WPc.condF rfl rfl ?_
  refine WPc.exit ?_
  refine Out.then_exit ?_
  refine Out.then_exit ?_
  refine Out.block_exit ?_
  refine Out.next ?_
  refine WPc.seq ?_
  refine WPc.perm pl2 ?_
  refine WPc.fact (fun w h => own_slice h) (fun hsl1 => ?_)
  obtain ⟨a1, k1, rfl⟩ := hsl1
  show WPc _ _ _ _ _ _ (Own 32 2 (.slice a1 0 k1) 0 ([]) :: Obk it (.mapIter (some mb) 1 #[] 1) :: Obk mb (.map #[] 1) :: F)
  refine WPc.region ?_
  refine WP.val rfl rfl rfl (Val.move rfl rfl) ?_
  refine WP.eff rfl rfl rfl (Eff.call rfl rfl Try.call101 (sort_0 a1 k1)) ?_
  rintro _ _ ⟨_, ⟨rfl, rfl⟩, rfl⟩
  show WP _ _ _ _ _ _ _ (Own 32 2 (.slice a1 0 k1) 0 ([]) :: Obk it (.mapIter (some mb) 1 #[] 1) :: Obk mb (.map #[] 1) :: F)
  refine WP.nil ?_
  refine Out.next ?_
  refine WPc.seq ?_
  refine WPc.region ?_
  refine WP.val rfl rfl rfl (Val.move rfl rfl) ?_
  refine WP.val rfl rfl rfl (Val.assign rfl rfl) ?_
  refine WP.nil ?_
  refine Out.next ?_
  refine WPc.ret ?_
  refine Out.perm pl1 ?_
  refine Out.drop ?_
  refine Out.perm pl1 ?_
  refine Out.drop ?_
  exact Out.ret1 (L' := _) Try.results74 rfl rfl (fun _ h => h)

theorem keptD_spec (mb : Nat) (s : KI) (at_ : Int) : Does Try.prog 74 [.map (some mb)] [MOD mb (kav s at_) (kdel s at_)] (fun v L => L = [Own 32 2 v (kkeep s at_).length (flatOf Rv.cells (kkeep s at_))]) := by
  unfold MOD kkeep
  cases kdel s at_ with
  | true => exact kept_d mb
  | false => exact Lg.kept_spec mb (kav s at_)
set_option maxRecDepth 100000 in
set_option maxHeartbeats 2000000 in
theorem keyed_keep (b : Nat) (ka : Option Addr) (kn kc : Nat) (s : KI) (hsm : Small s.gs) (o : KOp) (hk : o.k = 8) (hemp : emp s.gs = false) (hgpos : 0 < s.gs.length) (hfull : Full s.gs) (hsm2 : Small s.gs) : Does Try.prog 35 [.agg #[.pointer (some ⟨b, 0, none⟩)], .agg #[.int .i64 (o.k), .int .i64 (o.r.m), .int .i64 (o.r.s), .int .i64 (o.c.m), .int .i64 (o.c.s), .int .i64 (o.v), .int .i64 (o.at_)]] [KIs b ka kn kc s] (fun v L => ∃ (vr vg : Value) (g2 : List GV), v = KAns ({ KA0 with revs := kkeep s o.at_ } : KA) vr s.md vg ∧ g2.map (·.1) = s.gs ∧ L = [Own 32 2 vr ({ KA0 with revs := kkeep s o.at_ } : KA).revs.length (flatOf Rv.cells ({ KA0 with revs := kkeep s o.at_ } : KA).revs), Own 53 4 vg g2.length (flatOf GV.cells g2), Kds (GVPe 32) g2, KIs b ka kn kc s]) := by
  refine Does.enter 104 Try.func35 rfl rfl rfl fun W F => ?_
  show WPc _ _ _ _ _ [(0, .agg #[.pointer (some ⟨b, 0, none⟩)]), (1, .agg #[.int .i64 (o.k), .int .i64 (o.r.m), .int .i64 (o.r.s), .int .i64 (o.c.m), .int .i64 (o.c.s), .int .i64 (o.v), .int .i64 (o.at_)])] (KIs b ka kn kc s :: F)
  refine WPc.seq ?_
  refine WPc.region ?_
  refine WP.eff rfl rfl rfl (Eff.box (C := [.pointer (some ⟨b, 0, none⟩)]) rfl rfl rfl) ?_
  rintro _ _ ⟨b1, rfl, rfl⟩
  refine WP.eff rfl rfl rfl (Eff.box (C := [.int .i64 (o.k), .int .i64 (o.r.m), .int .i64 (o.r.s), .int .i64 (o.c.m), .int .i64 (o.c.s), .int .i64 (o.v), .int .i64 (o.at_)]) rfl rfl rfl) ?_
  rintro _ _ ⟨b2, rfl, rfl⟩
  refine WP.eff rfl rfl rfl (Eff.alloc rfl Ty.z42) ?_
  rintro _ _ ⟨b3, rfl, rfl⟩
  refine WP.nil ?_
  refine Out.next ?_
  refine WPc.seq ?_
  refine WPc.region ?_
  refine WP.val rfl rfl rfl (Val.mk (cs := [.bool false, .int .i64 0, .int .i64 0, .int .i64 0, .int .i64 0, .int .i64 0, .slice none 0 0, .int .i64 0, .int .i64 0, .slice none 0 0]) rfl rfl (fun _ => by kernel_rfl)) ?_
  refine WP.eff rfl rfl rfl (Eff.alloc rfl Ty.z42) ?_
  rintro _ _ ⟨b4, rfl, rfl⟩
  refine WP.eff0 rfl rfl (Eff.storeAgg (cs := [.bool false, .int .i64 0, .int .i64 0, .int .i64 0, .int .i64 0, .int .i64 0, .slice none 0 0, .int .i64 0, .int .i64 0, .slice none 0 0]) (C' := [.bool false, .int .i64 0, .int .i64 0, .int .i64 0, .int .i64 0, .int .i64 0, .slice none 0 0, .int .i64 0, .int .i64 0, .slice none 0 0]) rfl Ty.ag42 rfl rfl rfl rfl (by simp) rfl) ?_
  rintro _ _ rfl
  refine WP.nil ?_
  refine Out.next ?_
  refine WPc.seq ?_
  refine WPc.seq ?_
  refine WPc.region ?_
  refine WP.val rfl rfl rfl (Val.fieldAddr (j := 0) rfl Ty.fo38_0 rfl rfl) ?_
  refine WP.val rfl rfl rfl (Val.load rfl Ty.sc3 rfl (fun w h => h.cell 2 rfl rfl)) ?_
  refine WP.nil ?_
  refine Out.next ?_
  refine WPc.block ?_
  refine WPc.seq ?_
  refine WPc.region ?_
  refine WP.val rfl rfl rfl (Val.eql rfl rfl rfl) ?_
  refine WP.val rfl rfl rfl (Val.assign rfl rfl) ?_
  refine WP.nil ?_
  refine Out.next ?_
  refine WPc.ifP rfl (fun h1 => ?_) (fun h1 => ?_)
  · skip
    have h1 : (o.k = (1 : Int)) := h1
    exfalso; omega
  · skip
    have h1 : ¬ (o.k = (1 : Int)) := h1
    refine WPc.seq ?_
    refine WPc.region ?_
    refine WP.val rfl rfl rfl (Val.eql rfl rfl rfl) ?_
    refine WP.val rfl rfl rfl (Val.assign rfl rfl) ?_
    refine WP.nil ?_
    refine Out.next ?_
    refine WPc.ifP rfl (fun h2 => ?_) (fun h2 => ?_)
    · skip
      have h2 : (o.k = (2 : Int)) := h2
      exfalso; omega
    · skip
      have h2 : ¬ (o.k = (2 : Int)) := h2
      refine WPc.seq ?_
      refine WPc.region ?_
      refine WP.val rfl rfl rfl (Val.eql rfl rfl rfl) ?_
      refine WP.val rfl rfl rfl (Val.assign rfl rfl) ?_
      refine WP.nil ?_
      refine Out.next ?_
      refine WPc.ifP rfl (fun h3 => ?_) (fun h3 => ?_)
      · skip
        have h3 : (o.k = (3 : Int)) := h3
        exfalso; omega
      · skip
        have h3 : ¬ (o.k = (3 : Int)) := h3
        refine WPc.seq ?_
        refine WPc.region ?_
        refine WP.val rfl rfl rfl (Val.eql rfl rfl rfl) ?_
        refine WP.val rfl rfl rfl (Val.assign rfl rfl) ?_
        refine WP.nil ?_
        refine Out.next ?_
        refine WPc.ifP rfl (fun h4 => ?_) (fun h4 => ?_)
        · skip
          have h4 : (o.k = (4 : Int)) := h4
          exfalso; omega
        · skip
          have h4 : ¬ (o.k = (4 : Int)) := h4
          refine WPc.seq ?_
          refine WPc.region ?_
          refine WP.val rfl rfl rfl (Val.eql rfl rfl rfl) ?_
          refine WP.val rfl rfl rfl (Val.assign rfl rfl) ?_
          refine WP.nil ?_
          refine Out.next ?_
          refine WPc.ifP rfl (fun h5 => ?_) (fun h5 => ?_)
          · skip
            have h5 : (o.k = (5 : Int)) := h5
            exfalso; omega
          · skip
            have h5 : ¬ (o.k = (5 : Int)) := h5
            refine WPc.seq ?_
            refine WPc.region ?_
            refine WP.val rfl rfl rfl (Val.eql rfl rfl rfl) ?_
            refine WP.val rfl rfl rfl (Val.assign rfl rfl) ?_
            refine WP.nil ?_
            refine Out.next ?_
            refine WPc.ifP rfl (fun h6 => ?_) (fun h6 => ?_)
            · skip
              have h6 : (o.k = (6 : Int)) := h6
              exfalso; omega
            · skip
              have h6 : ¬ (o.k = (6 : Int)) := h6
              refine WPc.seq ?_
              refine WPc.region ?_
              refine WP.val rfl rfl rfl (Val.eql rfl rfl rfl) ?_
              refine WP.val rfl rfl rfl (Val.assign rfl rfl) ?_
              refine WP.nil ?_
              refine Out.next ?_
              refine WPc.ifP rfl (fun h7 => ?_) (fun h7 => ?_)
              · skip
                have h7 : (o.k = (7 : Int)) := h7
                exfalso; omega
              · skip
                have h7 : ¬ (o.k = (7 : Int)) := h7
                refine WPc.seq ?_
                refine WPc.region ?_
                refine WP.val rfl rfl rfl (Val.eql rfl rfl rfl) ?_
                refine WP.val rfl rfl rfl (Val.assign rfl rfl) ?_
                refine WP.nil ?_
                refine Out.next ?_
                refine WPc.ifP rfl (fun h8 => ?_) (fun h8 => ?_)
                · skip
                  have h8 : (o.k = (8 : Int)) := h8
                  refine WPc.region ?_
                  refine WP.val rfl rfl rfl (Val.loadAgg (cs := [.pointer (some ⟨b, 0, none⟩)]) rfl Ty.ag78 rfl rfl (fun w h => h.range 3 rfl rfl)) ?_
                  refine WP.val rfl rfl rfl (Val.fieldAddr (j := 6) rfl Ty.fo38_4 rfl rfl) ?_
                  refine WP.val rfl rfl rfl (Val.load rfl Ty.sc2 rfl (fun w h => h.cell 2 rfl rfl)) ?_
                  refine WP.perm pl4 ?_
                  refine WP.eff rfl rfl rfl (Eff.call rfl rfl Try.call76 (zkeep_spec b ka kn kc s hsm hemp hgpos hfull o.at_)) ?_
                  rintro _ _ ⟨_, ⟨mb, rfl, rfl⟩, rfl⟩
                  show WP _ _ _ _ _ _ _ (MOD mb (kav s o.at_) (kdel s o.at_) :: KIs b ka kn kc s :: Blk b4 [.bool false, .int .i64 0, .int .i64 0, .int .i64 0, .int .i64 0, .int .i64 0, .slice none 0 0, .int .i64 0, .int .i64 0, .slice none 0 0] 42 :: Blk b3 [.bool false, .int .i64 0, .int .i64 0, .int .i64 0, .int .i64 0, .int .i64 0, .slice none 0 0, .int .i64 0, .int .i64 0, .slice none 0 0] 42 :: Blk b2 [.int .i64 (o.k), .int .i64 (o.r.m), .int .i64 (o.r.s), .int .i64 (o.c.m), .int .i64 (o.c.s), .int .i64 (o.v), .int .i64 (o.at_)] 38 :: Blk b1 [.pointer (some ⟨b, 0, none⟩)] 78 :: F)
                  refine WP.eff rfl rfl rfl (Eff.call rfl rfl Try.call74 (keptD_spec mb s o.at_)) ?_
                  rintro vk _ ⟨_, rfl, rfl⟩
                  show WP _ _ _ _ _ _ _ (Own 32 2 vk ((kkeep s o.at_).length) (flatOf Rv.cells (kkeep s o.at_)) :: KIs b ka kn kc s :: Blk b4 [.bool false, .int .i64 0, .int .i64 0, .int .i64 0, .int .i64 0, .int .i64 0, .slice none 0 0, .int .i64 0, .int .i64 0, .slice none 0 0] 42 :: Blk b3 [.bool false, .int .i64 0, .int .i64 0, .int .i64 0, .int .i64 0, .int .i64 0, .slice none 0 0, .int .i64 0, .int .i64 0, .slice none 0 0] 42 :: Blk b2 [.int .i64 (o.k), .int .i64 (o.r.m), .int .i64 (o.r.s), .int .i64 (o.c.m), .int .i64 (o.c.s), .int .i64 (o.v), .int .i64 (o.at_)] 38 :: Blk b1 [.pointer (some ⟨b, 0, none⟩)] 78 :: F)
                  refine WP.fact (fun w h => own_oneCell h) (fun onk => ?_)
                  refine WP.val rfl rfl rfl (Val.fieldAddr (j := 6) rfl Ty.fo42_4 rfl rfl) ?_
                  refine WP.perm pl2 ?_
                  refine WP.eff0 rfl rfl (Eff.store rfl Ty.sc40 rfl rfl onk (by simp) st6) ?_
                  rintro _ _ rfl
                  refine WP.nil ?_
                  refine Out.block ?_
                  refine Out.next ?_
                  refine WPc.seq ?_
                  refine WPc.region ?_
                  refine WP.val rfl rfl rfl (Val.loadAgg (cs := [.pointer (some ⟨b, 0, none⟩)]) rfl Ty.ag78 rfl rfl (fun w h => h.range 5 rfl rfl)) ?_
                  refine WP.perm pl2 ?_
                  refine WP.eff rfl rfl rfl (Eff.call rfl rfl Try.call79 (kidump_spec b ka kn kc s hsm2)) ?_
                  rintro _ _ ⟨_, ⟨v2, g2, rfl, hg2, rfl⟩, rfl⟩
                  show WP _ _ _ _ _ _ _ (Own 135 4 v2 g2.length (flatOf GV.cells g2) :: Kds (GVPe 81) g2 :: KIs b ka kn kc s :: Blk b4 [.bool false, .int .i64 0, .int .i64 0, .int .i64 0, .int .i64 0, .int .i64 0, vk, .int .i64 0, .int .i64 0, .slice none 0 0] 42 :: Own 32 2 vk ((kkeep s o.at_).length) (flatOf Rv.cells (kkeep s o.at_)) :: Blk b3 [.bool false, .int .i64 0, .int .i64 0, .int .i64 0, .int .i64 0, .int .i64 0, .slice none 0 0, .int .i64 0, .int .i64 0, .slice none 0 0] 42 :: Blk b2 [.int .i64 (o.k), .int .i64 (o.r.m), .int .i64 (o.r.s), .int .i64 (o.c.m), .int .i64 (o.c.s), .int .i64 (o.v), .int .i64 (o.at_)] 38 :: Blk b1 [.pointer (some ⟨b, 0, none⟩)] 78 :: F)
                  refine WP.perm pl1 ?_
                  refine WP.perm pl1 ?_
                  refine WP.open (fun w h => gens_open h) ?_
                  rintro E2
                  refine WP.pure (fun hE2 => ?_)
                  obtain ⟨rE2, backE2⟩ := hE2
                  show WP _ _ _ _ _ _ _ (E2 :: KIs b ka kn kc s :: Blk b4 [.bool false, .int .i64 0, .int .i64 0, .int .i64 0, .int .i64 0, .int .i64 0, vk, .int .i64 0, .int .i64 0, .slice none 0 0] 42 :: Own 32 2 vk ((kkeep s o.at_).length) (flatOf Rv.cells (kkeep s o.at_)) :: Blk b3 [.bool false, .int .i64 0, .int .i64 0, .int .i64 0, .int .i64 0, .int .i64 0, .slice none 0 0, .int .i64 0, .int .i64 0, .slice none 0 0] 42 :: Blk b2 [.int .i64 (o.k), .int .i64 (o.r.m), .int .i64 (o.r.s), .int .i64 (o.c.m), .int .i64 (o.c.s), .int .i64 (o.v), .int .i64 (o.at_)] 38 :: Blk b1 [.pointer (some ⟨b, 0, none⟩)] 78 :: F)
                  have hs2 : Small (g2.map (·.1)) := by rw [hg2]; exact hsm2
                  refine WP.eff rfl rfl rfl (Eff.call rfl rfl Try.call78 (dumpout_spec E2 s.md g2 hs2 rE2.inn v2 rE2.rd)) ?_
                  rintro _ _ ⟨_, ⟨v3, g3, rfl, hg3, rfl⟩, rfl⟩
                  show WP _ _ _ _ _ _ _ (Own 53 4 v3 g3.length (flatOf GV.cells g3) :: Kds (GVPe 32) g3 :: E2 :: KIs b ka kn kc s :: Blk b4 [.bool false, .int .i64 0, .int .i64 0, .int .i64 0, .int .i64 0, .int .i64 0, vk, .int .i64 0, .int .i64 0, .slice none 0 0] 42 :: Own 32 2 vk ((kkeep s o.at_).length) (flatOf Rv.cells (kkeep s o.at_)) :: Blk b3 [.bool false, .int .i64 0, .int .i64 0, .int .i64 0, .int .i64 0, .int .i64 0, .slice none 0 0, .int .i64 0, .int .i64 0, .slice none 0 0] 42 :: Blk b2 [.int .i64 (o.k), .int .i64 (o.r.m), .int .i64 (o.r.s), .int .i64 (o.c.m), .int .i64 (o.c.s), .int .i64 (o.v), .int .i64 (o.at_)] 38 :: Blk b1 [.pointer (some ⟨b, 0, none⟩)] 78 :: F)
                  refine WP.fact (fun w h => own_oneCell h) (fun on3 => ?_)
                  refine WP.val rfl rfl rfl (Val.fieldAddr (j := 7) rfl Ty.fo42_5 rfl rfl) ?_
                  refine WP.perm pl4 ?_
                  refine WP.eff0 rfl rfl (Eff.storeAgg (cs := [.int .i64 (s.md.m), .int .i64 (s.md.s), v3]) (C' := [.bool false, .int .i64 0, .int .i64 0, .int .i64 0, .int .i64 0, .int .i64 0, vk, .int .i64 (s.md.m), .int .i64 (s.md.s), v3]) rfl Ty.ag35 rfl rfl rfl (by simp only [List.all_cons, List.all_nil, Bool.and_true, oc_int, oc_str, oc_bool, oc_ptr, oc_slice, oc_iface, oc_map, on3]) (by simp) rfl) ?_
                  rintro _ _ rfl
                  refine WP.nil ?_
                  refine Out.next ?_
                  refine WPc.seq ?_
                  refine WPc.region ?_
                  refine WP.val rfl rfl rfl (Val.loadAgg (cs := [.bool false, .int .i64 0, .int .i64 0, .int .i64 0, .int .i64 0, .int .i64 0, vk, .int .i64 (s.md.m), .int .i64 (s.md.s), v3]) rfl Ty.ag42 rfl rfl (fun w h => h.range 0 rfl rfl)) ?_
                  refine WP.perm pl6 ?_
                  refine WP.eff0 rfl rfl (Eff.storeAgg (cs := [.bool false, .int .i64 0, .int .i64 0, .int .i64 0, .int .i64 0, .int .i64 0, vk, .int .i64 (s.md.m), .int .i64 (s.md.s), v3]) (C' := [.bool false, .int .i64 0, .int .i64 0, .int .i64 0, .int .i64 0, .int .i64 0, vk, .int .i64 (s.md.m), .int .i64 (s.md.s), v3]) rfl Ty.ag42 rfl rfl rfl (by simp only [List.all_cons, List.all_nil, Bool.and_true, oc_int, oc_str, oc_bool, oc_ptr, oc_slice, oc_iface, oc_map, onk, on3]) (by simp) rfl) ?_
                  rintro _ _ rfl
                  refine WP.nil ?_
                  refine Out.next ?_
                  refine WPc.ret ?_
                  refine Out.perm pl1 ?_
                  refine Out.drop ?_
                  refine Out.perm pl3 ?_
                  refine Out.drop ?_
                  refine Out.perm pl5 ?_
                  refine Out.drop ?_
                  refine Out.perm pl5 ?_
                  refine Out.drop ?_
                  refine Out.perm pl3 ?_
                  refine Out.perm pl3 ?_
                  refine Out.perm pl3 ?_
                  refine Out.perm pl4 ?_
                  refine Out.perm pl4 ?_
                  exact Out.retRun (L' := _) (results_cell (cs := _) Try.results35 Ty.ag42 rfl rfl (fun w h => h.range 0 rfl rfl)) ⟨vk, v3, g3, by rfl, hg3.trans hg2, by rfl⟩ (fun w h => h.drop)
                · skip
                  have h8 : ¬ (o.k = (8 : Int)) := h8
                  exfalso; omega

end Go.Proofs.Ythicijpjpijdjaa.Ll

/-! the plain law of an index's operations: what the code does is what the list of changes says -/
namespace Go.Proofs.Ythicijpjpijdjaa.KyS
open Go.RowKit Go.Proofs.Ythicijpjpijdjaa Go.Proofs.Ythicijpjpijdjaa.Sl Go.Proofs.Ythicijpjpijdjaa.KyP Go.Proofs.Ythicijpjpijdjaa.KyQ Go.Proofs.Ythicijpjpijdjaa.KyR Go.Proofs.Ythicijpjpijdjaa.Ka Go.Proofs.Ythicijpjpijdjaa.Kc Go.Proofs.Ythicijpjpijdjaa.Ke Go.Proofs.Ythicijpjpijdjaa.Kg Go.Proofs.Ythicijpjpijdjaa.Kh Go.Proofs.Ythicijpjpijdjaa.Ki Go.Proofs.Ythicijpjpijdjaa.Kl Go.Proofs.Ythicijpjpijdjaa.Km Go.Proofs.Ythicijpjpijdjaa.Kn Go.Proofs.Ythicijpjpijdjaa.Kp Go.Proofs.Ythicijpjpijdjaa.Ku Go.Proofs.Ythicijpjpijdjaa.Kv Go.Proofs.Ythicijpjpijdjaa.Kx Go.Proofs.Ythicijpjpijdjaa.Ky Go.Proofs.Ythicijpjpijdjaa.Lc Go.Proofs.Ythicijpjpijdjaa.Le Go.Proofs.Ythicijpjpijdjaa.Lf Go.Proofs.Ythicijpjpijdjaa.Lj Go.Proofs.Ythicijpjpijdjaa.Lk Go.Proofs.Ythicijpjpijdjaa.Ll
set_option linter.unusedVariables false
set_option linter.unusedSimpArgs false
/-- lists of changes that can come about -/
structure Wf (N : Int) (l : List Vn) : Prop where
  rise : Rise l
  links : Links l
  pos : ∀ x ∈ l, 1 ≤ x.r.m ∧ 0 ≤ x.r.s
  ver : ∀ x ∈ l, 1 ≤ x.v ∧ x.v ≤ N
  nxt : ∀ i a b, l[i]? = some a → l[i + 1]? = some b → (a.g = false → b.v = nx a.v) ∧ (a.g = true → b.c = b.r)
theorem nx_ok {v : Int} (h1 : 1 ≤ v) (h2 : v ≤ 4611686018427388999) : nx v = v + 1 := by unfold nx; exact w64 (by omega) (by omega)
theorem vsub_ok {v k : Int} (h1 : 1 ≤ v - k) (h2 : v - k ≤ 4611686018427388999) : vsub v k = v - k := by unfold vsub; exact w64 (by omega) (by omega)
/-- the first life of a list -/
def Head (m : List Vn) : Prop := ∃ t0 t x y, (dgo m).1 = t0 :: t ∧ m[0]? = some x ∧ t0.c = x.c ∧ 0 < t0.revs.length ∧ m[t0.revs.length - 1]? = some y ∧ t0.v = y.v ∧ (∀ i a, i + 1 < t0.revs.length → m[i]? = some a → a.g = false) ∧ ((dgo m).2 = true → t = [] → t0.revs.length = m.length) ∧ ((dgo m).2 = false ∨ t ≠ [] → y.g = true)
theorem dgo_one (x : Vn) : dgo [x] = ([⟨x.v, x.c, [x.r]⟩], !x.g) := by unfold dgo dstep; simp
theorem head : ∀ (n : Nat) (m : List Vn), m.length = n → 0 < n → Head m
  | n + 1, m, hn, _ => by
    obtain ⟨a, x, rfl⟩ := snoc_of (l := m) (fun h => by rw [h] at hn; cases hn)
    have han : a.length = n := by simpa using hn
    rcases Nat.eq_zero_or_pos n with h0 | h0
    · obtain rfl := List.eq_nil_of_length_eq_zero (l := a) (by omega)
      refine ⟨⟨x.v, x.c, [x.r]⟩, [], x, x, by rw [List.nil_append, dgo_one], rfl, rfl, by simp, rfl, rfl, fun i b hi => by simp at hi, fun _ _ => rfl, fun h => ?_⟩
      rcases h with h | h
      · rw [List.nil_append, dgo_one] at h; simpa using h
      · exact absurd rfl h
    · obtain ⟨t0, t, z, y, h1, h2, h3, h4, h5, h6, h7, h8, h9⟩ := head n a han h0
      have hz : (a ++ [x])[0]? = some z := by rw [List.getElem?_append_left (by omega)]; exact h2
      have hylt := (List.getElem?_eq_some_iff.1 h5).1
      cases hb : (dgo a).2 with
      | false =>
        have e : dgo a = (t0 :: t, false) := by rw [← h1, ← hb]
        have e2 : (dgo (a ++ [x])).1 = t0 :: (t ++ [⟨x.v, x.c, [x.r]⟩]) := by rw [dgo_snoc, e]; unfold dstep; simp
        refine ⟨t0, t ++ [⟨x.v, x.c, [x.r]⟩], z, y, e2, hz, h3, h4, by rw [List.getElem?_append_left hylt]; exact h5, h6, fun i b hi hbb => ?_, fun _ h => by simp at h, fun _ => h9 (.inl hb)⟩
        rw [List.getElem?_append_left (by omega)] at hbb
        exact h7 i b hi hbb
      | true =>
        have e : dgo a = (t0 :: t, true) := by rw [← h1, ← hb]
        cases t with
        | nil =>
          have hlen := h8 hb rfl
          have e2 : (dgo (a ++ [x])).1 = [⟨x.v, t0.c, t0.revs ++ [x.r]⟩] := by rw [dgo_snoc, e]; unfold dstep; simp
          have hl : ((⟨x.v, t0.c, t0.revs ++ [x.r]⟩ : Gn).revs).length = a.length + 1 := by simp [hlen]
          refine ⟨_, [], z, x, e2, hz, h3, by simp, by rw [hl]; simp, rfl, fun i b hi hbb => ?_, fun _ _ => by rw [hl]; simp, fun h => ?_⟩
          · rw [hl] at hi
            rw [List.getElem?_append_left (by omega)] at hbb
            rcases Nat.lt_or_ge (i + 1) t0.revs.length with h | h
            · exact h7 i b h hbb
            · have hi2 : i = a.length - 1 := by omega
              have h10 := lives_flag (m := a) (by omega)
              rw [hb] at h10
              rw [hi2] at hbb
              have h11 := lives_at hbb
              rw [h10] at h11
              simpa using h11.symm
          · rcases h with h | h
            · rw [dgo_flag] at h; simpa using h
            · exact absurd rfl h
        | cons t1 t =>
          have e2 : ∃ q, (dgo (a ++ [x])).1 = t0 :: q ∧ q ≠ [] := by
            obtain ⟨q, g, hq⟩ := snoc_of (l := t1 :: t) (by simp)
            refine ⟨q ++ [⟨x.v, g.c, g.revs ++ [x.r]⟩], ?_, by simp⟩
            rw [dgo_snoc, e, hq]
            unfold dstep; simp
          obtain ⟨q, e2, hq⟩ := e2
          refine ⟨t0, q, z, y, e2, hz, h3, h4, by rw [List.getElem?_append_left hylt]; exact h5, h6, fun i b hi hbb => ?_, fun _ h => absurd h hq, fun _ => h9 (.inr (by simp))⟩
          rw [List.getElem?_append_left (by omega)] at hbb
          exact h7 i b hi hbb
theorem ver_run {N : Int} {m : List Vn} (h : Wf N m) (hN : N ≤ 4611686018427388999) {x : Vn} (hx : m[0]? = some x) {k : Nat} (hg : ∀ i a, i + 1 < k → m[i]? = some a → a.g = false) : ∀ j y, j < k → m[j]? = some y → y.v = x.v + j
  | 0, y, _, hy => by rw [hx] at hy; obtain rfl := Option.some.inj hy; omega
  | j + 1, y, hj, hy => by
    have hlt := (List.getElem?_eq_some_iff.1 hy).1
    obtain ⟨a, ha⟩ : ∃ a, m[j]? = some a := ⟨_, List.getElem?_eq_getElem (by omega)⟩
    have ih := ver_run h hN hx hg j a (by omega) ha
    have h1 := (h.nxt j a y ha hy).1 (hg j a hj ha)
    have h2 := h.ver a (List.mem_iff_getElem?.2 ⟨_, ha⟩)
    rw [h1, nx_ok h2.1 (by omega), ih]
    omega
theorem wf_drop {N : Int} {l : List Vn} (h : Wf N l) (k : Nat) : Wf N (l.drop k) where
  rise := h.rise.sublist (List.drop_sublist k l)
  links := links_drop h.links k
  pos := fun x hx => h.pos x (List.mem_of_mem_drop hx)
  ver := fun x hx => h.ver x (List.mem_of_mem_drop hx)
  nxt := fun i a b ha hb => by
    rw [List.getElem?_drop] at ha hb
    exact h.nxt (k + i) a b ha (by rw [← hb, Nat.add_assoc])
theorem fg_skip {A T : List Gn} {at_ : Int} (hT : ∀ g ∈ T, g.revs.length = 0 ∨ (at_ < fstM g ∧ at_ < lstM g)) : fg (A ++ T) at_ (A ++ T).length = fg (A ++ T) at_ A.length := by
  have h : ∀ j, j ≤ T.length → fg (A ++ T) at_ (A.length + j) = fg (A ++ T) at_ A.length := by
    intro j
    induction j with
    | zero => intro _; rfl
    | succ j ih =>
      intro hj
      obtain ⟨g, hg⟩ : ∃ g, T[j]? = some g := ⟨_, List.getElem?_eq_getElem (by omega)⟩
      have h2 : (A ++ T)[A.length + j]? = some g := by rw [List.getElem?_append_right (by omega), Nat.add_sub_cancel_left]; exact hg
      rw [← Nat.add_assoc, fg_step h2, ← ih (by omega)]
      rcases hT g (List.mem_iff_getElem?.2 ⟨_, hg⟩) with h3 | ⟨h3, h4⟩
      · rw [if_pos h3]
      · by_cases h5 : g.revs.length = 0
        · rw [if_pos h5]
        · rw [if_neg h5, if_neg (by omega), if_neg (by omega)]
  rw [List.length_append]
  exact h _ (Nat.le_refl _)
theorem fst_lst_of {g : Gn} {p : Rv → Prop} (h : ∀ r ∈ g.revs, p r) (hn : 0 < g.revs.length) : (∃ r, p r ∧ fstM g = r.m) ∧ ∃ r, p r ∧ lstM g = r.m := by
  obtain ⟨a, ha⟩ : ∃ a, g.revs[0]? = some a := ⟨_, List.getElem?_eq_getElem (by omega)⟩
  obtain ⟨b, hb⟩ : ∃ b, g.revs[g.revs.length - 1]? = some b := ⟨_, List.getElem?_eq_getElem (by omega)⟩
  exact ⟨⟨a, h a (List.mem_iff_getElem?.2 ⟨_, ha⟩), fst_at ha⟩, ⟨b, h b (List.mem_iff_getElem?.2 ⟨_, hb⟩), lst_at hb⟩⟩
theorem revs_mem {m : List Vn} {g : Gn} (hg : g ∈ dgens m) {r : Rv} (hr : r ∈ g.revs) : ∃ a ∈ m, r = a.r := by
  have h : r ∈ revsOf (dgens m) := List.mem_flatMap.2 ⟨g, hg, hr⟩
  rw [dgens_revs] at h
  obtain ⟨a, ha, rfl⟩ := List.mem_map.1 h
  exact ⟨a, ha, rfl⟩
/-- what is told of a number -/
theorem get_law {N : Int} {l : List Vn} (h : Wf N l) (hN : N ≤ 4611686018427388999) (at_ : Int) : kget (dgens l) at_ = (holdsV l at_).map fun x => (x.r, x.c, x.v) := by
  have hle := lastN_le l at_ l.length
  cases hn : lastN l at_ l.length with
  | zero =>
    rw [holds_no hn]
    refine kget_none ?_
    have h1 := fg_skip (A := []) (T := dgens l) (at_ := at_) (fun g hg => by
      rcases Nat.eq_zero_or_pos g.revs.length with h0 | h0
      · exact .inl h0
      · have hp : ∀ r ∈ g.revs, at_ < r.m := fun r hr => by
          obtain ⟨a, ha, rfl⟩ := revs_mem hg hr
          obtain ⟨i, hi⟩ := List.mem_iff_getElem?.1 ha
          exact lastN_gt (at_ := at_) l.length i a (by omega) (List.getElem?_eq_some_iff.1 hi).1 hi
        obtain ⟨⟨r1, q1, q2⟩, r2, q3, q4⟩ := fst_lst_of hp h0
        exact .inr ⟨by omega, by omega⟩)
    exact h1
  | succ k =>
    obtain ⟨hk, x, hx, hxm⟩ := lastN_at _ _ hn
    rw [holds_at hn hx]
    obtain ⟨P, R, hG, hP, hR, -⟩ := dgens_cut h.links hk
    have hgt : ∀ i a, k < i → l[i]? = some a → at_ < a.r.m := fun i a hi ha => lastN_gt (at_ := at_) l.length i a (by omega) (List.getElem?_eq_some_iff.1 ha).1 ha
    obtain ⟨hkl, hke⟩ := List.getElem?_eq_some_iff.1 hx
    have hm : l.drop k = x :: l.drop (k + 1) := by rw [List.drop_eq_getElem_cons hkl, hke]
    obtain ⟨t0, t, z, y, h1, h2, h3, h4, h5, h6, h7, h8, h9⟩ := head _ (l.drop k) rfl (by rw [List.length_drop]; omega)
    obtain rfl : x = z := by rw [hm] at h2; simpa using h2
    have hdg : ∃ t', dgens (l.drop k) = t0 :: t' ∧ (t' = [] → t = [] ∧ (dgo (l.drop k)).2 = true) ∧ ((dgo (l.drop k)).2 = true → t = [] → t' = []) := by
      have hpos : 0 < (l.drop k).length := by rw [List.length_drop]; omega
      have hlf := lives_flag hpos
      refine ⟨t ++ (if 0 < (l.drop k).length ∧ lives (l.drop k) = false then [⟨0, Rv0, []⟩] else []), by unfold dgens; rw [h1]; rfl, fun ht => ?_, fun hf ht => ?_⟩
      · obtain ⟨ht1, ht2⟩ := List.append_eq_nil_iff.1 ht
        refine ⟨ht1, ?_⟩
        rw [← hlf]
        cases hlv : lives (l.drop k) with
        | true => rfl
        | false => rw [if_pos ⟨hpos, hlv⟩] at ht2; cases ht2
      · rw [ht, hlf, hf]; simp
    obtain ⟨t', ht', htn1, htn2⟩ := hdg
    have hrest : ∃ rest, (l.drop k).map (·.r) = t0.revs ++ rest := ⟨revsOf t', by rw [← dgens_revs, ht']; unfold revsOf; simp⟩
    obtain ⟨rest, hrest⟩ := hrest
    obtain ⟨y0, hs, hts⟩ : ∃ y0 hs, t0.revs = y0 :: hs := by
      cases h : t0.revs with
      | nil => rw [h] at h4; cases h4
      | cons a b => exact ⟨a, b, rfl⟩
    rw [hm, hts] at hrest
    simp only [List.map_cons, List.cons_append, List.cons.injEq] at hrest
    obtain ⟨hy0, hrest⟩ := hrest
    have hhs : ∀ r ∈ hs, at_ < r.m := fun r hr => by
      have : r ∈ (l.drop (k + 1)).map (·.r) := by rw [hrest]; exact List.mem_append_left _ hr
      obtain ⟨a, ha, rfl⟩ := List.mem_map.1 this
      obtain ⟨i, hi⟩ := List.mem_iff_getElem?.1 ha
      rw [List.getElem?_drop] at hi
      exact hgt _ a (by omega) hi
    have hRm : ∀ r ∈ R, r.m ≤ at_ := fun r hr => by
      obtain ⟨a, ha, rfl⟩ := hR r hr
      obtain ⟨i, hi⟩ := List.mem_iff_getElem?.1 ha
      rw [List.getElem?_take] at hi
      split at hi
      · have := rise_le h.rise hi hx (by omega); omega
      · cases hi
    have hG2 : dgens l = (P ++ [⟨t0.v, t0.c, R ++ t0.revs⟩]) ++ t' := by rw [hG, ht']; simp [addR]
    have hgj : (dgens l)[P.length]? = some ⟨t0.v, t0.c, R ++ t0.revs⟩ := by rw [hG2]; simp
    have hT : ∀ g ∈ t', g.revs.length = 0 ∨ (at_ < fstM g ∧ at_ < lstM g) := fun g hg => by
      rcases Nat.eq_zero_or_pos g.revs.length with h0 | h0
      · exact .inl h0
      · have hp : ∀ r ∈ g.revs, at_ < r.m := fun r hr => by
          have : r ∈ revsOf t' := List.mem_flatMap.2 ⟨g, hg, hr⟩
          have e : revsOf (dgens (l.drop k)) = t0.revs ++ revsOf t' := by rw [ht']; unfold revsOf; simp
          rw [dgens_revs, hm, hts] at e
          simp only [List.map_cons, List.cons_append, List.cons.injEq] at e
          have h10 : r ∈ (l.drop (k + 1)).map (·.r) := by rw [e.2]; exact List.mem_append_right _ this
          obtain ⟨a, ha, rfl⟩ := List.mem_map.1 h10
          obtain ⟨i, hi⟩ := List.mem_iff_getElem?.1 ha
          rw [List.getElem?_drop] at hi
          exact hgt _ a (by omega) hi
        obtain ⟨⟨r1, q1, q2⟩, r2, q3, q4⟩ := fst_lst_of hp h0
        exact .inr ⟨by omega, by omega⟩
    have hfg : fg (dgens l) at_ (dgens l).length = fg (dgens l) at_ (P.length + 1) := by
      have h10 := fg_skip (A := P ++ [⟨t0.v, t0.c, R ++ t0.revs⟩]) hT
      rw [← hG2] at h10
      rw [h10]; simp
    have hstep := fg_step (at_ := at_) hgj
    have hglen : (dgens l).length = P.length + 1 + t'.length := by rw [hG2]; simp; omega
    rw [if_neg (by dsimp only; rw [List.length_append]; omega)] at hstep
    have hlst : lstM (⟨t0.v, t0.c, R ++ t0.revs⟩ : Gn) = lstM t0 := lst_addR R t0 h4
    have hfst : fstM (⟨t0.v, t0.c, R ++ t0.revs⟩ : Gn) ≤ at_ := by
      have hp : ∀ i (r : Rv), i = 0 → (R ++ t0.revs)[i]? = some r → r.m ≤ at_ := fun i r hi hr => by
        cases R with
        | nil =>
          rw [List.nil_append, hts, hi] at hr
          obtain rfl : y0 = r := by simpa using hr
          rw [← hy0]; exact hxm
        | cons a R =>
          subst hi
          obtain rfl : a = r := by simpa using hr
          exact hRm a (by simp)
      obtain ⟨r, hr⟩ : ∃ r, (R ++ t0.revs)[0]? = some r := ⟨_, List.getElem?_eq_getElem (by rw [List.length_append]; omega)⟩
      rw [fst_at (g := ⟨t0.v, t0.c, R ++ t0.revs⟩) hr]
      exact hp 0 r rfl hr
    cases hg : x.g with
    | true =>
      rw [if_pos rfl]
      refine kget_none ?_
      rw [hfg, hstep]
      have hl1 : t0.revs.length = 1 := by
        rcases Nat.lt_or_ge 1 t0.revs.length with h10 | h10
        · have := h7 0 x (by omega) h2
          rw [hg] at this; cases this
        · omega
      have htne : t' ≠ [] := fun e => by
        obtain ⟨e1, e2⟩ := htn1 e
        have := h8 e2 e1
        rw [hl1] at this
        have hmx : l.drop k = [x] := by
          rw [hm] at this ⊢
          have : (l.drop (k + 1)).length = 0 := by simpa using this.symm
          rw [List.eq_nil_of_length_eq_zero this]
        rw [hmx, dgo_one, hg] at e2
        cases e2
      have hlx : lstM t0 ≤ at_ := by
        have : t0.revs[t0.revs.length - 1]? = some y0 := by rw [hl1, hts]; rfl
        rw [lst_at this, ← hy0]; exact hxm
      have htl : 0 < t'.length := Nat.pos_of_ne_zero (fun e => htne (List.eq_nil_of_length_eq_zero e))
      rw [if_pos ⟨by omega, by rw [hlst]; exact hlx⟩]
    | false =>
      rw [if_neg Bool.noConfusion]
      have hno : ¬ (P.length + 1 ≠ (dgens l).length ∧ lstM (⟨t0.v, t0.c, R ++ t0.revs⟩ : Gn) ≤ at_) := by
        rintro ⟨e1, e2⟩
        rw [hlst] at e2
        rcases Nat.lt_or_ge 1 t0.revs.length with h10 | h10
        · obtain ⟨b, hb⟩ : ∃ b, t0.revs[t0.revs.length - 1]? = some b := ⟨_, List.getElem?_eq_getElem (by omega)⟩
          have hbm : b ∈ hs := by
            rw [hts] at hb h10
            rw [show (y0 :: hs).length - 1 = (hs.length - 1) + 1 from by simp at h10 ⊢; omega] at hb
            exact List.mem_iff_getElem?.2 ⟨_, by simpa using hb⟩
          have := hhs b hbm
          rw [lst_at hb] at e2
          omega
        · have hl1 : t0.revs.length = 1 := by omega
          rw [hl1] at h5
          obtain rfl : x = y := by rw [h2] at h5; exact Option.some.inj h5
          have hq : ¬ ((dgo (l.drop k)).2 = false ∨ t ≠ []) := fun e => by rw [h9 e] at hg; cases hg
          have hq1 : (dgo (l.drop k)).2 = true := by
            cases hf : (dgo (l.drop k)).2 with
            | true => rfl
            | false => exact absurd (.inl hf) hq
          have hq2 : t = [] := by
            cases ht : t with
            | nil => rfl
            | cons a b => exact absurd (.inr (by rw [ht]; simp)) hq
          rw [htn2 hq1 hq2] at hglen
          simp at hglen
          omega
      rw [if_neg hno, if_pos hfst] at hstep
      have hw := wk_split (A := R ++ [y0]) (B := hs) (at_ := at_) hhs (.inr ⟨y0, by simp, by rw [← hy0]; exact hxm⟩)
      have e : R ++ [y0] ++ hs = R ++ t0.revs := by rw [hts]; simp
      rw [e] at hw
      have hw2 : wk (R ++ t0.revs) at_ (R ++ t0.revs).length = R.length + 1 := by rw [hw]; simp
      have hr0 : (R ++ t0.revs)[R.length]? = some y0 := by rw [List.getElem?_append_right (Nat.le_refl _), Nat.sub_self, hts]; rfl
      rw [kget_some (hfg.trans hstep) hgj hw2 hr0]
      have hyv := ver_run (wf_drop h k) hN h2 h7 (t0.revs.length - 1) y (by omega) h5
      have hxv := h.ver x (List.mem_iff_getElem?.2 ⟨_, hx⟩)
      have hl2 : (R ++ t0.revs).length - R.length - 1 = t0.revs.length - 1 := by rw [List.length_append]; omega
      show some (y0, t0.c, vsub t0.v (((R ++ t0.revs).length - R.length - 1 : Nat) : Int)) = some (x.r, x.c, x.v)
      rw [hl2, h6, hyv, h3, vsub_ok (by omega) (by omega), ← hy0, show x.v + ((t0.revs.length - 1 : Nat) : Int) - ((t0.revs.length - 1 : Nat) : Int) = x.v from by omega]
end Go.Proofs.Ythicijpjpijdjaa.KyS

