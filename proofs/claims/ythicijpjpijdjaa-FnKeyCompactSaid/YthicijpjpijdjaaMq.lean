import Derived.Test.YthicijpjpijdjaaMp
namespace Go.Proofs.Ythicijpjpijdjaa.Lf
open Go.RowKit Go.Proofs.Ythicijpjpijdjaa Go.Proofs.Ythicijpjpijdjaa.Sl Go.Proofs.Ythicijpjpijdjaa.KyP Go.Proofs.Ythicijpjpijdjaa.Ka Go.Proofs.Ythicijpjpijdjaa.Kb Go.Proofs.Ythicijpjpijdjaa.Kc Go.Proofs.Ythicijpjpijdjaa.Kd Go.Proofs.Ythicijpjpijdjaa.Ke Go.Proofs.Ythicijpjpijdjaa.Kf Go.Proofs.Ythicijpjpijdjaa.Kg Go.Proofs.Ythicijpjpijdjaa.Kh Go.Proofs.Ythicijpjpijdjaa.Ki Go.Proofs.Ythicijpjpijdjaa.Kj Go.Proofs.Ythicijpjpijdjaa.Kk Go.Proofs.Ythicijpjpijdjaa.Kl Go.Proofs.Ythicijpjpijdjaa.Km Go.Proofs.Ythicijpjpijdjaa.Kn Go.Proofs.Ythicijpjpijdjaa.Ko Go.Proofs.Ythicijpjpijdjaa.Kp Go.Proofs.Ythicijpjpijdjaa.Kq Go.Proofs.Ythicijpjpijdjaa.Kr Go.Proofs.Ythicijpjpijdjaa.Ks Go.Proofs.Ythicijpjpijdjaa.Kt Go.Proofs.Ythicijpjpijdjaa.Ku Go.Proofs.Ythicijpjpijdjaa.Kv Go.Proofs.Ythicijpjpijdjaa.Kw Go.Proofs.Ythicijpjpijdjaa.Kx Go.Proofs.Ythicijpjpijdjaa.Ky Go.Proofs.Ythicijpjpijdjaa.Kz Go.Proofs.Ythicijpjpijdjaa.La Go.Proofs.Ythicijpjpijdjaa.Lb Go.Proofs.Ythicijpjpijdjaa.Lc Go.Proofs.Ythicijpjpijdjaa.Ld Go.Proofs.Ythicijpjpijdjaa.Le
set_option linter.unusedVariables false
set_option linter.unusedSimpArgs false
set_option linter.unusedSectionVars false


/-- an index is compacted -/
def kcomp (s : KI) (at_ : Int) : KI := ⟨s.md, match s.gs.drop (gx s.gs at_ (s.gs.length - 1) 0) with
  | g :: t => ⟨g.v, g.c, g.revs.drop (wk g.revs at_ g.revs.length - 1)⟩ :: t
  | [] => []⟩
/-- the revision that a compaction keeps -/
def kav (s : KI) (at_ : Int) : Option Rv := match s.gs[gx s.gs at_ (s.gs.length - 1) 0]? with
  | some g => wkr g.revs at_
  | none => none
theorem kcomp_of {s : KI} {at_ : Int} {P T : List Gn} {g : Gn} (h : P ++ g :: T = s.gs) (hi : gx s.gs at_ (s.gs.length - 1) 0 = P.length) : kcomp s at_ = ⟨s.md, ⟨g.v, g.c, g.revs.drop (wk g.revs at_ g.revs.length - 1)⟩ :: T⟩ := by
  unfold kcomp
  rw [hi, ← h, List.drop_left]
theorem kav_of {s : KI} {at_ : Int} {P T : List Gn} {g : Gn} (h : P ++ g :: T = s.gs) (hi : gx s.gs at_ (s.gs.length - 1) 0 = P.length) : kav s at_ = wkr g.revs at_ := by
  unfold kav
  rw [hi, ← h, List.getElem?_append_right (Nat.le_refl _), Nat.sub_self]
  rfl
structure KAt where
  gi : List GV
  gt : List GV
  g : Gn
  u : Value
  gb : Nat
  gc : Nat
  pg : List Value
  sp : List Value
theorem split3 {α : Type} {l : List α} {i : Nat} (h : i < l.length) : ∃ a p c, l = a ++ p :: c ∧ a.length = i :=
  ⟨l.take i, l[i], l.drop (i + 1), by rw [← List.drop_eq_getElem_cons h, List.take_append_drop], by rw [List.length_take]; omega⟩
theorem kis_at {W w : World} {b : Nat} {ka : Option Addr} {kn kc : Nat} {s : KI} {L : List HProp} {i : Nat} (hi : i < s.gs.length) (h : Sat W (KIs b ka kn kc s :: L) w) : ∃ q : KAt, Sat W (Pure (q.gi.length = i ∧ q.gi.map (·.1) ++ q.g :: q.gt.map (·.1) = s.gs ∧ q.gi.length + 1 + q.gt.length ≤ q.gc ∧ q.sp.length = (q.gc - (q.gi.length + 1 + q.gt.length)) * 4 ∧ q.gc ≤ maxLen) :: Blk b (kcells ka kn kc s.md (.slice (some ⟨q.gb, q.pg.length, none⟩) (q.gi.length + 1 + q.gt.length) q.gc)) 153 :: Blk q.gb (q.pg ++ (flatOf GV.cells q.gi ++ GV.cells (q.g, q.u)) ++ (flatOf GV.cells q.gt ++ q.sp)) 155 :: OwnO 81 2 q.u q.g.revs.length (flatOf Rv.cells q.g.revs) :: Kds GVO q.gt :: L) w := by
  obtain ⟨⟨vg, gl⟩, h⟩ := kis_own h
  have hg := h.pure
  have h1 := h.drop
  dsimp only at hg h1
  obtain ⟨gi, ⟨g, u⟩, gt, rfl, hgi⟩ := split3 (l := gl) (i := i) (by rw [← hg, List.length_map] at hi; exact hi)
  have hn : (gi ++ (g, u) :: gt).length = gi.length + 1 + gt.length := by simp; omega
  rw [hn] at h1
  have h2 : Sat W (OwnO 155 4 vg (gi.length + 1 + gt.length) (flatOf GV.cells (gi ++ (g, u) :: gt)) :: Blk b (kcells ka kn kc s.md vg) 153 :: Kds GVO (gi ++ (g, u) :: gt) :: L) w := h1.perm (List.Perm.swap _ _ _)
  rcases h2.ownO with ⟨-, h0, -⟩ | ⟨gb, gc, pg, sp, rfl, k1, k2, k3, k4, k5⟩
  · omega
  · have e : pg ++ flatOf GV.cells (gi ++ (g, u) :: gt) ++ sp = pg ++ (flatOf GV.cells gi ++ GV.cells (g, u)) ++ (flatOf GV.cells gt ++ sp) := by
      rw [flatOf_append]; simp [flatOf]
    rw [e] at k5
    refine ⟨⟨gi, gt, g, u, gb, gc, pg, sp⟩, Sat.pure_mk ⟨hgi, by rw [← hg]; simp, k1, k3, k4⟩ ?_⟩
    have h3 : Sat W (Kds GVO (gi ++ (g, u) :: gt) :: Blk b (kcells ka kn kc s.md (.slice (some ⟨gb, pg.length, none⟩) (gi.length + 1 + gt.length) gc)) 153 :: Blk gb (pg ++ (flatOf GV.cells gi ++ GV.cells (g, u)) ++ (flatOf GV.cells gt ++ sp)) 155 :: L) w := k5.perm ((List.Perm.swap _ _ _).trans ((List.Perm.cons _ (List.Perm.swap _ _ _)).trans (List.Perm.swap _ _ _)))
    have h4 := h3.kApp.drop.kCons
    exact h4.perm (by
      refine List.Perm.trans (List.Perm.cons _ (List.Perm.swap _ _ _)) ?_
      refine List.Perm.trans (List.Perm.swap _ _ _) (List.Perm.cons _ ?_)
      refine List.Perm.trans (List.Perm.cons _ (List.Perm.swap _ _ _)) ?_
      exact List.Perm.swap _ _ _)
theorem kis_at_mk {W w : World} {b : Nat} {ka : Option Addr} {kn kc : Nat} {md : Rv} {L : List HProp} {gi gt : List GV} {g : Gn} {u : Value} {gb gc : Nat} {pg sp : List Value} (hc : gi.length + 1 + gt.length ≤ gc) (hsp : sp.length = (gc - (gi.length + 1 + gt.length)) * 4) (hm : gc ≤ maxLen)
    (h : Sat W (Blk b (kcells ka kn kc md (.slice (some ⟨gb, pg.length + gi.length * 4, none⟩) ((gi.length + 1 + gt.length) - gi.length) (gc - gi.length))) 153 :: Blk gb (pg ++ (flatOf GV.cells gi ++ GV.cells (g, u)) ++ (flatOf GV.cells gt ++ sp)) 155 :: OwnO 81 2 u g.revs.length (flatOf Rv.cells g.revs) :: Kds GVO gt :: L) w) : Sat W (KIs b ka kn kc ⟨md, g :: gt.map (·.1)⟩ :: L) w := by
  have hn : (gi.length + 1 + gt.length) - gi.length = ((g, u) :: gt).length := by simp; omega
  rw [hn] at h
  have e : pg ++ (flatOf GV.cells gi ++ GV.cells (g, u)) ++ (flatOf GV.cells gt ++ sp) = (pg ++ flatOf GV.cells gi) ++ flatOf GV.cells ((g, u) :: gt) ++ sp := by
    simp [flatOf]
  rw [e] at h
  have h1 := h.perm (List.Perm.swap _ _ _)
  have hl : ((g, u) :: gt).length = 1 + gt.length := by simp; omega
  have h2 : Sat W (OwnO 155 4 (.slice (some ⟨gb, pg.length + gi.length * 4, none⟩) ((g, u) :: gt).length (gc - gi.length)) ((g, u) :: gt).length (flatOf GV.cells ((g, u) :: gt)) :: _) w := Sat.ownOMk h1 (by omega) (flatOf_length GV.len _) (by rw [hsp, hl]; congr 1; omega) (by omega) (by rw [List.length_append, flatOf_length GV.len])
  refine kis_mk (s := ⟨md, g :: gt.map (·.1)⟩) (vg := .slice (some ⟨gb, pg.length + gi.length * 4, none⟩) ((g, u) :: gt).length (gc - gi.length)) (gl := (g, u) :: gt) rfl ?_
  have h3 : Sat W (GVO (g, u) :: Kds GVO gt :: OwnO 155 4 (.slice (some ⟨gb, pg.length + gi.length * 4, none⟩) ((g, u) :: gt).length (gc - gi.length)) ((g, u) :: gt).length (flatOf GV.cells ((g, u) :: gt)) :: Blk b (kcells ka kn kc md (.slice (some ⟨gb, pg.length + gi.length * 4, none⟩) ((g, u) :: gt).length (gc - gi.length))) 153 :: L) w := h2.perm (by
    refine List.Perm.trans (List.Perm.cons _ (List.Perm.swap _ _ _)) ?_
    refine List.Perm.trans (List.Perm.swap _ _ _) (List.Perm.cons _ ?_)
    refine List.Perm.trans (List.Perm.cons _ (List.Perm.swap _ _ _)) ?_
    exact List.Perm.swap _ _ _)
  have h4 := h3.kConsMk
  exact h4.perm ((List.Perm.cons _ (List.Perm.swap _ _ _)).trans ((List.Perm.swap _ _ _).trans (List.Perm.cons _ (List.Perm.swap _ _ _))))
set_option maxRecDepth 100000 in
set_option maxHeartbeats 2000000 in
theorem compact_spec (b : Nat) (ka : Option Addr) (kn kc : Nat) (s : KI) (hsm : Small s.gs) (hemp : emp s.gs = false) (hgpos : 0 < s.gs.length) (hfull : Full s.gs) (at_ : Int) (mb : Nat) : Does Try.prog 103 [.pointer (some ⟨b, 0, none⟩), .pointer none, .int .i64 (at_), .map (some mb)] [KIs b ka kn kc s, MO mb none] (fun v L => v = .tuple #[] ∧ L = [KIs b ka kn kc (kcomp s at_), MO mb (kav s at_)]) := by
  refine Does.enter 50 Try.func103 rfl rfl rfl fun W F => ?_
  show WPc _ _ _ _ _ [(0, .pointer (some ⟨b, 0, none⟩)), (1, .pointer none), (2, .int .i64 (at_)), (3, .map (some mb))] (KIs b ka kn kc s :: MO mb none :: F)
  refine WPc.seq ?_
  refine WPc.seq ?_
  refine WPc.open (fun w h => kis_rd h) ?_
  rintro ⟨vg, gl, E⟩
  refine WPc.pure (fun hkis => ?_)
  obtain ⟨hgl, hG, back⟩ := hkis
  dsimp only at hgl hG back
  have hsg : Small (gl.map (·.1)) := by rw [hgl]; exact hsm
  show WPc _ _ _ _ _ _ (Blk b [.slice ka kn kc, .int .i64 (s.md.m), .int .i64 (s.md.s), vg] 153 :: E :: MO mb none :: F)
  refine WPc.region ?_
  refine WP.val rfl rfl rfl (Val.move rfl rfl) ?_
  refine WP.perm pl1 ?_
  refine WP.perm pl1 ?_
  refine WP.eff rfl rfl rfl (Eff.call rfl rfl Try.call105 (kempty_spec E b ka kn kc s.md gl hsg hG.inn vg hG.rd)) ?_
  rintro _ _ ⟨_, ⟨rfl, rfl⟩, rfl⟩
  show WP _ _ _ _ _ _ _ (Blk b [.slice ka kn kc, .int .i64 (s.md.m), .int .i64 (s.md.s), vg] 153 :: E :: MO mb none :: F)
  refine WP.nil ?_
  refine Out.next ?_
  refine WPc.cond rfl (fun h1 => ?_) (fun h1 => ?_)
  · skip
    have h1 : ((emp (gl.map (·.1)))) = true := h1
    exfalso; rw [hgl, hemp] at h1; cases h1
  · skip
    have h1 : ((emp (gl.map (·.1)))) = false := h1
    refine WPc.skip ?_
    refine Out.next ?_
    refine WPc.seq ?_
    have hgp : 0 < gl.length := by rw [← List.length_map (f := Prod.fst)]; rw [hgl]; exact hgpos
    obtain ⟨b0, o0, c0, rfl, hr⟩ := Rd.row hG.rd hgp
    show WPc _ _ _ _ _ _ (Blk b [.slice ka kn kc, .int .i64 (s.md.m), .int .i64 (s.md.s), .slice (some ⟨b0, o0, none⟩) gl.length c0] 153 :: E :: MO mb none :: F)
    refine WPc.region ?_
    refine WP.val rfl rfl rfl (Val.move rfl rfl) ?_
    refine WP.val rfl rfl rfl (Val.move rfl rfl) ?_
    refine WP.val rfl rfl rfl (Val.move rfl rfl) ?_
    refine WP.perm pl2 ?_
    refine WP.perm pl2 ?_
    refine WP.perm pl2 ?_
    refine WP.eff rfl rfl rfl (Eff.call rfl rfl Try.call117 (docompact_spec E b ka kn kc s.md at_ mb gl hsg hG.inn hgp (by rw [hgl]; exact hfull) b0 o0 c0 hr)) ?_
    rintro _ _ ⟨_, ⟨i, g, hi, hgj, hgx, rfl, rfl⟩, rfl⟩
    show WP _ _ _ _ _ _ _ (Blk b [.slice ka kn kc, .int .i64 (s.md.m), .int .i64 (s.md.s), .slice (some ⟨b0, o0, none⟩) gl.length c0] 153 :: E :: MO mb (wkr g.revs at_) :: F)
    refine WP.val rfl rfl rfl (Val.move rfl rfl) ?_
    refine WP.val rfl rfl rfl (Val.extract rfl rfl rfl) ?_
    refine WP.val rfl rfl rfl (Val.extract rfl rfl rfl) ?_
    refine WP.val rfl rfl rfl (Val.assign rfl rfl) ?_
    refine WP.val rfl rfl rfl (Val.assign rfl rfl) ?_
    refine WP.nil ?_
    refine Out.next ?_
    refine WPc.seq ?_
    rw [hgl] at hgj
    have hgx2 : gx s.gs at_ (s.gs.length - 1) 0 = i := by rw [← hgl, List.length_map]; exact hgx
    have hi2 : i < s.gs.length := (List.getElem?_eq_some_iff.1 hgj).1
    clear hi hgx
    refine WPc.perm pl1 ?_
    refine WPc.perm pl1 ?_
    refine WPc.conv (fun w h => back w _ h) ?_
    show WPc _ _ _ _ _ _ (KIs b ka kn kc s :: MO mb (wkr g.revs at_) :: F)
    refine WPc.open (fun w h => kis_at (i := i) hi2 h) ?_
    rintro ⟨gi, gt, g1, u, gb, gc, pg, sp⟩
    refine WPc.pure (fun hat => ?_)
    dsimp only at hat
    obtain ⟨rfl, hgs, hgc, hsp, hgm⟩ := hat
    obtain rfl : g1 = g := by rw [← hgs, List.getElem?_append_right (by rw [List.length_map]; exact Nat.le_refl _), List.length_map, Nat.sub_self] at hgj; exact Option.some.inj hgj
    show WPc _ _ _ _ _ _ (Blk b [.slice ka kn kc, .int .i64 (s.md.m), .int .i64 (s.md.s), .slice (some ⟨gb, pg.length, none⟩) ((gi.length + 1 + gt.length)) gc] 153 :: Blk gb (pg ++ (flatOf GV.cells gi ++ GV.cells (g1, u)) ++ (flatOf GV.cells gt ++ sp)) 155 :: OwnO 81 2 u g1.revs.length (flatOf Rv.cells g1.revs) :: Kds GVO gt :: MO mb (wkr g1.revs at_) :: F)
    skip
    show WPc _ _ _ _ _ _ (Blk b [.slice ka kn kc, .int .i64 (s.md.m), .int .i64 (s.md.s), .slice (some ⟨gb, pg.length, none⟩) ((gi.length + 1 + gt.length)) gc] 153 :: Blk gb (pg ++ (flatOf GV.cells gi ++ GV.cells (g1, u)) ++ (flatOf GV.cells gt ++ sp)) 155 :: OwnO 81 2 u g1.revs.length (flatOf Rv.cells g1.revs) :: Kds GVO gt :: MO mb (wkr g1.revs at_) :: F)
    refine WPc.region ?_
    refine WP.val rfl rfl rfl (Val.move rfl rfl) ?_
    refine WP.val rfl rfl rfl (Val.nilCheck rfl rfl) ?_
    refine WP.val rfl rfl rfl (Val.fieldAddr (j := 3) rfl Ty.fo153_2 rfl rfl) ?_
    refine WP.val rfl rfl rfl (Val.load rfl Ty.sc151 rfl (fun w h => h.cell 0 rfl rfl)) ?_
    refine WP.val rfl rfl rfl (Val.move rfl rfl) ?_
    refine WP.val rfl rfl rfl (Val.indexAddr (j := gi.length) (q := pg.length + gi.length * 4) rfl Ty.sl151 rfl rfl (by omega) (by omega) (by omega)) ?_
    refine WP.val rfl rfl rfl (Val.assign rfl rfl) ?_
    refine WP.nil ?_
    refine Out.next ?_
    refine WPc.seq ?_
    refine WPc.seq ?_
    rcases Nat.eq_zero_or_pos g1.revs.length with hz | hp
    · skip
      refine WPc.perm pl2 ?_
      refine WPc.fact (fun w h => ownO_slice h) (fun hsl1 => ?_)
      obtain ⟨a1, k1, rfl⟩ := hsl1
      show WPc _ _ _ _ _ _ (OwnO 81 2 (.slice a1 g1.revs.length k1) g1.revs.length (flatOf Rv.cells g1.revs) :: Blk b [.slice ka kn kc, .int .i64 (s.md.m), .int .i64 (s.md.s), .slice (some ⟨gb, pg.length, none⟩) ((gi.length + 1 + gt.length)) gc] 153 :: Blk gb (pg ++ (flatOf GV.cells gi ++ GV.cells (g1, Value.slice a1 g1.revs.length k1)) ++ (flatOf GV.cells gt ++ sp)) 155 :: Kds GVO gt :: MO mb (wkr g1.revs at_) :: F)
      have hw0 := wk_le g1.revs at_ g1.revs.length
      refine WPc.region ?_
      refine WP.val rfl rfl rfl (Val.move rfl rfl) ?_
      refine WP.perm pl2 ?_
      refine WP.eff rfl rfl rfl (Eff.call rfl rfl Try.call112 (gempty_own gb (pg.length + gi.length * 4) _ a1 g1.revs.length k1 (kat _ gi _ _ 3 rfl (by omega)))) ?_
      rintro _ _ ⟨_, ⟨rfl, rfl⟩, rfl⟩
      show WP _ _ _ _ _ _ _ (Blk gb (pg ++ (flatOf GV.cells gi ++ GV.cells (g1, Value.slice a1 g1.revs.length k1)) ++ (flatOf GV.cells gt ++ sp)) 155 :: OwnO 81 2 (.slice a1 g1.revs.length k1) g1.revs.length (flatOf Rv.cells g1.revs) :: Blk b [.slice ka kn kc, .int .i64 (s.md.m), .int .i64 (s.md.s), .slice (some ⟨gb, pg.length, none⟩) ((gi.length + 1 + gt.length)) gc] 153 :: Kds GVO gt :: MO mb (wkr g1.revs at_) :: F)
      refine WP.val rfl rfl rfl (Val.notP rfl rfl) ?_
      refine WP.nil ?_
      refine Out.next ?_
      refine WPc.ifP rfl (fun h2 => ?_) (fun h2 => ?_)
      · skip
        have h2 : (¬ (g1.revs.length = 0)) := h2
        exfalso; omega
      · skip
        have h2 : ¬ (¬ (g1.revs.length = 0)) := h2
        refine WPc.skip ?_
        refine Out.next ?_
        refine WPc.region ?_
        refine WP.val rfl rfl rfl (Val.move rfl rfl) ?_
        refine WP.val rfl rfl rfl (Val.move rfl rfl) ?_
        refine WP.val rfl rfl rfl (Val.nilCheck rfl rfl) ?_
        refine WP.val rfl rfl rfl (Val.fieldAddr (j := 3) rfl Ty.fo153_2 rfl rfl) ?_
        refine WP.val rfl rfl rfl (Val.load rfl Ty.sc151 rfl (fun w h => h.cell 2 rfl rfl)) ?_
        refine WP.val rfl rfl rfl (Val.move rfl rfl) ?_
        refine WP.val rfl rfl rfl (Val.slice (lo := gi.length) (hi := (gi.length + 1 + gt.length)) (j := pg.length + gi.length * 4) (vlo := some (.i64, ((gi.length : Nat) : Int))) (vhi := none) rfl Ty.sl151 rfl rfl rfl (by simp [bnd]; try omega) (by simp [bnd]; try omega) (by omega) (by omega) (by omega) (by rw [if_neg (by omega)]; all_goals omega)) ?_
        refine WP.val rfl rfl rfl (Val.nilCheck rfl rfl) ?_
        refine WP.val rfl rfl rfl (Val.fieldAddr (j := 3) rfl Ty.fo153_2 rfl rfl) ?_
        refine WP.perm pl2 ?_
        refine WP.eff0 rfl rfl (Eff.store rfl Ty.sc151 rfl rfl rfl (by simp) st3) ?_
        rintro _ _ rfl
        refine WP.nil ?_
        exact Out.end0 (L' := _) Try.results103 ⟨rfl, rfl⟩ (fun w h => by rw [kcomp_of hgs (by rw [List.length_map]; exact hgx2), kav_of hgs (by rw [List.length_map]; exact hgx2)]; rw [show wk g1.revs at_ g1.revs.length - 1 = 0 from by omega, List.drop_zero]; exact kis_at_mk (u := .slice a1 g1.revs.length k1) (pg := pg) (gb := gb) hgc hsp hgm h)
    · skip
      refine WPc.perm pl2 ?_
      refine WPc.open (fun w h => h.ownOPos hp) ?_
      rintro ⟨g2, cg2, pg2, spg2⟩
      refine WPc.pure (fun hvg2 => ?_)
      obtain ⟨rfl, hng2, hlg2, hsg2, hcg2⟩ := hvg2
      dsimp only at hng2 hlg2 hsg2 hcg2
      show WPc _ _ _ _ _ _ (Blk g2 (pg2 ++ (flatOf Rv.cells g1.revs) ++ spg2) 81 :: Blk b [.slice ka kn kc, .int .i64 (s.md.m), .int .i64 (s.md.s), .slice (some ⟨gb, pg.length, none⟩) ((gi.length + 1 + gt.length)) gc] 153 :: Blk gb (pg ++ (flatOf GV.cells gi ++ GV.cells (g1, .slice (some ⟨g2, pg2.length, none⟩) g1.revs.length cg2)) ++ (flatOf GV.cells gt ++ sp)) 155 :: Kds GVO gt :: MO mb (wkr g1.revs at_) :: F)
      show WPc _ _ _ _ _ _ (Blk g2 (pg2 ++ (flatOf Rv.cells g1.revs) ++ spg2) 81 :: Blk b [.slice ka kn kc, .int .i64 (s.md.m), .int .i64 (s.md.s), .slice (some ⟨gb, pg.length, none⟩) ((gi.length + 1 + gt.length)) gc] 153 :: Blk gb (pg ++ (flatOf GV.cells gi ++ GV.cells (g1, .slice (some ⟨g2, pg2.length, none⟩) g1.revs.length cg2)) ++ (flatOf GV.cells gt ++ sp)) 155 :: Kds GVO gt :: MO mb (wkr g1.revs at_) :: F)
      refine WPc.region ?_
      refine WP.val rfl rfl rfl (Val.move rfl rfl) ?_
      refine WP.perm pl2 ?_
      refine WP.eff rfl rfl rfl (Eff.call rfl rfl Try.call112 (gempty_own gb (pg.length + gi.length * 4) _ (some ⟨g2, pg2.length, none⟩) g1.revs.length cg2 (kat _ gi _ _ 3 rfl (by omega)))) ?_
      rintro _ _ ⟨_, ⟨rfl, rfl⟩, rfl⟩
      show WP _ _ _ _ _ _ _ (Blk gb (pg ++ (flatOf GV.cells gi ++ GV.cells (g1, .slice (some ⟨g2, pg2.length, none⟩) g1.revs.length cg2)) ++ (flatOf GV.cells gt ++ sp)) 155 :: Blk g2 (pg2 ++ (flatOf Rv.cells g1.revs) ++ spg2) 81 :: Blk b [.slice ka kn kc, .int .i64 (s.md.m), .int .i64 (s.md.s), .slice (some ⟨gb, pg.length, none⟩) ((gi.length + 1 + gt.length)) gc] 153 :: Kds GVO gt :: MO mb (wkr g1.revs at_) :: F)
      refine WP.val rfl rfl rfl (Val.notP rfl rfl) ?_
      refine WP.nil ?_
      refine Out.next ?_
      refine WPc.ifP rfl (fun h3 => ?_) (fun h3 => ?_)
      · skip
        have h3 : (¬ (g1.revs.length = 0)) := h3
        refine WPc.seq ?_
        refine WPc.region ?_
        refine WP.val rfl rfl rfl (Val.move rfl rfl) ?_
        refine WP.val rfl rfl rfl (Val.neq rfl rfl rfl) ?_
        refine WP.nil ?_
        refine Out.next ?_
        refine WPc.ifP rfl (fun h4 => ?_) (fun h4 => ?_)
        · skip
          have h4 : (((wk g1.revs at_ g1.revs.length : Int) - 1) ≠ (-1 : Int)) := h4
          have hwl := wk_le g1.revs at_ g1.revs.length
          obtain ⟨n, hn⟩ : ∃ n, wk g1.revs at_ g1.revs.length = n + 1 := ⟨wk g1.revs at_ g1.revs.length - 1, by omega⟩
          refine WPc.know 9 (.int .i64 ((n : Nat) : Int)) rfl (congrArg (Value.int .i64) (by omega)) ?_
          refine WPc.region ?_
          refine WP.val rfl rfl rfl (Val.move rfl rfl) ?_
          refine WP.val rfl rfl rfl (Val.move rfl rfl) ?_
          refine WP.val rfl rfl rfl (Val.nilCheck rfl rfl) ?_
          refine WP.val rfl rfl rfl (Val.fieldAddr (j := pg.length + gi.length * 4 + 3) rfl Ty.fo155_2 rfl rfl) ?_
          refine WP.val rfl rfl rfl (Val.load (v := .slice (some ⟨g2, pg2.length, none⟩) g1.revs.length cg2) rfl Ty.sc132 rfl (fun w h => ((h.at 0 rfl).cell _).trans (kat _ gi _ _ 3 rfl (by omega)))) ?_
          refine WP.val rfl rfl rfl (Val.move rfl rfl) ?_
          refine WP.val rfl rfl rfl (Val.slice (lo := n) (hi := g1.revs.length) (j := pg2.length + n * 2) (vlo := some (.i64, ((n : Nat) : Int))) (vhi := none) rfl Ty.sl132 rfl rfl rfl (by simp [bnd]; try omega) (by simp [bnd]; try omega) (by omega) (by omega) (by omega) (by rw [if_neg (by omega)]; all_goals omega)) ?_
          refine WP.val rfl rfl rfl (Val.nilCheck rfl rfl) ?_
          refine WP.val rfl rfl rfl (Val.fieldAddr (j := pg.length + gi.length * 4 + 3) rfl Ty.fo155_2 rfl rfl) ?_
          refine WP.eff0 rfl rfl (Eff.store (C' := pg ++ (flatOf GV.cells gi ++ GV.cells (g1, .slice (some ⟨g2, pg2.length + n * 2, none⟩) (g1.revs.length - n) (cg2 - n))) ++ (flatOf GV.cells gt ++ sp)) rfl Ty.sc132 rfl rfl rfl (klt _ gi _ _ 4 rfl (by omega)) (kset _ gi _ _ 3 (.slice (some ⟨g2, pg2.length + n * 2, none⟩) (g1.revs.length - n) (cg2 - n)) rfl (by omega))) ?_
          rintro _ _ rfl
          refine WP.nil ?_
          refine Out.next ?_
          refine WPc.region ?_
          refine WP.val rfl rfl rfl (Val.move rfl rfl) ?_
          refine WP.val rfl rfl rfl (Val.move rfl rfl) ?_
          refine WP.val rfl rfl rfl (Val.nilCheck rfl rfl) ?_
          refine WP.val rfl rfl rfl (Val.fieldAddr (j := 3) rfl Ty.fo153_2 rfl rfl) ?_
          refine WP.val rfl rfl rfl (Val.load rfl Ty.sc151 rfl (fun w h => h.cell 2 rfl rfl)) ?_
          refine WP.val rfl rfl rfl (Val.move rfl rfl) ?_
          refine WP.val rfl rfl rfl (Val.slice (lo := gi.length) (hi := (gi.length + 1 + gt.length)) (j := pg.length + gi.length * 4) (vlo := some (.i64, ((gi.length : Nat) : Int))) (vhi := none) rfl Ty.sl151 rfl rfl rfl (by simp [bnd]; try omega) (by simp [bnd]; try omega) (by omega) (by omega) (by omega) (by rw [if_neg (by omega)]; all_goals omega)) ?_
          refine WP.val rfl rfl rfl (Val.nilCheck rfl rfl) ?_
          refine WP.val rfl rfl rfl (Val.fieldAddr (j := 3) rfl Ty.fo153_2 rfl rfl) ?_
          refine WP.perm pl2 ?_
          refine WP.eff0 rfl rfl (Eff.store rfl Ty.sc151 rfl rfl rfl (by simp) st3) ?_
          rintro _ _ rfl
          refine WP.nil ?_
          refine Out.perm pl2 ?_
          refine Out.conv (fun w h => Sat.ownOMk (e := 81) (k := 2) (b := g2) (m := (g1.revs.drop n).length) (cap := cg2 - n) (pre := pg2 ++ flatOf Rv.cells (g1.revs.take n)) (xs := flatOf Rv.cells (g1.revs.drop n)) (sp := spg2) (off := pg2.length + n * 2) (by rw [List.append_assoc pg2, ← flatOf_append, List.take_append_drop]; exact h) (by rw [List.length_drop]; omega) (flatOf_length Rv.len _) (by rw [hsg2, List.length_drop]; congr 1; omega) (by omega) (by rw [List.length_append, flatOf_length Rv.len, List.length_take]; omega)) ?_
          refine Out.perm pl4 ?_
          refine Out.perm pl4 ?_
          refine Out.perm pl2 ?_
          refine Out.perm pl4 ?_
          refine Out.perm pl4 ?_
          exact Out.end0 (L' := _) Try.results103 ⟨rfl, rfl⟩ (fun w h => by rw [kcomp_of hgs (by rw [List.length_map]; exact hgx2), kav_of hgs (by rw [List.length_map]; exact hgx2)]; rw [show wk g1.revs at_ g1.revs.length - 1 = n from by omega]; refine kis_at_mk (u := .slice (some ⟨g2, pg2.length + n * 2, none⟩) (g1.revs.drop n).length (cg2 - n)) (pg := pg) (gb := gb) hgc hsp hgm ?_; rw [List.length_drop]; rw [List.length_drop] at h; exact h)
        · skip
          have h4 : ¬ (((wk g1.revs at_ g1.revs.length : Int) - 1) ≠ (-1 : Int)) := h4
          refine WPc.skip ?_
          refine Out.next ?_
          refine WPc.region ?_
          refine WP.val rfl rfl rfl (Val.move rfl rfl) ?_
          refine WP.val rfl rfl rfl (Val.move rfl rfl) ?_
          refine WP.val rfl rfl rfl (Val.nilCheck rfl rfl) ?_
          refine WP.val rfl rfl rfl (Val.fieldAddr (j := 3) rfl Ty.fo153_2 rfl rfl) ?_
          refine WP.val rfl rfl rfl (Val.load rfl Ty.sc151 rfl (fun w h => h.cell 2 rfl rfl)) ?_
          refine WP.val rfl rfl rfl (Val.move rfl rfl) ?_
          refine WP.val rfl rfl rfl (Val.slice (lo := gi.length) (hi := (gi.length + 1 + gt.length)) (j := pg.length + gi.length * 4) (vlo := some (.i64, ((gi.length : Nat) : Int))) (vhi := none) rfl Ty.sl151 rfl rfl rfl (by simp [bnd]; try omega) (by simp [bnd]; try omega) (by omega) (by omega) (by omega) (by rw [if_neg (by omega)]; all_goals omega)) ?_
          refine WP.val rfl rfl rfl (Val.nilCheck rfl rfl) ?_
          refine WP.val rfl rfl rfl (Val.fieldAddr (j := 3) rfl Ty.fo153_2 rfl rfl) ?_
          refine WP.perm pl2 ?_
          refine WP.eff0 rfl rfl (Eff.store rfl Ty.sc151 rfl rfl rfl (by simp) st3) ?_
          rintro _ _ rfl
          refine WP.nil ?_
          refine Out.perm pl2 ?_
          refine Out.conv (fun w h => Sat.ownOMk (e := 81) (k := 2) (b := g2) (m := g1.revs.length) (cap := cg2) (pre := pg2) (xs := flatOf Rv.cells g1.revs) (sp := spg2) (by exact h) (by omega) (flatOf_length Rv.len _) hsg2 hcg2 rfl) ?_
          refine Out.perm pl4 ?_
          refine Out.perm pl4 ?_
          refine Out.perm pl2 ?_
          refine Out.perm pl4 ?_
          refine Out.perm pl4 ?_
          exact Out.end0 (L' := _) Try.results103 ⟨rfl, rfl⟩ (fun w h => by rw [kcomp_of hgs (by rw [List.length_map]; exact hgx2), kav_of hgs (by rw [List.length_map]; exact hgx2)]; rw [show wk g1.revs at_ g1.revs.length - 1 = 0 from by omega, List.drop_zero]; exact kis_at_mk (u := .slice (some ⟨g2, pg2.length, none⟩) g1.revs.length cg2) (pg := pg) (gb := gb) hgc hsp hgm h)
      · skip
        have h3 : ¬ (¬ (g1.revs.length = 0)) := h3
        exfalso; omega
set_option maxRecDepth 100000 in
set_option maxHeartbeats 2000000 in
theorem zcompact_spec (b : Nat) (ka : Option Addr) (kn kc : Nat) (s : KI) (hsm : Small s.gs) (hemp : emp s.gs = false) (hgpos : 0 < s.gs.length) (hfull : Full s.gs) (at_ : Int) : Does Try.prog 75 [.agg #[.pointer (some ⟨b, 0, none⟩)], .int .i64 (at_)] [KIs b ka kn kc s] (fun v L => ∃ mb : Nat, v = .map (some mb) ∧ L = [MO mb (kav s at_), KIs b ka kn kc (kcomp s at_)]) := by
  refine Does.enter 13 Try.func75 rfl rfl rfl fun W F => ?_
  show WPc _ _ _ _ _ [(0, .agg #[.pointer (some ⟨b, 0, none⟩)]), (1, .int .i64 (at_))] (KIs b ka kn kc s :: F)
  refine WPc.seq ?_
  refine WPc.region ?_
  refine WP.eff rfl rfl rfl (Eff.box (C := [.pointer (some ⟨b, 0, none⟩)]) rfl rfl rfl) ?_
  rintro _ _ ⟨b1, rfl, rfl⟩
  refine WP.val rfl rfl rfl (Val.assign rfl rfl) ?_
  refine WP.nil ?_
  refine Out.next ?_
  refine WPc.seq ?_
  refine WPc.region ?_
  refine WP.eff rfl rfl rfl (Eff.moMake rfl) ?_
  rintro _ _ ⟨mb, rfl, rfl⟩
  refine WP.val rfl rfl rfl (Val.assign rfl rfl) ?_
  refine WP.nil ?_
  refine Out.next ?_
  refine WPc.seq ?_
  refine WPc.region ?_
  refine WP.val rfl rfl rfl (Val.fieldAddr (j := 0) rfl Ty.fo78_0 rfl rfl) ?_
  refine WP.val rfl rfl rfl (Val.load rfl Ty.sc76 rfl (fun w h => h.cell 1 rfl rfl)) ?_
  refine WP.val rfl rfl rfl (Val.move rfl rfl) ?_
  refine WP.val rfl rfl rfl (Val.move rfl rfl) ?_
  refine WP.perm pl2 ?_
  refine WP.eff rfl rfl rfl (Eff.call rfl rfl Try.call103 (compact_spec b ka kn kc s hsm hemp hgpos hfull at_ mb)) ?_
  rintro _ _ ⟨_, ⟨rfl, rfl⟩, rfl⟩
  show WP _ _ _ _ _ _ _ (KIs b ka kn kc (kcomp s at_) :: MO mb (kav s at_) :: Blk b1 [.pointer (some ⟨b, 0, none⟩)] 78 :: F)
  refine WP.nil ?_
  refine Out.next ?_
  refine WPc.seq ?_
  refine WPc.region ?_
  refine WP.val rfl rfl rfl (Val.move rfl rfl) ?_
  refine WP.val rfl rfl rfl (Val.assign rfl rfl) ?_
  refine WP.nil ?_
  refine Out.next ?_
  refine WPc.ret ?_
  refine Out.perm pl2 ?_
  refine Out.drop ?_
  refine Out.perm pl1 ?_
  exact Out.ret1 (L' := _) Try.results75 rfl ⟨mb, rfl, rfl⟩ (fun _ h => h)

end Go.Proofs.Ythicijpjpijdjaa.Lf

namespace Go.Proofs.Ythicijpjpijdjaa.Lg
open Go.RowKit Go.Proofs.Ythicijpjpijdjaa Go.Proofs.Ythicijpjpijdjaa.Sl Go.Proofs.Ythicijpjpijdjaa.KyP Go.Proofs.Ythicijpjpijdjaa.Ka Go.Proofs.Ythicijpjpijdjaa.Kb Go.Proofs.Ythicijpjpijdjaa.Kc Go.Proofs.Ythicijpjpijdjaa.Kd Go.Proofs.Ythicijpjpijdjaa.Ke Go.Proofs.Ythicijpjpijdjaa.Kf Go.Proofs.Ythicijpjpijdjaa.Kg Go.Proofs.Ythicijpjpijdjaa.Kh Go.Proofs.Ythicijpjpijdjaa.Ki Go.Proofs.Ythicijpjpijdjaa.Kj Go.Proofs.Ythicijpjpijdjaa.Kk Go.Proofs.Ythicijpjpijdjaa.Kl Go.Proofs.Ythicijpjpijdjaa.Km Go.Proofs.Ythicijpjpijdjaa.Kn Go.Proofs.Ythicijpjpijdjaa.Ko Go.Proofs.Ythicijpjpijdjaa.Kp Go.Proofs.Ythicijpjpijdjaa.Kq Go.Proofs.Ythicijpjpijdjaa.Kr Go.Proofs.Ythicijpjpijdjaa.Ks Go.Proofs.Ythicijpjpijdjaa.Kt Go.Proofs.Ythicijpjpijdjaa.Ku Go.Proofs.Ythicijpjpijdjaa.Kv Go.Proofs.Ythicijpjpijdjaa.Kw Go.Proofs.Ythicijpjpijdjaa.Kx Go.Proofs.Ythicijpjpijdjaa.Ky Go.Proofs.Ythicijpjpijdjaa.Kz Go.Proofs.Ythicijpjpijdjaa.La Go.Proofs.Ythicijpjpijdjaa.Lb Go.Proofs.Ythicijpjpijdjaa.Lc Go.Proofs.Ythicijpjpijdjaa.Ld Go.Proofs.Ythicijpjpijdjaa.Le Go.Proofs.Ythicijpjpijdjaa.Lf
set_option linter.unusedVariables false
set_option linter.unusedSimpArgs false
set_option linter.unusedSectionVars false

set_option maxRecDepth 100000 in
set_option maxHeartbeats 2000000 in
theorem len64_0 (z : Nat) : Does Try.prog 127 [.int .u64 0] [] (fun v L => v = .int .i64 0 ∧ L = []) := by
  refine Does.enter 25 Try.func127 rfl rfl rfl fun W F => ?_
  show WPc _ _ _ _ _ [(0, .int .u64 0)] (F)
  refine WPc.seq ?_
  refine WPc.region ?_
  refine WP.val rfl rfl rfl (Val.assign rfl rfl) ?_
  refine WP.nil ?_
  refine Out.next ?_
  refine WPc.seq ?_
  refine WPc.seq ?_
  refine WPc.region ?_
  refine WP.val rfl rfl rfl (Val.move rfl rfl) ?_
  refine WP.val rfl rfl rfl (Val.geq rfl rfl rfl) ?_
  refine WP.nil ?_
  refine Out.next ?_
  refine WPc.ifP rfl (fun h1 => ?_) (fun h1 => ?_)
  · skip
    have h1 : ((4294967296 : Int) ≤ (0 : Int)) := h1
    exfalso; omega
  · skip
    have h1 : ¬ ((4294967296 : Int) ≤ (0 : Int)) := h1
    refine WPc.skip ?_
    refine Out.next ?_
    refine WPc.seq ?_
    refine WPc.seq ?_
    refine WPc.region ?_
    refine WP.val rfl rfl rfl (Val.move rfl rfl) ?_
    refine WP.val rfl rfl rfl (Val.geq rfl rfl rfl) ?_
    refine WP.nil ?_
    refine Out.next ?_
    refine WPc.ifP rfl (fun h2 => ?_) (fun h2 => ?_)
    · skip
      have h2 : ((65536 : Int) ≤ (0 : Int)) := h2
      exfalso; omega
    · skip
      have h2 : ¬ ((65536 : Int) ≤ (0 : Int)) := h2
      refine WPc.skip ?_
      refine Out.next ?_
      refine WPc.seq ?_
      refine WPc.seq ?_
      refine WPc.region ?_
      refine WP.val rfl rfl rfl (Val.move rfl rfl) ?_
      refine WP.val rfl rfl rfl (Val.geq rfl rfl rfl) ?_
      refine WP.nil ?_
      refine Out.next ?_
      refine WPc.ifP rfl (fun h3 => ?_) (fun h3 => ?_)
      · skip
        have h3 : ((256 : Int) ≤ (0 : Int)) := h3
        exfalso; omega
      · skip
        have h3 : ¬ ((256 : Int) ≤ (0 : Int)) := h3
        refine WPc.skip ?_
        refine Out.next ?_
        refine WPc.seq ?_
        refine WPc.region ?_
        refine WP.val rfl rfl rfl (Val.move rfl rfl) ?_
        refine WP.val rfl rfl rfl (Val.move rfl rfl) ?_
        refine WP.val rfl rfl rfl (Val.conv (z := 0) rfl Ty.ik5 Ty.un275 rfl rfl) ?_
        refine WP.val rfl rfl rfl (Val.indexStr (j := 0) (c := 0) rfl rfl rfl rfl rfl (by rfl)) ?_
        refine WP.val rfl rfl rfl (Val.conv (z := 0) rfl Ty.ik3 Ty.un5 rfl rfl) ?_
        refine WP.val rfl rfl rfl (Val.add (z := 0) rfl rfl rfl (by rfl)) ?_
        refine WP.val rfl rfl rfl (Val.assign rfl rfl) ?_
        refine WP.nil ?_
        refine Out.next ?_
        refine WPc.ret ?_
        exact Out.ret1 (L' := []) Try.results127 rfl ⟨rfl, rfl⟩ (fun _ h => h)
set_option maxRecDepth 100000 in
set_option maxHeartbeats 2000000 in
theorem blen_0 (z : Nat) : Does Try.prog 116 [.int .u64 0] [] (fun v L => v = .int .i64 0 ∧ L = []) := by
  refine Does.enter 8 Try.func116 rfl rfl rfl fun W F => ?_
  show WPc _ _ _ _ _ [(0, .int .u64 0)] (F)
  refine WPc.seq ?_
  refine WPc.region ?_
  refine WP.val rfl rfl rfl (Val.assign rfl rfl) ?_
  refine WP.nil ?_
  refine Out.next ?_
  refine WPc.seq ?_
  refine WPc.condF rfl rfl ?_
  refine WPc.skip ?_
  refine Out.next ?_
  refine WPc.seq ?_
  refine WPc.region ?_
  refine WP.val rfl rfl rfl (Val.move rfl rfl) ?_
  refine WP.eff rfl rfl rfl (Eff.call rfl rfl Try.call127 (len64_0 0)) ?_
  rintro _ F ⟨_, ⟨rfl, rfl⟩, rfl⟩
  show WP _ _ _ _ _ _ _ (F)
  refine WP.val rfl rfl rfl (Val.assign rfl rfl) ?_
  refine WP.nil ?_
  refine Out.next ?_
  refine WPc.ret ?_
  exact Out.ret1 (L' := []) Try.results116 rfl ⟨rfl, rfl⟩ (fun _ h => h)
set_option maxRecDepth 100000 in
set_option maxHeartbeats 2000000 in
theorem isort_0 (a : Option Addr) (c : Nat) : Does Try.prog 118 [.slice a 0 c, .int .i64 0, .int .i64 0, .func (.func 102) #[] #[]] [] (fun v L => v = .tuple #[] ∧ L = []) := by
  refine Does.enter 53 Try.func118 rfl rfl rfl fun W F => ?_
  show WPc _ _ _ _ _ [(0, .slice a 0 c), (1, .int .i64 0), (2, .int .i64 0), (3, .func (.func 102) #[] #[])] (F)
  refine WPc.seq ?_
  refine WPc.region ?_
  refine WP.val rfl rfl rfl (Val.move rfl rfl) ?_
  refine WP.val rfl rfl rfl (Val.add (z := 1) rfl rfl rfl (by rfl)) ?_
  refine WP.val rfl rfl rfl (Val.assign rfl rfl) ?_
  refine WP.nil ?_
  refine Out.next ?_
  refine WPc.block ?_
  refine WPc.loop (ι := Unit) (fun _ => True) (fun _ => [(0, .slice a 0 c), (2, .int .i64 0), (8, .int .i64 1)]) (fun _ => F) (fun _ => 0) () trivial ((Sub.cons rfl (Sub.cons rfl (Sub.cons rfl Sub.nil)))) (fun _ h => h) ?_
  rintro _ -
  show WPc _ _ _ _ _ [(0, .slice a 0 c), (2, .int .i64 0), (8, .int .i64 1)] (F)
  refine WPc.seq ?_
  refine WPc.seq ?_
  refine WPc.region ?_
  refine WP.val rfl rfl rfl (Val.move rfl rfl) ?_
  refine WP.val rfl rfl rfl (Val.move rfl rfl) ?_
  refine WP.val rfl rfl rfl (Val.lss rfl rfl rfl) ?_
  refine WP.nil ?_
  refine Out.next ?_
  refine WPc.ifP rfl (fun h1 => ?_) (fun h1 => ?_)
  · skip
    have h1 : ((1 : Int) < (0 : Int)) := h1
    exfalso; omega
  · skip
    have h1 : ¬ ((1 : Int) < (0 : Int)) := h1
    refine WPc.exit ?_
    refine Out.then_exit ?_
    refine Out.then_exit ?_
    refine Out.block_exit ?_
    exact Out.end0 (L' := []) Try.results118 ⟨rfl, rfl⟩ (fun _ h => h)
set_option maxRecDepth 100000 in
set_option maxHeartbeats 2000000 in
theorem pdq_0 (a : Option Addr) (c : Nat) : Does Try.prog 115 [.slice a 0 c, .int .i64 0, .int .i64 0, .int .i64 0, .func (.func 102) #[] #[]] [] (fun v L => v = .tuple #[] ∧ L = []) := by
  refine Does.enter 148 Try.func115 rfl rfl rfl fun W F => ?_
  show WPc _ _ _ _ _ [(0, .slice a 0 c), (1, .int .i64 0), (2, .int .i64 0), (3, .int .i64 0), (4, .func (.func 102) #[] #[])] (F)
  refine WPc.seq ?_
  refine WPc.region ?_
  refine WP.val rfl rfl rfl (Val.assign rfl rfl) ?_
  refine WP.nil ?_
  refine Out.next ?_
  refine WPc.seq ?_
  refine WPc.region ?_
  refine WP.val rfl rfl rfl (Val.assign rfl rfl) ?_
  refine WP.nil ?_
  refine Out.next ?_
  refine WPc.block ?_
  refine WPc.loop (ι := Unit) (fun _ => True) (fun _ => [(0, .slice a 0 c), (1, .int .i64 0), (2, .int .i64 0), (3, .int .i64 0), (4, .func (.func 102) #[] #[]), (10, .bool true), (11, .bool true)]) (fun _ => F) (fun _ => 0) () trivial ((Sub.cons rfl (Sub.cons rfl (Sub.cons rfl (Sub.cons rfl (Sub.cons rfl (Sub.cons rfl (Sub.cons rfl Sub.nil)))))))) (fun _ h => h) ?_
  rintro _ -
  show WPc _ _ _ _ _ [(0, .slice a 0 c), (1, .int .i64 0), (2, .int .i64 0), (3, .int .i64 0), (4, .func (.func 102) #[] #[]), (10, .bool true), (11, .bool true)] (F)
  refine WPc.block ?_
  refine WPc.seq ?_
  refine WPc.region ?_
  refine WP.val rfl rfl rfl (Val.move rfl rfl) ?_
  refine WP.val rfl rfl rfl (Val.move rfl rfl) ?_
  refine WP.val rfl rfl rfl (Val.sub (z := 0) rfl rfl rfl (by rfl)) ?_
  refine WP.val rfl rfl rfl (Val.assign rfl rfl) ?_
  refine WP.nil ?_
  refine Out.next ?_
  refine WPc.seq ?_
  refine WPc.seq ?_
  refine WPc.region ?_
  refine WP.val rfl rfl rfl (Val.move rfl rfl) ?_
  refine WP.val rfl rfl rfl (Val.leq rfl rfl rfl) ?_
  refine WP.nil ?_
  refine Out.next ?_
  refine WPc.ifP rfl (fun h1 => ?_) (fun h1 => ?_)
  · skip
    have h1 : ((0 : Int) ≤ (12 : Int)) := h1
    refine WPc.seq ?_
    refine WPc.region ?_
    refine WP.val rfl rfl rfl (Val.move rfl rfl) ?_
    refine WP.val rfl rfl rfl (Val.move rfl rfl) ?_
    refine WP.val rfl rfl rfl (Val.move rfl rfl) ?_
    refine WP.val rfl rfl rfl (Val.move rfl rfl) ?_
    refine WP.eff rfl rfl rfl (Eff.call rfl rfl Try.call118 (isort_0 a c)) ?_
    rintro _ F ⟨_, ⟨rfl, rfl⟩, rfl⟩
    show WP _ _ _ _ _ _ _ (F)
    refine WP.nil ?_
    refine Out.next ?_
    refine WPc.ret ?_
    refine Out.then_ret ?_
    refine Out.block_ret ?_
    refine Out.then_ret ?_
    refine Out.block_ret ?_
    exact Out.ret0 (L' := []) Try.results115 ⟨rfl, rfl⟩ (fun _ h => h)
  · skip
    have h1 : ¬ ((0 : Int) ≤ (12 : Int)) := h1
    exfalso; omega
set_option maxRecDepth 100000 in
set_option maxHeartbeats 2000000 in
theorem sort_0 (a : Option Addr) (c : Nat) : Does Try.prog 101 [.slice a 0 c, .func (.func 102) #[] #[]] [] (fun v L => v = .tuple #[] ∧ L = []) := by
  refine Does.enter 14 Try.func101 rfl rfl rfl fun W F => ?_
  show WPc _ _ _ _ _ [(0, .slice a 0 c), (1, .func (.func 102) #[] #[])] (F)
  refine WPc.seq ?_
  refine WPc.region ?_
  refine WP.val rfl rfl rfl (Val.move rfl rfl) ?_
  refine WP.val rfl rfl rfl (Val.len rfl Ty.sl40 rfl) ?_
  refine WP.val rfl rfl rfl (Val.assign rfl rfl) ?_
  refine WP.nil ?_
  refine Out.next ?_
  refine WPc.region ?_
  refine WP.val rfl rfl rfl (Val.move rfl rfl) ?_
  refine WP.val rfl rfl rfl (Val.move rfl rfl) ?_
  refine WP.val rfl rfl rfl (Val.move rfl rfl) ?_
  refine WP.val rfl rfl rfl (Val.conv (z := 0) rfl Ty.ik251 Ty.un3 rfl rfl) ?_
  refine WP.eff rfl rfl rfl (Eff.call rfl rfl Try.call116 (blen_0 0)) ?_
  rintro _ F ⟨_, ⟨rfl, rfl⟩, rfl⟩
  show WP _ _ _ _ _ _ _ (F)
  refine WP.val rfl rfl rfl (Val.move rfl rfl) ?_
  refine WP.eff rfl rfl rfl (Eff.call rfl rfl Try.call115 (pdq_0 a c)) ?_
  rintro _ F ⟨_, ⟨rfl, rfl⟩, rfl⟩
  show WP _ _ _ _ _ _ _ (F)
  refine WP.nil ?_
  exact Out.end0 (L' := []) Try.results101 ⟨rfl, rfl⟩ (fun _ h => h)
set_option maxRecDepth 100000 in
set_option maxHeartbeats 2000000 in
theorem len64_1 (z : Nat) : Does Try.prog 127 [.int .u64 1] [] (fun v L => v = .int .i64 1 ∧ L = []) := by
  refine Does.enter 25 Try.func127 rfl rfl rfl fun W F => ?_
  show WPc _ _ _ _ _ [(0, .int .u64 1)] (F)
  refine WPc.seq ?_
  refine WPc.region ?_
  refine WP.val rfl rfl rfl (Val.assign rfl rfl) ?_
  refine WP.nil ?_
  refine Out.next ?_
  refine WPc.seq ?_
  refine WPc.seq ?_
  refine WPc.region ?_
  refine WP.val rfl rfl rfl (Val.move rfl rfl) ?_
  refine WP.val rfl rfl rfl (Val.geq rfl rfl rfl) ?_
  refine WP.nil ?_
  refine Out.next ?_
  refine WPc.ifP rfl (fun h1 => ?_) (fun h1 => ?_)
  · skip
    have h1 : ((4294967296 : Int) ≤ (1 : Int)) := h1
    exfalso; omega
  · skip
    have h1 : ¬ ((4294967296 : Int) ≤ (1 : Int)) := h1
    refine WPc.skip ?_
    refine Out.next ?_
    refine WPc.seq ?_
    refine WPc.seq ?_
    refine WPc.region ?_
    refine WP.val rfl rfl rfl (Val.move rfl rfl) ?_
    refine WP.val rfl rfl rfl (Val.geq rfl rfl rfl) ?_
    refine WP.nil ?_
    refine Out.next ?_
    refine WPc.ifP rfl (fun h2 => ?_) (fun h2 => ?_)
    · skip
      have h2 : ((65536 : Int) ≤ (1 : Int)) := h2
      exfalso; omega
    · skip
      have h2 : ¬ ((65536 : Int) ≤ (1 : Int)) := h2
      refine WPc.skip ?_
      refine Out.next ?_
      refine WPc.seq ?_
      refine WPc.seq ?_
      refine WPc.region ?_
      refine WP.val rfl rfl rfl (Val.move rfl rfl) ?_
      refine WP.val rfl rfl rfl (Val.geq rfl rfl rfl) ?_
      refine WP.nil ?_
      refine Out.next ?_
      refine WPc.ifP rfl (fun h3 => ?_) (fun h3 => ?_)
      · skip
        have h3 : ((256 : Int) ≤ (1 : Int)) := h3
        exfalso; omega
      · skip
        have h3 : ¬ ((256 : Int) ≤ (1 : Int)) := h3
        refine WPc.skip ?_
        refine Out.next ?_
        refine WPc.seq ?_
        refine WPc.region ?_
        refine WP.val rfl rfl rfl (Val.move rfl rfl) ?_
        refine WP.val rfl rfl rfl (Val.move rfl rfl) ?_
        refine WP.val rfl rfl rfl (Val.conv (z := 1) rfl Ty.ik5 Ty.un275 rfl rfl) ?_
        refine WP.val rfl rfl rfl (Val.indexStr (j := 1) (c := 1) rfl rfl rfl rfl rfl (by rfl)) ?_
        refine WP.val rfl rfl rfl (Val.conv (z := 1) rfl Ty.ik3 Ty.un5 rfl rfl) ?_
        refine WP.val rfl rfl rfl (Val.add (z := 1) rfl rfl rfl (by rfl)) ?_
        refine WP.val rfl rfl rfl (Val.assign rfl rfl) ?_
        refine WP.nil ?_
        refine Out.next ?_
        refine WPc.ret ?_
        exact Out.ret1 (L' := []) Try.results127 rfl ⟨rfl, rfl⟩ (fun _ h => h)
set_option maxRecDepth 100000 in
set_option maxHeartbeats 2000000 in
theorem blen_1 (z : Nat) : Does Try.prog 116 [.int .u64 1] [] (fun v L => v = .int .i64 1 ∧ L = []) := by
  refine Does.enter 8 Try.func116 rfl rfl rfl fun W F => ?_
  show WPc _ _ _ _ _ [(0, .int .u64 1)] (F)
  refine WPc.seq ?_
  refine WPc.region ?_
  refine WP.val rfl rfl rfl (Val.assign rfl rfl) ?_
  refine WP.nil ?_
  refine Out.next ?_
  refine WPc.seq ?_
  refine WPc.condF rfl rfl ?_
  refine WPc.skip ?_
  refine Out.next ?_
  refine WPc.seq ?_
  refine WPc.region ?_
  refine WP.val rfl rfl rfl (Val.move rfl rfl) ?_
  refine WP.eff rfl rfl rfl (Eff.call rfl rfl Try.call127 (len64_1 0)) ?_
  rintro _ F ⟨_, ⟨rfl, rfl⟩, rfl⟩
  show WP _ _ _ _ _ _ _ (F)
  refine WP.val rfl rfl rfl (Val.assign rfl rfl) ?_
  refine WP.nil ?_
  refine Out.next ?_
  refine WPc.ret ?_
  exact Out.ret1 (L' := []) Try.results116 rfl ⟨rfl, rfl⟩ (fun _ h => h)
set_option maxRecDepth 100000 in
set_option maxHeartbeats 2000000 in
theorem isort_1 (a : Option Addr) (c : Nat) : Does Try.prog 118 [.slice a 1 c, .int .i64 0, .int .i64 1, .func (.func 102) #[] #[]] [] (fun v L => v = .tuple #[] ∧ L = []) := by
  refine Does.enter 53 Try.func118 rfl rfl rfl fun W F => ?_
  show WPc _ _ _ _ _ [(0, .slice a 1 c), (1, .int .i64 0), (2, .int .i64 1), (3, .func (.func 102) #[] #[])] (F)
  refine WPc.seq ?_
  refine WPc.region ?_
  refine WP.val rfl rfl rfl (Val.move rfl rfl) ?_
  refine WP.val rfl rfl rfl (Val.add (z := 1) rfl rfl rfl (by rfl)) ?_
  refine WP.val rfl rfl rfl (Val.assign rfl rfl) ?_
  refine WP.nil ?_
  refine Out.next ?_
  refine WPc.block ?_
  refine WPc.loop (ι := Unit) (fun _ => True) (fun _ => [(0, .slice a 1 c), (2, .int .i64 1), (8, .int .i64 1)]) (fun _ => F) (fun _ => 0) () trivial ((Sub.cons rfl (Sub.cons rfl (Sub.cons rfl Sub.nil)))) (fun _ h => h) ?_
  rintro _ -
  show WPc _ _ _ _ _ [(0, .slice a 1 c), (2, .int .i64 1), (8, .int .i64 1)] (F)
  refine WPc.seq ?_
  refine WPc.seq ?_
  refine WPc.region ?_
  refine WP.val rfl rfl rfl (Val.move rfl rfl) ?_
  refine WP.val rfl rfl rfl (Val.move rfl rfl) ?_
  refine WP.val rfl rfl rfl (Val.lss rfl rfl rfl) ?_
  refine WP.nil ?_
  refine Out.next ?_
  refine WPc.ifP rfl (fun h1 => ?_) (fun h1 => ?_)
  · skip
    have h1 : ((1 : Int) < (1 : Int)) := h1
    exfalso; omega
  · skip
    have h1 : ¬ ((1 : Int) < (1 : Int)) := h1
    refine WPc.exit ?_
    refine Out.then_exit ?_
    refine Out.then_exit ?_
    refine Out.block_exit ?_
    exact Out.end0 (L' := []) Try.results118 ⟨rfl, rfl⟩ (fun _ h => h)
set_option maxRecDepth 100000 in
set_option maxHeartbeats 2000000 in
theorem pdq_1 (a : Option Addr) (c : Nat) : Does Try.prog 115 [.slice a 1 c, .int .i64 0, .int .i64 1, .int .i64 1, .func (.func 102) #[] #[]] [] (fun v L => v = .tuple #[] ∧ L = []) := by
  refine Does.enter 148 Try.func115 rfl rfl rfl fun W F => ?_
  show WPc _ _ _ _ _ [(0, .slice a 1 c), (1, .int .i64 0), (2, .int .i64 1), (3, .int .i64 1), (4, .func (.func 102) #[] #[])] (F)
  refine WPc.seq ?_
  refine WPc.region ?_
  refine WP.val rfl rfl rfl (Val.assign rfl rfl) ?_
  refine WP.nil ?_
  refine Out.next ?_
  refine WPc.seq ?_
  refine WPc.region ?_
  refine WP.val rfl rfl rfl (Val.assign rfl rfl) ?_
  refine WP.nil ?_
  refine Out.next ?_
  refine WPc.block ?_
  refine WPc.loop (ι := Unit) (fun _ => True) (fun _ => [(0, .slice a 1 c), (1, .int .i64 0), (2, .int .i64 1), (3, .int .i64 1), (4, .func (.func 102) #[] #[]), (10, .bool true), (11, .bool true)]) (fun _ => F) (fun _ => 0) () trivial ((Sub.cons rfl (Sub.cons rfl (Sub.cons rfl (Sub.cons rfl (Sub.cons rfl (Sub.cons rfl (Sub.cons rfl Sub.nil)))))))) (fun _ h => h) ?_
  rintro _ -
  show WPc _ _ _ _ _ [(0, .slice a 1 c), (1, .int .i64 0), (2, .int .i64 1), (3, .int .i64 1), (4, .func (.func 102) #[] #[]), (10, .bool true), (11, .bool true)] (F)
  refine WPc.block ?_
  refine WPc.seq ?_
  refine WPc.region ?_
  refine WP.val rfl rfl rfl (Val.move rfl rfl) ?_
  refine WP.val rfl rfl rfl (Val.move rfl rfl) ?_
  refine WP.val rfl rfl rfl (Val.sub (z := 1) rfl rfl rfl (by rfl)) ?_
  refine WP.val rfl rfl rfl (Val.assign rfl rfl) ?_
  refine WP.nil ?_
  refine Out.next ?_
  refine WPc.seq ?_
  refine WPc.seq ?_
  refine WPc.region ?_
  refine WP.val rfl rfl rfl (Val.move rfl rfl) ?_
  refine WP.val rfl rfl rfl (Val.leq rfl rfl rfl) ?_
  refine WP.nil ?_
  refine Out.next ?_
  refine WPc.ifP rfl (fun h1 => ?_) (fun h1 => ?_)
  · skip
    have h1 : ((1 : Int) ≤ (12 : Int)) := h1
    refine WPc.seq ?_
    refine WPc.region ?_
    refine WP.val rfl rfl rfl (Val.move rfl rfl) ?_
    refine WP.val rfl rfl rfl (Val.move rfl rfl) ?_
    refine WP.val rfl rfl rfl (Val.move rfl rfl) ?_
    refine WP.val rfl rfl rfl (Val.move rfl rfl) ?_
    refine WP.eff rfl rfl rfl (Eff.call rfl rfl Try.call118 (isort_1 a c)) ?_
    rintro _ F ⟨_, ⟨rfl, rfl⟩, rfl⟩
    show WP _ _ _ _ _ _ _ (F)
    refine WP.nil ?_
    refine Out.next ?_
    refine WPc.ret ?_
    refine Out.then_ret ?_
    refine Out.block_ret ?_
    refine Out.then_ret ?_
    refine Out.block_ret ?_
    exact Out.ret0 (L' := []) Try.results115 ⟨rfl, rfl⟩ (fun _ h => h)
  · skip
    have h1 : ¬ ((1 : Int) ≤ (12 : Int)) := h1
    exfalso; omega
set_option maxRecDepth 100000 in
set_option maxHeartbeats 2000000 in
theorem sort_1 (a : Option Addr) (c : Nat) : Does Try.prog 101 [.slice a 1 c, .func (.func 102) #[] #[]] [] (fun v L => v = .tuple #[] ∧ L = []) := by
  refine Does.enter 14 Try.func101 rfl rfl rfl fun W F => ?_
  show WPc _ _ _ _ _ [(0, .slice a 1 c), (1, .func (.func 102) #[] #[])] (F)
  refine WPc.seq ?_
  refine WPc.region ?_
  refine WP.val rfl rfl rfl (Val.move rfl rfl) ?_
  refine WP.val rfl rfl rfl (Val.len rfl Ty.sl40 rfl) ?_
  refine WP.val rfl rfl rfl (Val.assign rfl rfl) ?_
  refine WP.nil ?_
  refine Out.next ?_
  refine WPc.region ?_
  refine WP.val rfl rfl rfl (Val.move rfl rfl) ?_
  refine WP.val rfl rfl rfl (Val.move rfl rfl) ?_
  refine WP.val rfl rfl rfl (Val.move rfl rfl) ?_
  refine WP.val rfl rfl rfl (Val.conv (z := 1) rfl Ty.ik251 Ty.un3 rfl rfl) ?_
  refine WP.eff rfl rfl rfl (Eff.call rfl rfl Try.call116 (blen_1 0)) ?_
  rintro _ F ⟨_, ⟨rfl, rfl⟩, rfl⟩
  show WP _ _ _ _ _ _ _ (F)
  refine WP.val rfl rfl rfl (Val.move rfl rfl) ?_
  refine WP.eff rfl rfl rfl (Eff.call rfl rfl Try.call115 (pdq_1 a c)) ?_
  rintro _ F ⟨_, ⟨rfl, rfl⟩, rfl⟩
  show WP _ _ _ _ _ _ _ (F)
  refine WP.nil ?_
  exact Out.end0 (L' := []) Try.results101 ⟨rfl, rfl⟩ (fun _ h => h)
set_option maxRecDepth 100000 in
set_option maxHeartbeats 2000000 in
theorem kept_0 (mb : Nat) : Does Try.prog 74 [.map (some mb)] [MO mb none] (fun v L => L = [Own 32 2 v 0 []]) := by
  refine Does.enter 19 Try.func74 rfl rfl rfl fun W F => ?_
  show WPc _ _ _ _ _ [(0, .map (some mb))] (MO mb none :: F)
  refine WPc.seq ?_
  refine WPc.region ?_
  refine WP.val rfl rfl rfl (Val.assign rfl rfl) ?_
  refine WP.nil ?_
  refine Out.next ?_
  refine WPc.seq ?_
  refine WPc.region ?_
  refine WP.val rfl rfl rfl (Val.assign rfl rfl) ?_
  refine WP.nil ?_
  refine Out.next ?_
  refine WPc.seq ?_
  refine WPc.seq ?_
  refine WPc.conv (fun w h => h.ownNil (e := 32) (k := 2)) ?_
  show WPc _ _ _ _ _ _ (Own 32 2 (.slice none 0 0) 0 ([]) :: MO mb none :: F)
  refine WPc.region ?_
  refine WP.val rfl rfl rfl (Val.move rfl rfl) ?_
  refine WP.perm pl1 ?_
  refine WP.eff rfl rfl rfl (Eff.moRange rfl rfl) ?_
  rintro _ _ ⟨it, rfl, rfl⟩
  refine WP.nil ?_
  refine Out.next ?_
  refine WPc.block ?_
  refine WPc.perm pl1 ?_
  refine WPc.perm pl1 ?_
  refine WPc.perm pl2 ?_
  refine WPc.loop (ι := Value) (fun v => True) (fun v => [(3, v), (6, .pointer (some ⟨it, 0, none⟩))]) (fun v => Own 32 2 v 0 ([]) :: Obk it (iobj mb none false) :: MO mb none :: F) (fun v => 0) (.slice none 0 0) trivial ((Sub.cons rfl (Sub.cons rfl Sub.nil))) (fun _ h => h) ?_
  rintro v -
  show WPc _ _ _ _ _ [(3, v), (6, .pointer (some ⟨it, 0, none⟩))] (Own 32 2 v 0 ([]) :: Obk it (iobj mb none false) :: MO mb none :: F)
  refine WPc.seq ?_
  refine WPc.region ?_
  refine WP.perm pl2 ?_
  refine WP.perm pl2 ?_
  refine WP.eff rfl rfl rfl (Eff.moEnd (.inl rfl) rfl rfl) ?_
  rintro _ _ ⟨rfl, rfl⟩
  refine WP.val rfl rfl rfl (Val.extract rfl rfl rfl) ?_
  refine WP.nil ?_
  refine Out.next ?_
  refine WPc.seq ?_
  refine WPc.condF rfl rfl ?_
  refine WPc.exit ?_
  refine Out.then_exit ?_
  refine Out.then_exit ?_
  refine Out.block_exit ?_
  refine Out.next ?_
  refine WPc.seq ?_
  refine WPc.perm pl2 ?_
  refine WPc.fact (fun w h => own_slice h) (fun hsl1 => ?_)
  obtain ⟨a1, k1, rfl⟩ := hsl1
  show WPc _ _ _ _ _ _ (Own 32 2 (.slice a1 0 k1) 0 ([]) :: Obk it (iobj mb none false) :: MO mb none :: F)
  refine WPc.region ?_
  refine WP.val rfl rfl rfl (Val.move rfl rfl) ?_
  refine WP.eff rfl rfl rfl (Eff.call rfl rfl Try.call101 (sort_0 a1 k1)) ?_
  rintro _ _ ⟨_, ⟨rfl, rfl⟩, rfl⟩
  show WP _ _ _ _ _ _ _ (Own 32 2 (.slice a1 0 k1) 0 ([]) :: Obk it (iobj mb none false) :: MO mb none :: F)
  refine WP.nil ?_
  refine Out.next ?_
  refine WPc.seq ?_
  refine WPc.region ?_
  refine WP.val rfl rfl rfl (Val.move rfl rfl) ?_
  refine WP.val rfl rfl rfl (Val.assign rfl rfl) ?_
  refine WP.nil ?_
  refine Out.next ?_
  refine WPc.ret ?_
  refine Out.perm pl1 ?_
  refine Out.drop ?_
  refine Out.perm pl1 ?_
  refine Out.drop ?_
  exact Out.ret1 (L' := _) Try.results74 rfl rfl (fun _ h => h)
set_option maxRecDepth 100000 in
set_option maxHeartbeats 2000000 in
theorem kept_1 (mb : Nat) (r : Rv) : Does Try.prog 74 [.map (some mb)] [MO mb (some r)] (fun v L => L = [Own 32 2 v 1 [.int .i64 r.m, .int .i64 r.s]]) := by
  refine Does.enter 19 Try.func74 rfl rfl rfl fun W F => ?_
  show WPc _ _ _ _ _ [(0, .map (some mb))] (MO mb (some r) :: F)
  refine WPc.seq ?_
  refine WPc.region ?_
  refine WP.val rfl rfl rfl (Val.assign rfl rfl) ?_
  refine WP.nil ?_
  refine Out.next ?_
  refine WPc.seq ?_
  refine WPc.region ?_
  refine WP.val rfl rfl rfl (Val.assign rfl rfl) ?_
  refine WP.nil ?_
  refine Out.next ?_
  refine WPc.seq ?_
  refine WPc.seq ?_
  refine WPc.conv (fun w h => h.ownNil (e := 32) (k := 2)) ?_
  show WPc _ _ _ _ _ _ (Own 32 2 (.slice none 0 0) 0 ([]) :: MO mb (some r) :: F)
  refine WPc.region ?_
  refine WP.val rfl rfl rfl (Val.move rfl rfl) ?_
  refine WP.perm pl1 ?_
  refine WP.eff rfl rfl rfl (Eff.moRange rfl rfl) ?_
  rintro _ _ ⟨it, rfl, rfl⟩
  refine WP.nil ?_
  refine Out.next ?_
  refine WPc.block ?_
  refine WPc.perm pl1 ?_
  refine WPc.perm pl1 ?_
  refine WPc.perm pl2 ?_
  refine WPc.loop (ι := Bool × Value) (fun ⟨sn, v⟩ => True) (fun ⟨sn, v⟩ => [(3, v), (6, .pointer (some ⟨it, 0, none⟩))]) (fun ⟨sn, v⟩ => Own 32 2 v ((bif sn then 1 else 0)) ((bif sn then [.int .i64 r.m, .int .i64 r.s] else [])) :: Obk it (iobj mb (some r) sn) :: MO mb (some r) :: F) (fun ⟨sn, v⟩ => (bif sn then 0 else 1)) (false, .slice none 0 0) trivial ((Sub.cons rfl (Sub.cons rfl Sub.nil))) (fun _ h => h) ?_
  rintro ⟨sn, v⟩ -
  show WPc _ _ _ _ _ [(3, v), (6, .pointer (some ⟨it, 0, none⟩))] (Own 32 2 v ((bif sn then 1 else 0)) ((bif sn then [.int .i64 r.m, .int .i64 r.s] else [])) :: Obk it (iobj mb (some r) sn) :: MO mb (some r) :: F)
  refine WPc.seq ?_
  cases sn
  · skip
    show WPc _ _ _ _ _ _ (Own 32 2 v 0 ([]) :: Obk it (iobj mb (some r) false) :: MO mb (some r) :: F)
    refine WPc.region ?_
    refine WP.perm pl2 ?_
    refine WP.perm pl2 ?_
    refine WP.eff rfl rfl rfl (Eff.moNext rfl rfl) ?_
    rintro _ _ ⟨rfl, rfl⟩
    refine WP.val rfl rfl rfl (Val.extract rfl rfl rfl) ?_
    refine WP.nil ?_
    refine Out.next ?_
    refine WPc.seq ?_
    refine WPc.condT rfl rfl ?_
    refine WPc.skip ?_
    refine Out.next ?_
    refine WPc.block ?_
    refine WPc.seq ?_
    refine WPc.region ?_
    refine WP.val rfl rfl rfl (Val.moEntry rfl rfl (fun w h => h.at 0 rfl) (fun w h => h.at 1 rfl)) ?_
    refine WP.val rfl rfl rfl (Val.extract rfl rfl rfl) ?_
    refine WP.eff rfl rfl rfl (Eff.alloc rfl Ty.z81) ?_
    rintro _ _ ⟨b1, rfl, rfl⟩
    refine WP.eff0 rfl rfl (Eff.storeAgg (cs := [.int .i64 (r.m), .int .i64 (r.s)]) (C' := [.int .i64 (r.m), .int .i64 (r.s)]) rfl Ty.ag81 rfl rfl rfl rfl (by simp) rfl) ?_
    rintro _ _ rfl
    refine WP.nil ?_
    refine Out.next ?_
    refine WPc.region ?_
    refine WP.val rfl rfl rfl (Val.move rfl rfl) ?_
    refine WP.val rfl rfl rfl (Val.loadAgg (cs := [.int .i64 (r.m), .int .i64 (r.s)]) rfl Ty.ag81 rfl rfl (fun w h => h.range 0 rfl rfl)) ?_
    refine WP.eff rfl rfl rfl (Eff.call rfl rfl Try.call71 (revout_spec ⟨r.m, r.s⟩)) ?_
    rintro _ _ ⟨_, ⟨rfl, rfl⟩, rfl⟩
    show WP _ _ _ _ _ _ _ (Blk b1 [.int .i64 (r.m), .int .i64 (r.s)] 81 :: Obk it (iobj mb (some r) true) :: MO mb (some r) :: Own 32 2 v 0 ([]) :: F)
    refine WP.eff rfl rfl rfl (Eff.mkSlice (C := [.int .i64 (r.m), .int .i64 (r.s)]) rfl Ty.sl40 rfl (fun _ => by kernel_rfl)) ?_
    rintro _ _ ⟨b2, rfl, rfl⟩
    refine WP.perm pl4 ?_
    refine WP.eff rfl rfl rfl (Eff.append (m := 1) (n0 := 0) (news := [.int .i64 (r.m), .int .i64 (r.s)]) rfl Ty.sl40 Ty.z32 rfl rfl rfl (.slice Ty.sl40 rfl rfl (fun w h => cells_range (h.range 1 rfl rfl))) (by omega) (by omega)) ?_
    rintro v3 _ ⟨onev3, rfl⟩
    refine WP.val rfl rfl rfl (Val.assign rfl rfl) ?_
    refine WP.nil ?_
    refine Out.block ?_
    refine Out.perm pl1 ?_
    refine Out.drop ?_
    refine Out.perm pl1 ?_
    refine Out.drop ?_
    refine Out.again (true, v3) ?_ ?_ ?_ ?_
    · exact trivial
    · (show 0 < 1; omega)
    · exact (Sub.cons rfl (Sub.cons rfl Sub.nil))
    · exact (fun w h => by simp only [Nat.zero_add, List.nil_append] at h; exact h)
  · skip
    show WPc _ _ _ _ _ _ (Own 32 2 v 1 ([.int .i64 r.m, .int .i64 r.s]) :: Obk it (iobj mb (some r) true) :: MO mb (some r) :: F)
    refine WPc.region ?_
    refine WP.perm pl2 ?_
    refine WP.perm pl2 ?_
    refine WP.eff rfl rfl rfl (Eff.moEnd (.inr rfl) rfl rfl) ?_
    rintro _ _ ⟨rfl, rfl⟩
    refine WP.val rfl rfl rfl (Val.extract rfl rfl rfl) ?_
    refine WP.nil ?_
    refine Out.next ?_
    refine WPc.seq ?_
    refine WPc.condF rfl rfl ?_
    refine WPc.exit ?_
    refine Out.then_exit ?_
    refine Out.then_exit ?_
    refine Out.block_exit ?_
    refine Out.next ?_
    refine WPc.seq ?_
    refine WPc.perm pl2 ?_
    refine WPc.fact (fun w h => own_slice h) (fun hsl4 => ?_)
    obtain ⟨a4, k4, rfl⟩ := hsl4
    show WPc _ _ _ _ _ _ (Own 32 2 (.slice a4 1 k4) 1 ([.int .i64 r.m, .int .i64 r.s]) :: Obk it (iobj mb (some r) true) :: MO mb (some r) :: F)
    refine WPc.region ?_
    refine WP.val rfl rfl rfl (Val.move rfl rfl) ?_
    refine WP.eff rfl rfl rfl (Eff.call rfl rfl Try.call101 (sort_1 a4 k4)) ?_
    rintro _ _ ⟨_, ⟨rfl, rfl⟩, rfl⟩
    show WP _ _ _ _ _ _ _ (Own 32 2 (.slice a4 1 k4) 1 ([.int .i64 r.m, .int .i64 r.s]) :: Obk it (iobj mb (some r) true) :: MO mb (some r) :: F)
    refine WP.nil ?_
    refine Out.next ?_
    refine WPc.seq ?_
    refine WPc.region ?_
    refine WP.val rfl rfl rfl (Val.move rfl rfl) ?_
    refine WP.val rfl rfl rfl (Val.assign rfl rfl) ?_
    refine WP.nil ?_
    refine Out.next ?_
    refine WPc.ret ?_
    refine Out.perm pl1 ?_
    refine Out.drop ?_
    refine Out.perm pl1 ?_
    refine Out.drop ?_
    exact Out.ret1 (L' := _) Try.results74 rfl rfl (fun _ h => h)

theorem kept_spec (mb : Nat) (q : Option Rv) : Does Try.prog 74 [.map (some mb)] [MO mb q] (fun v L => L = [Own 32 2 v q.toList.length (flatOf Rv.cells q.toList)]) := by
  cases q with
  | none => exact kept_0 mb
  | some r => exact kept_1 mb r
set_option maxRecDepth 100000 in
set_option maxHeartbeats 2000000 in
theorem keyed_compact (b : Nat) (ka : Option Addr) (kn kc : Nat) (s : KI) (hsm : Small s.gs) (o : KOp) (hk : o.k = 7) (hemp : emp s.gs = false) (hgpos : 0 < s.gs.length) (hfull : Full s.gs) (hsm2 : Small (kcomp s o.at_).gs) : Does Try.prog 35 [.agg #[.pointer (some ⟨b, 0, none⟩)], .agg #[.int .i64 (o.k), .int .i64 (o.r.m), .int .i64 (o.r.s), .int .i64 (o.c.m), .int .i64 (o.c.s), .int .i64 (o.v), .int .i64 (o.at_)]] [KIs b ka kn kc s] (fun v L => ∃ (vr vg : Value) (g2 : List GV), v = KAns ({ KA0 with revs := (kav s o.at_).toList } : KA) vr (kcomp s o.at_).md vg ∧ g2.map (·.1) = (kcomp s o.at_).gs ∧ L = [Own 32 2 vr ({ KA0 with revs := (kav s o.at_).toList } : KA).revs.length (flatOf Rv.cells ({ KA0 with revs := (kav s o.at_).toList } : KA).revs), Own 53 4 vg g2.length (flatOf GV.cells g2), Kds (GVPe 32) g2, KIs b ka kn kc (kcomp s o.at_)]) := by
  refine Does.enter 104 Try.func35 rfl rfl rfl fun W F => ?_
  show WPc _ _ _ _ _ [(0, .agg #[.pointer (some ⟨b, 0, none⟩)]), (1, .agg #[.int .i64 (o.k), .int .i64 (o.r.m), .int .i64 (o.r.s), .int .i64 (o.c.m), .int .i64 (o.c.s), .int .i64 (o.v), .int .i64 (o.at_)])] (KIs b ka kn kc s :: F)
  refine WPc.seq ?_
  refine WPc.region ?_
  refine WP.eff rfl rfl rfl (Eff.box (C := [.pointer (some ⟨b, 0, none⟩)]) rfl rfl rfl) ?_
  rintro _ _ ⟨b1, rfl, rfl⟩
  refine WP.eff rfl rfl rfl (Eff.box (C := [.int .i64 (o.k), .int .i64 (o.r.m), .int .i64 (o.r.s), .int .i64 (o.c.m), .int .i64 (o.c.s), .int .i64 (o.v), .int .i64 (o.at_)]) rfl rfl rfl) ?_
  rintro _ _ ⟨b2, rfl, rfl⟩
  refine WP.eff rfl rfl rfl (Eff.alloc rfl Ty.z42) ?_
  rintro _ _ ⟨b3, rfl, rfl⟩
  refine WP.nil ?_
  refine Out.next ?_
  refine WPc.seq ?_
  refine WPc.region ?_
  refine WP.val rfl rfl rfl (Val.mk (cs := [.bool false, .int .i64 0, .int .i64 0, .int .i64 0, .int .i64 0, .int .i64 0, .slice none 0 0, .int .i64 0, .int .i64 0, .slice none 0 0]) rfl rfl (fun _ => by kernel_rfl)) ?_
  refine WP.eff rfl rfl rfl (Eff.alloc rfl Ty.z42) ?_
  rintro _ _ ⟨b4, rfl, rfl⟩
  refine WP.eff0 rfl rfl (Eff.storeAgg (cs := [.bool false, .int .i64 0, .int .i64 0, .int .i64 0, .int .i64 0, .int .i64 0, .slice none 0 0, .int .i64 0, .int .i64 0, .slice none 0 0]) (C' := [.bool false, .int .i64 0, .int .i64 0, .int .i64 0, .int .i64 0, .int .i64 0, .slice none 0 0, .int .i64 0, .int .i64 0, .slice none 0 0]) rfl Ty.ag42 rfl rfl rfl rfl (by simp) rfl) ?_
  rintro _ _ rfl
  refine WP.nil ?_
  refine Out.next ?_
  refine WPc.seq ?_
  refine WPc.seq ?_
  refine WPc.region ?_
  refine WP.val rfl rfl rfl (Val.fieldAddr (j := 0) rfl Ty.fo38_0 rfl rfl) ?_
  refine WP.val rfl rfl rfl (Val.load rfl Ty.sc3 rfl (fun w h => h.cell 2 rfl rfl)) ?_
  refine WP.nil ?_
  refine Out.next ?_
  refine WPc.block ?_
  refine WPc.seq ?_
  refine WPc.region ?_
  refine WP.val rfl rfl rfl (Val.eql rfl rfl rfl) ?_
  refine WP.val rfl rfl rfl (Val.assign rfl rfl) ?_
  refine WP.nil ?_
  refine Out.next ?_
  refine WPc.ifP rfl (fun h1 => ?_) (fun h1 => ?_)
  · skip
    have h1 : (o.k = (1 : Int)) := h1
    exfalso; omega
  · skip
    have h1 : ¬ (o.k = (1 : Int)) := h1
    refine WPc.seq ?_
    refine WPc.region ?_
    refine WP.val rfl rfl rfl (Val.eql rfl rfl rfl) ?_
    refine WP.val rfl rfl rfl (Val.assign rfl rfl) ?_
    refine WP.nil ?_
    refine Out.next ?_
    refine WPc.ifP rfl (fun h2 => ?_) (fun h2 => ?_)
    · skip
      have h2 : (o.k = (2 : Int)) := h2
      exfalso; omega
    · skip
      have h2 : ¬ (o.k = (2 : Int)) := h2
      refine WPc.seq ?_
      refine WPc.region ?_
      refine WP.val rfl rfl rfl (Val.eql rfl rfl rfl) ?_
      refine WP.val rfl rfl rfl (Val.assign rfl rfl) ?_
      refine WP.nil ?_
      refine Out.next ?_
      refine WPc.ifP rfl (fun h3 => ?_) (fun h3 => ?_)
      · skip
        have h3 : (o.k = (3 : Int)) := h3
        exfalso; omega
      · skip
        have h3 : ¬ (o.k = (3 : Int)) := h3
        refine WPc.seq ?_
        refine WPc.region ?_
        refine WP.val rfl rfl rfl (Val.eql rfl rfl rfl) ?_
        refine WP.val rfl rfl rfl (Val.assign rfl rfl) ?_
        refine WP.nil ?_
        refine Out.next ?_
        refine WPc.ifP rfl (fun h4 => ?_) (fun h4 => ?_)
        · skip
          have h4 : (o.k = (4 : Int)) := h4
          exfalso; omega
        · skip
          have h4 : ¬ (o.k = (4 : Int)) := h4
          refine WPc.seq ?_
          refine WPc.region ?_
          refine WP.val rfl rfl rfl (Val.eql rfl rfl rfl) ?_
          refine WP.val rfl rfl rfl (Val.assign rfl rfl) ?_
          refine WP.nil ?_
          refine Out.next ?_
          refine WPc.ifP rfl (fun h5 => ?_) (fun h5 => ?_)
          · skip
            have h5 : (o.k = (5 : Int)) := h5
            exfalso; omega
          · skip
            have h5 : ¬ (o.k = (5 : Int)) := h5
            refine WPc.seq ?_
            refine WPc.region ?_
            refine WP.val rfl rfl rfl (Val.eql rfl rfl rfl) ?_
            refine WP.val rfl rfl rfl (Val.assign rfl rfl) ?_
            refine WP.nil ?_
            refine Out.next ?_
            refine WPc.ifP rfl (fun h6 => ?_) (fun h6 => ?_)
            · skip
              have h6 : (o.k = (6 : Int)) := h6
              exfalso; omega
            · skip
              have h6 : ¬ (o.k = (6 : Int)) := h6
              refine WPc.seq ?_
              refine WPc.region ?_
              refine WP.val rfl rfl rfl (Val.eql rfl rfl rfl) ?_
              refine WP.val rfl rfl rfl (Val.assign rfl rfl) ?_
              refine WP.nil ?_
              refine Out.next ?_
              refine WPc.ifP rfl (fun h7 => ?_) (fun h7 => ?_)
              · skip
                have h7 : (o.k = (7 : Int)) := h7
                refine WPc.region ?_
                refine WP.val rfl rfl rfl (Val.loadAgg (cs := [.pointer (some ⟨b, 0, none⟩)]) rfl Ty.ag78 rfl rfl (fun w h => h.range 3 rfl rfl)) ?_
                refine WP.val rfl rfl rfl (Val.fieldAddr (j := 6) rfl Ty.fo38_4 rfl rfl) ?_
                refine WP.val rfl rfl rfl (Val.load rfl Ty.sc2 rfl (fun w h => h.cell 2 rfl rfl)) ?_
                refine WP.perm pl4 ?_
                refine WP.eff rfl rfl rfl (Eff.call rfl rfl Try.call75 (zcompact_spec b ka kn kc s hsm hemp hgpos hfull o.at_)) ?_
                rintro _ _ ⟨_, ⟨mb, rfl, rfl⟩, rfl⟩
                show WP _ _ _ _ _ _ _ (MO mb (kav s o.at_) :: KIs b ka kn kc (kcomp s o.at_) :: Blk b4 [.bool false, .int .i64 0, .int .i64 0, .int .i64 0, .int .i64 0, .int .i64 0, .slice none 0 0, .int .i64 0, .int .i64 0, .slice none 0 0] 42 :: Blk b3 [.bool false, .int .i64 0, .int .i64 0, .int .i64 0, .int .i64 0, .int .i64 0, .slice none 0 0, .int .i64 0, .int .i64 0, .slice none 0 0] 42 :: Blk b2 [.int .i64 (o.k), .int .i64 (o.r.m), .int .i64 (o.r.s), .int .i64 (o.c.m), .int .i64 (o.c.s), .int .i64 (o.v), .int .i64 (o.at_)] 38 :: Blk b1 [.pointer (some ⟨b, 0, none⟩)] 78 :: F)
                refine WP.eff rfl rfl rfl (Eff.call rfl rfl Try.call74 (kept_spec mb (kav s o.at_))) ?_
                rintro vk _ ⟨_, rfl, rfl⟩
                show WP _ _ _ _ _ _ _ (Own 32 2 vk ((kav s o.at_).toList.length) (flatOf Rv.cells (kav s o.at_).toList) :: KIs b ka kn kc (kcomp s o.at_) :: Blk b4 [.bool false, .int .i64 0, .int .i64 0, .int .i64 0, .int .i64 0, .int .i64 0, .slice none 0 0, .int .i64 0, .int .i64 0, .slice none 0 0] 42 :: Blk b3 [.bool false, .int .i64 0, .int .i64 0, .int .i64 0, .int .i64 0, .int .i64 0, .slice none 0 0, .int .i64 0, .int .i64 0, .slice none 0 0] 42 :: Blk b2 [.int .i64 (o.k), .int .i64 (o.r.m), .int .i64 (o.r.s), .int .i64 (o.c.m), .int .i64 (o.c.s), .int .i64 (o.v), .int .i64 (o.at_)] 38 :: Blk b1 [.pointer (some ⟨b, 0, none⟩)] 78 :: F)
                refine WP.fact (fun w h => own_oneCell h) (fun onk => ?_)
                refine WP.val rfl rfl rfl (Val.fieldAddr (j := 6) rfl Ty.fo42_4 rfl rfl) ?_
                refine WP.perm pl2 ?_
                refine WP.eff0 rfl rfl (Eff.store rfl Ty.sc40 rfl rfl onk (by simp) st6) ?_
                rintro _ _ rfl
                refine WP.nil ?_
                refine Out.block ?_
                refine Out.next ?_
                refine WPc.seq ?_
                refine WPc.region ?_
                refine WP.val rfl rfl rfl (Val.loadAgg (cs := [.pointer (some ⟨b, 0, none⟩)]) rfl Ty.ag78 rfl rfl (fun w h => h.range 5 rfl rfl)) ?_
                refine WP.perm pl2 ?_
                refine WP.eff rfl rfl rfl (Eff.call rfl rfl Try.call79 (kidump_spec b ka kn kc (kcomp s o.at_) hsm2)) ?_
                rintro _ _ ⟨_, ⟨v2, g2, rfl, hg2, rfl⟩, rfl⟩
                show WP _ _ _ _ _ _ _ (Own 135 4 v2 g2.length (flatOf GV.cells g2) :: Kds (GVPe 81) g2 :: KIs b ka kn kc (kcomp s o.at_) :: Blk b4 [.bool false, .int .i64 0, .int .i64 0, .int .i64 0, .int .i64 0, .int .i64 0, vk, .int .i64 0, .int .i64 0, .slice none 0 0] 42 :: Own 32 2 vk ((kav s o.at_).toList.length) (flatOf Rv.cells (kav s o.at_).toList) :: Blk b3 [.bool false, .int .i64 0, .int .i64 0, .int .i64 0, .int .i64 0, .int .i64 0, .slice none 0 0, .int .i64 0, .int .i64 0, .slice none 0 0] 42 :: Blk b2 [.int .i64 (o.k), .int .i64 (o.r.m), .int .i64 (o.r.s), .int .i64 (o.c.m), .int .i64 (o.c.s), .int .i64 (o.v), .int .i64 (o.at_)] 38 :: Blk b1 [.pointer (some ⟨b, 0, none⟩)] 78 :: F)
                refine WP.perm pl1 ?_
                refine WP.perm pl1 ?_
                refine WP.open (fun w h => gens_open h) ?_
                rintro E2
                refine WP.pure (fun hE2 => ?_)
                obtain ⟨rE2, backE2⟩ := hE2
                show WP _ _ _ _ _ _ _ (E2 :: KIs b ka kn kc (kcomp s o.at_) :: Blk b4 [.bool false, .int .i64 0, .int .i64 0, .int .i64 0, .int .i64 0, .int .i64 0, vk, .int .i64 0, .int .i64 0, .slice none 0 0] 42 :: Own 32 2 vk ((kav s o.at_).toList.length) (flatOf Rv.cells (kav s o.at_).toList) :: Blk b3 [.bool false, .int .i64 0, .int .i64 0, .int .i64 0, .int .i64 0, .int .i64 0, .slice none 0 0, .int .i64 0, .int .i64 0, .slice none 0 0] 42 :: Blk b2 [.int .i64 (o.k), .int .i64 (o.r.m), .int .i64 (o.r.s), .int .i64 (o.c.m), .int .i64 (o.c.s), .int .i64 (o.v), .int .i64 (o.at_)] 38 :: Blk b1 [.pointer (some ⟨b, 0, none⟩)] 78 :: F)
                have hs2 : Small (g2.map (·.1)) := by rw [hg2]; exact hsm2
                refine WP.eff rfl rfl rfl (Eff.call rfl rfl Try.call78 (dumpout_spec E2 (kcomp s o.at_).md g2 hs2 rE2.inn v2 rE2.rd)) ?_
                rintro _ _ ⟨_, ⟨v3, g3, rfl, hg3, rfl⟩, rfl⟩
                show WP _ _ _ _ _ _ _ (Own 53 4 v3 g3.length (flatOf GV.cells g3) :: Kds (GVPe 32) g3 :: E2 :: KIs b ka kn kc (kcomp s o.at_) :: Blk b4 [.bool false, .int .i64 0, .int .i64 0, .int .i64 0, .int .i64 0, .int .i64 0, vk, .int .i64 0, .int .i64 0, .slice none 0 0] 42 :: Own 32 2 vk ((kav s o.at_).toList.length) (flatOf Rv.cells (kav s o.at_).toList) :: Blk b3 [.bool false, .int .i64 0, .int .i64 0, .int .i64 0, .int .i64 0, .int .i64 0, .slice none 0 0, .int .i64 0, .int .i64 0, .slice none 0 0] 42 :: Blk b2 [.int .i64 (o.k), .int .i64 (o.r.m), .int .i64 (o.r.s), .int .i64 (o.c.m), .int .i64 (o.c.s), .int .i64 (o.v), .int .i64 (o.at_)] 38 :: Blk b1 [.pointer (some ⟨b, 0, none⟩)] 78 :: F)
                refine WP.fact (fun w h => own_oneCell h) (fun on3 => ?_)
                refine WP.val rfl rfl rfl (Val.fieldAddr (j := 7) rfl Ty.fo42_5 rfl rfl) ?_
                refine WP.perm pl4 ?_
                refine WP.eff0 rfl rfl (Eff.storeAgg (cs := [.int .i64 ((kcomp s o.at_).md.m), .int .i64 ((kcomp s o.at_).md.s), v3]) (C' := [.bool false, .int .i64 0, .int .i64 0, .int .i64 0, .int .i64 0, .int .i64 0, vk, .int .i64 ((kcomp s o.at_).md.m), .int .i64 ((kcomp s o.at_).md.s), v3]) rfl Ty.ag35 rfl rfl rfl (by simp only [List.all_cons, List.all_nil, Bool.and_true, oc_int, oc_str, oc_bool, oc_ptr, oc_slice, oc_iface, oc_map, on3]) (by simp) rfl) ?_
                rintro _ _ rfl
                refine WP.nil ?_
                refine Out.next ?_
                refine WPc.seq ?_
                refine WPc.region ?_
                refine WP.val rfl rfl rfl (Val.loadAgg (cs := [.bool false, .int .i64 0, .int .i64 0, .int .i64 0, .int .i64 0, .int .i64 0, vk, .int .i64 ((kcomp s o.at_).md.m), .int .i64 ((kcomp s o.at_).md.s), v3]) rfl Ty.ag42 rfl rfl (fun w h => h.range 0 rfl rfl)) ?_
                refine WP.perm pl6 ?_
                refine WP.eff0 rfl rfl (Eff.storeAgg (cs := [.bool false, .int .i64 0, .int .i64 0, .int .i64 0, .int .i64 0, .int .i64 0, vk, .int .i64 ((kcomp s o.at_).md.m), .int .i64 ((kcomp s o.at_).md.s), v3]) (C' := [.bool false, .int .i64 0, .int .i64 0, .int .i64 0, .int .i64 0, .int .i64 0, vk, .int .i64 ((kcomp s o.at_).md.m), .int .i64 ((kcomp s o.at_).md.s), v3]) rfl Ty.ag42 rfl rfl rfl (by simp only [List.all_cons, List.all_nil, Bool.and_true, oc_int, oc_str, oc_bool, oc_ptr, oc_slice, oc_iface, oc_map, onk, on3]) (by simp) rfl) ?_
                rintro _ _ rfl
                refine WP.nil ?_
                refine Out.next ?_
                refine WPc.ret ?_
                refine Out.perm pl1 ?_
                refine Out.drop ?_
                refine Out.perm pl3 ?_
                refine Out.drop ?_
                refine Out.perm pl5 ?_
                refine Out.drop ?_
                refine Out.perm pl5 ?_
                refine Out.drop ?_
                refine Out.perm pl3 ?_
                refine Out.perm pl3 ?_
                refine Out.perm pl3 ?_
                refine Out.perm pl4 ?_
                refine Out.perm pl4 ?_
                exact Out.retRun (L' := _) (results_cell (cs := _) Try.results35 Ty.ag42 rfl rfl (fun w h => h.range 0 rfl rfl)) ⟨vk, v3, g3, by rfl, hg3.trans hg2, by rfl⟩ (fun w h => h.drop)
              · skip
                have h7 : ¬ (o.k = (7 : Int)) := h7
                exfalso; omega

end Go.Proofs.Ythicijpjpijdjaa.Lg

