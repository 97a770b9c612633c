import Derived.Test.YthicijpjpijdjaaKx
namespace Go.Proofs.Ythicijpjpijdjaa.Ky
open Go.RowKit Go.Proofs.Ythicijpjpijdjaa Go.Proofs.Ythicijpjpijdjaa.Sl Go.Proofs.Ythicijpjpijdjaa.KyP Go.Proofs.Ythicijpjpijdjaa.Ka Go.Proofs.Ythicijpjpijdjaa.Kb Go.Proofs.Ythicijpjpijdjaa.Kc Go.Proofs.Ythicijpjpijdjaa.Kd Go.Proofs.Ythicijpjpijdjaa.Ke Go.Proofs.Ythicijpjpijdjaa.Kf Go.Proofs.Ythicijpjpijdjaa.Kg Go.Proofs.Ythicijpjpijdjaa.Kh Go.Proofs.Ythicijpjpijdjaa.Ki Go.Proofs.Ythicijpjpijdjaa.Kj Go.Proofs.Ythicijpjpijdjaa.Kk Go.Proofs.Ythicijpjpijdjaa.Kl Go.Proofs.Ythicijpjpijdjaa.Km Go.Proofs.Ythicijpjpijdjaa.Kn Go.Proofs.Ythicijpjpijdjaa.Ko Go.Proofs.Ythicijpjpijdjaa.Kp Go.Proofs.Ythicijpjpijdjaa.Kq Go.Proofs.Ythicijpjpijdjaa.Kr Go.Proofs.Ythicijpjpijdjaa.Ks Go.Proofs.Ythicijpjpijdjaa.Kt Go.Proofs.Ythicijpjpijdjaa.Ku Go.Proofs.Ythicijpjpijdjaa.Kv Go.Proofs.Ythicijpjpijdjaa.Kw Go.Proofs.Ythicijpjpijdjaa.Kx
set_option linter.unusedVariables false
set_option linter.unusedSimpArgs false
set_option linter.unusedSectionVars false


/-- an answer, with the index behind it -/
def KAns (a : KA) (vr : Value) (md : Rv) (vg : Value) : Value := .agg #[.bool a.ok, .int .i64 a.mod.m, .int .i64 a.mod.s, .int .i64 a.cre.m, .int .i64 a.cre.s, .int .i64 a.ver, vr, .int .i64 md.m, .int .i64 md.s, vg]
def kgetA (gs : List Gn) (at_ : Int) : KA := match kget gs at_ with
  | some (r, c, x) => ⟨true, r, c, x, []⟩
  | none => KA0
set_option maxRecDepth 100000 in
set_option maxHeartbeats 2000000 in
theorem keyed_put (b : Nat) (ka : Option Addr) (kn kc : Nat) (s : KI) (hsm : Small s.gs) (o : KOp) (hk : o.k = 1) (hless : less s.md o.r) (hsm2 : Small (kput s o.r).gs) : Does Try.prog 35 [.agg #[.pointer (some ⟨b, 0, none⟩)], .agg #[.int .i64 (o.k), .int .i64 (o.r.m), .int .i64 (o.r.s), .int .i64 (o.c.m), .int .i64 (o.c.s), .int .i64 (o.v), .int .i64 (o.at_)]] [KIs b ka kn kc s] (fun v L => ∃ (vr vg : Value) (g2 : List GV), v = KAns ({ KA0 with ok := true } : KA) vr (kput s o.r).md vg ∧ g2.map (·.1) = (kput s o.r).gs ∧ L = [Own 32 2 vr ({ KA0 with ok := true } : KA).revs.length (flatOf Rv.cells ({ KA0 with ok := true } : KA).revs), Own 53 4 vg g2.length (flatOf GV.cells g2), Kds (GVPe 32) g2, KIs b ka kn kc (kput s o.r)]) := by
  refine Does.enter 104 Try.func35 rfl rfl rfl fun W F => ?_
  show WPc _ _ _ _ _ [(0, .agg #[.pointer (some ⟨b, 0, none⟩)]), (1, .agg #[.int .i64 (o.k), .int .i64 (o.r.m), .int .i64 (o.r.s), .int .i64 (o.c.m), .int .i64 (o.c.s), .int .i64 (o.v), .int .i64 (o.at_)])] (KIs b ka kn kc s :: F)
  refine WPc.seq ?_
  refine WPc.region ?_
  refine WP.eff rfl rfl rfl (Eff.box (C := [.pointer (some ⟨b, 0, none⟩)]) rfl rfl rfl) ?_
  rintro _ _ ⟨b1, rfl, rfl⟩
  refine WP.eff rfl rfl rfl (Eff.box (C := [.int .i64 (o.k), .int .i64 (o.r.m), .int .i64 (o.r.s), .int .i64 (o.c.m), .int .i64 (o.c.s), .int .i64 (o.v), .int .i64 (o.at_)]) rfl rfl rfl) ?_
  rintro _ _ ⟨b2, rfl, rfl⟩
  refine WP.eff rfl rfl rfl (Eff.alloc rfl Ty.z42) ?_
  rintro _ _ ⟨b3, rfl, rfl⟩
  refine WP.nil ?_
  refine Out.next ?_
  refine WPc.seq ?_
  refine WPc.region ?_
  refine WP.val rfl rfl rfl (Val.mk (cs := [.bool false, .int .i64 0, .int .i64 0, .int .i64 0, .int .i64 0, .int .i64 0, .slice none 0 0, .int .i64 0, .int .i64 0, .slice none 0 0]) rfl rfl (fun _ => by kernel_rfl)) ?_
  refine WP.eff rfl rfl rfl (Eff.alloc rfl Ty.z42) ?_
  rintro _ _ ⟨b4, rfl, rfl⟩
  refine WP.eff0 rfl rfl (Eff.storeAgg (cs := [.bool false, .int .i64 0, .int .i64 0, .int .i64 0, .int .i64 0, .int .i64 0, .slice none 0 0, .int .i64 0, .int .i64 0, .slice none 0 0]) (C' := [.bool false, .int .i64 0, .int .i64 0, .int .i64 0, .int .i64 0, .int .i64 0, .slice none 0 0, .int .i64 0, .int .i64 0, .slice none 0 0]) rfl Ty.ag42 rfl rfl rfl rfl (by simp) rfl) ?_
  rintro _ _ rfl
  refine WP.nil ?_
  refine Out.next ?_
  refine WPc.seq ?_
  refine WPc.seq ?_
  refine WPc.region ?_
  refine WP.val rfl rfl rfl (Val.fieldAddr (j := 0) rfl Ty.fo38_0 rfl rfl) ?_
  refine WP.val rfl rfl rfl (Val.load rfl Ty.sc3 rfl (fun w h => h.cell 2 rfl rfl)) ?_
  refine WP.nil ?_
  refine Out.next ?_
  refine WPc.block ?_
  refine WPc.seq ?_
  refine WPc.region ?_
  refine WP.val rfl rfl rfl (Val.eql rfl rfl rfl) ?_
  refine WP.val rfl rfl rfl (Val.assign rfl rfl) ?_
  refine WP.nil ?_
  refine Out.next ?_
  refine WPc.ifP rfl (fun h1 => ?_) (fun h1 => ?_)
  · skip
    have h1 : (o.k = (1 : Int)) := h1
    refine WPc.seq ?_
    refine WPD.start (Sat W [Blk b1 [.pointer (some ⟨b, 0, none⟩)] 78, Blk b2 [.int .i64 (o.k), .int .i64 (o.r.m), .int .i64 (o.r.s), .int .i64 (o.c.m), .int .i64 (o.c.s), .int .i64 (o.v), .int .i64 (o.at_)] 38]) Ty.mixed ?_
    refine WPD.take 0 rfl rfl rfl rfl (by kernel_rfl) (by kernel_rfl) (by kernel_rfl) (by kernel_rfl) (fun _ _ _ h => h) (by kernel_rfl) (fun w h => (((h.perm pl2).perm pl3)).dropEnd (L := [_, _])) (Val.loadAgg (cs := [.pointer (some ⟨b, 0, none⟩)]) rfl Ty.ag78 rfl rfl (fun w h => h.range 0 rfl rfl)) ?_
    refine WPD.takeM 1 rfl rfl rfl rfl (by kernel_rfl) (by kernel_rfl) (by kernel_rfl) (by kernel_rfl) (fun _ _ _ h => h) (fun w h => (((h.perm pl2).perm pl3)).dropEnd (L := [_, _])) (Val.fieldAddr (j := 1) rfl Ty.fo38_1 rfl rfl) ?_
    refine WPD.take 2 rfl rfl rfl rfl (by kernel_rfl) (by kernel_rfl) (by kernel_rfl) (by kernel_rfl) (fun _ _ _ h => h) (by kernel_rfl) (fun w h => (((h.perm pl2).perm pl3)).dropEnd (L := [_, _])) (Val.loadAgg (cs := [.int .i64 (o.r.m), .int .i64 (o.r.s)]) rfl Ty.ag32 rfl rfl (fun w h => h.range 1 rfl rfl)) ?_
    refine WPD.step 3 (by kernel_rfl) rfl rfl rfl rfl (Eff.call rfl rfl Try.call63 (revin_spec ⟨o.r.m, o.r.s⟩)) ?_
    rintro _ _ ⟨_, ⟨rfl, rfl⟩, rfl⟩
    refine ⟨(fun w h => (((h.perm pl2).perm pl3)).dropEnd (L := [_, _])), ?_⟩
    show WPD _ _ _ _ _ _ _ _ _ (Blk b4 [.bool false, .int .i64 0, .int .i64 0, .int .i64 0, .int .i64 0, .int .i64 0, .slice none 0 0, .int .i64 0, .int .i64 0, .slice none 0 0] 42 :: Blk b3 [.bool false, .int .i64 0, .int .i64 0, .int .i64 0, .int .i64 0, .int .i64 0, .slice none 0 0, .int .i64 0, .int .i64 0, .slice none 0 0] 42 :: Blk b2 [.int .i64 (o.k), .int .i64 (o.r.m), .int .i64 (o.r.s), .int .i64 (o.c.m), .int .i64 (o.c.s), .int .i64 (o.v), .int .i64 (o.at_)] 38 :: Blk b1 [.pointer (some ⟨b, 0, none⟩)] 78 :: KIs b ka kn kc s :: F)
    refine WPD.perm pl4 ?_
    refine WPD.stepC 4 (by kernel_rfl) rfl rfl rfl rfl (by kernel_rfl) (Eff.call rfl rfl Try.call66 (zput_spec b ka kn kc s hsm o.r hless)) ?_
    rintro _ _ ⟨_, ⟨rfl, rfl⟩, rfl⟩
    refine ⟨(Sat W (KIs b ka kn kc (kput s o.r) :: Blk b4 [.bool false, .int .i64 0, .int .i64 0, .int .i64 0, .int .i64 0, .int .i64 0, .slice none 0 0, .int .i64 0, .int .i64 0, .slice none 0 0] 42 :: Blk b3 [.bool false, .int .i64 0, .int .i64 0, .int .i64 0, .int .i64 0, .int .i64 0, .slice none 0 0, .int .i64 0, .int .i64 0, .slice none 0 0] 42 :: Blk b2 [.int .i64 (o.k), .int .i64 (o.r.m), .int .i64 (o.r.s), .int .i64 (o.c.m), .int .i64 (o.c.s), .int .i64 (o.v), .int .i64 (o.at_)] 38 :: Blk b1 [.pointer (some ⟨b, 0, none⟩)] 78 :: F)), (fun _ h => h), ?_⟩
    show WPD _ _ _ _ _ _ _ _ _ (KIs b ka kn kc (kput s o.r) :: Blk b4 [.bool false, .int .i64 0, .int .i64 0, .int .i64 0, .int .i64 0, .int .i64 0, .slice none 0 0, .int .i64 0, .int .i64 0, .slice none 0 0] 42 :: Blk b3 [.bool false, .int .i64 0, .int .i64 0, .int .i64 0, .int .i64 0, .int .i64 0, .slice none 0 0, .int .i64 0, .int .i64 0, .slice none 0 0] 42 :: Blk b2 [.int .i64 (o.k), .int .i64 (o.r.m), .int .i64 (o.r.s), .int .i64 (o.c.m), .int .i64 (o.c.s), .int .i64 (o.v), .int .i64 (o.at_)] 38 :: Blk b1 [.pointer (some ⟨b, 0, none⟩)] 78 :: F)
    refine WPD.done (by kernel_rfl) ?_
    refine Out.next ?_
    refine WPc.region ?_
    refine WP.val rfl rfl rfl (Val.fieldAddr (j := 0) rfl Ty.fo42_0 rfl rfl) ?_
    refine WP.perm pl1 ?_
    refine WP.eff0 rfl rfl (Eff.store rfl Ty.sc4 rfl rfl rfl (by simp) st0) ?_
    rintro _ _ rfl
    refine WP.nil ?_
    refine Out.block ?_
    refine Out.next ?_
    refine WPc.seq ?_
    refine WPc.region ?_
    refine WP.val rfl rfl rfl (Val.loadAgg (cs := [.pointer (some ⟨b, 0, none⟩)]) rfl Ty.ag78 rfl rfl (fun w h => h.range 4 rfl rfl)) ?_
    refine WP.perm pl1 ?_
    refine WP.eff rfl rfl rfl (Eff.call rfl rfl Try.call79 (kidump_spec b ka kn kc (kput s o.r) hsm2)) ?_
    rintro _ _ ⟨_, ⟨v2, g2, rfl, hg2, rfl⟩, rfl⟩
    show WP _ _ _ _ _ _ _ (Own 135 4 v2 g2.length (flatOf GV.cells g2) :: Kds (GVPe 81) g2 :: KIs b ka kn kc (kput s o.r) :: Blk b4 [.bool true, .int .i64 0, .int .i64 0, .int .i64 0, .int .i64 0, .int .i64 0, .slice none 0 0, .int .i64 0, .int .i64 0, .slice none 0 0] 42 :: Blk b3 [.bool false, .int .i64 0, .int .i64 0, .int .i64 0, .int .i64 0, .int .i64 0, .slice none 0 0, .int .i64 0, .int .i64 0, .slice none 0 0] 42 :: Blk b2 [.int .i64 (o.k), .int .i64 (o.r.m), .int .i64 (o.r.s), .int .i64 (o.c.m), .int .i64 (o.c.s), .int .i64 (o.v), .int .i64 (o.at_)] 38 :: Blk b1 [.pointer (some ⟨b, 0, none⟩)] 78 :: F)
    refine WP.perm pl1 ?_
    refine WP.perm pl1 ?_
    refine WP.open (fun w h => gens_open h) ?_
    rintro E2
    refine WP.pure (fun hE2 => ?_)
    obtain ⟨rE2, backE2⟩ := hE2
    show WP _ _ _ _ _ _ _ (E2 :: KIs b ka kn kc (kput s o.r) :: Blk b4 [.bool true, .int .i64 0, .int .i64 0, .int .i64 0, .int .i64 0, .int .i64 0, .slice none 0 0, .int .i64 0, .int .i64 0, .slice none 0 0] 42 :: Blk b3 [.bool false, .int .i64 0, .int .i64 0, .int .i64 0, .int .i64 0, .int .i64 0, .slice none 0 0, .int .i64 0, .int .i64 0, .slice none 0 0] 42 :: Blk b2 [.int .i64 (o.k), .int .i64 (o.r.m), .int .i64 (o.r.s), .int .i64 (o.c.m), .int .i64 (o.c.s), .int .i64 (o.v), .int .i64 (o.at_)] 38 :: Blk b1 [.pointer (some ⟨b, 0, none⟩)] 78 :: F)
    have hs2 : Small (g2.map (·.1)) := by rw [hg2]; exact hsm2
    refine WP.eff rfl rfl rfl (Eff.call rfl rfl Try.call78 (dumpout_spec E2 (kput s o.r).md g2 hs2 rE2.inn v2 rE2.rd)) ?_
    rintro _ _ ⟨_, ⟨v3, g3, rfl, hg3, rfl⟩, rfl⟩
    show WP _ _ _ _ _ _ _ (Own 53 4 v3 g3.length (flatOf GV.cells g3) :: Kds (GVPe 32) g3 :: E2 :: KIs b ka kn kc (kput s o.r) :: Blk b4 [.bool true, .int .i64 0, .int .i64 0, .int .i64 0, .int .i64 0, .int .i64 0, .slice none 0 0, .int .i64 0, .int .i64 0, .slice none 0 0] 42 :: Blk b3 [.bool false, .int .i64 0, .int .i64 0, .int .i64 0, .int .i64 0, .int .i64 0, .slice none 0 0, .int .i64 0, .int .i64 0, .slice none 0 0] 42 :: Blk b2 [.int .i64 (o.k), .int .i64 (o.r.m), .int .i64 (o.r.s), .int .i64 (o.c.m), .int .i64 (o.c.s), .int .i64 (o.v), .int .i64 (o.at_)] 38 :: Blk b1 [.pointer (some ⟨b, 0, none⟩)] 78 :: F)
    refine WP.fact (fun w h => own_oneCell h) (fun on3 => ?_)
    refine WP.val rfl rfl rfl (Val.fieldAddr (j := 7) rfl Ty.fo42_5 rfl rfl) ?_
    refine WP.perm pl4 ?_
    refine WP.eff0 rfl rfl (Eff.storeAgg (cs := [.int .i64 ((kput s o.r).md.m), .int .i64 ((kput s o.r).md.s), v3]) (C' := [.bool true, .int .i64 0, .int .i64 0, .int .i64 0, .int .i64 0, .int .i64 0, .slice none 0 0, .int .i64 ((kput s o.r).md.m), .int .i64 ((kput s o.r).md.s), v3]) rfl Ty.ag35 rfl rfl rfl (by simp only [List.all_cons, List.all_nil, Bool.and_true, oc_int, oc_str, oc_bool, oc_ptr, oc_slice, oc_iface, oc_map, on3]) (by simp) rfl) ?_
    rintro _ _ rfl
    refine WP.nil ?_
    refine Out.next ?_
    refine WPc.seq ?_
    refine WPc.region ?_
    refine WP.val rfl rfl rfl (Val.loadAgg (cs := [.bool true, .int .i64 0, .int .i64 0, .int .i64 0, .int .i64 0, .int .i64 0, .slice none 0 0, .int .i64 ((kput s o.r).md.m), .int .i64 ((kput s o.r).md.s), v3]) rfl Ty.ag42 rfl rfl (fun w h => h.range 0 rfl rfl)) ?_
    refine WP.perm pl5 ?_
    refine WP.eff0 rfl rfl (Eff.storeAgg (cs := [.bool true, .int .i64 0, .int .i64 0, .int .i64 0, .int .i64 0, .int .i64 0, .slice none 0 0, .int .i64 ((kput s o.r).md.m), .int .i64 ((kput s o.r).md.s), v3]) (C' := [.bool true, .int .i64 0, .int .i64 0, .int .i64 0, .int .i64 0, .int .i64 0, .slice none 0 0, .int .i64 ((kput s o.r).md.m), .int .i64 ((kput s o.r).md.s), v3]) rfl Ty.ag42 rfl rfl rfl (by simp only [List.all_cons, List.all_nil, Bool.and_true, oc_int, oc_str, oc_bool, oc_ptr, oc_slice, oc_iface, oc_map, on3]) (by simp) rfl) ?_
    rintro _ _ rfl
    refine WP.nil ?_
    refine Out.next ?_
    refine WPc.ret ?_
    refine Out.conv (fun w h => h.ownNil (e := 32) (k := 2)) ?_
    refine Out.perm pl2 ?_
    refine Out.drop ?_
    refine Out.perm pl4 ?_
    refine Out.drop ?_
    refine Out.perm pl5 ?_
    refine Out.drop ?_
    refine Out.perm pl5 ?_
    refine Out.drop ?_
    refine Out.perm pl4 ?_
    refine Out.perm pl4 ?_
    refine Out.perm pl4 ?_
    refine Out.perm pl3 ?_
    refine Out.perm pl4 ?_
    exact Out.retRun (L' := _) (results_cell (cs := _) Try.results35 Ty.ag42 rfl rfl (fun w h => h.range 0 rfl rfl)) ⟨(.slice none 0 0), v3, g3, by rfl, hg3.trans hg2, by rfl⟩ (fun w h => h.drop)
  · skip
    have h1 : ¬ (o.k = (1 : Int)) := h1
    exfalso; omega
set_option maxRecDepth 100000 in
set_option maxHeartbeats 2000000 in
theorem keyed_get (b : Nat) (ka : Option Addr) (kn kc : Nat) (s : KI) (hsm : Small s.gs) (o : KOp) (hk : o.k = 5) (hemp : emp s.gs = false) (hsm2 : Small s.gs) : Does Try.prog 35 [.agg #[.pointer (some ⟨b, 0, none⟩)], .agg #[.int .i64 (o.k), .int .i64 (o.r.m), .int .i64 (o.r.s), .int .i64 (o.c.m), .int .i64 (o.c.s), .int .i64 (o.v), .int .i64 (o.at_)]] [KIs b ka kn kc s] (fun v L => ∃ (vr vg : Value) (g2 : List GV), v = KAns (kgetA s.gs o.at_) vr s.md vg ∧ g2.map (·.1) = s.gs ∧ L = [Own 32 2 vr (kgetA s.gs o.at_).revs.length (flatOf Rv.cells (kgetA s.gs o.at_).revs), Own 53 4 vg g2.length (flatOf GV.cells g2), Kds (GVPe 32) g2, KIs b ka kn kc s]) := by
  refine Does.enter 104 Try.func35 rfl rfl rfl fun W F => ?_
  show WPc _ _ _ _ _ [(0, .agg #[.pointer (some ⟨b, 0, none⟩)]), (1, .agg #[.int .i64 (o.k), .int .i64 (o.r.m), .int .i64 (o.r.s), .int .i64 (o.c.m), .int .i64 (o.c.s), .int .i64 (o.v), .int .i64 (o.at_)])] (KIs b ka kn kc s :: F)
  refine WPc.seq ?_
  refine WPc.region ?_
  refine WP.eff rfl rfl rfl (Eff.box (C := [.pointer (some ⟨b, 0, none⟩)]) rfl rfl rfl) ?_
  rintro _ _ ⟨b1, rfl, rfl⟩
  refine WP.eff rfl rfl rfl (Eff.box (C := [.int .i64 (o.k), .int .i64 (o.r.m), .int .i64 (o.r.s), .int .i64 (o.c.m), .int .i64 (o.c.s), .int .i64 (o.v), .int .i64 (o.at_)]) rfl rfl rfl) ?_
  rintro _ _ ⟨b2, rfl, rfl⟩
  refine WP.eff rfl rfl rfl (Eff.alloc rfl Ty.z42) ?_
  rintro _ _ ⟨b3, rfl, rfl⟩
  refine WP.nil ?_
  refine Out.next ?_
  refine WPc.seq ?_
  refine WPc.region ?_
  refine WP.val rfl rfl rfl (Val.mk (cs := [.bool false, .int .i64 0, .int .i64 0, .int .i64 0, .int .i64 0, .int .i64 0, .slice none 0 0, .int .i64 0, .int .i64 0, .slice none 0 0]) rfl rfl (fun _ => by kernel_rfl)) ?_
  refine WP.eff rfl rfl rfl (Eff.alloc rfl Ty.z42) ?_
  rintro _ _ ⟨b4, rfl, rfl⟩
  refine WP.eff0 rfl rfl (Eff.storeAgg (cs := [.bool false, .int .i64 0, .int .i64 0, .int .i64 0, .int .i64 0, .int .i64 0, .slice none 0 0, .int .i64 0, .int .i64 0, .slice none 0 0]) (C' := [.bool false, .int .i64 0, .int .i64 0, .int .i64 0, .int .i64 0, .int .i64 0, .slice none 0 0, .int .i64 0, .int .i64 0, .slice none 0 0]) rfl Ty.ag42 rfl rfl rfl rfl (by simp) rfl) ?_
  rintro _ _ rfl
  refine WP.nil ?_
  refine Out.next ?_
  refine WPc.seq ?_
  refine WPc.seq ?_
  refine WPc.region ?_
  refine WP.val rfl rfl rfl (Val.fieldAddr (j := 0) rfl Ty.fo38_0 rfl rfl) ?_
  refine WP.val rfl rfl rfl (Val.load rfl Ty.sc3 rfl (fun w h => h.cell 2 rfl rfl)) ?_
  refine WP.nil ?_
  refine Out.next ?_
  refine WPc.block ?_
  refine WPc.seq ?_
  refine WPc.region ?_
  refine WP.val rfl rfl rfl (Val.eql rfl rfl rfl) ?_
  refine WP.val rfl rfl rfl (Val.assign rfl rfl) ?_
  refine WP.nil ?_
  refine Out.next ?_
  refine WPc.ifP rfl (fun h1 => ?_) (fun h1 => ?_)
  · skip
    have h1 : (o.k = (1 : Int)) := h1
    exfalso; omega
  · skip
    have h1 : ¬ (o.k = (1 : Int)) := h1
    refine WPc.seq ?_
    refine WPc.region ?_
    refine WP.val rfl rfl rfl (Val.eql rfl rfl rfl) ?_
    refine WP.val rfl rfl rfl (Val.assign rfl rfl) ?_
    refine WP.nil ?_
    refine Out.next ?_
    refine WPc.ifP rfl (fun h2 => ?_) (fun h2 => ?_)
    · skip
      have h2 : (o.k = (2 : Int)) := h2
      exfalso; omega
    · skip
      have h2 : ¬ (o.k = (2 : Int)) := h2
      refine WPc.seq ?_
      refine WPc.region ?_
      refine WP.val rfl rfl rfl (Val.eql rfl rfl rfl) ?_
      refine WP.val rfl rfl rfl (Val.assign rfl rfl) ?_
      refine WP.nil ?_
      refine Out.next ?_
      refine WPc.ifP rfl (fun h3 => ?_) (fun h3 => ?_)
      · skip
        have h3 : (o.k = (3 : Int)) := h3
        exfalso; omega
      · skip
        have h3 : ¬ (o.k = (3 : Int)) := h3
        refine WPc.seq ?_
        refine WPc.region ?_
        refine WP.val rfl rfl rfl (Val.eql rfl rfl rfl) ?_
        refine WP.val rfl rfl rfl (Val.assign rfl rfl) ?_
        refine WP.nil ?_
        refine Out.next ?_
        refine WPc.ifP rfl (fun h4 => ?_) (fun h4 => ?_)
        · skip
          have h4 : (o.k = (4 : Int)) := h4
          exfalso; omega
        · skip
          have h4 : ¬ (o.k = (4 : Int)) := h4
          refine WPc.seq ?_
          refine WPc.region ?_
          refine WP.val rfl rfl rfl (Val.eql rfl rfl rfl) ?_
          refine WP.val rfl rfl rfl (Val.assign rfl rfl) ?_
          refine WP.nil ?_
          refine Out.next ?_
          refine WPc.ifP rfl (fun h5 => ?_) (fun h5 => ?_)
          · skip
            have h5 : (o.k = (5 : Int)) := h5
            refine WPc.seq ?_
            refine WPc.region ?_
            refine WP.val rfl rfl rfl (Val.loadAgg (cs := [.pointer (some ⟨b, 0, none⟩)]) rfl Ty.ag78 rfl rfl (fun w h => h.range 3 rfl rfl)) ?_
            refine WP.val rfl rfl rfl (Val.fieldAddr (j := 6) rfl Ty.fo38_4 rfl rfl) ?_
            refine WP.val rfl rfl rfl (Val.load rfl Ty.sc2 rfl (fun w h => h.cell 2 rfl rfl)) ?_
            refine WP.perm pl4 ?_
            refine WP.eff rfl rfl rfl (Eff.call rfl rfl Try.call70 (zget_spec b ka kn kc s hsm hemp o.at_)) ?_
            rintro _ _ ⟨_, ⟨er, ⟨r, c, x, hget, rfl⟩, rfl⟩, rfl⟩
            show WP _ _ _ _ _ _ _ (KIs b ka kn kc s :: Blk b4 [.bool false, .int .i64 0, .int .i64 0, .int .i64 0, .int .i64 0, .int .i64 0, .slice none 0 0, .int .i64 0, .int .i64 0, .slice none 0 0] 42 :: Blk b3 [.bool false, .int .i64 0, .int .i64 0, .int .i64 0, .int .i64 0, .int .i64 0, .slice none 0 0, .int .i64 0, .int .i64 0, .slice none 0 0] 42 :: Blk b2 [.int .i64 (o.k), .int .i64 (o.r.m), .int .i64 (o.r.s), .int .i64 (o.c.m), .int .i64 (o.c.s), .int .i64 (o.v), .int .i64 (o.at_)] 38 :: Blk b1 [.pointer (some ⟨b, 0, none⟩)] 78 :: F)
            refine WP.val rfl rfl rfl (Val.move rfl rfl) ?_
            refine WP.val rfl rfl rfl (Val.extract rfl rfl rfl) ?_
            refine WP.val rfl rfl rfl (Val.extract rfl rfl rfl) ?_
            refine WP.val rfl rfl rfl (Val.extract rfl rfl rfl) ?_
            refine WP.val rfl rfl rfl (Val.extract rfl rfl rfl) ?_
            refine WP.eff rfl rfl rfl (Eff.alloc rfl Ty.z81) ?_
            rintro _ _ ⟨b5, rfl, rfl⟩
            refine WP.eff rfl rfl rfl (Eff.alloc rfl Ty.z81) ?_
            rintro _ _ ⟨b6, rfl, rfl⟩
            refine WP.perm pl1 ?_
            refine WP.eff0 rfl rfl (Eff.storeAgg (cs := [.int .i64 (r.m), .int .i64 (r.s)]) (C' := [.int .i64 (r.m), .int .i64 (r.s)]) rfl Ty.ag81 rfl rfl rfl rfl (by simp) rfl) ?_
            rintro _ _ rfl
            refine WP.perm pl1 ?_
            refine WP.eff0 rfl rfl (Eff.storeAgg (cs := [.int .i64 (c.m), .int .i64 (c.s)]) (C' := [.int .i64 (c.m), .int .i64 (c.s)]) rfl Ty.ag81 rfl rfl rfl rfl (by simp) rfl) ?_
            rintro _ _ rfl
            refine WP.val rfl rfl rfl (Val.assign rfl rfl) ?_
            refine WP.val rfl rfl rfl (Val.assign rfl rfl) ?_
            refine WP.nil ?_
            refine Out.next ?_
            rcases hget with ⟨hget, rfl⟩ | ⟨hget, hr0, hc0, hx0, ev, rfl⟩
            · skip
              have ha : kgetA s.gs o.at_ = ⟨true, r, c, x, []⟩ := by unfold kgetA; rw [hget]
              refine WPD.start (Sat W [Blk b5 [.int .i64 (r.m), .int .i64 (r.s)] 81, Blk b6 [.int .i64 (c.m), .int .i64 (c.s)] 81]) Ty.mixed ?_
              refine WPD.takeM 0 rfl rfl rfl rfl (by kernel_rfl) (by kernel_rfl) (by kernel_rfl) (by kernel_rfl) (fun _ _ _ h => h) (fun w h => ((h.perm pl1)).dropEnd (L := [_, _])) (Val.move rfl rfl) ?_
              refine WPD.takeM 1 rfl rfl rfl rfl (by kernel_rfl) (by kernel_rfl) (by kernel_rfl) (by kernel_rfl) (fun _ _ _ h => h) (fun w h => ((h.perm pl1)).dropEnd (L := [_, _])) (Val.nilI rfl Ty.if112 rfl) ?_
              refine WPD.take 2 rfl rfl rfl rfl (by kernel_rfl) (by kernel_rfl) (by kernel_rfl) (by kernel_rfl) (fun _ _ _ h => h) (by kernel_rfl) (fun w h => ((h.perm pl1)).dropEnd (L := [_, _])) (Val.loadAgg (cs := [.int .i64 (r.m), .int .i64 (r.s)]) rfl Ty.ag81 rfl rfl (fun w h => h.range 0 rfl rfl)) ?_
              refine WPD.take 4 rfl rfl rfl rfl (by kernel_rfl) (by kernel_rfl) (by kernel_rfl) (by kernel_rfl) (fun _ _ _ h => h) (by kernel_rfl) (fun w h => ((h.perm pl1)).dropEnd (L := [_, _])) (Val.loadAgg (cs := [.int .i64 (c.m), .int .i64 (c.s)]) rfl Ty.ag81 rfl rfl (fun w h => h.range 1 rfl rfl)) ?_
              refine WPD.takeM 6 rfl rfl rfl rfl (by kernel_rfl) (by kernel_rfl) (by kernel_rfl) (by kernel_rfl) (fun _ _ _ h => h) (fun w h => ((h.perm pl1)).dropEnd (L := [_, _])) (Val.move rfl rfl) ?_
              refine WPD.step 3 (by kernel_rfl) rfl rfl rfl rfl (Eff.call rfl rfl Try.call71 (revout_spec ⟨r.m, r.s⟩)) ?_
              rintro _ _ ⟨_, ⟨rfl, rfl⟩, rfl⟩
              refine ⟨(fun w h => ((h.perm pl1)).dropEnd (L := [_, _])), ?_⟩
              show WPD _ _ _ _ _ _ _ _ _ (Blk b6 [.int .i64 (c.m), .int .i64 (c.s)] 81 :: Blk b5 [.int .i64 (r.m), .int .i64 (r.s)] 81 :: KIs b ka kn kc s :: Blk b4 [.bool false, .int .i64 0, .int .i64 0, .int .i64 0, .int .i64 0, .int .i64 0, .slice none 0 0, .int .i64 0, .int .i64 0, .slice none 0 0] 42 :: Blk b3 [.bool false, .int .i64 0, .int .i64 0, .int .i64 0, .int .i64 0, .int .i64 0, .slice none 0 0, .int .i64 0, .int .i64 0, .slice none 0 0] 42 :: Blk b2 [.int .i64 (o.k), .int .i64 (o.r.m), .int .i64 (o.r.s), .int .i64 (o.c.m), .int .i64 (o.c.s), .int .i64 (o.v), .int .i64 (o.at_)] 38 :: Blk b1 [.pointer (some ⟨b, 0, none⟩)] 78 :: F)
              refine WPD.stepC 5 (by kernel_rfl) rfl rfl rfl rfl (by kernel_rfl) (Eff.call rfl rfl Try.call71 (revout_spec ⟨c.m, c.s⟩)) ?_
              rintro _ _ ⟨_, ⟨rfl, rfl⟩, rfl⟩
              refine ⟨(Sat W (Blk b6 [.int .i64 (c.m), .int .i64 (c.s)] 81 :: Blk b5 [.int .i64 (r.m), .int .i64 (r.s)] 81 :: KIs b ka kn kc s :: Blk b4 [.bool false, .int .i64 0, .int .i64 0, .int .i64 0, .int .i64 0, .int .i64 0, .slice none 0 0, .int .i64 0, .int .i64 0, .slice none 0 0] 42 :: Blk b3 [.bool false, .int .i64 0, .int .i64 0, .int .i64 0, .int .i64 0, .int .i64 0, .slice none 0 0, .int .i64 0, .int .i64 0, .slice none 0 0] 42 :: Blk b2 [.int .i64 (o.k), .int .i64 (o.r.m), .int .i64 (o.r.s), .int .i64 (o.c.m), .int .i64 (o.c.s), .int .i64 (o.v), .int .i64 (o.at_)] 38 :: Blk b1 [.pointer (some ⟨b, 0, none⟩)] 78 :: F)), (fun _ h => h), ?_⟩
              show WPD _ _ _ _ _ _ _ _ _ (Blk b6 [.int .i64 (c.m), .int .i64 (c.s)] 81 :: Blk b5 [.int .i64 (r.m), .int .i64 (r.s)] 81 :: KIs b ka kn kc s :: Blk b4 [.bool false, .int .i64 0, .int .i64 0, .int .i64 0, .int .i64 0, .int .i64 0, .slice none 0 0, .int .i64 0, .int .i64 0, .slice none 0 0] 42 :: Blk b3 [.bool false, .int .i64 0, .int .i64 0, .int .i64 0, .int .i64 0, .int .i64 0, .slice none 0 0, .int .i64 0, .int .i64 0, .slice none 0 0] 42 :: Blk b2 [.int .i64 (o.k), .int .i64 (o.r.m), .int .i64 (o.r.s), .int .i64 (o.c.m), .int .i64 (o.c.s), .int .i64 (o.v), .int .i64 (o.at_)] 38 :: Blk b1 [.pointer (some ⟨b, 0, none⟩)] 78 :: F)
              refine WPD.takeM 7 rfl rfl rfl rfl (by kernel_rfl) (by kernel_rfl) (by kernel_rfl) (by kernel_rfl) (fun _ _ _ h => h) (fun _ h => h) (Val.mk (cs := [.bool true, .int .i64 (r.m), .int .i64 (r.s), .int .i64 (c.m), .int .i64 (c.s), .int .i64 (x), .slice none 0 0, .int .i64 0, .int .i64 0, .slice none 0 0]) rfl rfl (fun _ => by kernel_rfl)) ?_
              refine WPD.perm pl3 ?_
              refine WPD.stepC0 8 (by kernel_rfl) rfl rfl rfl (by kernel_rfl) (Eff.storeAgg (cs := [.bool true, .int .i64 (r.m), .int .i64 (r.s), .int .i64 (c.m), .int .i64 (c.s), .int .i64 (x), .slice none 0 0, .int .i64 0, .int .i64 0, .slice none 0 0]) (C' := [.bool true, .int .i64 (r.m), .int .i64 (r.s), .int .i64 (c.m), .int .i64 (c.s), .int .i64 (x), .slice none 0 0, .int .i64 0, .int .i64 0, .slice none 0 0]) rfl Ty.ag42 rfl rfl rfl rfl (by simp) rfl) ?_
              rintro _ _ rfl
              refine ⟨(Sat W (Blk b4 [.bool true, .int .i64 (r.m), .int .i64 (r.s), .int .i64 (c.m), .int .i64 (c.s), .int .i64 (x), .slice none 0 0, .int .i64 0, .int .i64 0, .slice none 0 0] 42 :: Blk b6 [.int .i64 (c.m), .int .i64 (c.s)] 81 :: Blk b5 [.int .i64 (r.m), .int .i64 (r.s)] 81 :: KIs b ka kn kc s :: Blk b3 [.bool false, .int .i64 0, .int .i64 0, .int .i64 0, .int .i64 0, .int .i64 0, .slice none 0 0, .int .i64 0, .int .i64 0, .slice none 0 0] 42 :: Blk b2 [.int .i64 (o.k), .int .i64 (o.r.m), .int .i64 (o.r.s), .int .i64 (o.c.m), .int .i64 (o.c.s), .int .i64 (o.v), .int .i64 (o.at_)] 38 :: Blk b1 [.pointer (some ⟨b, 0, none⟩)] 78 :: F)), (fun _ h => h), ?_⟩
              refine WPD.done (by kernel_rfl) ?_
              refine Out.block ?_
              refine Out.next ?_
              refine WPc.seq ?_
              refine WPc.region ?_
              refine WP.val rfl rfl rfl (Val.loadAgg (cs := [.pointer (some ⟨b, 0, none⟩)]) rfl Ty.ag78 rfl rfl (fun w h => h.range 6 rfl rfl)) ?_
              refine WP.perm pl3 ?_
              refine WP.eff rfl rfl rfl (Eff.call rfl rfl Try.call79 (kidump_spec b ka kn kc s hsm2)) ?_
              rintro _ _ ⟨_, ⟨v2, g2, rfl, hg2, rfl⟩, rfl⟩
              show WP _ _ _ _ _ _ _ (Own 135 4 v2 g2.length (flatOf GV.cells g2) :: Kds (GVPe 81) g2 :: KIs b ka kn kc s :: Blk b4 [.bool true, .int .i64 (r.m), .int .i64 (r.s), .int .i64 (c.m), .int .i64 (c.s), .int .i64 (x), .slice none 0 0, .int .i64 0, .int .i64 0, .slice none 0 0] 42 :: Blk b6 [.int .i64 (c.m), .int .i64 (c.s)] 81 :: Blk b5 [.int .i64 (r.m), .int .i64 (r.s)] 81 :: Blk b3 [.bool false, .int .i64 0, .int .i64 0, .int .i64 0, .int .i64 0, .int .i64 0, .slice none 0 0, .int .i64 0, .int .i64 0, .slice none 0 0] 42 :: Blk b2 [.int .i64 (o.k), .int .i64 (o.r.m), .int .i64 (o.r.s), .int .i64 (o.c.m), .int .i64 (o.c.s), .int .i64 (o.v), .int .i64 (o.at_)] 38 :: Blk b1 [.pointer (some ⟨b, 0, none⟩)] 78 :: F)
              refine WP.perm pl1 ?_
              refine WP.perm pl1 ?_
              refine WP.open (fun w h => gens_open h) ?_
              rintro E2
              refine WP.pure (fun hE2 => ?_)
              obtain ⟨rE2, backE2⟩ := hE2
              show WP _ _ _ _ _ _ _ (E2 :: KIs b ka kn kc s :: Blk b4 [.bool true, .int .i64 (r.m), .int .i64 (r.s), .int .i64 (c.m), .int .i64 (c.s), .int .i64 (x), .slice none 0 0, .int .i64 0, .int .i64 0, .slice none 0 0] 42 :: Blk b6 [.int .i64 (c.m), .int .i64 (c.s)] 81 :: Blk b5 [.int .i64 (r.m), .int .i64 (r.s)] 81 :: Blk b3 [.bool false, .int .i64 0, .int .i64 0, .int .i64 0, .int .i64 0, .int .i64 0, .slice none 0 0, .int .i64 0, .int .i64 0, .slice none 0 0] 42 :: Blk b2 [.int .i64 (o.k), .int .i64 (o.r.m), .int .i64 (o.r.s), .int .i64 (o.c.m), .int .i64 (o.c.s), .int .i64 (o.v), .int .i64 (o.at_)] 38 :: Blk b1 [.pointer (some ⟨b, 0, none⟩)] 78 :: F)
              have hs2 : Small (g2.map (·.1)) := by rw [hg2]; exact hsm2
              refine WP.eff rfl rfl rfl (Eff.call rfl rfl Try.call78 (dumpout_spec E2 s.md g2 hs2 rE2.inn v2 rE2.rd)) ?_
              rintro _ _ ⟨_, ⟨v3, g3, rfl, hg3, rfl⟩, rfl⟩
              show WP _ _ _ _ _ _ _ (Own 53 4 v3 g3.length (flatOf GV.cells g3) :: Kds (GVPe 32) g3 :: E2 :: KIs b ka kn kc s :: Blk b4 [.bool true, .int .i64 (r.m), .int .i64 (r.s), .int .i64 (c.m), .int .i64 (c.s), .int .i64 (x), .slice none 0 0, .int .i64 0, .int .i64 0, .slice none 0 0] 42 :: Blk b6 [.int .i64 (c.m), .int .i64 (c.s)] 81 :: Blk b5 [.int .i64 (r.m), .int .i64 (r.s)] 81 :: Blk b3 [.bool false, .int .i64 0, .int .i64 0, .int .i64 0, .int .i64 0, .int .i64 0, .slice none 0 0, .int .i64 0, .int .i64 0, .slice none 0 0] 42 :: Blk b2 [.int .i64 (o.k), .int .i64 (o.r.m), .int .i64 (o.r.s), .int .i64 (o.c.m), .int .i64 (o.c.s), .int .i64 (o.v), .int .i64 (o.at_)] 38 :: Blk b1 [.pointer (some ⟨b, 0, none⟩)] 78 :: F)
              refine WP.fact (fun w h => own_oneCell h) (fun on3 => ?_)
              refine WP.val rfl rfl rfl (Val.fieldAddr (j := 7) rfl Ty.fo42_5 rfl rfl) ?_
              refine WP.perm pl4 ?_
              refine WP.eff0 rfl rfl (Eff.storeAgg (cs := [.int .i64 (s.md.m), .int .i64 (s.md.s), v3]) (C' := [.bool true, .int .i64 (r.m), .int .i64 (r.s), .int .i64 (c.m), .int .i64 (c.s), .int .i64 (x), .slice none 0 0, .int .i64 (s.md.m), .int .i64 (s.md.s), v3]) rfl Ty.ag35 rfl rfl rfl (by simp only [List.all_cons, List.all_nil, Bool.and_true, oc_int, oc_str, oc_bool, oc_ptr, oc_slice, oc_iface, oc_map, on3]) (by simp) rfl) ?_
              rintro _ _ rfl
              refine WP.nil ?_
              refine Out.next ?_
              refine WPc.seq ?_
              refine WPc.region ?_
              refine WP.val rfl rfl rfl (Val.loadAgg (cs := [.bool true, .int .i64 (r.m), .int .i64 (r.s), .int .i64 (c.m), .int .i64 (c.s), .int .i64 (x), .slice none 0 0, .int .i64 (s.md.m), .int .i64 (s.md.s), v3]) rfl Ty.ag42 rfl rfl (fun w h => h.range 0 rfl rfl)) ?_
              refine WP.perm pl7 ?_
              refine WP.eff0 rfl rfl (Eff.storeAgg (cs := [.bool true, .int .i64 (r.m), .int .i64 (r.s), .int .i64 (c.m), .int .i64 (c.s), .int .i64 (x), .slice none 0 0, .int .i64 (s.md.m), .int .i64 (s.md.s), v3]) (C' := [.bool true, .int .i64 (r.m), .int .i64 (r.s), .int .i64 (c.m), .int .i64 (c.s), .int .i64 (x), .slice none 0 0, .int .i64 (s.md.m), .int .i64 (s.md.s), v3]) rfl Ty.ag42 rfl rfl rfl (by simp only [List.all_cons, List.all_nil, Bool.and_true, oc_int, oc_str, oc_bool, oc_ptr, oc_slice, oc_iface, oc_map, on3]) (by simp) rfl) ?_
              rintro _ _ rfl
              refine WP.nil ?_
              refine Out.next ?_
              refine WPc.ret ?_
              refine Out.conv (fun w h => h.ownNil (e := 32) (k := 2)) ?_
              refine Out.perm pl2 ?_
              refine Out.drop ?_
              refine Out.perm pl4 ?_
              refine Out.drop ?_
              refine Out.perm pl5 ?_
              refine Out.drop ?_
              refine Out.perm pl5 ?_
              refine Out.drop ?_
              refine Out.perm pl5 ?_
              refine Out.drop ?_
              refine Out.perm pl5 ?_
              refine Out.drop ?_
              refine Out.perm pl4 ?_
              refine Out.perm pl4 ?_
              refine Out.perm pl4 ?_
              refine Out.perm pl3 ?_
              refine Out.perm pl4 ?_
              exact Out.retRun (L' := _) (results_cell (cs := _) Try.results35 Ty.ag42 rfl rfl (fun w h => h.range 0 rfl rfl)) ⟨(.slice none 0 0), v3, g3, by rw [ha] <;> rfl, hg3.trans hg2, by rw [ha] <;> rfl⟩ (fun w h => h.drop)
            · skip
              have ha : kgetA s.gs o.at_ = ⟨false, r, c, x, []⟩ := by unfold kgetA; rw [hget, hr0, hc0, hx0]; rfl
              refine WPD.start (Sat W [Blk b5 [.int .i64 (r.m), .int .i64 (r.s)] 81, Blk b6 [.int .i64 (c.m), .int .i64 (c.s)] 81]) Ty.mixed ?_
              refine WPD.takeM 0 rfl rfl rfl rfl (by kernel_rfl) (by kernel_rfl) (by kernel_rfl) (by kernel_rfl) (fun _ _ _ h => h) (fun w h => ((h.perm pl1)).dropEnd (L := [_, _])) (Val.move rfl rfl) ?_
              refine WPD.takeM 1 rfl rfl rfl rfl (by kernel_rfl) (by kernel_rfl) (by kernel_rfl) (by kernel_rfl) (fun _ _ _ h => h) (fun w h => ((h.perm pl1)).dropEnd (L := [_, _])) (Val.someI rfl Ty.if112 rfl) ?_
              refine WPD.take 2 rfl rfl rfl rfl (by kernel_rfl) (by kernel_rfl) (by kernel_rfl) (by kernel_rfl) (fun _ _ _ h => h) (by kernel_rfl) (fun w h => ((h.perm pl1)).dropEnd (L := [_, _])) (Val.loadAgg (cs := [.int .i64 (r.m), .int .i64 (r.s)]) rfl Ty.ag81 rfl rfl (fun w h => h.range 0 rfl rfl)) ?_
              refine WPD.take 4 rfl rfl rfl rfl (by kernel_rfl) (by kernel_rfl) (by kernel_rfl) (by kernel_rfl) (fun _ _ _ h => h) (by kernel_rfl) (fun w h => ((h.perm pl1)).dropEnd (L := [_, _])) (Val.loadAgg (cs := [.int .i64 (c.m), .int .i64 (c.s)]) rfl Ty.ag81 rfl rfl (fun w h => h.range 1 rfl rfl)) ?_
              refine WPD.takeM 6 rfl rfl rfl rfl (by kernel_rfl) (by kernel_rfl) (by kernel_rfl) (by kernel_rfl) (fun _ _ _ h => h) (fun w h => ((h.perm pl1)).dropEnd (L := [_, _])) (Val.move rfl rfl) ?_
              refine WPD.step 3 (by kernel_rfl) rfl rfl rfl rfl (Eff.call rfl rfl Try.call71 (revout_spec ⟨r.m, r.s⟩)) ?_
              rintro _ _ ⟨_, ⟨rfl, rfl⟩, rfl⟩
              refine ⟨(fun w h => ((h.perm pl1)).dropEnd (L := [_, _])), ?_⟩
              show WPD _ _ _ _ _ _ _ _ _ (Blk b6 [.int .i64 (c.m), .int .i64 (c.s)] 81 :: Blk b5 [.int .i64 (r.m), .int .i64 (r.s)] 81 :: KIs b ka kn kc s :: Blk b4 [.bool false, .int .i64 0, .int .i64 0, .int .i64 0, .int .i64 0, .int .i64 0, .slice none 0 0, .int .i64 0, .int .i64 0, .slice none 0 0] 42 :: Blk b3 [.bool false, .int .i64 0, .int .i64 0, .int .i64 0, .int .i64 0, .int .i64 0, .slice none 0 0, .int .i64 0, .int .i64 0, .slice none 0 0] 42 :: Blk b2 [.int .i64 (o.k), .int .i64 (o.r.m), .int .i64 (o.r.s), .int .i64 (o.c.m), .int .i64 (o.c.s), .int .i64 (o.v), .int .i64 (o.at_)] 38 :: Blk b1 [.pointer (some ⟨b, 0, none⟩)] 78 :: F)
              refine WPD.stepC 5 (by kernel_rfl) rfl rfl rfl rfl (by kernel_rfl) (Eff.call rfl rfl Try.call71 (revout_spec ⟨c.m, c.s⟩)) ?_
              rintro _ _ ⟨_, ⟨rfl, rfl⟩, rfl⟩
              refine ⟨(Sat W (Blk b6 [.int .i64 (c.m), .int .i64 (c.s)] 81 :: Blk b5 [.int .i64 (r.m), .int .i64 (r.s)] 81 :: KIs b ka kn kc s :: Blk b4 [.bool false, .int .i64 0, .int .i64 0, .int .i64 0, .int .i64 0, .int .i64 0, .slice none 0 0, .int .i64 0, .int .i64 0, .slice none 0 0] 42 :: Blk b3 [.bool false, .int .i64 0, .int .i64 0, .int .i64 0, .int .i64 0, .int .i64 0, .slice none 0 0, .int .i64 0, .int .i64 0, .slice none 0 0] 42 :: Blk b2 [.int .i64 (o.k), .int .i64 (o.r.m), .int .i64 (o.r.s), .int .i64 (o.c.m), .int .i64 (o.c.s), .int .i64 (o.v), .int .i64 (o.at_)] 38 :: Blk b1 [.pointer (some ⟨b, 0, none⟩)] 78 :: F)), (fun _ h => h), ?_⟩
              show WPD _ _ _ _ _ _ _ _ _ (Blk b6 [.int .i64 (c.m), .int .i64 (c.s)] 81 :: Blk b5 [.int .i64 (r.m), .int .i64 (r.s)] 81 :: KIs b ka kn kc s :: Blk b4 [.bool false, .int .i64 0, .int .i64 0, .int .i64 0, .int .i64 0, .int .i64 0, .slice none 0 0, .int .i64 0, .int .i64 0, .slice none 0 0] 42 :: Blk b3 [.bool false, .int .i64 0, .int .i64 0, .int .i64 0, .int .i64 0, .int .i64 0, .slice none 0 0, .int .i64 0, .int .i64 0, .slice none 0 0] 42 :: Blk b2 [.int .i64 (o.k), .int .i64 (o.r.m), .int .i64 (o.r.s), .int .i64 (o.c.m), .int .i64 (o.c.s), .int .i64 (o.v), .int .i64 (o.at_)] 38 :: Blk b1 [.pointer (some ⟨b, 0, none⟩)] 78 :: F)
              refine WPD.takeM 7 rfl rfl rfl rfl (by kernel_rfl) (by kernel_rfl) (by kernel_rfl) (by kernel_rfl) (fun _ _ _ h => h) (fun _ h => h) (Val.mk (cs := [.bool false, .int .i64 (r.m), .int .i64 (r.s), .int .i64 (c.m), .int .i64 (c.s), .int .i64 (x), .slice none 0 0, .int .i64 0, .int .i64 0, .slice none 0 0]) rfl rfl (fun _ => by kernel_rfl)) ?_
              refine WPD.perm pl3 ?_
              refine WPD.stepC0 8 (by kernel_rfl) rfl rfl rfl (by kernel_rfl) (Eff.storeAgg (cs := [.bool false, .int .i64 (r.m), .int .i64 (r.s), .int .i64 (c.m), .int .i64 (c.s), .int .i64 (x), .slice none 0 0, .int .i64 0, .int .i64 0, .slice none 0 0]) (C' := [.bool false, .int .i64 (r.m), .int .i64 (r.s), .int .i64 (c.m), .int .i64 (c.s), .int .i64 (x), .slice none 0 0, .int .i64 0, .int .i64 0, .slice none 0 0]) rfl Ty.ag42 rfl rfl rfl rfl (by simp) rfl) ?_
              rintro _ _ rfl
              refine ⟨(Sat W (Blk b4 [.bool false, .int .i64 (r.m), .int .i64 (r.s), .int .i64 (c.m), .int .i64 (c.s), .int .i64 (x), .slice none 0 0, .int .i64 0, .int .i64 0, .slice none 0 0] 42 :: Blk b6 [.int .i64 (c.m), .int .i64 (c.s)] 81 :: Blk b5 [.int .i64 (r.m), .int .i64 (r.s)] 81 :: KIs b ka kn kc s :: Blk b3 [.bool false, .int .i64 0, .int .i64 0, .int .i64 0, .int .i64 0, .int .i64 0, .slice none 0 0, .int .i64 0, .int .i64 0, .slice none 0 0] 42 :: Blk b2 [.int .i64 (o.k), .int .i64 (o.r.m), .int .i64 (o.r.s), .int .i64 (o.c.m), .int .i64 (o.c.s), .int .i64 (o.v), .int .i64 (o.at_)] 38 :: Blk b1 [.pointer (some ⟨b, 0, none⟩)] 78 :: F)), (fun _ h => h), ?_⟩
              refine WPD.done (by kernel_rfl) ?_
              refine Out.block ?_
              refine Out.next ?_
              refine WPc.seq ?_
              refine WPc.region ?_
              refine WP.val rfl rfl rfl (Val.loadAgg (cs := [.pointer (some ⟨b, 0, none⟩)]) rfl Ty.ag78 rfl rfl (fun w h => h.range 6 rfl rfl)) ?_
              refine WP.perm pl3 ?_
              refine WP.eff rfl rfl rfl (Eff.call rfl rfl Try.call79 (kidump_spec b ka kn kc s hsm2)) ?_
              rintro _ _ ⟨_, ⟨v2, g2, rfl, hg2, rfl⟩, rfl⟩
              show WP _ _ _ _ _ _ _ (Own 135 4 v2 g2.length (flatOf GV.cells g2) :: Kds (GVPe 81) g2 :: KIs b ka kn kc s :: Blk b4 [.bool false, .int .i64 (r.m), .int .i64 (r.s), .int .i64 (c.m), .int .i64 (c.s), .int .i64 (x), .slice none 0 0, .int .i64 0, .int .i64 0, .slice none 0 0] 42 :: Blk b6 [.int .i64 (c.m), .int .i64 (c.s)] 81 :: Blk b5 [.int .i64 (r.m), .int .i64 (r.s)] 81 :: Blk b3 [.bool false, .int .i64 0, .int .i64 0, .int .i64 0, .int .i64 0, .int .i64 0, .slice none 0 0, .int .i64 0, .int .i64 0, .slice none 0 0] 42 :: Blk b2 [.int .i64 (o.k), .int .i64 (o.r.m), .int .i64 (o.r.s), .int .i64 (o.c.m), .int .i64 (o.c.s), .int .i64 (o.v), .int .i64 (o.at_)] 38 :: Blk b1 [.pointer (some ⟨b, 0, none⟩)] 78 :: F)
              refine WP.perm pl1 ?_
              refine WP.perm pl1 ?_
              refine WP.open (fun w h => gens_open h) ?_
              rintro E2
              refine WP.pure (fun hE2 => ?_)
              obtain ⟨rE2, backE2⟩ := hE2
              show WP _ _ _ _ _ _ _ (E2 :: KIs b ka kn kc s :: Blk b4 [.bool false, .int .i64 (r.m), .int .i64 (r.s), .int .i64 (c.m), .int .i64 (c.s), .int .i64 (x), .slice none 0 0, .int .i64 0, .int .i64 0, .slice none 0 0] 42 :: Blk b6 [.int .i64 (c.m), .int .i64 (c.s)] 81 :: Blk b5 [.int .i64 (r.m), .int .i64 (r.s)] 81 :: Blk b3 [.bool false, .int .i64 0, .int .i64 0, .int .i64 0, .int .i64 0, .int .i64 0, .slice none 0 0, .int .i64 0, .int .i64 0, .slice none 0 0] 42 :: Blk b2 [.int .i64 (o.k), .int .i64 (o.r.m), .int .i64 (o.r.s), .int .i64 (o.c.m), .int .i64 (o.c.s), .int .i64 (o.v), .int .i64 (o.at_)] 38 :: Blk b1 [.pointer (some ⟨b, 0, none⟩)] 78 :: F)
              have hs2 : Small (g2.map (·.1)) := by rw [hg2]; exact hsm2
              refine WP.eff rfl rfl rfl (Eff.call rfl rfl Try.call78 (dumpout_spec E2 s.md g2 hs2 rE2.inn v2 rE2.rd)) ?_
              rintro _ _ ⟨_, ⟨v3, g3, rfl, hg3, rfl⟩, rfl⟩
              show WP _ _ _ _ _ _ _ (Own 53 4 v3 g3.length (flatOf GV.cells g3) :: Kds (GVPe 32) g3 :: E2 :: KIs b ka kn kc s :: Blk b4 [.bool false, .int .i64 (r.m), .int .i64 (r.s), .int .i64 (c.m), .int .i64 (c.s), .int .i64 (x), .slice none 0 0, .int .i64 0, .int .i64 0, .slice none 0 0] 42 :: Blk b6 [.int .i64 (c.m), .int .i64 (c.s)] 81 :: Blk b5 [.int .i64 (r.m), .int .i64 (r.s)] 81 :: Blk b3 [.bool false, .int .i64 0, .int .i64 0, .int .i64 0, .int .i64 0, .int .i64 0, .slice none 0 0, .int .i64 0, .int .i64 0, .slice none 0 0] 42 :: Blk b2 [.int .i64 (o.k), .int .i64 (o.r.m), .int .i64 (o.r.s), .int .i64 (o.c.m), .int .i64 (o.c.s), .int .i64 (o.v), .int .i64 (o.at_)] 38 :: Blk b1 [.pointer (some ⟨b, 0, none⟩)] 78 :: F)
              refine WP.fact (fun w h => own_oneCell h) (fun on3 => ?_)
              refine WP.val rfl rfl rfl (Val.fieldAddr (j := 7) rfl Ty.fo42_5 rfl rfl) ?_
              refine WP.perm pl4 ?_
              refine WP.eff0 rfl rfl (Eff.storeAgg (cs := [.int .i64 (s.md.m), .int .i64 (s.md.s), v3]) (C' := [.bool false, .int .i64 (r.m), .int .i64 (r.s), .int .i64 (c.m), .int .i64 (c.s), .int .i64 (x), .slice none 0 0, .int .i64 (s.md.m), .int .i64 (s.md.s), v3]) rfl Ty.ag35 rfl rfl rfl (by simp only [List.all_cons, List.all_nil, Bool.and_true, oc_int, oc_str, oc_bool, oc_ptr, oc_slice, oc_iface, oc_map, on3]) (by simp) rfl) ?_
              rintro _ _ rfl
              refine WP.nil ?_
              refine Out.next ?_
              refine WPc.seq ?_
              refine WPc.region ?_
              refine WP.val rfl rfl rfl (Val.loadAgg (cs := [.bool false, .int .i64 (r.m), .int .i64 (r.s), .int .i64 (c.m), .int .i64 (c.s), .int .i64 (x), .slice none 0 0, .int .i64 (s.md.m), .int .i64 (s.md.s), v3]) rfl Ty.ag42 rfl rfl (fun w h => h.range 0 rfl rfl)) ?_
              refine WP.perm pl7 ?_
              refine WP.eff0 rfl rfl (Eff.storeAgg (cs := [.bool false, .int .i64 (r.m), .int .i64 (r.s), .int .i64 (c.m), .int .i64 (c.s), .int .i64 (x), .slice none 0 0, .int .i64 (s.md.m), .int .i64 (s.md.s), v3]) (C' := [.bool false, .int .i64 (r.m), .int .i64 (r.s), .int .i64 (c.m), .int .i64 (c.s), .int .i64 (x), .slice none 0 0, .int .i64 (s.md.m), .int .i64 (s.md.s), v3]) rfl Ty.ag42 rfl rfl rfl (by simp only [List.all_cons, List.all_nil, Bool.and_true, oc_int, oc_str, oc_bool, oc_ptr, oc_slice, oc_iface, oc_map, on3]) (by simp) rfl) ?_
              rintro _ _ rfl
              refine WP.nil ?_
              refine Out.next ?_
              refine WPc.ret ?_
              refine Out.conv (fun w h => h.ownNil (e := 32) (k := 2)) ?_
              refine Out.perm pl2 ?_
              refine Out.drop ?_
              refine Out.perm pl4 ?_
              refine Out.drop ?_
              refine Out.perm pl5 ?_
              refine Out.drop ?_
              refine Out.perm pl5 ?_
              refine Out.drop ?_
              refine Out.perm pl5 ?_
              refine Out.drop ?_
              refine Out.perm pl5 ?_
              refine Out.drop ?_
              refine Out.perm pl4 ?_
              refine Out.perm pl4 ?_
              refine Out.perm pl4 ?_
              refine Out.perm pl3 ?_
              refine Out.perm pl4 ?_
              exact Out.retRun (L' := _) (results_cell (cs := _) Try.results35 Ty.ag42 rfl rfl (fun w h => h.range 0 rfl rfl)) ⟨(.slice none 0 0), v3, g3, by rw [ha] <;> rfl, hg3.trans hg2, by rw [ha] <;> rfl⟩ (fun w h => h.drop)
          · skip
            have h5 : ¬ (o.k = (5 : Int)) := h5
            exfalso; omega

end Go.Proofs.Ythicijpjpijdjaa.Ky
