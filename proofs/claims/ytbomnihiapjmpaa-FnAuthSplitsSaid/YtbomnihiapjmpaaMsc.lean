import Derived.Test.YtbomnihiapjmpaaMsa
import Derived.Test.YtbomnihiapjmpaaMsb
namespace Go.Proofs.Ytbomnihiapjmpaa.Th
open Go.RowKit Go.Proofs.Ytbomnihiapjmpaa Go.Proofs.Ytbomnihiapjmpaa.Sl Go.Proofs.Ytbomnihiapjmpaa.TrP Go.Proofs.Ytbomnihiapjmpaa.Tc Go.Proofs.Ytbomnihiapjmpaa.Td Go.Proofs.Ytbomnihiapjmpaa.Te Go.Proofs.Ytbomnihiapjmpaa.Tf Go.Proofs.Ytbomnihiapjmpaa.Tg
set_option linter.unusedVariables false
set_option linter.unusedSimpArgs false
set_option linter.unusedSectionVars false


set_option maxRecDepth 100000 in
set_option maxHeartbeats 2000000 in
theorem fx_does (EL : List En) (t0 : TypeId) (hE : ∀ e ∈ EL, e.t = t0) (s : Nat) (D : List Nat) (ZC : List Value) (tb root0 : Nat) (cnt : Int) (S0 : St) (ok : Ok s EL D S0) (hroot : Is s D root0) (z0 n k0 : Nat) (hz : z0 ∈ D) (hfo : FxOk s n k0 S0 root0 z0) (hlast : (fx s n k0 S0 root0 z0).2 ∈ D) : Does Try.prog 152 [.pointer (some ⟨tb, 0, none⟩), .pointer (some ⟨z0, 0, none⟩)] [Blk tb [.pointer (some ⟨root0, 0, none⟩), .int .i64 (cnt), .pointer (some ⟨s, 0, none⟩)] 180, Ens EL, Sto S0 D, Blk s ZC 177] (fun _ L => L = [Blk tb [.pointer (some ⟨(fx s n k0 S0 root0 z0).2, 0, none⟩), .int .i64 cnt, .pointer (some ⟨s, 0, none⟩)] 180, Ens EL, Sto (setC (fx s n k0 S0 root0 z0).1 (fx s n k0 S0 root0 z0).2 0) D, Blk s ZC 177]) := by
 refine Does.enter 201 Try.func152 rfl rfl rfl fun W F => ?_
 show WPc _ _ _ _ _ [(0, .pointer (some ⟨tb, 0, none⟩)), (1, .pointer (some ⟨z0, 0, none⟩))] (Blk tb [.pointer (some ⟨root0, 0, none⟩), .int .i64 (cnt), .pointer (some ⟨s, 0, none⟩)] 180 :: Ens EL :: Sto S0 D :: Blk s ZC 177 :: F)
 refine WPc.seq ?_
 refine WPc.block ?_
 refine WPc.loop (ι := St × Nat × Nat × Nat) (fun ⟨S, root, z, k⟩ => fx s n k S root z = fx s n k0 S0 root0 z0 ∧ Ok s EL D S ∧ z ∈ D ∧ Is s D root ∧ FxOk s n k S root z) (fun ⟨S, root, z, k⟩ => [(0, .pointer (some ⟨tb, 0, none⟩)), (1, .pointer (some ⟨z, 0, none⟩))]) (fun ⟨S, root, z, k⟩ => Blk tb [.pointer (some ⟨root, 0, none⟩), .int .i64 (cnt), .pointer (some ⟨s, 0, none⟩)] 180 :: Ens EL :: Sto S D :: Blk s ZC 177 :: F) (fun ⟨S, root, z, k⟩ => k) ⟨S0, root0, z0, k0⟩ ⟨rfl, ok, hz, hroot, hfo⟩ ((Sub.cons rfl (Sub.cons rfl Sub.nil))) (fun _ h => h) ?_
 rintro ⟨S, root, z, k⟩ hI
 show WPc _ _ _ _ _ [(0, _), (1, .pointer (some ⟨z, 0, none⟩))] (Blk tb [.pointer (some ⟨root, 0, none⟩), .int .i64 (cnt), .pointer (some ⟨s, 0, none⟩)] 180 :: _ :: Sto S D :: _)
 obtain ⟨hfx, ok, hz, hroot, hfo⟩ := hI
 refine WPc.seq ?_
 refine WPc.seq ?_
 refine WPD.s0 Ty.mixed ?_
 refine WPD.tM 0 rfl rfl rfl rfl (Val.move rfl rfl) ?_
 refine WPD.tM 1 rfl rfl rfl rfl (Val.nilCheck rfl rfl) ?_
 refine WPD.tM 2 rfl rfl rfl rfl (Val.fieldAddr (j := 6) rfl Ty.fo177_4 rfl rfl) ?_
 refine WPD.tL 3 rfl rfl rfl rfl (fun _ h => h) (Val.load (v := .pointer (some ⟨(S z).p, 0, none⟩)) rfl Ty.sc168 rfl (fun w h => sto_p (h.at 2 rfl) hz rfl)) ?_
 refine WPD.tM 4 rfl rfl rfl rfl (Val.move rfl rfl) ?_
 refine WPD.tM 5 rfl rfl rfl rfl (Val.nilCheck rfl rfl) ?_
 refine WPD.tM 6 rfl rfl rfl rfl (Val.fieldAddr (j := 2) rfl Ty.fo180_2 rfl rfl) ?_
 refine WPD.tL 7 rfl rfl rfl rfl (fun _ h => h) (Val.load rfl Ty.sc168 rfl (fun w h => h.cell 0 rfl rfl)) ?_
 refine WPD.perm pl3 ?_
 refine WPD.perm pl3 ?_
 refine WPD.stepC 8 (by kernel_rfl) rfl rfl rfl rfl (by kernel_rfl) (Eff.call rfl rfl Try.call148 (color_does EL s D ZC S ok ((S z).p) (Ok.p ok hz))) ?_
 rintro _ _ ⟨_, ⟨rfl, rfl⟩, rfl⟩
 refine ⟨_, (fun _ h => h), ?_⟩
 refine WPD.tL 9 rfl rfl rfl rfl (fun _ h => h) (Val.eql rfl rfl rfl) ?_
 refine WPD.done (by kernel_rfl) ?_
 refine Out.next ?_
 refine WPc.ifP rfl (fun h1 => ?_) (fun h1 => ?_)
 ·
  have h1 : ((colr s S ((S z).p)) = (1 : Int)) := h1
  refine WPc.skip ?_
  refine Out.next ?_
  refine WPc.block ?_
  refine WPc.seq ?_
  have hred : colr s S (S z).p = 1 := by assumption
  obtain ⟨k, rfl, ⟨hg, hfl, hfr⟩, hfo⟩ := hfo.yes hred
  have hp : (S z).p ∈ D := Is.mem (Ok.p ok hz) (colr_ne hred)
  have hgD : (S ((S z).p)).p ∈ D := Is.mem (Ok.p ok hp) hg
  refine WPD.s0 Ty.mixed ?_
  refine WPD.tM 0 rfl rfl rfl rfl (Val.move rfl rfl) ?_
  refine WPD.tM 1 rfl rfl rfl rfl (Val.nilCheck rfl rfl) ?_
  refine WPD.tM 2 rfl rfl rfl rfl (Val.fieldAddr (j := 6) rfl Ty.fo177_4 rfl rfl) ?_
  refine WPD.tL 3 rfl rfl rfl rfl (fun _ h => h) (Val.load (v := .pointer (some ⟨(S z).p, 0, none⟩)) rfl Ty.sc168 rfl (fun w h => sto_p (h.at 0 rfl) hz rfl)) ?_
  refine WPD.tM 4 rfl rfl rfl rfl (Val.move rfl rfl) ?_
  refine WPD.tM 5 rfl rfl rfl rfl (Val.nilCheck rfl rfl) ?_
  refine WPD.tM 6 rfl rfl rfl rfl (Val.fieldAddr (j := 6) rfl Ty.fo177_4 rfl rfl) ?_
  refine WPD.tL 7 rfl rfl rfl rfl (fun _ h => h) (Val.load (v := .pointer (some ⟨(S z).p, 0, none⟩)) rfl Ty.sc168 rfl (fun w h => sto_p (h.at 0 rfl) hz rfl)) ?_
  refine WPD.tM 8 rfl rfl rfl rfl (Val.nilCheck rfl rfl) ?_
  refine WPD.tM 9 rfl rfl rfl rfl (Val.fieldAddr (j := 6) rfl Ty.fo177_4 rfl rfl) ?_
  refine WPD.tL 10 rfl rfl rfl rfl (fun _ h => h) (Val.load (v := .pointer (some ⟨(S ((S z).p)).p, 0, none⟩)) rfl Ty.sc168 rfl (fun w h => sto_p (h.at 0 rfl) hp rfl)) ?_
  refine WPD.tM 11 rfl rfl rfl rfl (Val.nilCheck rfl rfl) ?_
  refine WPD.tM 12 rfl rfl rfl rfl (Val.fieldAddr (j := 4) rfl Ty.fo177_2 rfl rfl) ?_
  refine WPD.tL 13 rfl rfl rfl rfl (fun _ h => h) (Val.load (v := .pointer (some ⟨(S ((S ((S z).p)).p)).l, 0, none⟩)) rfl Ty.sc168 rfl (fun w h => sto_l (h.at 0 rfl) hgD rfl)) ?_
  refine WPD.tL 14 rfl rfl rfl rfl (fun _ h => h) (Val.eqP (T1 := 177) (T2 := 177) rfl pn168 rfl rfl rfl rfl (fun w h => whole (h.at 0 rfl) (h.at 1 rfl) (Ok.p ok hz)) (fun w h => whole (h.at 0 rfl) (h.at 1 rfl) (Ok.l ok hgD))) ?_
  refine WPD.done (by kernel_rfl) ?_
  refine Out.next ?_
  refine WPc.ifP rfl (fun h2 => ?_) (fun h2 => ?_)
  ·
   have h2 : ((S z).p = (S ((S ((S z).p)).p)).l) := h2
   refine WPc.seq ?_
   have hside : (S z).p = (S ((S ((S z).p)).p)).l := by assumption
   have hf := hfl hside
   refine WPc.region ?_
   refine WP.val rfl rfl rfl (Val.move rfl rfl) ?_
   refine WP.val rfl rfl rfl (Val.nilCheck rfl rfl) ?_
   refine WP.val rfl rfl rfl (Val.fieldAddr (j := 6) rfl Ty.fo177_4 rfl rfl) ?_
   refine WP.val rfl rfl rfl (Val.load (v := .pointer (some ⟨(S z).p, 0, none⟩)) rfl Ty.sc168 rfl (fun w h => sto_p (h.at 0 rfl) hz rfl)) ?_
   refine WP.val rfl rfl rfl (Val.nilCheck rfl rfl) ?_
   refine WP.val rfl rfl rfl (Val.fieldAddr (j := 6) rfl Ty.fo177_4 rfl rfl) ?_
   refine WP.val rfl rfl rfl (Val.load (v := .pointer (some ⟨(S ((S z).p)).p, 0, none⟩)) rfl Ty.sc168 rfl (fun w h => sto_p (h.at 0 rfl) hp rfl)) ?_
   refine WP.val rfl rfl rfl (Val.nilCheck rfl rfl) ?_
   refine WP.val rfl rfl rfl (Val.fieldAddr (j := 5) rfl Ty.fo177_3 rfl rfl) ?_
   refine WP.val rfl rfl rfl (Val.load (v := .pointer (some ⟨(S ((S ((S z).p)).p)).r, 0, none⟩)) rfl Ty.sc168 rfl (fun w h => sto_r (h.at 0 rfl) hgD rfl)) ?_
   refine WP.val rfl rfl rfl (Val.assign rfl rfl) ?_
   refine WP.nx ?_
   refine WPc.sr ?_
   refine WP.val rfl rfl rfl (Val.move rfl rfl) ?_
   refine WP.val rfl rfl rfl (Val.move rfl rfl) ?_
   refine WP.val rfl rfl rfl (Val.nilCheck rfl rfl) ?_
   refine WP.val rfl rfl rfl (Val.fieldAddr (j := 2) rfl Ty.fo180_2 rfl rfl) ?_
   refine WP.val rfl rfl rfl (Val.load rfl Ty.sc168 rfl (fun w h => h.cell 2 rfl rfl)) ?_
   refine WP.perm pl1 ?_
   refine WP.perm pl1 ?_
   refine WP.eff rfl rfl rfl (Eff.call rfl rfl Try.call148 (color_does EL s D ZC S ok ((S ((S ((S z).p)).p)).r) (Ok.r ok hgD))) ?_
   rintro _ _ ⟨_, ⟨rfl, rfl⟩, rfl⟩
   refine WP.val rfl rfl rfl (Val.eql rfl rfl rfl) ?_
   refine WP.nx ?_
   refine WPc.ifP rfl (fun h3 => ?_) (fun h3 => ?_)
   ·
    have h3 : ((colr s S ((S ((S ((S z).p)).p)).r)) = (1 : Int)) := h3
    refine WPc.seq ?_
    have hu : colr s S (S ((S ((S z).p)).p)).r = 1 := by assumption
    have huD : (S ((S ((S z).p)).p)).r ∈ D := Is.mem (Ok.r ok hgD) (colr_ne hu)
    refine WPc.region ?_
    refine WP.val rfl rfl rfl (Val.move rfl rfl) ?_
    refine WP.val rfl rfl rfl (Val.nilCheck rfl rfl) ?_
    refine WP.val rfl rfl rfl (Val.fieldAddr (j := 7) rfl Ty.fo177_5 rfl rfl) ?_
    refine WP.eff0 rfl rfl (Eff.storeK (f := fun i => (S i).cells) (f' := fun i => (setC S ((S ((S ((S z).p)).p)).r) 0 i).cells) rfl Ty.sc175 rfl rfl rfl huD (show 7 < 8 by decide) (by unfold setC; rw [upd_same]; rfl) (by unfold setC; exact cells_other)) ?_
    rintro _ _ rfl
    show WP _ _ _ _ _ _ _ (Sto (setC S ((S ((S ((S z).p)).p)).r) 0) D :: _)
    obtain ⟨S1, hS1⟩ : ∃ S1, S1 = setC S ((S ((S ((S z).p)).p)).r) 0 := ⟨_, rfl⟩
    rw [← hS1]
    have okS1 : Ok s EL D S1 := by rw [hS1]; exact (ok.setC)
    have k2 : (S1 z).p = (S z).p := (by rw [hS1]; exact (setC_p _ _ _ _).trans rfl)
    have k3 : (S1 ((S z).p)).p = (S ((S z).p)).p := (by rw [hS1]; exact (setC_p _ _ _ _).trans rfl)
    have k4 : (S1 ((S ((S z).p)).p)).l = (S ((S ((S z).p)).p)).l := (by rw [hS1]; exact (setC_l _ _ _ _).trans rfl)
    have k5 : (S1 ((S ((S z).p)).p)).r = (S ((S ((S z).p)).p)).r := (by rw [hS1]; exact (setC_r _ _ _ _).trans rfl)
    have k6 : (S1 ((S z).p)).l = (S ((S z).p)).l := (by rw [hS1]; exact (setC_l _ _ _ _).trans rfl)
    have k7 : (S1 ((S z).p)).r = (S ((S z).p)).r := (by rw [hS1]; exact (setC_r _ _ _ _).trans rfl)
    have k8 : (S1 ((S ((S ((S z).p)).p)).r)).c = 0 := by rw [hS1]; exact setC_same _ _ _
    refine WP.nx ?_
    refine WPc.sr ?_
    refine WP.val rfl rfl rfl (Val.move rfl rfl) ?_
    refine WP.val rfl rfl rfl (Val.nilCheck rfl rfl) ?_
    refine WP.val rfl rfl rfl (Val.fieldAddr (j := 6) rfl Ty.fo177_4 rfl rfl) ?_
    refine WP.val rfl rfl rfl (Val.load (v := .pointer (some ⟨(S z).p, 0, none⟩)) rfl Ty.sc168 rfl (fun w h => sto_p (h.at 0 rfl) hz k2)) ?_
    refine WP.val rfl rfl rfl (Val.nilCheck rfl rfl) ?_
    refine WP.val rfl rfl rfl (Val.fieldAddr (j := 7) rfl Ty.fo177_5 rfl rfl) ?_
    refine WP.eff0 rfl rfl (Eff.storeK (f := fun i => (S1 i).cells) (f' := fun i => (setC S1 ((S z).p) 0 i).cells) rfl Ty.sc175 rfl rfl rfl hp (show 7 < 8 by decide) (by unfold setC; rw [upd_same]; rfl) (by unfold setC; exact cells_other)) ?_
    rintro _ _ rfl
    show WP _ _ _ _ _ _ _ (Sto (setC S1 ((S z).p) 0) D :: _)
    obtain ⟨S9, hS9⟩ : ∃ S9, S9 = setC S1 ((S z).p) 0 := ⟨_, rfl⟩
    rw [← hS9]
    have okS9 : Ok s EL D S9 := by rw [hS9]; exact (okS1.setC)
    have k10 : (S9 z).p = (S z).p := (by rw [hS9]; exact (setC_p _ _ _ _).trans k2)
    have k11 : (S9 ((S z).p)).p = (S ((S z).p)).p := (by rw [hS9]; exact (setC_p _ _ _ _).trans k3)
    have k12 : (S9 ((S ((S z).p)).p)).l = (S ((S ((S z).p)).p)).l := (by rw [hS9]; exact (setC_l _ _ _ _).trans k4)
    have k13 : (S9 ((S ((S z).p)).p)).r = (S ((S ((S z).p)).p)).r := (by rw [hS9]; exact (setC_r _ _ _ _).trans k5)
    have k14 : (S9 ((S z).p)).l = (S ((S z).p)).l := (by rw [hS9]; exact (setC_l _ _ _ _).trans k6)
    have k15 : (S9 ((S z).p)).r = (S ((S z).p)).r := (by rw [hS9]; exact (setC_r _ _ _ _).trans k7)
    have k16 : (S9 ((S z).p)).c = 0 := by rw [hS9]; exact setC_same _ _ _
    refine WP.nx ?_
    refine WPc.sr ?_
    refine WP.val rfl rfl rfl (Val.move rfl rfl) ?_
    refine WP.val rfl rfl rfl (Val.nilCheck rfl rfl) ?_
    refine WP.val rfl rfl rfl (Val.fieldAddr (j := 6) rfl Ty.fo177_4 rfl rfl) ?_
    refine WP.val rfl rfl rfl (Val.load (v := .pointer (some ⟨(S z).p, 0, none⟩)) rfl Ty.sc168 rfl (fun w h => sto_p (h.at 0 rfl) hz k10)) ?_
    refine WP.val rfl rfl rfl (Val.nilCheck rfl rfl) ?_
    refine WP.val rfl rfl rfl (Val.fieldAddr (j := 6) rfl Ty.fo177_4 rfl rfl) ?_
    refine WP.val rfl rfl rfl (Val.load (v := .pointer (some ⟨(S ((S z).p)).p, 0, none⟩)) rfl Ty.sc168 rfl (fun w h => sto_p (h.at 0 rfl) hp k11)) ?_
    refine WP.val rfl rfl rfl (Val.nilCheck rfl rfl) ?_
    refine WP.val rfl rfl rfl (Val.fieldAddr (j := 7) rfl Ty.fo177_5 rfl rfl) ?_
    refine WP.eff0 rfl rfl (Eff.storeK (f := fun i => (S9 i).cells) (f' := fun i => (setC S9 ((S ((S z).p)).p) 1 i).cells) rfl Ty.sc175 rfl rfl rfl hgD (show 7 < 8 by decide) (by unfold setC; rw [upd_same]; rfl) (by unfold setC; exact cells_other)) ?_
    rintro _ _ rfl
    show WP _ _ _ _ _ _ _ (Sto (setC S9 ((S ((S z).p)).p) 1) D :: _)
    obtain ⟨S17, hS17⟩ : ∃ S17, S17 = setC S9 ((S ((S z).p)).p) 1 := ⟨_, rfl⟩
    rw [← hS17]
    have okS17 : Ok s EL D S17 := by rw [hS17]; exact (okS9.setC)
    have k18 : (S17 z).p = (S z).p := (by rw [hS17]; exact (setC_p _ _ _ _).trans k10)
    have k19 : (S17 ((S z).p)).p = (S ((S z).p)).p := (by rw [hS17]; exact (setC_p _ _ _ _).trans k11)
    have k20 : (S17 ((S ((S z).p)).p)).l = (S ((S ((S z).p)).p)).l := (by rw [hS17]; exact (setC_l _ _ _ _).trans k12)
    have k21 : (S17 ((S ((S z).p)).p)).r = (S ((S ((S z).p)).p)).r := (by rw [hS17]; exact (setC_r _ _ _ _).trans k13)
    have k22 : (S17 ((S z).p)).l = (S ((S z).p)).l := (by rw [hS17]; exact (setC_l _ _ _ _).trans k14)
    have k23 : (S17 ((S z).p)).r = (S ((S z).p)).r := (by rw [hS17]; exact (setC_r _ _ _ _).trans k15)
    have k24 : (S17 ((S ((S z).p)).p)).c = 1 := by rw [hS17]; exact setC_same _ _ _
    refine WP.nx ?_
    refine WPc.region ?_
    refine WP.val rfl rfl rfl (Val.move rfl rfl) ?_
    refine WP.val rfl rfl rfl (Val.nilCheck rfl rfl) ?_
    refine WP.val rfl rfl rfl (Val.fieldAddr (j := 6) rfl Ty.fo177_4 rfl rfl) ?_
    refine WP.val rfl rfl rfl (Val.load (v := .pointer (some ⟨(S z).p, 0, none⟩)) rfl Ty.sc168 rfl (fun w h => sto_p (h.at 0 rfl) hz k18)) ?_
    refine WP.val rfl rfl rfl (Val.nilCheck rfl rfl) ?_
    refine WP.val rfl rfl rfl (Val.fieldAddr (j := 6) rfl Ty.fo177_4 rfl rfl) ?_
    refine WP.val rfl rfl rfl (Val.load (v := .pointer (some ⟨(S ((S z).p)).p, 0, none⟩)) rfl Ty.sc168 rfl (fun w h => sto_p (h.at 0 rfl) hp k19)) ?_
    refine WP.val rfl rfl rfl (Val.assign rfl rfl) ?_
    refine WP.nil ?_
    refine Out.block ?_
    have hstep : fxs s n S root z = _ := (fxs_l hside).trans (fxl_c hu)
    unfold fxCl at hstep
    rw [← hS1, ← hS9, ← hS17] at hstep
    rw [fx_yes hred, hstep] at hfx
    rw [hstep] at hfo
    refine Out.perm pl1 ?_
    refine Out.perm pl1 ?_
    refine Out.perm pl3 ?_
    refine Out.perm pl3 ?_
    refine Out.again ⟨S17, root, (S ((S z).p)).p, k⟩ ?_ ?_ ?_ ?_
    ·
     exact ⟨hfx, okS17, hgD, hroot, hfo⟩
    ·
     show k < k + 1; omega
    ·
     exact (Sub.cons rfl (Sub.cons rfl Sub.nil))
    ·
     exact (fun _ h => h)
   ·
    have h3 : ¬ ((colr s S ((S ((S ((S z).p)).p)).r)) = (1 : Int)) := h3
    refine WPc.seq ?_
    refine WPc.seq ?_
    have hu : ¬ colr s S (S ((S ((S z).p)).p)).r = 1 := by assumption
    have hfb := hf.b hu
    refine WPc.region ?_
    refine WP.val rfl rfl rfl (Val.move rfl rfl) ?_
    refine WP.val rfl rfl rfl (Val.move rfl rfl) ?_
    refine WP.val rfl rfl rfl (Val.nilCheck rfl rfl) ?_
    refine WP.val rfl rfl rfl (Val.fieldAddr (j := 6) rfl Ty.fo177_4 rfl rfl) ?_
    refine WP.val rfl rfl rfl (Val.load (v := .pointer (some ⟨(S z).p, 0, none⟩)) rfl Ty.sc168 rfl (fun w h => sto_p (h.at 0 rfl) hz rfl)) ?_
    refine WP.val rfl rfl rfl (Val.nilCheck rfl rfl) ?_
    refine WP.val rfl rfl rfl (Val.fieldAddr (j := 5) rfl Ty.fo177_3 rfl rfl) ?_
    refine WP.val rfl rfl rfl (Val.load (v := .pointer (some ⟨(S ((S z).p)).r, 0, none⟩)) rfl Ty.sc168 rfl (fun w h => sto_r (h.at 0 rfl) hp rfl)) ?_
    refine WP.val rfl rfl rfl (Val.eqP (T1 := 177) (T2 := 177) rfl pn168 rfl rfl rfl rfl (fun w h => whole (h.at 0 rfl) (h.at 1 rfl) (.inr hz)) (fun w h => whole (h.at 0 rfl) (h.at 1 rfl) (Ok.r ok hp))) ?_
    refine WP.nx ?_
    refine WPc.ifP rfl (fun h4 => ?_) (fun h4 => ?_)
    ·
     have h4 : (z = (S ((S z).p)).r) := h4
     refine WPc.seq ?_
     have hin : z = (S ((S z).p)).r := by assumption
     rw [fxQl_y hin, fxZl_y hin] at hfb
     refine WPc.region ?_
     refine WP.val rfl rfl rfl (Val.move rfl rfl) ?_
     refine WP.val rfl rfl rfl (Val.nilCheck rfl rfl) ?_
     refine WP.val rfl rfl rfl (Val.fieldAddr (j := 6) rfl Ty.fo177_4 rfl rfl) ?_
     refine WP.val rfl rfl rfl (Val.load (v := .pointer (some ⟨(S z).p, 0, none⟩)) rfl Ty.sc168 rfl (fun w h => sto_p (h.at 0 rfl) hz rfl)) ?_
     refine WP.val rfl rfl rfl (Val.assign rfl rfl) ?_
     refine WP.nx ?_
     refine WPc.region ?_
     refine WP.val rfl rfl rfl (Val.move rfl rfl) ?_
     refine WP.val rfl rfl rfl (Val.move rfl rfl) ?_
     refine WP.perm pl1 ?_
     refine WP.perm pl1 ?_
     refine WP.perm pl3 ?_
     refine WP.perm pl3 ?_
     refine WP.eff rfl rfl rfl (Eff.call rfl rfl Try.call160 (rl_does EL t0 hE s D ZC tb root cnt S ok hroot ((S z).p) n hp (fun h0 => hf.rot hu hin h0))) ?_
     rintro _ _ ⟨_, rfl, rfl⟩
     show WP _ _ _ _ _ _ _ (Blk tb [.pointer (some ⟨(rl s n S root ((S z).p)).2, 0, none⟩), .int .i64 (cnt), .pointer (some ⟨s, 0, none⟩)] 180 :: _ :: Sto ((rl s n S root ((S z).p)).1) D :: _)
     obtain ⟨S25, hS25⟩ : ∃ S25, S25 = (rl s n S root ((S z).p)).1 := ⟨_, rfl⟩
     rw [← hS25]
     have okS25 : Ok s EL D S25 := by rw [hS25]; exact (rl_ok ok hp)
     refine WP.nx ?_
     refine WPc.seq ?_
     rw [← hS25] at hfb
     have hp1 : (S25 ((S z).p)).p ∈ D := Is.mem (Ok.p okS25 hp) hfb.p
     have hg1 : (S25 ((S25 ((S z).p)).p)).p ∈ D := Is.mem (Ok.p okS25 hp1) hfb.g
     refine WPc.region ?_
     refine WP.val rfl rfl rfl (Val.move rfl rfl) ?_
     refine WP.val rfl rfl rfl (Val.nilCheck rfl rfl) ?_
     refine WP.val rfl rfl rfl (Val.fieldAddr (j := 6) rfl Ty.fo177_4 rfl rfl) ?_
     refine WP.val rfl rfl rfl (Val.load (v := .pointer (some ⟨(S25 ((S z).p)).p, 0, none⟩)) rfl Ty.sc168 rfl (fun w h => sto_p (h.at 2 rfl) hp rfl)) ?_
     refine WP.val rfl rfl rfl (Val.nilCheck rfl rfl) ?_
     refine WP.val rfl rfl rfl (Val.fieldAddr (j := 7) rfl Ty.fo177_5 rfl rfl) ?_
     refine WP.perm pl2 ?_
     refine WP.eff0 rfl rfl (Eff.storeK (f := fun i => (S25 i).cells) (f' := fun i => (setC S25 ((S25 ((S z).p)).p) 0 i).cells) rfl Ty.sc175 rfl rfl rfl hp1 (show 7 < 8 by decide) (by unfold setC; rw [upd_same]; rfl) (by unfold setC; exact cells_other)) ?_
     rintro _ _ rfl
     show WP _ _ _ _ _ _ _ (Sto (setC S25 ((S25 ((S z).p)).p) 0) D :: _)
     obtain ⟨S26, hS26⟩ : ∃ S26, S26 = setC S25 ((S25 ((S z).p)).p) 0 := ⟨_, rfl⟩
     rw [← hS26]
     have okS26 : Ok s EL D S26 := by rw [hS26]; exact (okS25.setC)
     have k27 : (S26 ((S z).p)).p = (S25 ((S z).p)).p := (by rw [hS26]; exact (setC_p _ _ _ _).trans rfl)
     have k28 : (S26 ((S25 ((S z).p)).p)).p = (S25 ((S25 ((S z).p)).p)).p := (by rw [hS26]; exact (setC_p _ _ _ _).trans rfl)
     have k29 : (S26 ((S25 ((S25 ((S z).p)).p)).p)).p = (S25 ((S25 ((S25 ((S z).p)).p)).p)).p := (by rw [hS26]; exact (setC_p _ _ _ _).trans rfl)
     have k30 : (S26 ((S25 ((S z).p)).p)).c = 0 := by rw [hS26]; exact setC_same _ _ _
     refine WP.nx ?_
     refine WPc.sr ?_
     refine WP.val rfl rfl rfl (Val.move rfl rfl) ?_
     refine WP.val rfl rfl rfl (Val.nilCheck rfl rfl) ?_
     refine WP.val rfl rfl rfl (Val.fieldAddr (j := 6) rfl Ty.fo177_4 rfl rfl) ?_
     refine WP.val rfl rfl rfl (Val.load (v := .pointer (some ⟨(S25 ((S z).p)).p, 0, none⟩)) rfl Ty.sc168 rfl (fun w h => sto_p (h.at 0 rfl) hp k27)) ?_
     refine WP.val rfl rfl rfl (Val.nilCheck rfl rfl) ?_
     refine WP.val rfl rfl rfl (Val.fieldAddr (j := 6) rfl Ty.fo177_4 rfl rfl) ?_
     refine WP.val rfl rfl rfl (Val.load (v := .pointer (some ⟨(S25 ((S25 ((S z).p)).p)).p, 0, none⟩)) rfl Ty.sc168 rfl (fun w h => sto_p (h.at 0 rfl) hp1 k28)) ?_
     refine WP.val rfl rfl rfl (Val.nilCheck rfl rfl) ?_
     refine WP.val rfl rfl rfl (Val.fieldAddr (j := 7) rfl Ty.fo177_5 rfl rfl) ?_
     refine WP.eff0 rfl rfl (Eff.storeK (f := fun i => (S26 i).cells) (f' := fun i => (setC S26 ((S25 ((S25 ((S z).p)).p)).p) 1 i).cells) rfl Ty.sc175 rfl rfl rfl hg1 (show 7 < 8 by decide) (by unfold setC; rw [upd_same]; rfl) (by unfold setC; exact cells_other)) ?_
     rintro _ _ rfl
     show WP _ _ _ _ _ _ _ (Sto (setC S26 ((S25 ((S25 ((S z).p)).p)).p) 1) D :: _)
     obtain ⟨S31, hS31⟩ : ∃ S31, S31 = setC S26 ((S25 ((S25 ((S z).p)).p)).p) 1 := ⟨_, rfl⟩
     rw [← hS31]
     have okS31 : Ok s EL D S31 := by rw [hS31]; exact (okS26.setC)
     have k32 : (S31 ((S z).p)).p = (S25 ((S z).p)).p := (by rw [hS31]; exact (setC_p _ _ _ _).trans k27)
     have k33 : (S31 ((S25 ((S z).p)).p)).p = (S25 ((S25 ((S z).p)).p)).p := (by rw [hS31]; exact (setC_p _ _ _ _).trans k28)
     have k34 : (S31 ((S25 ((S25 ((S z).p)).p)).p)).p = (S25 ((S25 ((S25 ((S z).p)).p)).p)).p := (by rw [hS31]; exact (setC_p _ _ _ _).trans k29)
     have k35 : (S31 ((S25 ((S25 ((S z).p)).p)).p)).c = 1 := by rw [hS31]; exact setC_same _ _ _
     refine WP.nx ?_
     refine WPc.region ?_
     refine WP.val rfl rfl rfl (Val.move rfl rfl) ?_
     refine WP.val rfl rfl rfl (Val.move rfl rfl) ?_
     refine WP.val rfl rfl rfl (Val.nilCheck rfl rfl) ?_
     refine WP.val rfl rfl rfl (Val.fieldAddr (j := 6) rfl Ty.fo177_4 rfl rfl) ?_
     refine WP.val rfl rfl rfl (Val.load (v := .pointer (some ⟨(S25 ((S z).p)).p, 0, none⟩)) rfl Ty.sc168 rfl (fun w h => sto_p (h.at 0 rfl) hp k32)) ?_
     refine WP.val rfl rfl rfl (Val.nilCheck rfl rfl) ?_
     refine WP.val rfl rfl rfl (Val.fieldAddr (j := 6) rfl Ty.fo177_4 rfl rfl) ?_
     refine WP.val rfl rfl rfl (Val.load (v := .pointer (some ⟨(S25 ((S25 ((S z).p)).p)).p, 0, none⟩)) rfl Ty.sc168 rfl (fun w h => sto_p (h.at 0 rfl) hp1 k33)) ?_
     refine WP.perm pl3 ?_
     refine WP.perm pl1 ?_
     refine WP.perm pl3 ?_
     refine WP.perm pl3 ?_
     refine WP.eff rfl rfl rfl (Eff.call rfl rfl Try.call161 (rr_does EL t0 hE s D ZC tb ((rl s n S root ((S z).p)).2) cnt S31 okS31 (rl_root ok hp hroot) ((S25 ((S25 ((S z).p)).p)).p) n hg1 (fun h0 => by have h1 := hfb.ok; unfold fx3 at h1; rw [← hS26, ← hS31] at h1; exact h1 h0))) ?_
     rintro _ _ ⟨_, rfl, rfl⟩
     show WP _ _ _ _ _ _ _ (Blk tb [.pointer (some ⟨(rr s n S31 ((rl s n S root ((S z).p)).2) ((S25 ((S25 ((S z).p)).p)).p)).2, 0, none⟩), .int .i64 (cnt), .pointer (some ⟨s, 0, none⟩)] 180 :: _ :: Sto ((rr s n S31 ((rl s n S root ((S z).p)).2) ((S25 ((S25 ((S z).p)).p)).p)).1) D :: _)
     obtain ⟨S36, hS36⟩ : ∃ S36, S36 = (rr s n S31 ((rl s n S root ((S z).p)).2) ((S25 ((S25 ((S z).p)).p)).p)).1 := ⟨_, rfl⟩
     rw [← hS36]
     have okS36 : Ok s EL D S36 := by rw [hS36]; exact (rr_ok okS31 hg1)
     refine WP.nil ?_
     refine Out.block ?_
     have hstep : fxs s n S root z = _ := (fxs_l hside).trans (fxl_b hu)
     rw [fxQl_y hin, fxZl_y hin] at hstep
     unfold fxBl fx3 at hstep
     rw [← hS25, ← hS26, ← hS31, ← hS36] at hstep
     rw [fx_yes hred, hstep] at hfx
     rw [hstep] at hfo
     refine Out.again ⟨S36, (rr s n S31 ((rl s n S root ((S z).p)).2) ((S25 ((S25 ((S z).p)).p)).p)).2, (S z).p, k⟩ ?_ ?_ ?_ ?_
     ·
      exact ⟨hfx, okS36, hp, (rr_root okS31 hg1 (rl_root ok hp hroot)), hfo⟩
     ·
      show k < k + 1; omega
     ·
      exact (Sub.cons rfl (Sub.cons rfl Sub.nil))
     ·
      exact (fun _ h => h)
    ·
     have h4 : ¬ (z = (S ((S z).p)).r) := h4
     refine WPc.skip ?_
     refine Out.next ?_
     refine WPc.seq ?_
     have hin : ¬ z = (S ((S z).p)).r := by assumption
     rw [fxQl_n hin, fxZl_n hin] at hfb
     have hp1 : (S z).p ∈ D := Is.mem (Ok.p ok hz) hfb.p
     have hg1 : (S ((S z).p)).p ∈ D := Is.mem (Ok.p ok hp1) hfb.g
     refine WPc.region ?_
     refine WP.val rfl rfl rfl (Val.move rfl rfl) ?_
     refine WP.val rfl rfl rfl (Val.nilCheck rfl rfl) ?_
     refine WP.val rfl rfl rfl (Val.fieldAddr (j := 6) rfl Ty.fo177_4 rfl rfl) ?_
     refine WP.val rfl rfl rfl (Val.load (v := .pointer (some ⟨(S z).p, 0, none⟩)) rfl Ty.sc168 rfl (fun w h => sto_p (h.at 0 rfl) hz rfl)) ?_
     refine WP.val rfl rfl rfl (Val.nilCheck rfl rfl) ?_
     refine WP.val rfl rfl rfl (Val.fieldAddr (j := 7) rfl Ty.fo177_5 rfl rfl) ?_
     refine WP.eff0 rfl rfl (Eff.storeK (f := fun i => (S i).cells) (f' := fun i => (setC S ((S z).p) 0 i).cells) rfl Ty.sc175 rfl rfl rfl hp1 (show 7 < 8 by decide) (by unfold setC; rw [upd_same]; rfl) (by unfold setC; exact cells_other)) ?_
     rintro _ _ rfl
     show WP _ _ _ _ _ _ _ (Sto (setC S ((S z).p) 0) D :: _)
     obtain ⟨S37, hS37⟩ : ∃ S37, S37 = setC S ((S z).p) 0 := ⟨_, rfl⟩
     rw [← hS37]
     have okS37 : Ok s EL D S37 := by rw [hS37]; exact (ok.setC)
     have k38 : (S37 z).p = (S z).p := (by rw [hS37]; exact (setC_p _ _ _ _).trans rfl)
     have k39 : (S37 ((S z).p)).p = (S ((S z).p)).p := (by rw [hS37]; exact (setC_p _ _ _ _).trans rfl)
     have k40 : (S37 ((S ((S z).p)).p)).l = (S ((S ((S z).p)).p)).l := (by rw [hS37]; exact (setC_l _ _ _ _).trans rfl)
     have k41 : (S37 ((S ((S z).p)).p)).r = (S ((S ((S z).p)).p)).r := (by rw [hS37]; exact (setC_r _ _ _ _).trans rfl)
     have k42 : (S37 ((S z).p)).l = (S ((S z).p)).l := (by rw [hS37]; exact (setC_l _ _ _ _).trans rfl)
     have k43 : (S37 ((S z).p)).r = (S ((S z).p)).r := (by rw [hS37]; exact (setC_r _ _ _ _).trans rfl)
     have k44 : (S37 ((S ((S z).p)).p)).p = (S ((S ((S z).p)).p)).p := (by rw [hS37]; exact (setC_p _ _ _ _).trans rfl)
     have k45 : (S37 ((S z).p)).c = 0 := by rw [hS37]; exact setC_same _ _ _
     refine WP.nx ?_
     refine WPc.sr ?_
     refine WP.val rfl rfl rfl (Val.move rfl rfl) ?_
     refine WP.val rfl rfl rfl (Val.nilCheck rfl rfl) ?_
     refine WP.val rfl rfl rfl (Val.fieldAddr (j := 6) rfl Ty.fo177_4 rfl rfl) ?_
     refine WP.val rfl rfl rfl (Val.load (v := .pointer (some ⟨(S z).p, 0, none⟩)) rfl Ty.sc168 rfl (fun w h => sto_p (h.at 0 rfl) hz k38)) ?_
     refine WP.val rfl rfl rfl (Val.nilCheck rfl rfl) ?_
     refine WP.val rfl rfl rfl (Val.fieldAddr (j := 6) rfl Ty.fo177_4 rfl rfl) ?_
     refine WP.val rfl rfl rfl (Val.load (v := .pointer (some ⟨(S ((S z).p)).p, 0, none⟩)) rfl Ty.sc168 rfl (fun w h => sto_p (h.at 0 rfl) hp1 k39)) ?_
     refine WP.val rfl rfl rfl (Val.nilCheck rfl rfl) ?_
     refine WP.val rfl rfl rfl (Val.fieldAddr (j := 7) rfl Ty.fo177_5 rfl rfl) ?_
     refine WP.eff0 rfl rfl (Eff.storeK (f := fun i => (S37 i).cells) (f' := fun i => (setC S37 ((S ((S z).p)).p) 1 i).cells) rfl Ty.sc175 rfl rfl rfl hg1 (show 7 < 8 by decide) (by unfold setC; rw [upd_same]; rfl) (by unfold setC; exact cells_other)) ?_
     rintro _ _ rfl
     show WP _ _ _ _ _ _ _ (Sto (setC S37 ((S ((S z).p)).p) 1) D :: _)
     obtain ⟨S46, hS46⟩ : ∃ S46, S46 = setC S37 ((S ((S z).p)).p) 1 := ⟨_, rfl⟩
     rw [← hS46]
     have okS46 : Ok s EL D S46 := by rw [hS46]; exact (okS37.setC)
     have k47 : (S46 z).p = (S z).p := (by rw [hS46]; exact (setC_p _ _ _ _).trans k38)
     have k48 : (S46 ((S z).p)).p = (S ((S z).p)).p := (by rw [hS46]; exact (setC_p _ _ _ _).trans k39)
     have k49 : (S46 ((S ((S z).p)).p)).l = (S ((S ((S z).p)).p)).l := (by rw [hS46]; exact (setC_l _ _ _ _).trans k40)
     have k50 : (S46 ((S ((S z).p)).p)).r = (S ((S ((S z).p)).p)).r := (by rw [hS46]; exact (setC_r _ _ _ _).trans k41)
     have k51 : (S46 ((S z).p)).l = (S ((S z).p)).l := (by rw [hS46]; exact (setC_l _ _ _ _).trans k42)
     have k52 : (S46 ((S z).p)).r = (S ((S z).p)).r := (by rw [hS46]; exact (setC_r _ _ _ _).trans k43)
     have k53 : (S46 ((S ((S z).p)).p)).p = (S ((S ((S z).p)).p)).p := (by rw [hS46]; exact (setC_p _ _ _ _).trans k44)
     have k54 : (S46 ((S ((S z).p)).p)).c = 1 := by rw [hS46]; exact setC_same _ _ _
     refine WP.nx ?_
     refine WPc.region ?_
     refine WP.val rfl rfl rfl (Val.move rfl rfl) ?_
     refine WP.val rfl rfl rfl (Val.move rfl rfl) ?_
     refine WP.val rfl rfl rfl (Val.nilCheck rfl rfl) ?_
     refine WP.val rfl rfl rfl (Val.fieldAddr (j := 6) rfl Ty.fo177_4 rfl rfl) ?_
     refine WP.val rfl rfl rfl (Val.load (v := .pointer (some ⟨(S z).p, 0, none⟩)) rfl Ty.sc168 rfl (fun w h => sto_p (h.at 0 rfl) hz k47)) ?_
     refine WP.val rfl rfl rfl (Val.nilCheck rfl rfl) ?_
     refine WP.val rfl rfl rfl (Val.fieldAddr (j := 6) rfl Ty.fo177_4 rfl rfl) ?_
     refine WP.val rfl rfl rfl (Val.load (v := .pointer (some ⟨(S ((S z).p)).p, 0, none⟩)) rfl Ty.sc168 rfl (fun w h => sto_p (h.at 0 rfl) hp1 k48)) ?_
     refine WP.perm pl1 ?_
     refine WP.perm pl1 ?_
     refine WP.perm pl3 ?_
     refine WP.perm pl3 ?_
     refine WP.eff rfl rfl rfl (Eff.call rfl rfl Try.call161 (rr_does EL t0 hE s D ZC tb root cnt S46 okS46 hroot ((S ((S z).p)).p) n hg1 (fun h0 => by have h1 := hfb.ok; unfold fx3 at h1; rw [← hS37, ← hS46] at h1; exact h1 h0))) ?_
     rintro _ _ ⟨_, rfl, rfl⟩
     show WP _ _ _ _ _ _ _ (Blk tb [.pointer (some ⟨(rr s n S46 root ((S ((S z).p)).p)).2, 0, none⟩), .int .i64 (cnt), .pointer (some ⟨s, 0, none⟩)] 180 :: _ :: Sto ((rr s n S46 root ((S ((S z).p)).p)).1) D :: _)
     obtain ⟨S55, hS55⟩ : ∃ S55, S55 = (rr s n S46 root ((S ((S z).p)).p)).1 := ⟨_, rfl⟩
     rw [← hS55]
     have okS55 : Ok s EL D S55 := by rw [hS55]; exact (rr_ok okS46 hg1)
     refine WP.nil ?_
     refine Out.block ?_
     have hstep : fxs s n S root z = _ := (fxs_l hside).trans (fxl_b hu)
     rw [fxQl_n hin, fxZl_n hin] at hstep
     unfold fxBl fx3 at hstep
     dsimp only at hstep
     rw [← hS37, ← hS46, ← hS55] at hstep
     rw [fx_yes hred, hstep] at hfx
     rw [hstep] at hfo
     refine Out.again ⟨S55, (rr s n S46 root ((S ((S z).p)).p)).2, z, k⟩ ?_ ?_ ?_ ?_
     ·
      exact ⟨hfx, okS55, hz, (rr_root okS46 hg1 hroot), hfo⟩
     ·
      show k < k + 1; omega
     ·
      exact (Sub.cons rfl (Sub.cons rfl Sub.nil))
     ·
      exact (fun _ h => h)
  ·
   have h2 : ¬ ((S z).p = (S ((S ((S z).p)).p)).l) := h2
   refine WPc.seq ?_
   have hside : ¬ (S z).p = (S ((S ((S z).p)).p)).l := by assumption
   have hf := hfr hside
   refine WPc.region ?_
   refine WP.val rfl rfl rfl (Val.move rfl rfl) ?_
   refine WP.val rfl rfl rfl (Val.nilCheck rfl rfl) ?_
   refine WP.val rfl rfl rfl (Val.fieldAddr (j := 6) rfl Ty.fo177_4 rfl rfl) ?_
   refine WP.val rfl rfl rfl (Val.load (v := .pointer (some ⟨(S z).p, 0, none⟩)) rfl Ty.sc168 rfl (fun w h => sto_p (h.at 0 rfl) hz rfl)) ?_
   refine WP.val rfl rfl rfl (Val.nilCheck rfl rfl) ?_
   refine WP.val rfl rfl rfl (Val.fieldAddr (j := 6) rfl Ty.fo177_4 rfl rfl) ?_
   refine WP.val rfl rfl rfl (Val.load (v := .pointer (some ⟨(S ((S z).p)).p, 0, none⟩)) rfl Ty.sc168 rfl (fun w h => sto_p (h.at 0 rfl) hp rfl)) ?_
   refine WP.val rfl rfl rfl (Val.nilCheck rfl rfl) ?_
   refine WP.val rfl rfl rfl (Val.fieldAddr (j := 4) rfl Ty.fo177_2 rfl rfl) ?_
   refine WP.val rfl rfl rfl (Val.load (v := .pointer (some ⟨(S ((S ((S z).p)).p)).l, 0, none⟩)) rfl Ty.sc168 rfl (fun w h => sto_l (h.at 0 rfl) hgD rfl)) ?_
   refine WP.val rfl rfl rfl (Val.assign rfl rfl) ?_
   refine WP.nx ?_
   refine WPc.sr ?_
   refine WP.val rfl rfl rfl (Val.move rfl rfl) ?_
   refine WP.val rfl rfl rfl (Val.move rfl rfl) ?_
   refine WP.val rfl rfl rfl (Val.nilCheck rfl rfl) ?_
   refine WP.val rfl rfl rfl (Val.fieldAddr (j := 2) rfl Ty.fo180_2 rfl rfl) ?_
   refine WP.val rfl rfl rfl (Val.load rfl Ty.sc168 rfl (fun w h => h.cell 2 rfl rfl)) ?_
   refine WP.perm pl1 ?_
   refine WP.perm pl1 ?_
   refine WP.eff rfl rfl rfl (Eff.call rfl rfl Try.call148 (color_does EL s D ZC S ok ((S ((S ((S z).p)).p)).l) (Ok.l ok hgD))) ?_
   rintro _ _ ⟨_, ⟨rfl, rfl⟩, rfl⟩
   refine WP.val rfl rfl rfl (Val.eql rfl rfl rfl) ?_
   refine WP.nx ?_
   refine WPc.ifP rfl (fun h5 => ?_) (fun h5 => ?_)
   ·
    have h5 : ((colr s S ((S ((S ((S z).p)).p)).l)) = (1 : Int)) := h5
    refine WPc.seq ?_
    have hu : colr s S (S ((S ((S z).p)).p)).l = 1 := by assumption
    have huD : (S ((S ((S z).p)).p)).l ∈ D := Is.mem (Ok.l ok hgD) (colr_ne hu)
    refine WPc.region ?_
    refine WP.val rfl rfl rfl (Val.move rfl rfl) ?_
    refine WP.val rfl rfl rfl (Val.nilCheck rfl rfl) ?_
    refine WP.val rfl rfl rfl (Val.fieldAddr (j := 7) rfl Ty.fo177_5 rfl rfl) ?_
    refine WP.eff0 rfl rfl (Eff.storeK (f := fun i => (S i).cells) (f' := fun i => (setC S ((S ((S ((S z).p)).p)).l) 0 i).cells) rfl Ty.sc175 rfl rfl rfl huD (show 7 < 8 by decide) (by unfold setC; rw [upd_same]; rfl) (by unfold setC; exact cells_other)) ?_
    rintro _ _ rfl
    show WP _ _ _ _ _ _ _ (Sto (setC S ((S ((S ((S z).p)).p)).l) 0) D :: _)
    obtain ⟨S56, hS56⟩ : ∃ S56, S56 = setC S ((S ((S ((S z).p)).p)).l) 0 := ⟨_, rfl⟩
    rw [← hS56]
    have okS56 : Ok s EL D S56 := by rw [hS56]; exact (ok.setC)
    have k57 : (S56 z).p = (S z).p := (by rw [hS56]; exact (setC_p _ _ _ _).trans rfl)
    have k58 : (S56 ((S z).p)).p = (S ((S z).p)).p := (by rw [hS56]; exact (setC_p _ _ _ _).trans rfl)
    have k59 : (S56 ((S ((S z).p)).p)).l = (S ((S ((S z).p)).p)).l := (by rw [hS56]; exact (setC_l _ _ _ _).trans rfl)
    have k60 : (S56 ((S ((S z).p)).p)).r = (S ((S ((S z).p)).p)).r := (by rw [hS56]; exact (setC_r _ _ _ _).trans rfl)
    have k61 : (S56 ((S z).p)).l = (S ((S z).p)).l := (by rw [hS56]; exact (setC_l _ _ _ _).trans rfl)
    have k62 : (S56 ((S z).p)).r = (S ((S z).p)).r := (by rw [hS56]; exact (setC_r _ _ _ _).trans rfl)
    have k63 : (S56 ((S ((S ((S z).p)).p)).l)).c = 0 := by rw [hS56]; exact setC_same _ _ _
    refine WP.nx ?_
    refine WPc.sr ?_
    refine WP.val rfl rfl rfl (Val.move rfl rfl) ?_
    refine WP.val rfl rfl rfl (Val.nilCheck rfl rfl) ?_
    refine WP.val rfl rfl rfl (Val.fieldAddr (j := 6) rfl Ty.fo177_4 rfl rfl) ?_
    refine WP.val rfl rfl rfl (Val.load (v := .pointer (some ⟨(S z).p, 0, none⟩)) rfl Ty.sc168 rfl (fun w h => sto_p (h.at 0 rfl) hz k57)) ?_
    refine WP.val rfl rfl rfl (Val.nilCheck rfl rfl) ?_
    refine WP.val rfl rfl rfl (Val.fieldAddr (j := 7) rfl Ty.fo177_5 rfl rfl) ?_
    refine WP.eff0 rfl rfl (Eff.storeK (f := fun i => (S56 i).cells) (f' := fun i => (setC S56 ((S z).p) 0 i).cells) rfl Ty.sc175 rfl rfl rfl hp (show 7 < 8 by decide) (by unfold setC; rw [upd_same]; rfl) (by unfold setC; exact cells_other)) ?_
    rintro _ _ rfl
    show WP _ _ _ _ _ _ _ (Sto (setC S56 ((S z).p) 0) D :: _)
    obtain ⟨S64, hS64⟩ : ∃ S64, S64 = setC S56 ((S z).p) 0 := ⟨_, rfl⟩
    rw [← hS64]
    have okS64 : Ok s EL D S64 := by rw [hS64]; exact (okS56.setC)
    have k65 : (S64 z).p = (S z).p := (by rw [hS64]; exact (setC_p _ _ _ _).trans k57)
    have k66 : (S64 ((S z).p)).p = (S ((S z).p)).p := (by rw [hS64]; exact (setC_p _ _ _ _).trans k58)
    have k67 : (S64 ((S ((S z).p)).p)).l = (S ((S ((S z).p)).p)).l := (by rw [hS64]; exact (setC_l _ _ _ _).trans k59)
    have k68 : (S64 ((S ((S z).p)).p)).r = (S ((S ((S z).p)).p)).r := (by rw [hS64]; exact (setC_r _ _ _ _).trans k60)
    have k69 : (S64 ((S z).p)).l = (S ((S z).p)).l := (by rw [hS64]; exact (setC_l _ _ _ _).trans k61)
    have k70 : (S64 ((S z).p)).r = (S ((S z).p)).r := (by rw [hS64]; exact (setC_r _ _ _ _).trans k62)
    have k71 : (S64 ((S z).p)).c = 0 := by rw [hS64]; exact setC_same _ _ _
    refine WP.nx ?_
    refine WPc.sr ?_
    refine WP.val rfl rfl rfl (Val.move rfl rfl) ?_
    refine WP.val rfl rfl rfl (Val.nilCheck rfl rfl) ?_
    refine WP.val rfl rfl rfl (Val.fieldAddr (j := 6) rfl Ty.fo177_4 rfl rfl) ?_
    refine WP.val rfl rfl rfl (Val.load (v := .pointer (some ⟨(S z).p, 0, none⟩)) rfl Ty.sc168 rfl (fun w h => sto_p (h.at 0 rfl) hz k65)) ?_
    refine WP.val rfl rfl rfl (Val.nilCheck rfl rfl) ?_
    refine WP.val rfl rfl rfl (Val.fieldAddr (j := 6) rfl Ty.fo177_4 rfl rfl) ?_
    refine WP.val rfl rfl rfl (Val.load (v := .pointer (some ⟨(S ((S z).p)).p, 0, none⟩)) rfl Ty.sc168 rfl (fun w h => sto_p (h.at 0 rfl) hp k66)) ?_
    refine WP.val rfl rfl rfl (Val.nilCheck rfl rfl) ?_
    refine WP.val rfl rfl rfl (Val.fieldAddr (j := 7) rfl Ty.fo177_5 rfl rfl) ?_
    refine WP.eff0 rfl rfl (Eff.storeK (f := fun i => (S64 i).cells) (f' := fun i => (setC S64 ((S ((S z).p)).p) 1 i).cells) rfl Ty.sc175 rfl rfl rfl hgD (show 7 < 8 by decide) (by unfold setC; rw [upd_same]; rfl) (by unfold setC; exact cells_other)) ?_
    rintro _ _ rfl
    show WP _ _ _ _ _ _ _ (Sto (setC S64 ((S ((S z).p)).p) 1) D :: _)
    obtain ⟨S72, hS72⟩ : ∃ S72, S72 = setC S64 ((S ((S z).p)).p) 1 := ⟨_, rfl⟩
    rw [← hS72]
    have okS72 : Ok s EL D S72 := by rw [hS72]; exact (okS64.setC)
    have k73 : (S72 z).p = (S z).p := (by rw [hS72]; exact (setC_p _ _ _ _).trans k65)
    have k74 : (S72 ((S z).p)).p = (S ((S z).p)).p := (by rw [hS72]; exact (setC_p _ _ _ _).trans k66)
    have k75 : (S72 ((S ((S z).p)).p)).l = (S ((S ((S z).p)).p)).l := (by rw [hS72]; exact (setC_l _ _ _ _).trans k67)
    have k76 : (S72 ((S ((S z).p)).p)).r = (S ((S ((S z).p)).p)).r := (by rw [hS72]; exact (setC_r _ _ _ _).trans k68)
    have k77 : (S72 ((S z).p)).l = (S ((S z).p)).l := (by rw [hS72]; exact (setC_l _ _ _ _).trans k69)
    have k78 : (S72 ((S z).p)).r = (S ((S z).p)).r := (by rw [hS72]; exact (setC_r _ _ _ _).trans k70)
    have k79 : (S72 ((S ((S z).p)).p)).c = 1 := by rw [hS72]; exact setC_same _ _ _
    refine WP.nx ?_
    refine WPc.region ?_
    refine WP.val rfl rfl rfl (Val.move rfl rfl) ?_
    refine WP.val rfl rfl rfl (Val.nilCheck rfl rfl) ?_
    refine WP.val rfl rfl rfl (Val.fieldAddr (j := 6) rfl Ty.fo177_4 rfl rfl) ?_
    refine WP.val rfl rfl rfl (Val.load (v := .pointer (some ⟨(S z).p, 0, none⟩)) rfl Ty.sc168 rfl (fun w h => sto_p (h.at 0 rfl) hz k73)) ?_
    refine WP.val rfl rfl rfl (Val.nilCheck rfl rfl) ?_
    refine WP.val rfl rfl rfl (Val.fieldAddr (j := 6) rfl Ty.fo177_4 rfl rfl) ?_
    refine WP.val rfl rfl rfl (Val.load (v := .pointer (some ⟨(S ((S z).p)).p, 0, none⟩)) rfl Ty.sc168 rfl (fun w h => sto_p (h.at 0 rfl) hp k74)) ?_
    refine WP.val rfl rfl rfl (Val.assign rfl rfl) ?_
    refine WP.nil ?_
    refine Out.block ?_
    have hstep : fxs s n S root z = _ := (fxs_r hside).trans (fxr_c hu)
    unfold fxCr at hstep
    rw [← hS56, ← hS64, ← hS72] at hstep
    rw [fx_yes hred, hstep] at hfx
    rw [hstep] at hfo
    refine Out.perm pl1 ?_
    refine Out.perm pl1 ?_
    refine Out.perm pl3 ?_
    refine Out.perm pl3 ?_
    refine Out.again ⟨S72, root, (S ((S z).p)).p, k⟩ ?_ ?_ ?_ ?_
    ·
     exact ⟨hfx, okS72, hgD, hroot, hfo⟩
    ·
     show k < k + 1; omega
    ·
     exact (Sub.cons rfl (Sub.cons rfl Sub.nil))
    ·
     exact (fun _ h => h)
   ·
    have h5 : ¬ ((colr s S ((S ((S ((S z).p)).p)).l)) = (1 : Int)) := h5
    refine WPc.seq ?_
    refine WPc.seq ?_
    have hu : ¬ colr s S (S ((S ((S z).p)).p)).l = 1 := by assumption
    have hfb := hf.b hu
    refine WPc.region ?_
    refine WP.val rfl rfl rfl (Val.move rfl rfl) ?_
    refine WP.val rfl rfl rfl (Val.move rfl rfl) ?_
    refine WP.val rfl rfl rfl (Val.nilCheck rfl rfl) ?_
    refine WP.val rfl rfl rfl (Val.fieldAddr (j := 6) rfl Ty.fo177_4 rfl rfl) ?_
    refine WP.val rfl rfl rfl (Val.load (v := .pointer (some ⟨(S z).p, 0, none⟩)) rfl Ty.sc168 rfl (fun w h => sto_p (h.at 0 rfl) hz rfl)) ?_
    refine WP.val rfl rfl rfl (Val.nilCheck rfl rfl) ?_
    refine WP.val rfl rfl rfl (Val.fieldAddr (j := 4) rfl Ty.fo177_2 rfl rfl) ?_
    refine WP.val rfl rfl rfl (Val.load (v := .pointer (some ⟨(S ((S z).p)).l, 0, none⟩)) rfl Ty.sc168 rfl (fun w h => sto_l (h.at 0 rfl) hp rfl)) ?_
    refine WP.val rfl rfl rfl (Val.eqP (T1 := 177) (T2 := 177) rfl pn168 rfl rfl rfl rfl (fun w h => whole (h.at 0 rfl) (h.at 1 rfl) (.inr hz)) (fun w h => whole (h.at 0 rfl) (h.at 1 rfl) (Ok.l ok hp))) ?_
    refine WP.nx ?_
    refine WPc.ifP rfl (fun h6 => ?_) (fun h6 => ?_)
    ·
     have h6 : (z = (S ((S z).p)).l) := h6
     refine WPc.seq ?_
     have hin : z = (S ((S z).p)).l := by assumption
     rw [fxQr_y hin, fxZr_y hin] at hfb
     refine WPc.region ?_
     refine WP.val rfl rfl rfl (Val.move rfl rfl) ?_
     refine WP.val rfl rfl rfl (Val.nilCheck rfl rfl) ?_
     refine WP.val rfl rfl rfl (Val.fieldAddr (j := 6) rfl Ty.fo177_4 rfl rfl) ?_
     refine WP.val rfl rfl rfl (Val.load (v := .pointer (some ⟨(S z).p, 0, none⟩)) rfl Ty.sc168 rfl (fun w h => sto_p (h.at 0 rfl) hz rfl)) ?_
     refine WP.val rfl rfl rfl (Val.assign rfl rfl) ?_
     refine WP.nx ?_
     refine WPc.region ?_
     refine WP.val rfl rfl rfl (Val.move rfl rfl) ?_
     refine WP.val rfl rfl rfl (Val.move rfl rfl) ?_
     refine WP.perm pl1 ?_
     refine WP.perm pl1 ?_
     refine WP.perm pl3 ?_
     refine WP.perm pl3 ?_
     refine WP.eff rfl rfl rfl (Eff.call rfl rfl Try.call161 (rr_does EL t0 hE s D ZC tb root cnt S ok hroot ((S z).p) n hp (fun h0 => hf.rot hu hin h0))) ?_
     rintro _ _ ⟨_, rfl, rfl⟩
     show WP _ _ _ _ _ _ _ (Blk tb [.pointer (some ⟨(rr s n S root ((S z).p)).2, 0, none⟩), .int .i64 (cnt), .pointer (some ⟨s, 0, none⟩)] 180 :: _ :: Sto ((rr s n S root ((S z).p)).1) D :: _)
     obtain ⟨S80, hS80⟩ : ∃ S80, S80 = (rr s n S root ((S z).p)).1 := ⟨_, rfl⟩
     rw [← hS80]
     have okS80 : Ok s EL D S80 := by rw [hS80]; exact (rr_ok ok hp)
     refine WP.nx ?_
     refine WPc.seq ?_
     rw [← hS80] at hfb
     have hp1 : (S80 ((S z).p)).p ∈ D := Is.mem (Ok.p okS80 hp) hfb.p
     have hg1 : (S80 ((S80 ((S z).p)).p)).p ∈ D := Is.mem (Ok.p okS80 hp1) hfb.g
     refine WPc.region ?_
     refine WP.val rfl rfl rfl (Val.move rfl rfl) ?_
     refine WP.val rfl rfl rfl (Val.nilCheck rfl rfl) ?_
     refine WP.val rfl rfl rfl (Val.fieldAddr (j := 6) rfl Ty.fo177_4 rfl rfl) ?_
     refine WP.val rfl rfl rfl (Val.load (v := .pointer (some ⟨(S80 ((S z).p)).p, 0, none⟩)) rfl Ty.sc168 rfl (fun w h => sto_p (h.at 2 rfl) hp rfl)) ?_
     refine WP.val rfl rfl rfl (Val.nilCheck rfl rfl) ?_
     refine WP.val rfl rfl rfl (Val.fieldAddr (j := 7) rfl Ty.fo177_5 rfl rfl) ?_
     refine WP.perm pl2 ?_
     refine WP.eff0 rfl rfl (Eff.storeK (f := fun i => (S80 i).cells) (f' := fun i => (setC S80 ((S80 ((S z).p)).p) 0 i).cells) rfl Ty.sc175 rfl rfl rfl hp1 (show 7 < 8 by decide) (by unfold setC; rw [upd_same]; rfl) (by unfold setC; exact cells_other)) ?_
     rintro _ _ rfl
     show WP _ _ _ _ _ _ _ (Sto (setC S80 ((S80 ((S z).p)).p) 0) D :: _)
     obtain ⟨S81, hS81⟩ : ∃ S81, S81 = setC S80 ((S80 ((S z).p)).p) 0 := ⟨_, rfl⟩
     rw [← hS81]
     have okS81 : Ok s EL D S81 := by rw [hS81]; exact (okS80.setC)
     have k82 : (S81 ((S z).p)).p = (S80 ((S z).p)).p := (by rw [hS81]; exact (setC_p _ _ _ _).trans rfl)
     have k83 : (S81 ((S80 ((S z).p)).p)).p = (S80 ((S80 ((S z).p)).p)).p := (by rw [hS81]; exact (setC_p _ _ _ _).trans rfl)
     have k84 : (S81 ((S80 ((S80 ((S z).p)).p)).p)).p = (S80 ((S80 ((S80 ((S z).p)).p)).p)).p := (by rw [hS81]; exact (setC_p _ _ _ _).trans rfl)
     have k85 : (S81 ((S80 ((S z).p)).p)).c = 0 := by rw [hS81]; exact setC_same _ _ _
     refine WP.nx ?_
     refine WPc.sr ?_
     refine WP.val rfl rfl rfl (Val.move rfl rfl) ?_
     refine WP.val rfl rfl rfl (Val.nilCheck rfl rfl) ?_
     refine WP.val rfl rfl rfl (Val.fieldAddr (j := 6) rfl Ty.fo177_4 rfl rfl) ?_
     refine WP.val rfl rfl rfl (Val.load (v := .pointer (some ⟨(S80 ((S z).p)).p, 0, none⟩)) rfl Ty.sc168 rfl (fun w h => sto_p (h.at 0 rfl) hp k82)) ?_
     refine WP.val rfl rfl rfl (Val.nilCheck rfl rfl) ?_
     refine WP.val rfl rfl rfl (Val.fieldAddr (j := 6) rfl Ty.fo177_4 rfl rfl) ?_
     refine WP.val rfl rfl rfl (Val.load (v := .pointer (some ⟨(S80 ((S80 ((S z).p)).p)).p, 0, none⟩)) rfl Ty.sc168 rfl (fun w h => sto_p (h.at 0 rfl) hp1 k83)) ?_
     refine WP.val rfl rfl rfl (Val.nilCheck rfl rfl) ?_
     refine WP.val rfl rfl rfl (Val.fieldAddr (j := 7) rfl Ty.fo177_5 rfl rfl) ?_
     refine WP.eff0 rfl rfl (Eff.storeK (f := fun i => (S81 i).cells) (f' := fun i => (setC S81 ((S80 ((S80 ((S z).p)).p)).p) 1 i).cells) rfl Ty.sc175 rfl rfl rfl hg1 (show 7 < 8 by decide) (by unfold setC; rw [upd_same]; rfl) (by unfold setC; exact cells_other)) ?_
     rintro _ _ rfl
     show WP _ _ _ _ _ _ _ (Sto (setC S81 ((S80 ((S80 ((S z).p)).p)).p) 1) D :: _)
     obtain ⟨S86, hS86⟩ : ∃ S86, S86 = setC S81 ((S80 ((S80 ((S z).p)).p)).p) 1 := ⟨_, rfl⟩
     rw [← hS86]
     have okS86 : Ok s EL D S86 := by rw [hS86]; exact (okS81.setC)
     have k87 : (S86 ((S z).p)).p = (S80 ((S z).p)).p := (by rw [hS86]; exact (setC_p _ _ _ _).trans k82)
     have k88 : (S86 ((S80 ((S z).p)).p)).p = (S80 ((S80 ((S z).p)).p)).p := (by rw [hS86]; exact (setC_p _ _ _ _).trans k83)
     have k89 : (S86 ((S80 ((S80 ((S z).p)).p)).p)).p = (S80 ((S80 ((S80 ((S z).p)).p)).p)).p := (by rw [hS86]; exact (setC_p _ _ _ _).trans k84)
     have k90 : (S86 ((S80 ((S80 ((S z).p)).p)).p)).c = 1 := by rw [hS86]; exact setC_same _ _ _
     refine WP.nx ?_
     refine WPc.region ?_
     refine WP.val rfl rfl rfl (Val.move rfl rfl) ?_
     refine WP.val rfl rfl rfl (Val.move rfl rfl) ?_
     refine WP.val rfl rfl rfl (Val.nilCheck rfl rfl) ?_
     refine WP.val rfl rfl rfl (Val.fieldAddr (j := 6) rfl Ty.fo177_4 rfl rfl) ?_
     refine WP.val rfl rfl rfl (Val.load (v := .pointer (some ⟨(S80 ((S z).p)).p, 0, none⟩)) rfl Ty.sc168 rfl (fun w h => sto_p (h.at 0 rfl) hp k87)) ?_
     refine WP.val rfl rfl rfl (Val.nilCheck rfl rfl) ?_
     refine WP.val rfl rfl rfl (Val.fieldAddr (j := 6) rfl Ty.fo177_4 rfl rfl) ?_
     refine WP.val rfl rfl rfl (Val.load (v := .pointer (some ⟨(S80 ((S80 ((S z).p)).p)).p, 0, none⟩)) rfl Ty.sc168 rfl (fun w h => sto_p (h.at 0 rfl) hp1 k88)) ?_
     refine WP.perm pl3 ?_
     refine WP.perm pl1 ?_
     refine WP.perm pl3 ?_
     refine WP.perm pl3 ?_
     refine WP.eff rfl rfl rfl (Eff.call rfl rfl Try.call160 (rl_does EL t0 hE s D ZC tb ((rr s n S root ((S z).p)).2) cnt S86 okS86 (rr_root ok hp hroot) ((S80 ((S80 ((S z).p)).p)).p) n hg1 (fun h0 => by have h1 := hfb.ok; unfold fx3 at h1; rw [← hS81, ← hS86] at h1; exact h1 h0))) ?_
     rintro _ _ ⟨_, rfl, rfl⟩
     show WP _ _ _ _ _ _ _ (Blk tb [.pointer (some ⟨(rl s n S86 ((rr s n S root ((S z).p)).2) ((S80 ((S80 ((S z).p)).p)).p)).2, 0, none⟩), .int .i64 (cnt), .pointer (some ⟨s, 0, none⟩)] 180 :: _ :: Sto ((rl s n S86 ((rr s n S root ((S z).p)).2) ((S80 ((S80 ((S z).p)).p)).p)).1) D :: _)
     obtain ⟨S91, hS91⟩ : ∃ S91, S91 = (rl s n S86 ((rr s n S root ((S z).p)).2) ((S80 ((S80 ((S z).p)).p)).p)).1 := ⟨_, rfl⟩
     rw [← hS91]
     have okS91 : Ok s EL D S91 := by rw [hS91]; exact (rl_ok okS86 hg1)
     refine WP.nil ?_
     refine Out.block ?_
     have hstep : fxs s n S root z = _ := (fxs_r hside).trans (fxr_b hu)
     rw [fxQr_y hin, fxZr_y hin] at hstep
     unfold fxBr fx3 at hstep
     rw [← hS80, ← hS81, ← hS86, ← hS91] at hstep
     rw [fx_yes hred, hstep] at hfx
     rw [hstep] at hfo
     refine Out.again ⟨S91, (rl s n S86 ((rr s n S root ((S z).p)).2) ((S80 ((S80 ((S z).p)).p)).p)).2, (S z).p, k⟩ ?_ ?_ ?_ ?_
     ·
      exact ⟨hfx, okS91, hp, (rl_root okS86 hg1 (rr_root ok hp hroot)), hfo⟩
     ·
      show k < k + 1; omega
     ·
      exact (Sub.cons rfl (Sub.cons rfl Sub.nil))
     ·
      exact (fun _ h => h)
    ·
     have h6 : ¬ (z = (S ((S z).p)).l) := h6
     refine WPc.skip ?_
     refine Out.next ?_
     refine WPc.seq ?_
     have hin : ¬ z = (S ((S z).p)).l := by assumption
     rw [fxQr_n hin, fxZr_n hin] at hfb
     have hp1 : (S z).p ∈ D := Is.mem (Ok.p ok hz) hfb.p
     have hg1 : (S ((S z).p)).p ∈ D := Is.mem (Ok.p ok hp1) hfb.g
     refine WPc.region ?_
     refine WP.val rfl rfl rfl (Val.move rfl rfl) ?_
     refine WP.val rfl rfl rfl (Val.nilCheck rfl rfl) ?_
     refine WP.val rfl rfl rfl (Val.fieldAddr (j := 6) rfl Ty.fo177_4 rfl rfl) ?_
     refine WP.val rfl rfl rfl (Val.load (v := .pointer (some ⟨(S z).p, 0, none⟩)) rfl Ty.sc168 rfl (fun w h => sto_p (h.at 0 rfl) hz rfl)) ?_
     refine WP.val rfl rfl rfl (Val.nilCheck rfl rfl) ?_
     refine WP.val rfl rfl rfl (Val.fieldAddr (j := 7) rfl Ty.fo177_5 rfl rfl) ?_
     refine WP.eff0 rfl rfl (Eff.storeK (f := fun i => (S i).cells) (f' := fun i => (setC S ((S z).p) 0 i).cells) rfl Ty.sc175 rfl rfl rfl hp1 (show 7 < 8 by decide) (by unfold setC; rw [upd_same]; rfl) (by unfold setC; exact cells_other)) ?_
     rintro _ _ rfl
     show WP _ _ _ _ _ _ _ (Sto (setC S ((S z).p) 0) D :: _)
     obtain ⟨S92, hS92⟩ : ∃ S92, S92 = setC S ((S z).p) 0 := ⟨_, rfl⟩
     rw [← hS92]
     have okS92 : Ok s EL D S92 := by rw [hS92]; exact (ok.setC)
     have k93 : (S92 z).p = (S z).p := (by rw [hS92]; exact (setC_p _ _ _ _).trans rfl)
     have k94 : (S92 ((S z).p)).p = (S ((S z).p)).p := (by rw [hS92]; exact (setC_p _ _ _ _).trans rfl)
     have k95 : (S92 ((S ((S z).p)).p)).l = (S ((S ((S z).p)).p)).l := (by rw [hS92]; exact (setC_l _ _ _ _).trans rfl)
     have k96 : (S92 ((S ((S z).p)).p)).r = (S ((S ((S z).p)).p)).r := (by rw [hS92]; exact (setC_r _ _ _ _).trans rfl)
     have k97 : (S92 ((S z).p)).l = (S ((S z).p)).l := (by rw [hS92]; exact (setC_l _ _ _ _).trans rfl)
     have k98 : (S92 ((S z).p)).r = (S ((S z).p)).r := (by rw [hS92]; exact (setC_r _ _ _ _).trans rfl)
     have k99 : (S92 ((S ((S z).p)).p)).p = (S ((S ((S z).p)).p)).p := (by rw [hS92]; exact (setC_p _ _ _ _).trans rfl)
     have k100 : (S92 ((S z).p)).c = 0 := by rw [hS92]; exact setC_same _ _ _
     refine WP.nx ?_
     refine WPc.sr ?_
     refine WP.val rfl rfl rfl (Val.move rfl rfl) ?_
     refine WP.val rfl rfl rfl (Val.nilCheck rfl rfl) ?_
     refine WP.val rfl rfl rfl (Val.fieldAddr (j := 6) rfl Ty.fo177_4 rfl rfl) ?_
     refine WP.val rfl rfl rfl (Val.load (v := .pointer (some ⟨(S z).p, 0, none⟩)) rfl Ty.sc168 rfl (fun w h => sto_p (h.at 0 rfl) hz k93)) ?_
     refine WP.val rfl rfl rfl (Val.nilCheck rfl rfl) ?_
     refine WP.val rfl rfl rfl (Val.fieldAddr (j := 6) rfl Ty.fo177_4 rfl rfl) ?_
     refine WP.val rfl rfl rfl (Val.load (v := .pointer (some ⟨(S ((S z).p)).p, 0, none⟩)) rfl Ty.sc168 rfl (fun w h => sto_p (h.at 0 rfl) hp1 k94)) ?_
     refine WP.val rfl rfl rfl (Val.nilCheck rfl rfl) ?_
     refine WP.val rfl rfl rfl (Val.fieldAddr (j := 7) rfl Ty.fo177_5 rfl rfl) ?_
     refine WP.eff0 rfl rfl (Eff.storeK (f := fun i => (S92 i).cells) (f' := fun i => (setC S92 ((S ((S z).p)).p) 1 i).cells) rfl Ty.sc175 rfl rfl rfl hg1 (show 7 < 8 by decide) (by unfold setC; rw [upd_same]; rfl) (by unfold setC; exact cells_other)) ?_
     rintro _ _ rfl
     show WP _ _ _ _ _ _ _ (Sto (setC S92 ((S ((S z).p)).p) 1) D :: _)
     obtain ⟨S101, hS101⟩ : ∃ S101, S101 = setC S92 ((S ((S z).p)).p) 1 := ⟨_, rfl⟩
     rw [← hS101]
     have okS101 : Ok s EL D S101 := by rw [hS101]; exact (okS92.setC)
     have k102 : (S101 z).p = (S z).p := (by rw [hS101]; exact (setC_p _ _ _ _).trans k93)
     have k103 : (S101 ((S z).p)).p = (S ((S z).p)).p := (by rw [hS101]; exact (setC_p _ _ _ _).trans k94)
     have k104 : (S101 ((S ((S z).p)).p)).l = (S ((S ((S z).p)).p)).l := (by rw [hS101]; exact (setC_l _ _ _ _).trans k95)
     have k105 : (S101 ((S ((S z).p)).p)).r = (S ((S ((S z).p)).p)).r := (by rw [hS101]; exact (setC_r _ _ _ _).trans k96)
     have k106 : (S101 ((S z).p)).l = (S ((S z).p)).l := (by rw [hS101]; exact (setC_l _ _ _ _).trans k97)
     have k107 : (S101 ((S z).p)).r = (S ((S z).p)).r := (by rw [hS101]; exact (setC_r _ _ _ _).trans k98)
     have k108 : (S101 ((S ((S z).p)).p)).p = (S ((S ((S z).p)).p)).p := (by rw [hS101]; exact (setC_p _ _ _ _).trans k99)
     have k109 : (S101 ((S ((S z).p)).p)).c = 1 := by rw [hS101]; exact setC_same _ _ _
     refine WP.nx ?_
     refine WPc.region ?_
     refine WP.val rfl rfl rfl (Val.move rfl rfl) ?_
     refine WP.val rfl rfl rfl (Val.move rfl rfl) ?_
     refine WP.val rfl rfl rfl (Val.nilCheck rfl rfl) ?_
     refine WP.val rfl rfl rfl (Val.fieldAddr (j := 6) rfl Ty.fo177_4 rfl rfl) ?_
     refine WP.val rfl rfl rfl (Val.load (v := .pointer (some ⟨(S z).p, 0, none⟩)) rfl Ty.sc168 rfl (fun w h => sto_p (h.at 0 rfl) hz k102)) ?_
     refine WP.val rfl rfl rfl (Val.nilCheck rfl rfl) ?_
     refine WP.val rfl rfl rfl (Val.fieldAddr (j := 6) rfl Ty.fo177_4 rfl rfl) ?_
     refine WP.val rfl rfl rfl (Val.load (v := .pointer (some ⟨(S ((S z).p)).p, 0, none⟩)) rfl Ty.sc168 rfl (fun w h => sto_p (h.at 0 rfl) hp1 k103)) ?_
     refine WP.perm pl1 ?_
     refine WP.perm pl1 ?_
     refine WP.perm pl3 ?_
     refine WP.perm pl3 ?_
     refine WP.eff rfl rfl rfl (Eff.call rfl rfl Try.call160 (rl_does EL t0 hE s D ZC tb root cnt S101 okS101 hroot ((S ((S z).p)).p) n hg1 (fun h0 => by have h1 := hfb.ok; unfold fx3 at h1; rw [← hS92, ← hS101] at h1; exact h1 h0))) ?_
     rintro _ _ ⟨_, rfl, rfl⟩
     show WP _ _ _ _ _ _ _ (Blk tb [.pointer (some ⟨(rl s n S101 root ((S ((S z).p)).p)).2, 0, none⟩), .int .i64 (cnt), .pointer (some ⟨s, 0, none⟩)] 180 :: _ :: Sto ((rl s n S101 root ((S ((S z).p)).p)).1) D :: _)
     obtain ⟨S110, hS110⟩ : ∃ S110, S110 = (rl s n S101 root ((S ((S z).p)).p)).1 := ⟨_, rfl⟩
     rw [← hS110]
     have okS110 : Ok s EL D S110 := by rw [hS110]; exact (rl_ok okS101 hg1)
     refine WP.nil ?_
     refine Out.block ?_
     have hstep : fxs s n S root z = _ := (fxs_r hside).trans (fxr_b hu)
     rw [fxQr_n hin, fxZr_n hin] at hstep
     unfold fxBr fx3 at hstep
     dsimp only at hstep
     rw [← hS92, ← hS101, ← hS110] at hstep
     rw [fx_yes hred, hstep] at hfx
     rw [hstep] at hfo
     refine Out.again ⟨S110, (rl s n S101 root ((S ((S z).p)).p)).2, z, k⟩ ?_ ?_ ?_ ?_
     ·
      exact ⟨hfx, okS110, hz, (rl_root okS101 hg1 hroot), hfo⟩
     ·
      show k < k + 1; omega
     ·
      exact (Sub.cons rfl (Sub.cons rfl Sub.nil))
     ·
      exact (fun _ h => h)
 ·
  have h1 : ¬ ((colr s S ((S z).p)) = (1 : Int)) := h1
  refine WPc.exit ?_
  refine Out.then_exit ?_
  refine Out.then_exit ?_
  refine Out.block_exit ?_
  refine Out.next ?_
  have hfin : fx s n k0 S0 root0 z0 = (S, root) := by rw [← hfx]; exact fx_no (by assumption)
  rw [hfin] at hlast
  have hrD : root ∈ D := hlast
  refine WPc.region ?_
  refine WP.val rfl rfl rfl (Val.move rfl rfl) ?_
  refine WP.val rfl rfl rfl (Val.nilCheck rfl rfl) ?_
  refine WP.val rfl rfl rfl (Val.fieldAddr (j := 0) rfl Ty.fo180_0 rfl rfl) ?_
  refine WP.val rfl rfl rfl (Val.load rfl Ty.sc168 rfl (fun w h => h.cell 2 rfl rfl)) ?_
  refine WP.val rfl rfl rfl (Val.nilCheck rfl rfl) ?_
  refine WP.val rfl rfl rfl (Val.fieldAddr (j := 7) rfl Ty.fo177_5 rfl rfl) ?_
  refine WP.eff0 rfl rfl (Eff.storeK (f := fun i => (S i).cells) (f' := fun i => (setC S root 0 i).cells) rfl Ty.sc175 rfl rfl rfl hrD (show 7 < 8 by decide) (by unfold setC; rw [upd_same]; rfl) (by unfold setC; exact cells_other)) ?_
  rintro _ _ rfl
  show WP _ _ _ _ _ _ _ (Sto (setC S root 0) D :: _)
  obtain ⟨S111, hS111⟩ : ∃ S111, S111 = setC S root 0 := ⟨_, rfl⟩
  rw [← hS111]
  have okS111 : Ok s EL D S111 := by rw [hS111]; exact (ok.setC)
  have k112 : (S111 z).p = (S z).p := (by rw [hS111]; exact (setC_p _ _ _ _).trans rfl)
  have k113 : (S111 root).c = 0 := by rw [hS111]; exact setC_same _ _ _
  refine WP.nil ?_
  refine Out.perm pl1 ?_
  refine Out.perm pl1 ?_
  refine Out.perm pl3 ?_
  refine Out.perm pl3 ?_
  exact Out.end0 (L' := _) Try.results152 rfl (fun w h => by rw [hfin]; subst hS111; exact h)

end Go.Proofs.Ytbomnihiapjmpaa.Th

namespace Go.Proofs.Ytbomnihiapjmpaa.TrP
open Go.RowKit Go.Lib Go.Proofs.Ytbomnihiapjmpaa Go.Proofs.Ytbomnihiapjmpaa.Sl
set_option linter.unusedVariables false
set_option linter.unusedSimpArgs false
set_option linter.unusedSectionVars false
/-- the way an insert goes -/
def goK (zb ze xb xe : Ky) : Prop := klt zb xb ∨ (zb = xb ∧ klt ze xe)
instance (zb ze xb xe : Ky) : Decidable (goK zb ze xb xe) := by unfold goK; exact inferInstance
def goL (S : St) (z x : Nat) : Prop := goK (S z).it.b.k (S z).it.e.k (S x).it.b.k (S x).it.e.k
instance (S : St) (z x : Nat) : Decidable (goL S z x) := by unfold goL; exact inferInstance
theorem goK_1 {zb ze xb xe : Ky} (h : kcmp zb xb < 0) : goK zb ze xb xe := .inl (kcmp_lt.1 h)
theorem goK_2 {zb ze xb xe : Ky} (h : kcmp zb xb = 0) (h2 : kcmp ze xe < 0) : goK zb ze xb xe := .inr ⟨kcmp_eq.1 h, kcmp_lt.1 h2⟩
theorem goK_3 {zb ze xb xe : Ky} (h : kcmp zb xb = 0) (h2 : ¬ kcmp ze xe < 0) : ¬ goK zb ze xb xe := fun g => by
  rcases g with g | ⟨-, g⟩
  · rw [kcmp_eq.1 h] at g; exact klt_irrefl _ g
  · exact h2 (kcmp_lt.2 g)
theorem goK_4 {zb ze xb xe : Ky} (h : ¬ kcmp zb xb < 0) (h2 : ¬ kcmp zb xb = 0) : ¬ goK zb ze xb xe := fun g => by
  rcases g with g | ⟨g, -⟩
  · exact h (kcmp_lt.2 g)
  · exact h2 (kcmp_eq.2 g)
def des (s : Nat) (S : St) (z : Nat) : Nat → Nat → Nat → Nat
  | 0, _, y => y
  | k + 1, x, y => if x = s then y else des s S z k (if goL S z x then (S x).l else (S x).r) x
def DDep (s : Nat) (S : St) (z : Nat) : Nat → Nat → Prop
  | 0, x => x = s
  | k + 1, x => x = s ∨ DDep s S z k (if goL S z x then (S x).l else (S x).r)
theorem DDep.succ {s z k x : Nat} {S : St} (h : DDep s S z k x) (hx : x ≠ s) : ∃ m, k = m + 1 ∧ DDep s S z m (if goL S z x then (S x).l else (S x).r) := by
  cases k with
  | zero => exact absurd h hx
  | succ k => exact ⟨k, rfl, h.resolve_left hx⟩
theorem des_s {s z k y : Nat} {S : St} : des s S z k s y = y := by
  cases k with
  | zero => rfl
  | succ k => unfold des; rw [if_pos rfl]
theorem des_x {s z k x y : Nat} {S : St} (hx : x ≠ s) : des s S z (k + 1) x y = des s S z k (if goL S z x then (S x).l else (S x).r) x := by
  conv => lhs; unfold des
  rw [if_neg hx]
/-- z hung below y -/
def hang (s n : Nat) (S : St) (root z y : Nat) : St × Nat :=
  if y = s then (setP S z y, z) else (um s n (if goL S z y then setL (setP S z y) y z else setR (setP S z y) y z) y, root)
theorem hang_s {s n root z y : Nat} {S : St} (h : y = s) : hang s n S root z y = (setP S z y, z) := if_pos h
theorem hang_l {s n root z y : Nat} {S : St} (h : ¬ y = s) (h2 : goL S z y) : hang s n S root z y = (um s n (setL (setP S z y) y z) y, root) := by
  unfold hang; rw [if_neg h]; simp only [if_pos h2]
theorem hang_r {s n root z y : Nat} {S : St} (h : ¬ y = s) (h2 : ¬ goL S z y) : hang s n S root z y = (um s n (setR (setP S z y) y z) y, root) := by
  unfold hang; rw [if_neg h]; simp only [if_neg h2]
def newn (eb ee : En) (v : TypeId × Value) (s : Nat) : NR := ⟨⟨eb, ee, v.1, v.2⟩, ee, s, s, s, 1⟩
/-- z put into the tree -/
def insS (s n k : Nat) (S : St) (root : Nat) (eb ee : En) (v : TypeId × Value) (z : Nat) : St × Nat := hang s n (upd S z (newn eb ee v s)) root z (des s (upd S z (newn eb ee v s)) z k root s)
def insF (s n k : Nat) (S : St) (root : Nat) (eb ee : En) (v : TypeId × Value) (z : Nat) : St × Nat := fx s n k (setC (insS s n k S root eb ee v z).1 z 1) (insS s n k S root eb ee v z).2 z
structure InsOk (s n k : Nat) (D : List Nat) (S : St) (root : Nat) (eb ee : En) (v : TypeId × Value) (z : Nat) : Prop where
  dd : DDep s (upd S z (newn eb ee v s)) z k root
  dl : ∀ y, y = des s (upd S z (newn eb ee v s)) z k root s → ¬ y = s → Dep s (setP (upd S z (newn eb ee v s)) z y) n y
  fx : FxOk s n k (setC (insS s n k S root eb ee v z).1 z 1) (insS s n k S root eb ee v z).2 z
  last : (insF s n k S root eb ee v z).2 ∈ z :: D
theorem Is.cons {s i z : Nat} {D : List Nat} (h : Is s D i) : Is s (z :: D) i := h.imp id (List.mem_cons_of_mem _)
theorem Ok.new {s z : Nat} {EL : List En} {D : List Nat} {S : St} {eb ee : En} {v : TypeId × Value} (h : Ok s EL D S) (hb : eb ∈ EL) (he : ee ∈ EL) : Ok s EL (z :: D) (TrP.upd S z (newn eb ee v s)) := by
  have hm : ∀ {i}, i ∈ z :: D → i ≠ z → i ∈ D := fun hi hne => (List.mem_cons.1 hi).resolve_left hne
  constructor <;> intro i hi <;> by_cases e : i = z
  · subst e; rw [upd_same]; exact .inl rfl
  · rw [upd_other _ _ e]; exact (h.l (hm hi e)).cons
  · subst e; rw [upd_same]; exact .inl rfl
  · rw [upd_other _ _ e]; exact (h.r (hm hi e)).cons
  · subst e; rw [upd_same]; exact .inl rfl
  · rw [upd_other _ _ e]; exact (h.p (hm hi e)).cons
  · subst e; rw [upd_same]; exact hb
  · rw [upd_other _ _ e]; exact h.b (hm hi e)
  · subst e; rw [upd_same]; exact he
  · rw [upd_other _ _ e]; exact h.e (hm hi e)
  · subst e; rw [upd_same]; exact he
  · rw [upd_other _ _ e]; exact h.m (hm hi e)
end Go.Proofs.Ytbomnihiapjmpaa.TrP

namespace Go.Proofs.Ytbomnihiapjmpaa.Ti
open Go.RowKit Go.Proofs.Ytbomnihiapjmpaa Go.Proofs.Ytbomnihiapjmpaa.Sl Go.Proofs.Ytbomnihiapjmpaa.TrP Go.Proofs.Ytbomnihiapjmpaa.Tc Go.Proofs.Ytbomnihiapjmpaa.Td Go.Proofs.Ytbomnihiapjmpaa.Te Go.Proofs.Ytbomnihiapjmpaa.Tf Go.Proofs.Ytbomnihiapjmpaa.Tg Go.Proofs.Ytbomnihiapjmpaa.Th
set_option linter.unusedVariables false
set_option linter.unusedSimpArgs false
set_option linter.unusedSectionVars false


theorem sto_new {W w : World} {L : List HProp} {S : St} {D : List Nat} {z : Nat} {x : NR} (h : Sat W (Blk z x.cells 177 :: Sto S D :: L) w) : Sat W (Sto (upd S z x) (z :: D) :: L) w := by
  have hn := h.kNot
  refine Sat.kConsMk (R := fun i => Blk i (upd S z x i).cells 177) ?_
  have e1 : (upd S z x z).cells = x.cells := by rw [upd_same]
  have e2 : Kds (fun i => Blk i (S i).cells 177) D = Kds (fun i => Blk i (upd S z x i).cells 177) D := kds_congr (f := fun i => (S i).cells) (f' := fun i => (upd S z x i).cells) (fun j hj => congrArg NR.cells (upd_other S x (fun e => hn (e.subst (motive := fun i => i ∈ D) hj))))
  show Sat W (Blk z (upd S z x z).cells 177 :: Kds (fun i => Blk i (upd S z x i).cells 177) D :: L) w
  rw [e1, ← e2]
  exact h
set_option maxRecDepth 100000 in
set_option maxHeartbeats 2000000 in
theorem create_does (s tb root : Nat) (cnt : Int) (eb ee : En) (v : TypeId × Value) : Does Try.prog 151 [.pointer (some ⟨tb, 0, none⟩), .agg #[.iface eb.t (eb.u), .iface ee.t (ee.u)], .iface v.1 (v.2)] [Blk tb [.pointer (some ⟨root, 0, none⟩), .int .i64 (cnt), .pointer (some ⟨s, 0, none⟩)] 180] (fun u L => ∃ z, u = .pointer (some ⟨z, 0, none⟩) ∧ L = [Blk tb [.pointer (some ⟨root, 0, none⟩), .int .i64 cnt, .pointer (some ⟨s, 0, none⟩)] 180, Blk z (newn eb ee v s).cells 177]) := by
  refine Does.enter 26 Try.func151 rfl rfl rfl fun W F => ?_
  show WPc _ _ _ _ _ [(0, .pointer (some ⟨tb, 0, none⟩)), (1, .agg #[.iface eb.t (eb.u), .iface ee.t (ee.u)]), (2, .iface v.1 (v.2))] (Blk tb [.pointer (some ⟨root, 0, none⟩), .int .i64 (cnt), .pointer (some ⟨s, 0, none⟩)] 180 :: F)
  refine WPc.seq ?_
  refine WPc.region ?_
  refine WP.eff rfl rfl rfl (Eff.box (C := [.iface eb.t (eb.u), .iface ee.t (ee.u)]) rfl rfl rfl) ?_
  rintro _ _ ⟨b1, rfl, rfl⟩
  refine WP.val rfl rfl rfl (Val.assign rfl rfl) ?_
  refine WP.nil ?_
  refine Out.next ?_
  refine WPc.seq ?_
  refine WPD.start (Sat W (Blk b1 [.iface eb.t (eb.u), .iface ee.t (ee.u)] 172 :: Blk tb [.pointer (some ⟨root, 0, none⟩), .int .i64 (cnt), .pointer (some ⟨s, 0, none⟩)] 180 :: F)) Ty.mixed ?_
  refine WPD.take 0 rfl rfl rfl rfl (by kernel_rfl) (by kernel_rfl) (by kernel_rfl) (by kernel_rfl) (fun _ _ _ h => h) (by kernel_rfl) (fun _ h => h) (Val.loadAgg (cs := [.iface eb.t (eb.u), .iface ee.t (ee.u)]) rfl Ty.ag172 rfl rfl (fun w h => h.range 0 rfl rfl)) ?_
  refine WPD.takeM 1 rfl rfl rfl rfl (by kernel_rfl) (by kernel_rfl) (by kernel_rfl) (by kernel_rfl) (fun _ _ _ h => h) (fun _ h => h) (Val.move rfl rfl) ?_
  refine WPD.takeM 2 rfl rfl rfl rfl (by kernel_rfl) (by kernel_rfl) (by kernel_rfl) (by kernel_rfl) (fun _ _ _ h => h) (fun _ h => h) (Val.mk (cs := [.iface eb.t (eb.u), .iface ee.t (ee.u), .iface v.1 (v.2)]) rfl rfl (fun _ => by kernel_rfl)) ?_
  refine WPD.takeM 3 rfl rfl rfl rfl (by kernel_rfl) (by kernel_rfl) (by kernel_rfl) (by kernel_rfl) (fun _ _ _ h => h) (fun _ h => h) (Val.fieldAddr (j := 1) rfl Ty.fo172_1 rfl rfl) ?_
  refine WPD.take 4 rfl rfl rfl rfl (by kernel_rfl) (by kernel_rfl) (by kernel_rfl) (by kernel_rfl) (fun _ _ _ h => h) (by kernel_rfl) (fun _ h => h) (Val.load rfl Ty.sc170 rfl (fun w h => h.cell 0 rfl rfl)) ?_
  refine WPD.takeM 5 rfl rfl rfl rfl (by kernel_rfl) (by kernel_rfl) (by kernel_rfl) (by kernel_rfl) (fun _ _ _ h => h) (fun _ h => h) (Val.move rfl rfl) ?_
  refine WPD.takeM 6 rfl rfl rfl rfl (by kernel_rfl) (by kernel_rfl) (by kernel_rfl) (by kernel_rfl) (fun _ _ _ h => h) (fun _ h => h) (Val.nilCheck rfl rfl) ?_
  refine WPD.takeM 7 rfl rfl rfl rfl (by kernel_rfl) (by kernel_rfl) (by kernel_rfl) (by kernel_rfl) (fun _ _ _ h => h) (fun _ h => h) (Val.fieldAddr (j := 2) rfl Ty.fo180_2 rfl rfl) ?_
  refine WPD.take 8 rfl rfl rfl rfl (by kernel_rfl) (by kernel_rfl) (by kernel_rfl) (by kernel_rfl) (fun _ _ _ h => h) (by kernel_rfl) (fun _ h => h) (Val.load rfl Ty.sc168 rfl (fun w h => h.cell 1 rfl rfl)) ?_
  refine WPD.takeM 9 rfl rfl rfl rfl (by kernel_rfl) (by kernel_rfl) (by kernel_rfl) (by kernel_rfl) (fun _ _ _ h => h) (fun _ h => h) (Val.move rfl rfl) ?_
  refine WPD.takeM 10 rfl rfl rfl rfl (by kernel_rfl) (by kernel_rfl) (by kernel_rfl) (by kernel_rfl) (fun _ _ _ h => h) (fun _ h => h) (Val.nilCheck rfl rfl) ?_
  refine WPD.takeM 11 rfl rfl rfl rfl (by kernel_rfl) (by kernel_rfl) (by kernel_rfl) (by kernel_rfl) (fun _ _ _ h => h) (fun _ h => h) (Val.fieldAddr (j := 2) rfl Ty.fo180_2 rfl rfl) ?_
  refine WPD.take 12 rfl rfl rfl rfl (by kernel_rfl) (by kernel_rfl) (by kernel_rfl) (by kernel_rfl) (fun _ _ _ h => h) (by kernel_rfl) (fun _ h => h) (Val.load rfl Ty.sc168 rfl (fun w h => h.cell 1 rfl rfl)) ?_
  refine WPD.takeM 13 rfl rfl rfl rfl (by kernel_rfl) (by kernel_rfl) (by kernel_rfl) (by kernel_rfl) (fun _ _ _ h => h) (fun _ h => h) (Val.move rfl rfl) ?_
  refine WPD.takeM 14 rfl rfl rfl rfl (by kernel_rfl) (by kernel_rfl) (by kernel_rfl) (by kernel_rfl) (fun _ _ _ h => h) (fun _ h => h) (Val.nilCheck rfl rfl) ?_
  refine WPD.takeM 15 rfl rfl rfl rfl (by kernel_rfl) (by kernel_rfl) (by kernel_rfl) (by kernel_rfl) (fun _ _ _ h => h) (fun _ h => h) (Val.fieldAddr (j := 2) rfl Ty.fo180_2 rfl rfl) ?_
  refine WPD.take 16 rfl rfl rfl rfl (by kernel_rfl) (by kernel_rfl) (by kernel_rfl) (by kernel_rfl) (fun _ _ _ h => h) (by kernel_rfl) (fun _ h => h) (Val.load rfl Ty.sc168 rfl (fun w h => h.cell 1 rfl rfl)) ?_
  refine WPD.takeM 17 rfl rfl rfl rfl (by kernel_rfl) (by kernel_rfl) (by kernel_rfl) (by kernel_rfl) (fun _ _ _ h => h) (fun _ h => h) (Val.mk (cs := [.iface eb.t (eb.u), .iface ee.t (ee.u), .iface v.1 (v.2), .iface ee.t (ee.u), .pointer (some ⟨s, 0, none⟩), .pointer (some ⟨s, 0, none⟩), .pointer (some ⟨s, 0, none⟩), .int .i64 1]) rfl rfl (fun _ => by kernel_rfl)) ?_
  refine WPD.stepC 18 (by kernel_rfl) rfl rfl rfl rfl (by kernel_rfl) (Eff.box (C := [.iface eb.t (eb.u), .iface ee.t (ee.u), .iface v.1 (v.2), .iface ee.t (ee.u), .pointer (some ⟨s, 0, none⟩), .pointer (some ⟨s, 0, none⟩), .pointer (some ⟨s, 0, none⟩), .int .i64 1]) rfl rfl rfl) ?_
  rintro _ _ ⟨b2, rfl, rfl⟩
  refine ⟨(Sat W (Blk b2 [.iface eb.t (eb.u), .iface ee.t (ee.u), .iface v.1 (v.2), .iface ee.t (ee.u), .pointer (some ⟨s, 0, none⟩), .pointer (some ⟨s, 0, none⟩), .pointer (some ⟨s, 0, none⟩), .int .i64 1] 177 :: Blk b1 [.iface eb.t (eb.u), .iface ee.t (ee.u)] 172 :: Blk tb [.pointer (some ⟨root, 0, none⟩), .int .i64 (cnt), .pointer (some ⟨s, 0, none⟩)] 180 :: F)), (fun _ h => h), ?_⟩
  refine WPD.takeM 19 rfl rfl rfl rfl (by kernel_rfl) (by kernel_rfl) (by kernel_rfl) (by kernel_rfl) (fun _ _ _ h => h) (fun _ h => h) (Val.assign rfl rfl) ?_
  refine WPD.done (by kernel_rfl) ?_
  refine Out.next ?_
  refine WPc.ret ?_
  refine Out.perm pl1 ?_
  refine Out.drop ?_
  refine Out.perm pl1 ?_
  exact Out.ret1 (L' := _) Try.results151 rfl ⟨b2, rfl, rfl⟩ (fun _ h => h)

end Go.Proofs.Ytbomnihiapjmpaa.Ti

namespace Go.Proofs.Ytbomnihiapjmpaa.Tj
open Go.RowKit Go.Proofs.Ytbomnihiapjmpaa Go.Proofs.Ytbomnihiapjmpaa.Sl Go.Proofs.Ytbomnihiapjmpaa.TrP Go.Proofs.Ytbomnihiapjmpaa.Tc Go.Proofs.Ytbomnihiapjmpaa.Td Go.Proofs.Ytbomnihiapjmpaa.Te Go.Proofs.Ytbomnihiapjmpaa.Tf Go.Proofs.Ytbomnihiapjmpaa.Tg Go.Proofs.Ytbomnihiapjmpaa.Th Go.Proofs.Ytbomnihiapjmpaa.Ti
set_option linter.unusedVariables false
set_option linter.unusedSimpArgs false
set_option linter.unusedSectionVars false

set_option maxRecDepth 100000 in
set_option maxHeartbeats 2000000 in
theorem insert_does (EL : List En) (t0 : TypeId) (hE : ∀ e ∈ EL, e.t = t0) (s : Nat) (D : List Nat) (ZC : List Value) (tb root : Nat) (cnt : Int) (hcnt : 0 ≤ cnt ∧ cnt < 4611686018427387904) (S : St) (ok : Ok s EL D S) (hroot : Is s D root) (n k0 : Nat) (eb ee : En) (heb : eb ∈ EL) (hee : ee ∈ EL) (v : TypeId × Value) (hio : ∀ z, z ∉ D → z ≠ s → InsOk s n k0 D S root eb ee v z) : Does Try.prog 138 [.pointer (some ⟨tb, 0, none⟩), .agg #[.iface eb.t (eb.u), .iface ee.t (ee.u)], .iface v.1 (v.2)] [Blk tb [.pointer (some ⟨root, 0, none⟩), .int .i64 (cnt), .pointer (some ⟨s, 0, none⟩)] 180, Ens EL, Sto S D, Blk s ZC 177] (fun _ L => ∃ z, z ∉ D ∧ z ≠ s ∧ L = [Blk tb [.pointer (some ⟨(insF s n k0 S root eb ee v z).2, 0, none⟩), .int .i64 (cnt + 1), .pointer (some ⟨s, 0, none⟩)] 180, Ens EL, Sto (setC (insF s n k0 S root eb ee v z).1 (insF s n k0 S root eb ee v z).2 0) (z :: D), Blk s ZC 177]) := by
 refine Does.enter 165 Try.func138 rfl rfl rfl fun W F => ?_
 show WPc _ _ _ _ _ [(0, .pointer (some ⟨tb, 0, none⟩)), (1, .agg #[.iface eb.t (eb.u), .iface ee.t (ee.u)]), (2, .iface v.1 (v.2))] (Blk tb [.pointer (some ⟨root, 0, none⟩), .int .i64 (cnt), .pointer (some ⟨s, 0, none⟩)] 180 :: Ens EL :: Sto S D :: Blk s ZC 177 :: F)
 refine WPc.sr ?_
 refine WP.eff rfl rfl rfl (Eff.box (C := [.iface eb.t (eb.u), .iface ee.t (ee.u)]) rfl rfl rfl) ?_
 rintro _ _ ⟨b1, rfl, rfl⟩
 refine WP.nx ?_
 refine WPc.sr ?_
 refine WP.val rfl rfl rfl (Val.move rfl rfl) ?_
 refine WP.val rfl rfl rfl (Val.nilCheck rfl rfl) ?_
 refine WP.val rfl rfl rfl (Val.fieldAddr (j := 2) rfl Ty.fo180_2 rfl rfl) ?_
 refine WP.val rfl rfl rfl (Val.load rfl Ty.sc168 rfl (fun w h => h.cell 1 rfl rfl)) ?_
 refine WP.val rfl rfl rfl (Val.assign rfl rfl) ?_
 refine WP.nx ?_
 refine WPc.sr ?_
 refine WP.val rfl rfl rfl (Val.move rfl rfl) ?_
 refine WP.val rfl rfl rfl (Val.loadAgg (cs := [.iface eb.t (eb.u), .iface ee.t (ee.u)]) rfl Ty.ag172 rfl rfl (fun w h => h.range 0 rfl rfl)) ?_
 refine WP.val rfl rfl rfl (Val.move rfl rfl) ?_
 refine WP.perm pl1 ?_
 refine WP.eff rfl rfl rfl (Eff.call rfl rfl Try.call151 (create_does s tb root cnt eb ee v)) ?_
 rintro _ _ ⟨_, ⟨z, rfl, rfl⟩, rfl⟩
 show WP _ _ _ _ _ _ _ (_ :: Blk z ((newn eb ee v s).cells) 177 :: Blk b1 [.iface eb.t (eb.u), .iface ee.t (ee.u)] 172 :: _)
 refine WP.perm pl5 ?_
 refine WP.perm pl5 ?_
 refine WP.perm pl3 ?_
 refine WP.fact (fun w h => (⟨h.kNot, (h.perm (List.Perm.cons _ (List.Perm.swap _ _ _))).apart⟩ : z ∉ D ∧ z ≠ s)) (fun hzn => ?_)
 have hio := hio z hzn.1 hzn.2
 refine WP.conv (fun w h => sto_new h) ?_
 show WP _ _ _ _ _ _ _ (Sto (upd S z (newn eb ee v s)) (z :: D) :: _)
 obtain ⟨S1, hS1⟩ : ∃ S1, S1 = upd S z (newn eb ee v s) := ⟨_, rfl⟩
 rw [← hS1]
 have okS1 : Ok s EL (z :: D) S1 := by rw [hS1]; exact (Ok.new ok heb hee)
 refine WP.val rfl rfl rfl (Val.assign rfl rfl) ?_
 refine WP.nx ?_
 refine WPc.sr ?_
 refine WP.val rfl rfl rfl (Val.move rfl rfl) ?_
 refine WP.val rfl rfl rfl (Val.nilCheck rfl rfl) ?_
 refine WP.val rfl rfl rfl (Val.fieldAddr (j := 0) rfl Ty.fo180_0 rfl rfl) ?_
 refine WP.val rfl rfl rfl (Val.load rfl Ty.sc168 rfl (fun w h => h.cell 2 rfl rfl)) ?_
 refine WP.val rfl rfl rfl (Val.assign rfl rfl) ?_
 refine WP.nx ?_
 refine WPc.seq ?_
 refine WPc.block ?_
 refine WPc.perm pl3 ?_
 refine WPc.drop ?_
 refine WPc.perm pl1 ?_
 refine WPc.perm pl1 ?_
 refine WPc.perm pl3 ?_
 refine WPc.perm pl3 ?_
 refine WPc.loop (ι := Nat × Nat × Nat) (fun ⟨x, y, k⟩ => des s S1 z k x y = des s S1 z k0 root s ∧ Is s (z :: D) x ∧ Is s (z :: D) y ∧ DDep s S1 z k x) (fun ⟨x, y, k⟩ => [(0, .pointer (some ⟨tb, 0, none⟩)), (6, .pointer (some ⟨y, 0, none⟩)), (7, .pointer (some ⟨z, 0, none⟩)), (8, .pointer (some ⟨x, 0, none⟩))]) (fun ⟨x, y, k⟩ => Blk tb [.pointer (some ⟨root, 0, none⟩), .int .i64 (cnt), .pointer (some ⟨s, 0, none⟩)] 180 :: Ens EL :: Sto S1 (z :: D) :: Blk s ZC 177 :: F) (fun ⟨x, y, k⟩ => k) ⟨root, s, k0⟩ ⟨rfl, Is.cons hroot, .inl rfl, by rw [hS1]; exact hio.dd⟩ ((Sub.cons rfl (Sub.cons rfl (Sub.cons rfl (Sub.cons rfl Sub.nil))))) (fun _ h => h) ?_
 rintro ⟨x, y, k⟩ hI
 show WPc _ _ _ _ _ [(0, _), (6, .pointer (some ⟨y, 0, none⟩)), (7, .pointer (some ⟨z, 0, none⟩)), (8, .pointer (some ⟨x, 0, none⟩))] (_ :: _ :: Sto S1 (z :: D) :: _)
 obtain ⟨hdes, hx, hy, hdd⟩ := hI
 refine WPc.seq ?_
 refine WPc.sr ?_
 refine WP.val rfl rfl rfl (Val.move rfl rfl) ?_
 refine WP.val rfl rfl rfl (Val.move rfl rfl) ?_
 refine WP.val rfl rfl rfl (Val.nilCheck rfl rfl) ?_
 refine WP.val rfl rfl rfl (Val.fieldAddr (j := 2) rfl Ty.fo180_2 rfl rfl) ?_
 refine WP.val rfl rfl rfl (Val.load rfl Ty.sc168 rfl (fun w h => h.cell 0 rfl rfl)) ?_
 refine WP.val rfl rfl rfl (Val.neqP (T1 := 177) (T2 := 177) rfl pn168 rfl rfl rfl rfl (fun w h => whole (h.at 2 rfl) (h.at 3 rfl) hx) (fun w h => whole (h.at 2 rfl) (h.at 3 rfl) (.inl rfl))) ?_
 refine WP.nx ?_
 refine WPc.ifP rfl (fun h1 => ?_) (fun h1 => ?_)
 ·
  have h1 : (x ≠ s) := h1
  refine WPc.skip ?_
  refine Out.next ?_
  refine WPc.block ?_
  refine WPc.seq ?_
  have hxs : x ≠ s := by assumption
  obtain ⟨k, rfl, hd1⟩ := hdd.succ hxs
  have hxD : x ∈ z :: D := hx.mem hxs
  refine WPc.region ?_
  refine WP.val rfl rfl rfl (Val.move rfl rfl) ?_
  refine WP.val rfl rfl rfl (Val.assign rfl rfl) ?_
  refine WP.nx ?_
  refine WPc.seq ?_
  refine WPD.s0 Ty.mixed ?_
  refine WPD.tM 0 rfl rfl rfl rfl (Val.move rfl rfl) ?_
  refine WPD.tM 1 rfl rfl rfl rfl (Val.nilCheck rfl rfl) ?_
  refine WPD.tM 2 rfl rfl rfl rfl (Val.fieldAddr (j := 0) rfl Ty.fo177_0 rfl rfl) ?_
  refine WPD.tM 3 rfl rfl rfl rfl (Val.fieldAddr (j := 0) rfl Ty.fo174_0 rfl rfl) ?_
  refine WPD.tM 4 rfl rfl rfl rfl (Val.fieldAddr (j := 0) rfl Ty.fo172_0 rfl rfl) ?_
  refine WPD.tL 5 rfl rfl rfl rfl (fun _ h => h) (Val.load (v := .iface ((S1 z).it.b).t (((S1 z).it.b).u)) rfl Ty.sc170 rfl (fun w h => sto_b (h.at 2 rfl) List.mem_cons_self rfl)) ?_
  refine WPD.tM 6 rfl rfl rfl rfl (Val.move rfl rfl) ?_
  refine WPD.tM 7 rfl rfl rfl rfl (Val.nilCheck rfl rfl) ?_
  refine WPD.tM 8 rfl rfl rfl rfl (Val.fieldAddr (j := 0) rfl Ty.fo177_0 rfl rfl) ?_
  refine WPD.tM 9 rfl rfl rfl rfl (Val.fieldAddr (j := 0) rfl Ty.fo174_0 rfl rfl) ?_
  refine WPD.tM 10 rfl rfl rfl rfl (Val.fieldAddr (j := 0) rfl Ty.fo172_0 rfl rfl) ?_
  refine WPD.tL 11 rfl rfl rfl rfl (fun _ h => h) (Val.load (v := .iface ((S1 x).it.b).t (((S1 x).it.b).u)) rfl Ty.sc170 rfl (fun w h => sto_b (h.at 2 rfl) hxD rfl)) ?_
  refine WPD.tM 12 rfl rfl rfl rfl (Val.nilCheckI rfl rfl) ?_
  refine WPD.tM 13 rfl rfl rfl rfl (Val.move rfl rfl) ?_
  refine WPD.perm pl1 ?_
  refine WPD.stepC 14 (by kernel_rfl) rfl rfl rfl rfl (by kernel_rfl) (Eff.cmp (a := (S1 z).it.b) (b := (S1 x).it.b) rfl rfl rfl (Ok.b okS1 List.mem_cons_self) (Ok.b okS1 hxD) ((hE _ (Ok.b okS1 List.mem_cons_self)).trans (hE _ (Ok.b okS1 hxD)).symm)) ?_
  rintro _ _ ⟨rfl, rfl⟩
  refine ⟨_, (fun _ h => h), ?_⟩
  refine WPD.tM 15 rfl rfl rfl rfl (Val.assign rfl rfl) ?_
  refine WPD.done (by kernel_rfl) ?_
  refine Out.next ?_
  refine WPc.sr ?_
  refine WP.val rfl rfl rfl (Val.move rfl rfl) ?_
  refine WP.val rfl rfl rfl (Val.lss rfl rfl rfl) ?_
  refine WP.nx ?_
  refine WPc.ifP rfl (fun h2 => ?_) (fun h2 => ?_)
  ·
   have h2 : ((kcmp ((S1 z).it.b).k ((S1 x).it.b).k) < (0 : Int)) := h2
   have hgo : goL S1 z x := goK_1 (by assumption)
   refine WPc.region ?_
   refine WP.val rfl rfl rfl (Val.move rfl rfl) ?_
   refine WP.val rfl rfl rfl (Val.nilCheck rfl rfl) ?_
   refine WP.val rfl rfl rfl (Val.fieldAddr (j := 4) rfl Ty.fo177_2 rfl rfl) ?_
   refine WP.val rfl rfl rfl (Val.load (v := .pointer (some ⟨(S1 x).l, 0, none⟩)) rfl Ty.sc168 rfl (fun w h => sto_l (h.at 2 rfl) hxD rfl)) ?_
   refine WP.val rfl rfl rfl (Val.assign rfl rfl) ?_
   refine WP.nil ?_
   refine Out.block ?_
   rw [des_x hxs, if_pos hgo] at hdes
   rw [if_pos hgo] at hd1
   refine Out.perm pl3 ?_
   refine Out.perm pl3 ?_
   refine Out.perm pl2 ?_
   refine Out.perm pl3 ?_
   refine Out.again ⟨(S1 x).l, x, k⟩ ?_ ?_ ?_ ?_
   ·
    exact ⟨hdes, Ok.l okS1 hxD, .inr hxD, hd1⟩
   ·
    show k < k + 1; omega
   ·
    exact (Sub.cons rfl (Sub.cons rfl (Sub.cons rfl (Sub.cons rfl Sub.nil))))
   ·
    exact (fun _ h => h)
  ·
   have h2 : ¬ ((kcmp ((S1 z).it.b).k ((S1 x).it.b).k) < (0 : Int)) := h2
   refine WPc.sr ?_
   refine WP.val rfl rfl rfl (Val.move rfl rfl) ?_
   refine WP.val rfl rfl rfl (Val.eql rfl rfl rfl) ?_
   refine WP.nx ?_
   refine WPc.ifP rfl (fun h3 => ?_) (fun h3 => ?_)
   ·
    have h3 : ((kcmp ((S1 z).it.b).k ((S1 x).it.b).k) = (0 : Int)) := h3
    refine WPc.seq ?_
    refine WPD.s0 Ty.mixed ?_
    refine WPD.tM 0 rfl rfl rfl rfl (Val.move rfl rfl) ?_
    refine WPD.tM 1 rfl rfl rfl rfl (Val.nilCheck rfl rfl) ?_
    refine WPD.tM 2 rfl rfl rfl rfl (Val.fieldAddr (j := 0) rfl Ty.fo177_0 rfl rfl) ?_
    refine WPD.tM 3 rfl rfl rfl rfl (Val.fieldAddr (j := 0) rfl Ty.fo174_0 rfl rfl) ?_
    refine WPD.tM 4 rfl rfl rfl rfl (Val.fieldAddr (j := 1) rfl Ty.fo172_1 rfl rfl) ?_
    refine WPD.tL 5 rfl rfl rfl rfl (fun _ h => h) (Val.load (v := .iface ((S1 z).it.e).t (((S1 z).it.e).u)) rfl Ty.sc170 rfl (fun w h => sto_e (h.at 2 rfl) List.mem_cons_self rfl)) ?_
    refine WPD.tM 6 rfl rfl rfl rfl (Val.move rfl rfl) ?_
    refine WPD.tM 7 rfl rfl rfl rfl (Val.nilCheck rfl rfl) ?_
    refine WPD.tM 8 rfl rfl rfl rfl (Val.fieldAddr (j := 0) rfl Ty.fo177_0 rfl rfl) ?_
    refine WPD.tM 9 rfl rfl rfl rfl (Val.fieldAddr (j := 0) rfl Ty.fo174_0 rfl rfl) ?_
    refine WPD.tM 10 rfl rfl rfl rfl (Val.fieldAddr (j := 1) rfl Ty.fo172_1 rfl rfl) ?_
    refine WPD.tL 11 rfl rfl rfl rfl (fun _ h => h) (Val.load (v := .iface ((S1 x).it.e).t (((S1 x).it.e).u)) rfl Ty.sc170 rfl (fun w h => sto_e (h.at 2 rfl) hxD rfl)) ?_
    refine WPD.tM 12 rfl rfl rfl rfl (Val.nilCheckI rfl rfl) ?_
    refine WPD.tM 13 rfl rfl rfl rfl (Val.move rfl rfl) ?_
    refine WPD.stepC 14 (by kernel_rfl) rfl rfl rfl rfl (by kernel_rfl) (Eff.cmp (a := (S1 z).it.e) (b := (S1 x).it.e) rfl rfl rfl (Ok.e okS1 List.mem_cons_self) (Ok.e okS1 hxD) ((hE _ (Ok.e okS1 List.mem_cons_self)).trans (hE _ (Ok.e okS1 hxD)).symm)) ?_
    rintro _ _ ⟨rfl, rfl⟩
    refine ⟨_, (fun _ h => h), ?_⟩
    refine WPD.tM 15 rfl rfl rfl rfl (Val.lss rfl rfl rfl) ?_
    refine WPD.done (by kernel_rfl) ?_
    refine Out.next ?_
    refine WPc.ifP rfl (fun h4 => ?_) (fun h4 => ?_)
    ·
     have h4 : ((kcmp ((S1 z).it.e).k ((S1 x).it.e).k) < (0 : Int)) := h4
     have hgo : goL S1 z x := goK_2 (by assumption) (by assumption)
     refine WPc.region ?_
     refine WP.val rfl rfl rfl (Val.move rfl rfl) ?_
     refine WP.val rfl rfl rfl (Val.nilCheck rfl rfl) ?_
     refine WP.val rfl rfl rfl (Val.fieldAddr (j := 4) rfl Ty.fo177_2 rfl rfl) ?_
     refine WP.val rfl rfl rfl (Val.load (v := .pointer (some ⟨(S1 x).l, 0, none⟩)) rfl Ty.sc168 rfl (fun w h => sto_l (h.at 2 rfl) hxD rfl)) ?_
     refine WP.val rfl rfl rfl (Val.assign rfl rfl) ?_
     refine WP.nil ?_
     refine Out.block ?_
     rw [des_x hxs, if_pos hgo] at hdes
     rw [if_pos hgo] at hd1
     refine Out.perm pl3 ?_
     refine Out.perm pl3 ?_
     refine Out.perm pl2 ?_
     refine Out.perm pl3 ?_
     refine Out.again ⟨(S1 x).l, x, k⟩ ?_ ?_ ?_ ?_
     ·
      exact ⟨hdes, Ok.l okS1 hxD, .inr hxD, hd1⟩
     ·
      show k < k + 1; omega
     ·
      exact (Sub.cons rfl (Sub.cons rfl (Sub.cons rfl (Sub.cons rfl Sub.nil))))
     ·
      exact (fun _ h => h)
    ·
     have h4 : ¬ ((kcmp ((S1 z).it.e).k ((S1 x).it.e).k) < (0 : Int)) := h4
     have hgo : ¬ goL S1 z x := goK_3 (by assumption) (by assumption)
     refine WPc.region ?_
     refine WP.val rfl rfl rfl (Val.move rfl rfl) ?_
     refine WP.val rfl rfl rfl (Val.nilCheck rfl rfl) ?_
     refine WP.val rfl rfl rfl (Val.fieldAddr (j := 5) rfl Ty.fo177_3 rfl rfl) ?_
     refine WP.val rfl rfl rfl (Val.load (v := .pointer (some ⟨(S1 x).r, 0, none⟩)) rfl Ty.sc168 rfl (fun w h => sto_r (h.at 2 rfl) hxD rfl)) ?_
     refine WP.val rfl rfl rfl (Val.assign rfl rfl) ?_
     refine WP.nil ?_
     refine Out.block ?_
     rw [des_x hxs, if_neg hgo] at hdes
     rw [if_neg hgo] at hd1
     refine Out.perm pl3 ?_
     refine Out.perm pl3 ?_
     refine Out.perm pl2 ?_
     refine Out.perm pl3 ?_
     refine Out.again ⟨(S1 x).r, x, k⟩ ?_ ?_ ?_ ?_
     ·
      exact ⟨hdes, Ok.r okS1 hxD, .inr hxD, hd1⟩
     ·
      show k < k + 1; omega
     ·
      exact (Sub.cons rfl (Sub.cons rfl (Sub.cons rfl (Sub.cons rfl Sub.nil))))
     ·
      exact (fun _ h => h)
   ·
    have h3 : ¬ ((kcmp ((S1 z).it.b).k ((S1 x).it.b).k) = (0 : Int)) := h3
    have hgo : ¬ goL S1 z x := goK_4 (by assumption) (by assumption)
    refine WPc.region ?_
    refine WP.val rfl rfl rfl (Val.move rfl rfl) ?_
    refine WP.val rfl rfl rfl (Val.nilCheck rfl rfl) ?_
    refine WP.val rfl rfl rfl (Val.fieldAddr (j := 5) rfl Ty.fo177_3 rfl rfl) ?_
    refine WP.val rfl rfl rfl (Val.load (v := .pointer (some ⟨(S1 x).r, 0, none⟩)) rfl Ty.sc168 rfl (fun w h => sto_r (h.at 2 rfl) hxD rfl)) ?_
    refine WP.val rfl rfl rfl (Val.assign rfl rfl) ?_
    refine WP.nil ?_
    refine Out.block ?_
    rw [des_x hxs, if_neg hgo] at hdes
    rw [if_neg hgo] at hd1
    refine Out.perm pl3 ?_
    refine Out.perm pl3 ?_
    refine Out.perm pl2 ?_
    refine Out.perm pl3 ?_
    refine Out.again ⟨(S1 x).r, x, k⟩ ?_ ?_ ?_ ?_
    ·
     exact ⟨hdes, Ok.r okS1 hxD, .inr hxD, hd1⟩
    ·
     show k < k + 1; omega
    ·
     exact (Sub.cons rfl (Sub.cons rfl (Sub.cons rfl (Sub.cons rfl Sub.nil))))
    ·
     exact (fun _ h => h)
 ·
  have h1 : ¬ (x ≠ s) := h1
  refine WPc.exit ?_
  refine Out.then_exit ?_
  refine Out.then_exit ?_
  refine Out.block_exit ?_
  refine Out.next ?_
  refine WPc.seq ?_
  have hxs : x = s := Decidable.byContradiction (by assumption)
  have hy1 : y = des s S1 z k0 root s := by rw [← hdes, hxs]; exact des_s.symm
  refine WPc.region ?_
  refine WP.val rfl rfl rfl (Val.move rfl rfl) ?_
  refine WP.val rfl rfl rfl (Val.move rfl rfl) ?_
  refine WP.val rfl rfl rfl (Val.nilCheck rfl rfl) ?_
  refine WP.val rfl rfl rfl (Val.fieldAddr (j := 6) rfl Ty.fo177_4 rfl rfl) ?_
  refine WP.perm pl2 ?_
  refine WP.eff0 rfl rfl (Eff.storeK (f := fun i => (S1 i).cells) (f' := fun i => (setP S1 z y i).cells) rfl Ty.sc168 rfl rfl rfl List.mem_cons_self (show 6 < 8 by decide) (by unfold setP; rw [upd_same]; rfl) (by unfold setP; exact cells_other)) ?_
  rintro _ _ rfl
  show WP _ _ _ _ _ _ _ (Sto (setP S1 z y) (z :: D) :: _)
  obtain ⟨S2, hS2⟩ : ∃ S2, S2 = setP S1 z y := ⟨_, rfl⟩
  rw [← hS2]
  have okS2 : Ok s EL (z :: D) S2 := by rw [hS2]; exact (okS1.setP hy)
  have k3 : (S2 z).it.b = (S1 z).it.b := (by rw [hS2]; exact (congrArg It.b (setP_it _ _ _ _)).trans rfl)
  have k4 : (S2 z).it.e = (S1 z).it.e := (by rw [hS2]; exact (congrArg It.e (setP_it _ _ _ _)).trans rfl)
  have k5 : (S2 z).p = y := by rw [hS2]; exact setP_same _ _ _
  refine WP.nx ?_
  refine WPc.seq ?_
  refine WPc.sr ?_
  refine WP.val rfl rfl rfl (Val.move rfl rfl) ?_
  refine WP.val rfl rfl rfl (Val.move rfl rfl) ?_
  refine WP.val rfl rfl rfl (Val.nilCheck rfl rfl) ?_
  refine WP.val rfl rfl rfl (Val.fieldAddr (j := 2) rfl Ty.fo180_2 rfl rfl) ?_
  refine WP.val rfl rfl rfl (Val.load rfl Ty.sc168 rfl (fun w h => h.cell 1 rfl rfl)) ?_
  refine WP.val rfl rfl rfl (Val.eqP (T1 := 177) (T2 := 177) rfl pn168 rfl rfl rfl rfl (fun w h => whole (h.at 0 rfl) (h.at 3 rfl) hy) (fun w h => whole (h.at 0 rfl) (h.at 3 rfl) (.inl rfl))) ?_
  refine WP.nx ?_
  refine WPc.ifP rfl (fun h5 => ?_) (fun h5 => ?_)
  ·
   have h5 : (y = s) := h5
   refine WPc.region ?_
   refine WP.val rfl rfl rfl (Val.move rfl rfl) ?_
   refine WP.val rfl rfl rfl (Val.move rfl rfl) ?_
   refine WP.val rfl rfl rfl (Val.nilCheck rfl rfl) ?_
   refine WP.val rfl rfl rfl (Val.fieldAddr (j := 0) rfl Ty.fo180_0 rfl rfl) ?_
   refine WP.perm pl1 ?_
   refine WP.eff0 rfl rfl (Eff.store rfl Ty.sc168 rfl rfl rfl (by simp) st0) ?_
   rintro _ _ rfl
   refine WP.nx ?_
   refine WPc.seq ?_
   have hins : insS s n k0 S root eb ee v z = (S2, z) := by
    unfold insS; rw [← hS1, ← hy1]; refine (hang_s (by assumption)).trans ?_
    rw [← hS2]
   refine WPc.region ?_
   refine WP.val rfl rfl rfl (Val.move rfl rfl) ?_
   refine WP.val rfl rfl rfl (Val.nilCheck rfl rfl) ?_
   refine WP.val rfl rfl rfl (Val.fieldAddr (j := 7) rfl Ty.fo177_5 rfl rfl) ?_
   refine WP.perm pl1 ?_
   refine WP.eff0 rfl rfl (Eff.storeK (f := fun i => (S2 i).cells) (f' := fun i => (setC S2 z 1 i).cells) rfl Ty.sc175 rfl rfl rfl List.mem_cons_self (show 7 < 8 by decide) (by unfold setC; rw [upd_same]; rfl) (by unfold setC; exact cells_other)) ?_
   rintro _ _ rfl
   show WP _ _ _ _ _ _ _ (Sto (setC S2 z 1) (z :: D) :: Blk tb [.pointer (some ⟨z, 0, none⟩), .int .i64 (cnt), .pointer (some ⟨s, 0, none⟩)] 180 :: _)
   obtain ⟨S6, hS6⟩ : ∃ S6, S6 = setC S2 z 1 := ⟨_, rfl⟩
   rw [← hS6]
   have okS6 : Ok s EL (z :: D) S6 := by rw [hS6]; exact (okS2.setC)
   have k7 : (S6 z).it.b = (S1 z).it.b := (by rw [hS6]; exact (congrArg It.b (setC_it _ _ _ _)).trans k3)
   have k8 : (S6 z).it.e = (S1 z).it.e := (by rw [hS6]; exact (congrArg It.e (setC_it _ _ _ _)).trans k4)
   have k9 : (S6 z).p = y := (by rw [hS6]; exact (setC_p _ _ _ _).trans k5)
   have k10 : (S6 z).c = 1 := by rw [hS6]; exact setC_same _ _ _
   refine WP.nx ?_
   refine WPc.sr ?_
   refine WP.val rfl rfl rfl (Val.move rfl rfl) ?_
   refine WP.val rfl rfl rfl (Val.move rfl rfl) ?_
   have hlast : (fx s n k0 S6 z z).2 ∈ z :: D := by have h0 := hio.last; unfold insF at h0; rw [hins] at h0; dsimp only at h0; rw [← hS6] at h0; exact h0
   have hfo : FxOk s n k0 S6 z z := by have h0 := hio.fx; rw [hins] at h0; dsimp only at h0; rw [← hS6] at h0; exact h0
   refine WP.perm pl3 ?_
   refine WP.perm pl1 ?_
   refine WP.perm pl3 ?_
   refine WP.perm pl3 ?_
   refine WP.eff rfl rfl rfl (Eff.call rfl rfl Try.call152 (fx_does EL t0 hE s (z :: D) ZC tb z cnt S6 okS6 (.inr List.mem_cons_self) z n k0 List.mem_cons_self hfo hlast)) ?_
   rintro _ _ ⟨_, rfl, rfl⟩
   show WP _ _ _ _ _ _ _ (Blk tb [.pointer (some ⟨(fx s n k0 S6 z z).2, 0, none⟩), .int .i64 (cnt), .pointer (some ⟨s, 0, none⟩)] 180 :: _ :: Sto (setC (fx s n k0 S6 z z).1 (fx s n k0 S6 z z).2 0) (z :: D) :: _)
   obtain ⟨S11, hS11⟩ : ∃ S11, S11 = setC (fx s n k0 S6 z z).1 (fx s n k0 S6 z z).2 0 := ⟨_, rfl⟩
   rw [← hS11]
   have okS11 : Ok s EL (z :: D) S11 := by rw [hS11]; exact (fx_ok okS6 List.mem_cons_self (.inr List.mem_cons_self) hfo).setC
   refine WP.nx ?_
   refine WPc.region ?_
   refine WP.val rfl rfl rfl (Val.move rfl rfl) ?_
   refine WP.val rfl rfl rfl (Val.nilCheck rfl rfl) ?_
   refine WP.val rfl rfl rfl (Val.fieldAddr (j := 1) rfl Ty.fo180_1 rfl rfl) ?_
   refine WP.val rfl rfl rfl (Val.load rfl Ty.sc3 rfl (fun w h => h.cell 0 rfl rfl)) ?_
   refine WP.val rfl rfl rfl (Val.add (z := cnt + (1 : Int)) rfl rfl rfl (w64 (by omega) (by omega))) ?_
   refine WP.val rfl rfl rfl (Val.nilCheck rfl rfl) ?_
   refine WP.val rfl rfl rfl (Val.fieldAddr (j := 1) rfl Ty.fo180_1 rfl rfl) ?_
   refine WP.eff0 rfl rfl (Eff.store rfl Ty.sc3 rfl rfl rfl (by simp) st1) ?_
   rintro _ _ rfl
   refine WP.nil ?_
   have hfin : insF s n k0 S root eb ee v z = fx s n k0 S6 z z := by unfold insF; rw [hins]; dsimp only; rw [← hS6]
   exact Out.end0 (L' := _) Try.results138 ⟨z, hzn.1, hzn.2, rfl⟩ (fun w h => by rw [hfin]; rw [hS11] at h; exact h)
  ·
   have h5 : ¬ (y = s) := h5
   refine WPc.seq ?_
   have hys : ¬ y = s := by assumption
   have hyD : y ∈ z :: D := hy.mem hys
   have ky : (S2 y).it = (S1 y).it := by rw [hS2]; exact setP_it _ _ _ _
   refine WPD.s0 Ty.mixed ?_
   refine WPD.tM 0 rfl rfl rfl rfl (Val.move rfl rfl) ?_
   refine WPD.tM 1 rfl rfl rfl rfl (Val.nilCheck rfl rfl) ?_
   refine WPD.tM 2 rfl rfl rfl rfl (Val.fieldAddr (j := 0) rfl Ty.fo177_0 rfl rfl) ?_
   refine WPD.tM 3 rfl rfl rfl rfl (Val.fieldAddr (j := 0) rfl Ty.fo174_0 rfl rfl) ?_
   refine WPD.tM 4 rfl rfl rfl rfl (Val.fieldAddr (j := 0) rfl Ty.fo172_0 rfl rfl) ?_
   refine WPD.tL 5 rfl rfl rfl rfl (fun _ h => h) (Val.load (v := .iface ((S1 z).it.b).t (((S1 z).it.b).u)) rfl Ty.sc170 rfl (fun w h => sto_b (h.at 0 rfl) List.mem_cons_self k3)) ?_
   refine WPD.tM 6 rfl rfl rfl rfl (Val.move rfl rfl) ?_
   refine WPD.tM 7 rfl rfl rfl rfl (Val.nilCheck rfl rfl) ?_
   refine WPD.tM 8 rfl rfl rfl rfl (Val.fieldAddr (j := 0) rfl Ty.fo177_0 rfl rfl) ?_
   refine WPD.tM 9 rfl rfl rfl rfl (Val.fieldAddr (j := 0) rfl Ty.fo174_0 rfl rfl) ?_
   refine WPD.tM 10 rfl rfl rfl rfl (Val.fieldAddr (j := 0) rfl Ty.fo172_0 rfl rfl) ?_
   refine WPD.tL 11 rfl rfl rfl rfl (fun _ h => h) (Val.load (v := .iface ((S1 y).it.b).t (((S1 y).it.b).u)) rfl Ty.sc170 rfl (fun w h => sto_b (h.at 0 rfl) hyD (congrArg It.b ky))) ?_
   refine WPD.tM 12 rfl rfl rfl rfl (Val.nilCheckI rfl rfl) ?_
   refine WPD.tM 13 rfl rfl rfl rfl (Val.move rfl rfl) ?_
   refine WPD.perm pl2 ?_
   refine WPD.stepC 14 (by kernel_rfl) rfl rfl rfl rfl (by kernel_rfl) (Eff.cmp (a := (S1 z).it.b) (b := (S1 y).it.b) rfl rfl rfl (Ok.b okS1 List.mem_cons_self) (Ok.b okS1 hyD) ((hE _ (Ok.b okS1 List.mem_cons_self)).trans (hE _ (Ok.b okS1 hyD)).symm)) ?_
   rintro _ _ ⟨rfl, rfl⟩
   refine ⟨_, (fun _ h => h), ?_⟩
   refine WPD.tM 15 rfl rfl rfl rfl (Val.assign rfl rfl) ?_
   refine WPD.done (by kernel_rfl) ?_
   refine Out.next ?_
   refine WPc.seq ?_
   refine WPc.sr ?_
   refine WP.val rfl rfl rfl (Val.move rfl rfl) ?_
   refine WP.val rfl rfl rfl (Val.lss rfl rfl rfl) ?_
   refine WP.nx ?_
   refine WPc.ifP rfl (fun h6 => ?_) (fun h6 => ?_)
   ·
    have h6 : ((kcmp ((S1 z).it.b).k ((S1 y).it.b).k) < (0 : Int)) := h6
    have hgo : goL S1 z y := goK_1 (by assumption)
    refine WPc.region ?_
    refine WP.val rfl rfl rfl (Val.move rfl rfl) ?_
    refine WP.val rfl rfl rfl (Val.move rfl rfl) ?_
    refine WP.val rfl rfl rfl (Val.nilCheck rfl rfl) ?_
    refine WP.val rfl rfl rfl (Val.fieldAddr (j := 4) rfl Ty.fo177_2 rfl rfl) ?_
    refine WP.perm pl1 ?_
    refine WP.eff0 rfl rfl (Eff.storeK (f := fun i => (S2 i).cells) (f' := fun i => (setL S2 y z i).cells) rfl Ty.sc168 rfl rfl rfl hyD (show 4 < 8 by decide) (by unfold setL; rw [upd_same]; rfl) (by unfold setL; exact cells_other)) ?_
    rintro _ _ rfl
    show WP _ _ _ _ _ _ _ (Sto (setL S2 y z) (z :: D) :: _)
    obtain ⟨S12, hS12⟩ : ∃ S12, S12 = setL S2 y z := ⟨_, rfl⟩
    rw [← hS12]
    have okS12 : Ok s EL (z :: D) S12 := by rw [hS12]; exact (okS2.setL (.inr List.mem_cons_self))
    have k13 : (S12 z).it.b = (S1 z).it.b := (by rw [hS12]; exact (congrArg It.b (setL_it _ _ _ _)).trans k3)
    have k14 : (S12 z).it.e = (S1 z).it.e := (by rw [hS12]; exact (congrArg It.e (setL_it _ _ _ _)).trans k4)
    have k15 : (S12 z).p = y := (by rw [hS12]; exact (setL_p _ _ _ _).trans k5)
    have k16 : (S12 y).it.b = (S1 y).it.b := (by rw [hS12]; exact (congrArg It.b (setL_it _ _ _ _)).trans (congrArg It.b ky))
    have k17 : (S12 y).it.e = (S1 y).it.e := (by rw [hS12]; exact (congrArg It.e (setL_it _ _ _ _)).trans (congrArg It.e ky))
    have k18 : (S12 y).l = z := by rw [hS12]; exact setL_same _ _ _
    refine WP.nx ?_
    refine WPc.region ?_
    refine WP.val rfl rfl rfl (Val.move rfl rfl) ?_
    refine WP.val rfl rfl rfl (Val.move rfl rfl) ?_
    refine WP.val rfl rfl rfl (Val.nilCheck rfl rfl) ?_
    refine WP.val rfl rfl rfl (Val.fieldAddr (j := 2) rfl Ty.fo180_2 rfl rfl) ?_
    refine WP.val rfl rfl rfl (Val.load rfl Ty.sc168 rfl (fun w h => h.cell 2 rfl rfl)) ?_
    refine WP.perm pl3 ?_
    refine WP.perm pl1 ?_
    refine WP.perm pl2 ?_
    refine WP.eff rfl rfl rfl (Eff.call rfl rfl Try.call133 (um_does EL t0 hE s (z :: D) ZC S12 okS12 y n hy (by rw [hS12]; refine Dep.congr (fun i => setL_p _ _ _ _) ?_; have h0 := hio.dl y (by rw [← hS1]; exact hy1) hys; rw [← hS1, ← hS2] at h0; exact h0))) ?_
    rintro _ _ ⟨_, rfl, rfl⟩
    show WP _ _ _ _ _ _ _ (_ :: Sto (um s n S12 y) (z :: D) :: _)
    obtain ⟨S19, hS19⟩ : ∃ S19, S19 = um s n S12 y := ⟨_, rfl⟩
    rw [← hS19]
    have okS19 : Ok s EL (z :: D) S19 := by rw [hS19]; exact (um_ok _ _ _ okS12 hy)
    have k20 : (S19 z).it.b = (S1 z).it.b := (by rw [hS19]; exact (congrArg It.b (OnlyM.it (um_only _ _ _ _) _)).trans k13)
    have k21 : (S19 z).it.e = (S1 z).it.e := (by rw [hS19]; exact (congrArg It.e (OnlyM.it (um_only _ _ _ _) _)).trans k14)
    have k22 : (S19 z).p = y := (by rw [hS19]; exact (OnlyM.p (um_only _ _ _ _) _).trans k15)
    have k23 : (S19 y).it.b = (S1 y).it.b := (by rw [hS19]; exact (congrArg It.b (OnlyM.it (um_only _ _ _ _) _)).trans k16)
    have k24 : (S19 y).it.e = (S1 y).it.e := (by rw [hS19]; exact (congrArg It.e (OnlyM.it (um_only _ _ _ _) _)).trans k17)
    have k25 : (S19 y).l = z := (by rw [hS19]; exact (OnlyM.l (um_only _ _ _ _) _).trans k18)
    refine WP.nx ?_
    refine WPc.seq ?_
    have hins : insS s n k0 S root eb ee v z = (S19, root) := by
     unfold insS; rw [← hS1, ← hy1]; refine (hang_l hys hgo).trans ?_
     rw [← hS2, ← hS12, ← hS19]
    refine WPc.region ?_
    refine WP.val rfl rfl rfl (Val.move rfl rfl) ?_
    refine WP.val rfl rfl rfl (Val.nilCheck rfl rfl) ?_
    refine WP.val rfl rfl rfl (Val.fieldAddr (j := 7) rfl Ty.fo177_5 rfl rfl) ?_
    refine WP.perm pl1 ?_
    refine WP.eff0 rfl rfl (Eff.storeK (f := fun i => (S19 i).cells) (f' := fun i => (setC S19 z 1 i).cells) rfl Ty.sc175 rfl rfl rfl List.mem_cons_self (show 7 < 8 by decide) (by unfold setC; rw [upd_same]; rfl) (by unfold setC; exact cells_other)) ?_
    rintro _ _ rfl
    show WP _ _ _ _ _ _ _ (Sto (setC S19 z 1) (z :: D) :: _)
    obtain ⟨S26, hS26⟩ : ∃ S26, S26 = setC S19 z 1 := ⟨_, rfl⟩
    rw [← hS26]
    have okS26 : Ok s EL (z :: D) S26 := by rw [hS26]; exact (okS19.setC)
    have k27 : (S26 z).it.b = (S1 z).it.b := (by rw [hS26]; exact (congrArg It.b (setC_it _ _ _ _)).trans k20)
    have k28 : (S26 z).it.e = (S1 z).it.e := (by rw [hS26]; exact (congrArg It.e (setC_it _ _ _ _)).trans k21)
    have k29 : (S26 z).p = y := (by rw [hS26]; exact (setC_p _ _ _ _).trans k22)
    have k30 : (S26 y).it.b = (S1 y).it.b := (by rw [hS26]; exact (congrArg It.b (setC_it _ _ _ _)).trans k23)
    have k31 : (S26 y).it.e = (S1 y).it.e := (by rw [hS26]; exact (congrArg It.e (setC_it _ _ _ _)).trans k24)
    have k32 : (S26 y).l = z := (by rw [hS26]; exact (setC_l _ _ _ _).trans k25)
    have k33 : (S26 z).c = 1 := by rw [hS26]; exact setC_same _ _ _
    refine WP.nx ?_
    refine WPc.sr ?_
    refine WP.val rfl rfl rfl (Val.move rfl rfl) ?_
    refine WP.val rfl rfl rfl (Val.move rfl rfl) ?_
    have hlast : (fx s n k0 S26 root z).2 ∈ z :: D := by have h0 := hio.last; unfold insF at h0; rw [hins] at h0; dsimp only at h0; rw [← hS26] at h0; exact h0
    have hfo : FxOk s n k0 S26 root z := by have h0 := hio.fx; rw [hins] at h0; dsimp only at h0; rw [← hS26] at h0; exact h0
    refine WP.perm pl2 ?_
    refine WP.perm pl1 ?_
    refine WP.perm pl2 ?_
    refine WP.perm pl3 ?_
    refine WP.eff rfl rfl rfl (Eff.call rfl rfl Try.call152 (fx_does EL t0 hE s (z :: D) ZC tb root cnt S26 okS26 (Is.cons hroot) z n k0 List.mem_cons_self hfo hlast)) ?_
    rintro _ _ ⟨_, rfl, rfl⟩
    show WP _ _ _ _ _ _ _ (Blk tb [.pointer (some ⟨(fx s n k0 S26 root z).2, 0, none⟩), .int .i64 (cnt), .pointer (some ⟨s, 0, none⟩)] 180 :: _ :: Sto (setC (fx s n k0 S26 root z).1 (fx s n k0 S26 root z).2 0) (z :: D) :: _)
    obtain ⟨S34, hS34⟩ : ∃ S34, S34 = setC (fx s n k0 S26 root z).1 (fx s n k0 S26 root z).2 0 := ⟨_, rfl⟩
    rw [← hS34]
    have okS34 : Ok s EL (z :: D) S34 := by rw [hS34]; exact (fx_ok okS26 List.mem_cons_self (Is.cons hroot) hfo).setC
    refine WP.nx ?_
    refine WPc.region ?_
    refine WP.val rfl rfl rfl (Val.move rfl rfl) ?_
    refine WP.val rfl rfl rfl (Val.nilCheck rfl rfl) ?_
    refine WP.val rfl rfl rfl (Val.fieldAddr (j := 1) rfl Ty.fo180_1 rfl rfl) ?_
    refine WP.val rfl rfl rfl (Val.load rfl Ty.sc3 rfl (fun w h => h.cell 0 rfl rfl)) ?_
    refine WP.val rfl rfl rfl (Val.add (z := cnt + (1 : Int)) rfl rfl rfl (w64 (by omega) (by omega))) ?_
    refine WP.val rfl rfl rfl (Val.nilCheck rfl rfl) ?_
    refine WP.val rfl rfl rfl (Val.fieldAddr (j := 1) rfl Ty.fo180_1 rfl rfl) ?_
    refine WP.eff0 rfl rfl (Eff.store rfl Ty.sc3 rfl rfl rfl (by simp) st1) ?_
    rintro _ _ rfl
    refine WP.nil ?_
    have hfin : insF s n k0 S root eb ee v z = fx s n k0 S26 root z := by unfold insF; rw [hins]; dsimp only; rw [← hS26]
    exact Out.end0 (L' := _) Try.results138 ⟨z, hzn.1, hzn.2, rfl⟩ (fun w h => by rw [hfin]; rw [hS34] at h; exact h)
   ·
    have h6 : ¬ ((kcmp ((S1 z).it.b).k ((S1 y).it.b).k) < (0 : Int)) := h6
    refine WPc.sr ?_
    refine WP.val rfl rfl rfl (Val.move rfl rfl) ?_
    refine WP.val rfl rfl rfl (Val.eql rfl rfl rfl) ?_
    refine WP.nx ?_
    refine WPc.ifP rfl (fun h7 => ?_) (fun h7 => ?_)
    ·
     have h7 : ((kcmp ((S1 z).it.b).k ((S1 y).it.b).k) = (0 : Int)) := h7
     refine WPc.seq ?_
     refine WPD.s0 Ty.mixed ?_
     refine WPD.tM 0 rfl rfl rfl rfl (Val.move rfl rfl) ?_
     refine WPD.tM 1 rfl rfl rfl rfl (Val.nilCheck rfl rfl) ?_
     refine WPD.tM 2 rfl rfl rfl rfl (Val.fieldAddr (j := 0) rfl Ty.fo177_0 rfl rfl) ?_
     refine WPD.tM 3 rfl rfl rfl rfl (Val.fieldAddr (j := 0) rfl Ty.fo174_0 rfl rfl) ?_
     refine WPD.tM 4 rfl rfl rfl rfl (Val.fieldAddr (j := 1) rfl Ty.fo172_1 rfl rfl) ?_
     refine WPD.tL 5 rfl rfl rfl rfl (fun _ h => h) (Val.load (v := .iface ((S1 z).it.e).t (((S1 z).it.e).u)) rfl Ty.sc170 rfl (fun w h => sto_e (h.at 1 rfl) List.mem_cons_self k4)) ?_
     refine WPD.tM 6 rfl rfl rfl rfl (Val.move rfl rfl) ?_
     refine WPD.tM 7 rfl rfl rfl rfl (Val.nilCheck rfl rfl) ?_
     refine WPD.tM 8 rfl rfl rfl rfl (Val.fieldAddr (j := 0) rfl Ty.fo177_0 rfl rfl) ?_
     refine WPD.tM 9 rfl rfl rfl rfl (Val.fieldAddr (j := 0) rfl Ty.fo174_0 rfl rfl) ?_
     refine WPD.tM 10 rfl rfl rfl rfl (Val.fieldAddr (j := 1) rfl Ty.fo172_1 rfl rfl) ?_
     refine WPD.tL 11 rfl rfl rfl rfl (fun _ h => h) (Val.load (v := .iface ((S1 y).it.e).t (((S1 y).it.e).u)) rfl Ty.sc170 rfl (fun w h => sto_e (h.at 1 rfl) hyD (congrArg It.e ky))) ?_
     refine WPD.tM 12 rfl rfl rfl rfl (Val.nilCheckI rfl rfl) ?_
     refine WPD.tM 13 rfl rfl rfl rfl (Val.move rfl rfl) ?_
     refine WPD.stepC 14 (by kernel_rfl) rfl rfl rfl rfl (by kernel_rfl) (Eff.cmp (a := (S1 z).it.e) (b := (S1 y).it.e) rfl rfl rfl (Ok.e okS1 List.mem_cons_self) (Ok.e okS1 hyD) ((hE _ (Ok.e okS1 List.mem_cons_self)).trans (hE _ (Ok.e okS1 hyD)).symm)) ?_
     rintro _ _ ⟨rfl, rfl⟩
     refine ⟨_, (fun _ h => h), ?_⟩
     refine WPD.tM 15 rfl rfl rfl rfl (Val.lss rfl rfl rfl) ?_
     refine WPD.done (by kernel_rfl) ?_
     refine Out.next ?_
     refine WPc.ifP rfl (fun h8 => ?_) (fun h8 => ?_)
     ·
      have h8 : ((kcmp ((S1 z).it.e).k ((S1 y).it.e).k) < (0 : Int)) := h8
      have hgo : goL S1 z y := goK_2 (by assumption) (by assumption)
      refine WPc.region ?_
      refine WP.val rfl rfl rfl (Val.move rfl rfl) ?_
      refine WP.val rfl rfl rfl (Val.move rfl rfl) ?_
      refine WP.val rfl rfl rfl (Val.nilCheck rfl rfl) ?_
      refine WP.val rfl rfl rfl (Val.fieldAddr (j := 4) rfl Ty.fo177_2 rfl rfl) ?_
      refine WP.perm pl1 ?_
      refine WP.eff0 rfl rfl (Eff.storeK (f := fun i => (S2 i).cells) (f' := fun i => (setL S2 y z i).cells) rfl Ty.sc168 rfl rfl rfl hyD (show 4 < 8 by decide) (by unfold setL; rw [upd_same]; rfl) (by unfold setL; exact cells_other)) ?_
      rintro _ _ rfl
      show WP _ _ _ _ _ _ _ (Sto (setL S2 y z) (z :: D) :: _)
      obtain ⟨S35, hS35⟩ : ∃ S35, S35 = setL S2 y z := ⟨_, rfl⟩
      rw [← hS35]
      have okS35 : Ok s EL (z :: D) S35 := by rw [hS35]; exact (okS2.setL (.inr List.mem_cons_self))
      have k36 : (S35 z).it.b = (S1 z).it.b := (by rw [hS35]; exact (congrArg It.b (setL_it _ _ _ _)).trans k3)
      have k37 : (S35 z).it.e = (S1 z).it.e := (by rw [hS35]; exact (congrArg It.e (setL_it _ _ _ _)).trans k4)
      have k38 : (S35 z).p = y := (by rw [hS35]; exact (setL_p _ _ _ _).trans k5)
      have k39 : (S35 y).it.b = (S1 y).it.b := (by rw [hS35]; exact (congrArg It.b (setL_it _ _ _ _)).trans (congrArg It.b ky))
      have k40 : (S35 y).it.e = (S1 y).it.e := (by rw [hS35]; exact (congrArg It.e (setL_it _ _ _ _)).trans (congrArg It.e ky))
      have k41 : (S35 y).l = z := by rw [hS35]; exact setL_same _ _ _
      refine WP.nx ?_
      refine WPc.region ?_
      refine WP.val rfl rfl rfl (Val.move rfl rfl) ?_
      refine WP.val rfl rfl rfl (Val.move rfl rfl) ?_
      refine WP.val rfl rfl rfl (Val.nilCheck rfl rfl) ?_
      refine WP.val rfl rfl rfl (Val.fieldAddr (j := 2) rfl Ty.fo180_2 rfl rfl) ?_
      refine WP.val rfl rfl rfl (Val.load rfl Ty.sc168 rfl (fun w h => h.cell 2 rfl rfl)) ?_
      refine WP.perm pl3 ?_
      refine WP.perm pl1 ?_
      refine WP.perm pl2 ?_
      refine WP.eff rfl rfl rfl (Eff.call rfl rfl Try.call133 (um_does EL t0 hE s (z :: D) ZC S35 okS35 y n hy (by rw [hS35]; refine Dep.congr (fun i => setL_p _ _ _ _) ?_; have h0 := hio.dl y (by rw [← hS1]; exact hy1) hys; rw [← hS1, ← hS2] at h0; exact h0))) ?_
      rintro _ _ ⟨_, rfl, rfl⟩
      show WP _ _ _ _ _ _ _ (_ :: Sto (um s n S35 y) (z :: D) :: _)
      obtain ⟨S42, hS42⟩ : ∃ S42, S42 = um s n S35 y := ⟨_, rfl⟩
      rw [← hS42]
      have okS42 : Ok s EL (z :: D) S42 := by rw [hS42]; exact (um_ok _ _ _ okS35 hy)
      have k43 : (S42 z).it.b = (S1 z).it.b := (by rw [hS42]; exact (congrArg It.b (OnlyM.it (um_only _ _ _ _) _)).trans k36)
      have k44 : (S42 z).it.e = (S1 z).it.e := (by rw [hS42]; exact (congrArg It.e (OnlyM.it (um_only _ _ _ _) _)).trans k37)
      have k45 : (S42 z).p = y := (by rw [hS42]; exact (OnlyM.p (um_only _ _ _ _) _).trans k38)
      have k46 : (S42 y).it.b = (S1 y).it.b := (by rw [hS42]; exact (congrArg It.b (OnlyM.it (um_only _ _ _ _) _)).trans k39)
      have k47 : (S42 y).it.e = (S1 y).it.e := (by rw [hS42]; exact (congrArg It.e (OnlyM.it (um_only _ _ _ _) _)).trans k40)
      have k48 : (S42 y).l = z := (by rw [hS42]; exact (OnlyM.l (um_only _ _ _ _) _).trans k41)
      refine WP.nx ?_
      refine WPc.seq ?_
      have hins : insS s n k0 S root eb ee v z = (S42, root) := by
       unfold insS; rw [← hS1, ← hy1]; refine (hang_l hys hgo).trans ?_
       rw [← hS2, ← hS35, ← hS42]
      refine WPc.region ?_
      refine WP.val rfl rfl rfl (Val.move rfl rfl) ?_
      refine WP.val rfl rfl rfl (Val.nilCheck rfl rfl) ?_
      refine WP.val rfl rfl rfl (Val.fieldAddr (j := 7) rfl Ty.fo177_5 rfl rfl) ?_
      refine WP.perm pl1 ?_
      refine WP.eff0 rfl rfl (Eff.storeK (f := fun i => (S42 i).cells) (f' := fun i => (setC S42 z 1 i).cells) rfl Ty.sc175 rfl rfl rfl List.mem_cons_self (show 7 < 8 by decide) (by unfold setC; rw [upd_same]; rfl) (by unfold setC; exact cells_other)) ?_
      rintro _ _ rfl
      show WP _ _ _ _ _ _ _ (Sto (setC S42 z 1) (z :: D) :: _)
      obtain ⟨S49, hS49⟩ : ∃ S49, S49 = setC S42 z 1 := ⟨_, rfl⟩
      rw [← hS49]
      have okS49 : Ok s EL (z :: D) S49 := by rw [hS49]; exact (okS42.setC)
      have k50 : (S49 z).it.b = (S1 z).it.b := (by rw [hS49]; exact (congrArg It.b (setC_it _ _ _ _)).trans k43)
      have k51 : (S49 z).it.e = (S1 z).it.e := (by rw [hS49]; exact (congrArg It.e (setC_it _ _ _ _)).trans k44)
      have k52 : (S49 z).p = y := (by rw [hS49]; exact (setC_p _ _ _ _).trans k45)
      have k53 : (S49 y).it.b = (S1 y).it.b := (by rw [hS49]; exact (congrArg It.b (setC_it _ _ _ _)).trans k46)
      have k54 : (S49 y).it.e = (S1 y).it.e := (by rw [hS49]; exact (congrArg It.e (setC_it _ _ _ _)).trans k47)
      have k55 : (S49 y).l = z := (by rw [hS49]; exact (setC_l _ _ _ _).trans k48)
      have k56 : (S49 z).c = 1 := by rw [hS49]; exact setC_same _ _ _
      refine WP.nx ?_
      refine WPc.sr ?_
      refine WP.val rfl rfl rfl (Val.move rfl rfl) ?_
      refine WP.val rfl rfl rfl (Val.move rfl rfl) ?_
      have hlast : (fx s n k0 S49 root z).2 ∈ z :: D := by have h0 := hio.last; unfold insF at h0; rw [hins] at h0; dsimp only at h0; rw [← hS49] at h0; exact h0
      have hfo : FxOk s n k0 S49 root z := by have h0 := hio.fx; rw [hins] at h0; dsimp only at h0; rw [← hS49] at h0; exact h0
      refine WP.perm pl2 ?_
      refine WP.perm pl1 ?_
      refine WP.perm pl2 ?_
      refine WP.perm pl3 ?_
      refine WP.eff rfl rfl rfl (Eff.call rfl rfl Try.call152 (fx_does EL t0 hE s (z :: D) ZC tb root cnt S49 okS49 (Is.cons hroot) z n k0 List.mem_cons_self hfo hlast)) ?_
      rintro _ _ ⟨_, rfl, rfl⟩
      show WP _ _ _ _ _ _ _ (Blk tb [.pointer (some ⟨(fx s n k0 S49 root z).2, 0, none⟩), .int .i64 (cnt), .pointer (some ⟨s, 0, none⟩)] 180 :: _ :: Sto (setC (fx s n k0 S49 root z).1 (fx s n k0 S49 root z).2 0) (z :: D) :: _)
      obtain ⟨S57, hS57⟩ : ∃ S57, S57 = setC (fx s n k0 S49 root z).1 (fx s n k0 S49 root z).2 0 := ⟨_, rfl⟩
      rw [← hS57]
      have okS57 : Ok s EL (z :: D) S57 := by rw [hS57]; exact (fx_ok okS49 List.mem_cons_self (Is.cons hroot) hfo).setC
      refine WP.nx ?_
      refine WPc.region ?_
      refine WP.val rfl rfl rfl (Val.move rfl rfl) ?_
      refine WP.val rfl rfl rfl (Val.nilCheck rfl rfl) ?_
      refine WP.val rfl rfl rfl (Val.fieldAddr (j := 1) rfl Ty.fo180_1 rfl rfl) ?_
      refine WP.val rfl rfl rfl (Val.load rfl Ty.sc3 rfl (fun w h => h.cell 0 rfl rfl)) ?_
      refine WP.val rfl rfl rfl (Val.add (z := cnt + (1 : Int)) rfl rfl rfl (w64 (by omega) (by omega))) ?_
      refine WP.val rfl rfl rfl (Val.nilCheck rfl rfl) ?_
      refine WP.val rfl rfl rfl (Val.fieldAddr (j := 1) rfl Ty.fo180_1 rfl rfl) ?_
      refine WP.eff0 rfl rfl (Eff.store rfl Ty.sc3 rfl rfl rfl (by simp) st1) ?_
      rintro _ _ rfl
      refine WP.nil ?_
      have hfin : insF s n k0 S root eb ee v z = fx s n k0 S49 root z := by unfold insF; rw [hins]; dsimp only; rw [← hS49]
      exact Out.end0 (L' := _) Try.results138 ⟨z, hzn.1, hzn.2, rfl⟩ (fun w h => by rw [hfin]; rw [hS57] at h; exact h)
     ·
      have h8 : ¬ ((kcmp ((S1 z).it.e).k ((S1 y).it.e).k) < (0 : Int)) := h8
      have hgo : ¬ goL S1 z y := goK_3 (by assumption) (by assumption)
      refine WPc.region ?_
      refine WP.val rfl rfl rfl (Val.move rfl rfl) ?_
      refine WP.val rfl rfl rfl (Val.move rfl rfl) ?_
      refine WP.val rfl rfl rfl (Val.nilCheck rfl rfl) ?_
      refine WP.val rfl rfl rfl (Val.fieldAddr (j := 5) rfl Ty.fo177_3 rfl rfl) ?_
      refine WP.perm pl1 ?_
      refine WP.eff0 rfl rfl (Eff.storeK (f := fun i => (S2 i).cells) (f' := fun i => (setR S2 y z i).cells) rfl Ty.sc168 rfl rfl rfl hyD (show 5 < 8 by decide) (by unfold setR; rw [upd_same]; rfl) (by unfold setR; exact cells_other)) ?_
      rintro _ _ rfl
      show WP _ _ _ _ _ _ _ (Sto (setR S2 y z) (z :: D) :: _)
      obtain ⟨S58, hS58⟩ : ∃ S58, S58 = setR S2 y z := ⟨_, rfl⟩
      rw [← hS58]
      have okS58 : Ok s EL (z :: D) S58 := by rw [hS58]; exact (okS2.setR (.inr List.mem_cons_self))
      have k59 : (S58 z).it.b = (S1 z).it.b := (by rw [hS58]; exact (congrArg It.b (setR_it _ _ _ _)).trans k3)
      have k60 : (S58 z).it.e = (S1 z).it.e := (by rw [hS58]; exact (congrArg It.e (setR_it _ _ _ _)).trans k4)
      have k61 : (S58 z).p = y := (by rw [hS58]; exact (setR_p _ _ _ _).trans k5)
      have k62 : (S58 y).it.b = (S1 y).it.b := (by rw [hS58]; exact (congrArg It.b (setR_it _ _ _ _)).trans (congrArg It.b ky))
      have k63 : (S58 y).it.e = (S1 y).it.e := (by rw [hS58]; exact (congrArg It.e (setR_it _ _ _ _)).trans (congrArg It.e ky))
      have k64 : (S58 y).r = z := by rw [hS58]; exact setR_same _ _ _
      refine WP.nx ?_
      refine WPc.region ?_
      refine WP.val rfl rfl rfl (Val.move rfl rfl) ?_
      refine WP.val rfl rfl rfl (Val.move rfl rfl) ?_
      refine WP.val rfl rfl rfl (Val.nilCheck rfl rfl) ?_
      refine WP.val rfl rfl rfl (Val.fieldAddr (j := 2) rfl Ty.fo180_2 rfl rfl) ?_
      refine WP.val rfl rfl rfl (Val.load rfl Ty.sc168 rfl (fun w h => h.cell 2 rfl rfl)) ?_
      refine WP.perm pl3 ?_
      refine WP.perm pl1 ?_
      refine WP.perm pl2 ?_
      refine WP.eff rfl rfl rfl (Eff.call rfl rfl Try.call133 (um_does EL t0 hE s (z :: D) ZC S58 okS58 y n hy (by rw [hS58]; refine Dep.congr (fun i => setR_p _ _ _ _) ?_; have h0 := hio.dl y (by rw [← hS1]; exact hy1) hys; rw [← hS1, ← hS2] at h0; exact h0))) ?_
      rintro _ _ ⟨_, rfl, rfl⟩
      show WP _ _ _ _ _ _ _ (_ :: Sto (um s n S58 y) (z :: D) :: _)
      obtain ⟨S65, hS65⟩ : ∃ S65, S65 = um s n S58 y := ⟨_, rfl⟩
      rw [← hS65]
      have okS65 : Ok s EL (z :: D) S65 := by rw [hS65]; exact (um_ok _ _ _ okS58 hy)
      have k66 : (S65 z).it.b = (S1 z).it.b := (by rw [hS65]; exact (congrArg It.b (OnlyM.it (um_only _ _ _ _) _)).trans k59)
      have k67 : (S65 z).it.e = (S1 z).it.e := (by rw [hS65]; exact (congrArg It.e (OnlyM.it (um_only _ _ _ _) _)).trans k60)
      have k68 : (S65 z).p = y := (by rw [hS65]; exact (OnlyM.p (um_only _ _ _ _) _).trans k61)
      have k69 : (S65 y).it.b = (S1 y).it.b := (by rw [hS65]; exact (congrArg It.b (OnlyM.it (um_only _ _ _ _) _)).trans k62)
      have k70 : (S65 y).it.e = (S1 y).it.e := (by rw [hS65]; exact (congrArg It.e (OnlyM.it (um_only _ _ _ _) _)).trans k63)
      have k71 : (S65 y).r = z := (by rw [hS65]; exact (OnlyM.r (um_only _ _ _ _) _).trans k64)
      refine WP.nx ?_
      refine WPc.seq ?_
      have hins : insS s n k0 S root eb ee v z = (S65, root) := by
       unfold insS; rw [← hS1, ← hy1]; refine (hang_r hys hgo).trans ?_
       rw [← hS2, ← hS58, ← hS65]
      refine WPc.region ?_
      refine WP.val rfl rfl rfl (Val.move rfl rfl) ?_
      refine WP.val rfl rfl rfl (Val.nilCheck rfl rfl) ?_
      refine WP.val rfl rfl rfl (Val.fieldAddr (j := 7) rfl Ty.fo177_5 rfl rfl) ?_
      refine WP.perm pl1 ?_
      refine WP.eff0 rfl rfl (Eff.storeK (f := fun i => (S65 i).cells) (f' := fun i => (setC S65 z 1 i).cells) rfl Ty.sc175 rfl rfl rfl List.mem_cons_self (show 7 < 8 by decide) (by unfold setC; rw [upd_same]; rfl) (by unfold setC; exact cells_other)) ?_
      rintro _ _ rfl
      show WP _ _ _ _ _ _ _ (Sto (setC S65 z 1) (z :: D) :: _)
      obtain ⟨S72, hS72⟩ : ∃ S72, S72 = setC S65 z 1 := ⟨_, rfl⟩
      rw [← hS72]
      have okS72 : Ok s EL (z :: D) S72 := by rw [hS72]; exact (okS65.setC)
      have k73 : (S72 z).it.b = (S1 z).it.b := (by rw [hS72]; exact (congrArg It.b (setC_it _ _ _ _)).trans k66)
      have k74 : (S72 z).it.e = (S1 z).it.e := (by rw [hS72]; exact (congrArg It.e (setC_it _ _ _ _)).trans k67)
      have k75 : (S72 z).p = y := (by rw [hS72]; exact (setC_p _ _ _ _).trans k68)
      have k76 : (S72 y).it.b = (S1 y).it.b := (by rw [hS72]; exact (congrArg It.b (setC_it _ _ _ _)).trans k69)
      have k77 : (S72 y).it.e = (S1 y).it.e := (by rw [hS72]; exact (congrArg It.e (setC_it _ _ _ _)).trans k70)
      have k78 : (S72 y).r = z := (by rw [hS72]; exact (setC_r _ _ _ _).trans k71)
      have k79 : (S72 z).c = 1 := by rw [hS72]; exact setC_same _ _ _
      refine WP.nx ?_
      refine WPc.sr ?_
      refine WP.val rfl rfl rfl (Val.move rfl rfl) ?_
      refine WP.val rfl rfl rfl (Val.move rfl rfl) ?_
      have hlast : (fx s n k0 S72 root z).2 ∈ z :: D := by have h0 := hio.last; unfold insF at h0; rw [hins] at h0; dsimp only at h0; rw [← hS72] at h0; exact h0
      have hfo : FxOk s n k0 S72 root z := by have h0 := hio.fx; rw [hins] at h0; dsimp only at h0; rw [← hS72] at h0; exact h0
      refine WP.perm pl2 ?_
      refine WP.perm pl1 ?_
      refine WP.perm pl2 ?_
      refine WP.perm pl3 ?_
      refine WP.eff rfl rfl rfl (Eff.call rfl rfl Try.call152 (fx_does EL t0 hE s (z :: D) ZC tb root cnt S72 okS72 (Is.cons hroot) z n k0 List.mem_cons_self hfo hlast)) ?_
      rintro _ _ ⟨_, rfl, rfl⟩
      show WP _ _ _ _ _ _ _ (Blk tb [.pointer (some ⟨(fx s n k0 S72 root z).2, 0, none⟩), .int .i64 (cnt), .pointer (some ⟨s, 0, none⟩)] 180 :: _ :: Sto (setC (fx s n k0 S72 root z).1 (fx s n k0 S72 root z).2 0) (z :: D) :: _)
      obtain ⟨S80, hS80⟩ : ∃ S80, S80 = setC (fx s n k0 S72 root z).1 (fx s n k0 S72 root z).2 0 := ⟨_, rfl⟩
      rw [← hS80]
      have okS80 : Ok s EL (z :: D) S80 := by rw [hS80]; exact (fx_ok okS72 List.mem_cons_self (Is.cons hroot) hfo).setC
      refine WP.nx ?_
      refine WPc.region ?_
      refine WP.val rfl rfl rfl (Val.move rfl rfl) ?_
      refine WP.val rfl rfl rfl (Val.nilCheck rfl rfl) ?_
      refine WP.val rfl rfl rfl (Val.fieldAddr (j := 1) rfl Ty.fo180_1 rfl rfl) ?_
      refine WP.val rfl rfl rfl (Val.load rfl Ty.sc3 rfl (fun w h => h.cell 0 rfl rfl)) ?_
      refine WP.val rfl rfl rfl (Val.add (z := cnt + (1 : Int)) rfl rfl rfl (w64 (by omega) (by omega))) ?_
      refine WP.val rfl rfl rfl (Val.nilCheck rfl rfl) ?_
      refine WP.val rfl rfl rfl (Val.fieldAddr (j := 1) rfl Ty.fo180_1 rfl rfl) ?_
      refine WP.eff0 rfl rfl (Eff.store rfl Ty.sc3 rfl rfl rfl (by simp) st1) ?_
      rintro _ _ rfl
      refine WP.nil ?_
      have hfin : insF s n k0 S root eb ee v z = fx s n k0 S72 root z := by unfold insF; rw [hins]; dsimp only; rw [← hS72]
      exact Out.end0 (L' := _) Try.results138 ⟨z, hzn.1, hzn.2, rfl⟩ (fun w h => by rw [hfin]; rw [hS80] at h; exact h)
    ·
     have h7 : ¬ ((kcmp ((S1 z).it.b).k ((S1 y).it.b).k) = (0 : Int)) := h7
     have hgo : ¬ goL S1 z y := goK_4 (by assumption) (by assumption)
     refine WPc.region ?_
     refine WP.val rfl rfl rfl (Val.move rfl rfl) ?_
     refine WP.val rfl rfl rfl (Val.move rfl rfl) ?_
     refine WP.val rfl rfl rfl (Val.nilCheck rfl rfl) ?_
     refine WP.val rfl rfl rfl (Val.fieldAddr (j := 5) rfl Ty.fo177_3 rfl rfl) ?_
     refine WP.perm pl1 ?_
     refine WP.eff0 rfl rfl (Eff.storeK (f := fun i => (S2 i).cells) (f' := fun i => (setR S2 y z i).cells) rfl Ty.sc168 rfl rfl rfl hyD (show 5 < 8 by decide) (by unfold setR; rw [upd_same]; rfl) (by unfold setR; exact cells_other)) ?_
     rintro _ _ rfl
     show WP _ _ _ _ _ _ _ (Sto (setR S2 y z) (z :: D) :: _)
     obtain ⟨S81, hS81⟩ : ∃ S81, S81 = setR S2 y z := ⟨_, rfl⟩
     rw [← hS81]
     have okS81 : Ok s EL (z :: D) S81 := by rw [hS81]; exact (okS2.setR (.inr List.mem_cons_self))
     have k82 : (S81 z).it.b = (S1 z).it.b := (by rw [hS81]; exact (congrArg It.b (setR_it _ _ _ _)).trans k3)
     have k83 : (S81 z).it.e = (S1 z).it.e := (by rw [hS81]; exact (congrArg It.e (setR_it _ _ _ _)).trans k4)
     have k84 : (S81 z).p = y := (by rw [hS81]; exact (setR_p _ _ _ _).trans k5)
     have k85 : (S81 y).it.b = (S1 y).it.b := (by rw [hS81]; exact (congrArg It.b (setR_it _ _ _ _)).trans (congrArg It.b ky))
     have k86 : (S81 y).it.e = (S1 y).it.e := (by rw [hS81]; exact (congrArg It.e (setR_it _ _ _ _)).trans (congrArg It.e ky))
     have k87 : (S81 y).r = z := by rw [hS81]; exact setR_same _ _ _
     refine WP.nx ?_
     refine WPc.region ?_
     refine WP.val rfl rfl rfl (Val.move rfl rfl) ?_
     refine WP.val rfl rfl rfl (Val.move rfl rfl) ?_
     refine WP.val rfl rfl rfl (Val.nilCheck rfl rfl) ?_
     refine WP.val rfl rfl rfl (Val.fieldAddr (j := 2) rfl Ty.fo180_2 rfl rfl) ?_
     refine WP.val rfl rfl rfl (Val.load rfl Ty.sc168 rfl (fun w h => h.cell 2 rfl rfl)) ?_
     refine WP.perm pl3 ?_
     refine WP.perm pl1 ?_
     refine WP.perm pl2 ?_
     refine WP.eff rfl rfl rfl (Eff.call rfl rfl Try.call133 (um_does EL t0 hE s (z :: D) ZC S81 okS81 y n hy (by rw [hS81]; refine Dep.congr (fun i => setR_p _ _ _ _) ?_; have h0 := hio.dl y (by rw [← hS1]; exact hy1) hys; rw [← hS1, ← hS2] at h0; exact h0))) ?_
     rintro _ _ ⟨_, rfl, rfl⟩
     show WP _ _ _ _ _ _ _ (_ :: Sto (um s n S81 y) (z :: D) :: _)
     obtain ⟨S88, hS88⟩ : ∃ S88, S88 = um s n S81 y := ⟨_, rfl⟩
     rw [← hS88]
     have okS88 : Ok s EL (z :: D) S88 := by rw [hS88]; exact (um_ok _ _ _ okS81 hy)
     have k89 : (S88 z).it.b = (S1 z).it.b := (by rw [hS88]; exact (congrArg It.b (OnlyM.it (um_only _ _ _ _) _)).trans k82)
     have k90 : (S88 z).it.e = (S1 z).it.e := (by rw [hS88]; exact (congrArg It.e (OnlyM.it (um_only _ _ _ _) _)).trans k83)
     have k91 : (S88 z).p = y := (by rw [hS88]; exact (OnlyM.p (um_only _ _ _ _) _).trans k84)
     have k92 : (S88 y).it.b = (S1 y).it.b := (by rw [hS88]; exact (congrArg It.b (OnlyM.it (um_only _ _ _ _) _)).trans k85)
     have k93 : (S88 y).it.e = (S1 y).it.e := (by rw [hS88]; exact (congrArg It.e (OnlyM.it (um_only _ _ _ _) _)).trans k86)
     have k94 : (S88 y).r = z := (by rw [hS88]; exact (OnlyM.r (um_only _ _ _ _) _).trans k87)
     refine WP.nx ?_
     refine WPc.seq ?_
     have hins : insS s n k0 S root eb ee v z = (S88, root) := by
      unfold insS; rw [← hS1, ← hy1]; refine (hang_r hys hgo).trans ?_
      rw [← hS2, ← hS81, ← hS88]
     refine WPc.region ?_
     refine WP.val rfl rfl rfl (Val.move rfl rfl) ?_
     refine WP.val rfl rfl rfl (Val.nilCheck rfl rfl) ?_
     refine WP.val rfl rfl rfl (Val.fieldAddr (j := 7) rfl Ty.fo177_5 rfl rfl) ?_
     refine WP.perm pl1 ?_
     refine WP.eff0 rfl rfl (Eff.storeK (f := fun i => (S88 i).cells) (f' := fun i => (setC S88 z 1 i).cells) rfl Ty.sc175 rfl rfl rfl List.mem_cons_self (show 7 < 8 by decide) (by unfold setC; rw [upd_same]; rfl) (by unfold setC; exact cells_other)) ?_
     rintro _ _ rfl
     show WP _ _ _ _ _ _ _ (Sto (setC S88 z 1) (z :: D) :: _)
     obtain ⟨S95, hS95⟩ : ∃ S95, S95 = setC S88 z 1 := ⟨_, rfl⟩
     rw [← hS95]
     have okS95 : Ok s EL (z :: D) S95 := by rw [hS95]; exact (okS88.setC)
     have k96 : (S95 z).it.b = (S1 z).it.b := (by rw [hS95]; exact (congrArg It.b (setC_it _ _ _ _)).trans k89)
     have k97 : (S95 z).it.e = (S1 z).it.e := (by rw [hS95]; exact (congrArg It.e (setC_it _ _ _ _)).trans k90)
     have k98 : (S95 z).p = y := (by rw [hS95]; exact (setC_p _ _ _ _).trans k91)
     have k99 : (S95 y).it.b = (S1 y).it.b := (by rw [hS95]; exact (congrArg It.b (setC_it _ _ _ _)).trans k92)
     have k100 : (S95 y).it.e = (S1 y).it.e := (by rw [hS95]; exact (congrArg It.e (setC_it _ _ _ _)).trans k93)
     have k101 : (S95 y).r = z := (by rw [hS95]; exact (setC_r _ _ _ _).trans k94)
     have k102 : (S95 z).c = 1 := by rw [hS95]; exact setC_same _ _ _
     refine WP.nx ?_
     refine WPc.sr ?_
     refine WP.val rfl rfl rfl (Val.move rfl rfl) ?_
     refine WP.val rfl rfl rfl (Val.move rfl rfl) ?_
     have hlast : (fx s n k0 S95 root z).2 ∈ z :: D := by have h0 := hio.last; unfold insF at h0; rw [hins] at h0; dsimp only at h0; rw [← hS95] at h0; exact h0
     have hfo : FxOk s n k0 S95 root z := by have h0 := hio.fx; rw [hins] at h0; dsimp only at h0; rw [← hS95] at h0; exact h0
     refine WP.perm pl2 ?_
     refine WP.perm pl1 ?_
     refine WP.perm pl2 ?_
     refine WP.perm pl3 ?_
     refine WP.eff rfl rfl rfl (Eff.call rfl rfl Try.call152 (fx_does EL t0 hE s (z :: D) ZC tb root cnt S95 okS95 (Is.cons hroot) z n k0 List.mem_cons_self hfo hlast)) ?_
     rintro _ _ ⟨_, rfl, rfl⟩
     show WP _ _ _ _ _ _ _ (Blk tb [.pointer (some ⟨(fx s n k0 S95 root z).2, 0, none⟩), .int .i64 (cnt), .pointer (some ⟨s, 0, none⟩)] 180 :: _ :: Sto (setC (fx s n k0 S95 root z).1 (fx s n k0 S95 root z).2 0) (z :: D) :: _)
     obtain ⟨S103, hS103⟩ : ∃ S103, S103 = setC (fx s n k0 S95 root z).1 (fx s n k0 S95 root z).2 0 := ⟨_, rfl⟩
     rw [← hS103]
     have okS103 : Ok s EL (z :: D) S103 := by rw [hS103]; exact (fx_ok okS95 List.mem_cons_self (Is.cons hroot) hfo).setC
     refine WP.nx ?_
     refine WPc.region ?_
     refine WP.val rfl rfl rfl (Val.move rfl rfl) ?_
     refine WP.val rfl rfl rfl (Val.nilCheck rfl rfl) ?_
     refine WP.val rfl rfl rfl (Val.fieldAddr (j := 1) rfl Ty.fo180_1 rfl rfl) ?_
     refine WP.val rfl rfl rfl (Val.load rfl Ty.sc3 rfl (fun w h => h.cell 0 rfl rfl)) ?_
     refine WP.val rfl rfl rfl (Val.add (z := cnt + (1 : Int)) rfl rfl rfl (w64 (by omega) (by omega))) ?_
     refine WP.val rfl rfl rfl (Val.nilCheck rfl rfl) ?_
     refine WP.val rfl rfl rfl (Val.fieldAddr (j := 1) rfl Ty.fo180_1 rfl rfl) ?_
     refine WP.eff0 rfl rfl (Eff.store rfl Ty.sc3 rfl rfl rfl (by simp) st1) ?_
     rintro _ _ rfl
     refine WP.nil ?_
     have hfin : insF s n k0 S root eb ee v z = fx s n k0 S95 root z := by unfold insF; rw [hins]; dsimp only; rw [← hS95]
     exact Out.end0 (L' := _) Try.results138 ⟨z, hzn.1, hzn.2, rfl⟩ (fun w h => by rw [hfin]; rw [hS103] at h; exact h)

end Go.Proofs.Ytbomnihiapjmpaa.Tj

namespace Go.Proofs.Ytbomnihiapjmpaa.TrP
open Go.RowKit Go.Lib Go.Proofs.Ytbomnihiapjmpaa Go.Proofs.Ytbomnihiapjmpaa.Sl
set_option linter.unusedVariables false
set_option linter.unusedSimpArgs false
set_option linter.unusedSectionVars false
/-! ## a place in a tree that lies in the store -/
structure Z (s root : Nat) (S : St) (fs : Ctx) (t : T) (z : Nat) : Prop where
  rc : RC s root S fs z t.mx
  rm : RM s S t z (par s fs)
  nd : (t.ids ++ cids fs).Nodup
theorem ne_mem {l : List Nat} {a b : Nat} (ha : a ∈ l) (hb : b ∉ l) : a ≠ b := fun e => hb (e ▸ ha)
theorem Dep_RC {s root : Nat} {S : St} : ∀ {fs : Ctx} {h : Nat} {km : Option Ky}, RC s root S fs h km → Dep s S fs.length (par s fs)
  | [], _, _, _ => rfl
  | f :: fs, _, _, h => by
    obtain ⟨-, -, -, h4, -, -, h7⟩ := h
    refine .inr ?_
    show Dep s S fs.length (S f.i).p
    rw [h4]
    exact Dep_RC h7
theorem RM_reP {s : Nat} {S : St} {t : T} {q p p' : Nat} (h : RM s S t q p) (hn : t.ids.Nodup) : RM s (if q ≠ s then setP S q p' else S) t q p' := by
  cases t with
  | leaf =>
    obtain rfl : q = s := h
    exact rfl
  | node i l x c r =>
    obtain ⟨rfl, h2, h3, h4, h5, h6, h7, h8⟩ := h
    rw [if_pos h2]
    have hn' := List.nodup_cons.1 hn
    have hc : ∀ j ∈ l.ids ++ r.ids, setP S q p' j = S j := fun j hj => setP_oth S p' (fun e => hn'.1 (e ▸ hj))
    refine ⟨rfl, h2, ?_, ?_, setP_same S q p', ?_, ?_, ?_⟩
    · rw [setP_it]; exact h3
    · rw [setP_c]; exact h4
    · rw [setP_m]; exact h6
    · rw [setP_l]; exact RM_congr (fun j hj => hc j (List.mem_append_left _ hj)) h7
    · rw [setP_r]; exact RM_congr (fun j hj => hc j (List.mem_append_right _ hj)) h8
theorem RM_ns {s : Nat} {S : St} : ∀ {t : T} {q p : Nat}, RM s S t q p → s ∉ t.ids
  | .leaf, _, _, _ => by simp [T.ids]
  | .node i l x c r, q, p, h => by
    obtain ⟨rfl, h2, h3, h4, h5, h6, h7, h8⟩ := h
    simp only [T.ids, List.mem_cons, List.mem_append, not_or]
    exact ⟨Ne.symm h2, RM_ns h7, RM_ns h8⟩
theorem RC_ns {s root : Nat} {S : St} : ∀ {fs : Ctx} {h : Nat} {km : Option Ky}, RC s root S fs h km → s ∉ cids fs
  | [], _, _, _ => by simp [cids]
  | f :: fs, _, _, h => by
    obtain ⟨h1, -, -, -, -, h6, h7⟩ := h
    simp only [cids, List.mem_cons, List.mem_append, not_or]
    refine ⟨Ne.symm h1, ?_, RC_ns h7⟩
    unfold Side at h6
    split at h6
    · exact RM_ns h6.2
    · exact RM_ns h6.2
/-- y in x's place -/
theorem rp_spec {s n root x y : Nat} {S : St} {fs : Ctx} {km : Option Ky} (hrc : RC s root S fs x km) (hp : (S x).p = par s fs) (hxs : x ≠ s) (hys : y ≠ s) (hxy : x ≠ y) (hx : x ∉ cids fs) (hy : y ∉ cids fs) (hnd : (cids fs).Nodup) (hn : fs.length < n) :
    RC s (rp s n S root x y).2 (rp s n S root x y).1 fs y (some (S y).m.k) ∧ ((rp s n S root x y).1 x = { S x with p := y }) ∧ ((rp s n S root x y).1 y = { S y with p := par s fs }) ∧ (∀ i, i ≠ x → i ≠ y → i ∉ spine fs → (rp s n S root x y).1 i = S i) := by
  cases fs with
  | nil =>
    have h0 : (S x).p = s := hp
    rw [rp_top h0]
    refine ⟨rfl, ?_, ?_, fun i h1 h2 _ => ?_⟩
    · show upd (setP S y (S x).p) x _ x = _
      rw [upd_same, setP_oth _ _ hxy]
    · show setP (setP S y (S x).p) x y y = _
      rw [setP_oth _ _ (Ne.symm hxy)]
      show upd S y _ y = _
      rw [upd_same, h0]; rfl
    · show setP (setP S y (S x).p) x y i = S i
      rw [setP_oth _ _ h1, setP_oth _ _ h2]
  | cons f fs =>
    have hpf : (S x).p = f.i := hp
    obtain ⟨h1, h2, h3, h4, h5, h6, h7⟩ := hrc
    have hxf : x ≠ f.i := fun e => hx (e ▸ List.mem_cons_self)
    have hyf : y ≠ f.i := fun e => hy (e ▸ List.mem_cons_self)
    have hxsib : x ∉ f.sib.ids := fun h => hx (List.mem_cons_of_mem _ (List.mem_append_left _ h))
    have hysib : y ∉ f.sib.ids := fun h => hy (List.mem_cons_of_mem _ (List.mem_append_left _ h))
    have hxfs : x ∉ cids fs := fun h => hx (List.mem_cons_of_mem _ (List.mem_append_right _ h))
    have hyfs : y ∉ cids fs := fun h => hy (List.mem_cons_of_mem _ (List.mem_append_right _ h))
    simp only [cids, List.nodup_cons, List.mem_append, not_or] at hnd
    obtain ⟨⟨hfs, hff⟩, hnd2⟩ := hnd
    have hndf : (cids fs).Nodup := (List.nodup_append.1 hnd2).2.1
    have hdis : ∀ a ∈ f.sib.ids, ∀ b ∈ cids fs, a ≠ b := (List.nodup_append.1 hnd2).2.2
    have hps : (S x).p ≠ s := by rw [hpf]; exact h1
    -- the store ahead of updateMax, in both arms
    have key : ∀ S2 : St, (∀ i, i ≠ y → i ≠ f.i → S2 i = S i) → S2 y = { S y with p := f.i } → (S2 f.i).it = f.x → (S2 f.i).c = col f.c → (S2 f.i).p = par s fs → (S2 f.i).m.k = f.mx km → Side s S2 f y →
        RC s root (setP (um s n S2 f.i) x y) (f :: fs) y (some (S y).m.k) ∧ (setP (um s n S2 f.i) x y x = { S x with p := y }) ∧ (setP (um s n S2 f.i) x y y = { S y with p := f.i }) ∧ (∀ i, i ≠ x → i ≠ y → i ∉ spine (f :: fs) → setP (um s n S2 f.i) x y i = S i) := by
      intro S2 k1 k2 k3 k4 k5 k6 k7
      have c2 : ∀ j ∈ cids fs, S2 j = S j := fun j hj => k1 j (fun e => hyfs (e ▸ hj)) (fun e => hff (e ▸ hj))
      have hrc2 : RC s root S2 fs f.i (some (S2 f.i).m.k) := by rw [k6]; exact RC_congr c2 h7
      obtain ⟨u1, u2, u3, u4⟩ := um_spec s root fs n S2 f.i (by simp at hn; omega) h1 hff hndf hrc2 k5
      have hxsp : x ∉ spine fs := fun h => hxfs (spine_sub h)
      have hysp : y ∉ spine fs := fun h => hyfs (spine_sub h)
      have ux : um s n S2 f.i x = S x := by rw [u3 x hxf hxsp]; exact k1 x hxy hxf
      have uy : um s n S2 f.i y = { S y with p := f.i } := by rw [u3 y hyf hysp]; exact k2
      have hm2y : (S2 y).m = (S y).m := by rw [k2]
      have hkey : (newm s S2 f.i).k = f.mx (some (S y).m.k) := by
        rw [newm_k, k3]
        unfold Fr.mx
        unfold Side at k7
        have a1 : okey (chm s S2 y) = some (S y).m.k := by unfold chm okey; rw [if_neg hys]; simp [hm2y]
        split at k7
        · rename_i hl; rw [if_pos hl, k7.1, a1, RM_mx k7.2]
        · rename_i hl; rw [if_neg hl, k7.1, a1, RM_mx k7.2]
      have e3 : ∀ i, i ≠ x → setP (um s n S2 f.i) x y i = um s n S2 f.i i := fun i hi => setP_oth _ _ hi
      refine ⟨⟨h1, ?_, ?_, ?_, ?_, ?_, ?_⟩, ?_, ?_, ?_⟩
      · rw [e3 _ (Ne.symm hxf), u4.it]; exact k3
      · rw [e3 _ (Ne.symm hxf), u4.c]; exact k4
      · rw [e3 _ (Ne.symm hxf), u4.p]; exact k5
      · rw [e3 _ (Ne.symm hxf), u1, hkey]
      · have hss : ∀ j ∈ f.sib.ids, setP (um s n S2 f.i) x y j = S2 j := fun j hj => by
          rw [e3 j (fun e => hxsib (e ▸ hj)), u3 j (fun e => hfs (e ▸ hj)) (fun h => hdis j hj j (spine_sub h) rfl)]
        unfold Side at *
        rw [e3 _ (Ne.symm hxf), u4.l, u4.r]
        split at k7
        · rename_i hl; rw [if_pos hl]; exact ⟨k7.1, RM_congr hss k7.2⟩
        · rename_i hl; rw [if_neg hl]; exact ⟨k7.1, RM_congr hss k7.2⟩
      · rw [← hkey]
        exact RC_congr (fun j hj => e3 j (fun e => hxfs (e ▸ hj))) u2
      · show upd (um s n S2 f.i) x _ x = _
        rw [upd_same, ux]
      · rw [e3 y (Ne.symm hxy), uy]
      · intro i hi1 hi2 hi3
        have hif : i ≠ f.i := fun e => hi3 (e ▸ List.mem_cons_self)
        rw [e3 i hi1, u3 i hif (fun h => hi3 (List.mem_cons_of_mem _ h)), k1 i hi2 hif]
    have hSs : ∀ j ∈ f.sib.ids, S j = S j := fun _ _ => rfl
    by_cases hl : f.left = true
    · unfold Side at h6
      rw [if_pos hl] at h6
      have hx1 : x = (S (S x).p).l := by rw [hpf]; exact h6.1.symm
      rw [rp_left hps hx1, hpf]
      refine key _ (fun i h1' h2' => by rw [setL_oth _ _ h2', setP_oth _ _ h1']) ?_ ?_ ?_ ?_ ?_ ?_
      · rw [setL_oth _ _ hyf]; show upd S y _ y = _; rw [upd_same]
      · rw [setL_it, setP_it]; exact h2
      · rw [setL_c, setP_c]; exact h3
      · rw [setL_p, setP_oth _ _ (Ne.symm hyf)]; exact h4
      · rw [setL_m, setP_m]; exact h5
      · unfold Side
        rw [if_pos hl, setL_r, setP_r]
        exact ⟨setL_same _ _ _, RM_congr (fun j hj => by rw [setL_oth _ _ (ne_mem hj hfs), setP_oth _ _ (ne_mem hj hysib)]) h6.2⟩
    · unfold Side at h6
      rw [if_neg hl] at h6
      have hx1 : ¬ x = (S (S x).p).l := by
        rw [hpf]
        intro e
        rcases Decidable.em ((S f.i).l = s) with h0 | h0
        · exact hxs (e.trans h0)
        · exact hxsib (e ▸ RM_ne h6.2 h0)
      rw [rp_right hps hx1, hpf]
      refine key _ (fun i h1' h2' => by rw [setR_oth _ _ h2', setP_oth _ _ h1']) ?_ ?_ ?_ ?_ ?_ ?_
      · rw [setR_oth _ _ hyf]; show upd S y _ y = _; rw [upd_same]
      · rw [setR_it, setP_it]; exact h2
      · rw [setR_c, setP_c]; exact h3
      · rw [setR_p, setP_oth _ _ (Ne.symm hyf)]; exact h4
      · rw [setR_m, setP_m]; exact h5
      · unfold Side
        rw [if_neg hl, setR_l, setP_l]
        exact ⟨setR_same _ _ _, RM_congr (fun j hj => by rw [setR_oth _ _ (ne_mem hj hfs), setP_oth _ _ (ne_mem hj hysib)]) h6.2⟩
/-! rotations, what they do -/
theorem perm_rl {x y : Nat} {a b e : List Nat} : (x :: (a ++ y :: (b ++ e))).Perm (y :: (x :: (a ++ b) ++ e)) := by
  have h : (x :: (a ++ y :: (b ++ e))).Perm (y :: (x :: a) ++ (b ++ e)) := List.perm_middle (l₁ := x :: a)
  refine h.trans ?_
  simp
theorem perm_rr {x y : Nat} {a b e : List Nat} : (x :: ((y :: (e ++ b)) ++ a)).Perm (y :: (e ++ (x :: (b ++ a)))) := by
  have h : (x :: ((y :: e) ++ (b ++ a))).Perm ((y :: e) ++ x :: (b ++ a)) := List.perm_middle.symm
  refine (List.Perm.of_eq ?_).trans h
  simp

theorem rl_spec {s n root x y : Nat} {S : St} {fs : Ctx} {a b e : T} {xi yi : It} {c d : Bool} (hz : Z s root S fs (.node x a xi c (.node y b yi d e)) x) (hn : fs.length + 1 < n) :
    Z s (rl s n S root x).2 (rl s n S root x).1 fs (.node y (.node x a xi c b) yi d e) y ∧ RlOk s n S root x := by
  obtain ⟨hrc, hrm, hnd⟩ := hz
  obtain ⟨-, hxs, hit, hc, hp, hm, ha, hy⟩ := hrm
  obtain ⟨hry, hys, hity, hcy, hpy, hmy, hb, he⟩ := hy
  -- which blocks are apart
  have hnd' := hnd
  simp only [T.ids, List.cons_append, List.append_assoc, List.nodup_cons, List.mem_append, List.mem_cons, not_or] at hnd
  obtain ⟨⟨hxa, hxy, hxb, hxe, hxf⟩, hnd⟩ := hnd
  rw [List.nodup_append] at hnd
  obtain ⟨hna, hnd, hda⟩ := hnd
  simp only [List.nodup_cons, List.mem_append, not_or] at hnd
  obtain ⟨⟨hyb, hye, hyf⟩, hnd⟩ := hnd
  rw [List.nodup_append] at hnd
  obtain ⟨hnb, hnd, hdb⟩ := hnd
  rw [List.nodup_append] at hnd
  obtain ⟨hne, hnf, hde⟩ := hnd
  have hya : y ∉ a.ids := fun h => hda y h y List.mem_cons_self rfl
  have hab : ∀ j ∈ a.ids, j ∉ b.ids := fun j hj h => hda j hj j (List.mem_cons_of_mem _ (List.mem_append_left _ h)) rfl
  have haf : ∀ j ∈ a.ids, j ∉ cids fs := fun j hj h => hda j hj j (List.mem_cons_of_mem _ (List.mem_append_right _ (List.mem_append_right _ h))) rfl
  have hbe : ∀ j ∈ e.ids, j ∉ b.ids := fun j hj h => hdb j h j (List.mem_append_left _ hj) rfl
  have hbf : ∀ j ∈ b.ids, j ∉ cids fs := fun j hj h => hdb j hj j (List.mem_append_right _ h) rfl
  have hef : ∀ j ∈ e.ids, j ∉ cids fs := fun j hj h => hde j hj j h rfl
  have hxsp : x ∉ spine fs := fun h => hxf (spine_sub h)
  have hysp : y ∉ spine fs := fun h => hyf (spine_sub h)
  -- y's one child goes to x
  have e2 : rl2 s S x = if (S y).l ≠ s then setP (setR S x (S y).l) (S y).l x else setR S x (S y).l := by unfold rl2; rw [hry]
  have hb2 : RM s (rl2 s S x) b (S y).l x := by
    rw [e2]
    exact RM_reP (S := setR S x (S y).l) (RM_congr (fun j hj => setR_oth S _ (ne_mem hj hxb)) hb) hnb
  have o2 : ∀ i, i ≠ x → i ∉ b.ids → rl2 s S x i = S i := fun i h1 h2 => by
    rw [e2]
    split
    · rename_i hq
      rw [setP_oth _ _ (Ne.symm (ne_mem (RM_ne hb hq) h2)), setR_oth _ _ h1]
    · exact setR_oth _ _ h1
  have x2 : rl2 s S x x = { S x with r := (S y).l } := by
    rw [e2]
    split
    · rename_i hq
      rw [setP_oth _ _ (Ne.symm (ne_mem (RM_ne hb hq) hxb))]
      show upd S x _ x = _
      rw [upd_same]
    · show upd S x _ x = _
      rw [upd_same]
  generalize hS2 : rl2 s S x = S2 at hb2 o2 x2
  have f2 : ∀ j ∈ cids fs, S2 j = S j := fun j hj => o2 j (ne_mem hj hxf) (fun h => hbf j h hj)
  have y2 : S2 y = S y := o2 y (Ne.symm hxy) hyb
  have a2 : RM s S2 a (S x).l x := RM_congr (fun j hj => o2 j (ne_mem hj hxa) (hab j hj)) ha
  have hlen : fs.length < n := by omega
  have hrc2 : RC s root S2 fs x (some (S2 x).m.k) := by
    have h0 := RC_congr f2 hrc
    rw [x2]
    show RC s root S2 fs x (some (S x).m.k)
    rw [hm]
    exact h0
  obtain ⟨u1, u2, u3, u4⟩ := um_spec s root fs n S2 x hlen hxs hxf hnf hrc2 (by rw [x2]; exact hp)
  have k3 : (newm s S2 x).k = kmo (kmo xi.e.k a.mx) b.mx := by
    rw [newm_k, x2]
    show kmo (kmo (S x).it.e.k (okey (chm s S2 (S x).l))) (okey (chm s S2 (S y).l)) = _
    rw [RM_mx a2, RM_mx hb2, hit]
  generalize hS3 : um s n S2 x = S3 at u1 u2 u3 u4
  have y3 : S3 y = S y := (u3 y (Ne.symm hxy) hysp).trans y2
  have p3 : (S3 x).p = par s fs := by rw [u4.p, x2]; exact hp
  -- y in x's place
  obtain ⟨r1, r2, r3, r4⟩ := rp_spec (n := n) (y := y) u2 p3 hxs hys hxy hxf hyf hnf hlen
  have e4 : rl4 s n S root x = rp s n S3 root x y := by unfold rl4 rl3; rw [hS2, hS3, hry]
  generalize hq4 : rp s n S3 root x y = q4 at r1 r2 r3 r4
  obtain ⟨S4, root'⟩ := q4
  dsimp only at r1 r2 r3 r4
  rw [y3] at r3
  -- x below y
  have x5 : setL S4 y x x = { S3 x with p := y } := (setL_oth _ _ hxy).trans r2
  have y5 : setL S4 y x y = { S y with p := par s fs, l := x } := by
    show upd S4 y _ y = _
    rw [upd_same, r3]
  have o5 : ∀ i, i ≠ y → setL S4 y x i = S4 i := fun i hi => setL_oth _ _ hi
  have e5 : rl5 s n S root x = setL S4 y x := by unfold rl5; rw [e4, hq4, hry]
  generalize hS5 : setL S4 y x = S5 at x5 y5 o5 e5
  have hrc5 : RC s root' S5 fs y (some (S5 y).m.k) := by
    have h0 := RC_congr (S' := S5) (fun j hj => o5 j (ne_mem hj hyf)) r1
    rw [y5]
    rw [y3] at h0
    exact h0
  obtain ⟨v1, v2, v3, v4⟩ := um_spec s root' fs n S5 y hlen hys hyf hnf hrc5 (by rw [y5])
  have s5 : ∀ i, i ≠ x → i ≠ y → i ∉ spine fs → S5 i = S2 i := fun i h1 h2 h3 => (o5 i h2).trans ((r4 i h1 h2 h3).trans (u3 i h1 h3))
  have ce5 : RM s S5 e (S y).r y := RM_congr (fun j hj => (s5 j (ne_mem hj hxe) (ne_mem hj hye) (fun h => hef j hj (spine_sub h))).trans (o2 j (ne_mem hj hxe) (hbe j hj))) he
  have kx5 : (S5 x).m.k = kmo (kmo xi.e.k a.mx) b.mx := by rw [x5]; show (S3 x).m.k = _; rw [u1, k3]
  have k6 : (newm s S5 y).k = kmo (kmo yi.e.k (T.node x a xi c b).mx) e.mx := by
    rw [newm_k, y5]
    show kmo (kmo (S y).it.e.k (okey (chm s S5 x))) (okey (chm s S5 (S y).r)) = _
    have h0 : okey (chm s S5 x) = some (S5 x).m.k := by unfold chm okey; rw [if_neg hxs]; rfl
    rw [h0, RM_mx ce5, kx5, hity]
    rfl
  have hres : rl s n S root x = (um s n S5 y, root') := by
    rw [rl_ne (by rw [hry]; exact hys), e4, e5, hry, hq4]
  generalize hS6 : um s n S5 y = S6 at v1 v2 v3 v4 hres
  have s6 : ∀ i, i ≠ x → i ≠ y → i ∉ spine fs → S6 i = S2 i := fun i h1 h2 h3 => (v3 i h2 h3).trans (s5 i h1 h2 h3)
  have x6 : S6 x = { S3 x with p := y } := (v3 x hxy hxsp).trans x5
  constructor
  · rw [hres]
    refine ⟨?_, ?_, ?_⟩
    · show RC s root' S6 fs y (some (kmo (kmo yi.e.k (T.node x a xi c b).mx) e.mx))
      rw [← k6]; exact v2
    · refine ⟨rfl, hys, ?_, ?_, ?_, ?_, ?_, ?_⟩
      · show (S6 y).it = yi; rw [v4.it, y5]; exact hity
      · show (S6 y).c = col d; rw [v4.c, y5]; exact hcy
      · show (S6 y).p = _; rw [v4.p, y5]
      · show (S6 y).m.k = _; rw [v1, k6]
      · show RM s S6 (.node x a xi c b) (S6 y).l y
        rw [v4.l, y5]
        refine ⟨rfl, hxs, ?_, ?_, ?_, ?_, ?_, ?_⟩
        · rw [x6]; show (S3 x).it = xi; rw [u4.it, x2]; exact hit
        · rw [x6]; show (S3 x).c = _; rw [u4.c, x2]; exact hc
        · rw [x6]
        · rw [x6]; show (S3 x).m.k = _; rw [u1, k3]
        · rw [x6]; show RM s S6 a (S3 x).l x
          rw [u4.l, x2]
          exact RM_congr (fun j hj => s6 j (ne_mem hj hxa) (ne_mem hj hya) (fun h => haf j hj (spine_sub h))) a2
        · rw [x6]; show RM s S6 b (S3 x).r x
          rw [u4.r, x2]
          exact RM_congr (fun j hj => s6 j (ne_mem hj hxb) (ne_mem hj hyb) (fun h => hbf j hj (spine_sub h))) hb2
      · show RM s S6 e (S6 y).r y
        rw [v4.r, y5]
        exact RM_congr (fun j hj => v3 j (ne_mem hj hye) (fun h => hef j hj (spine_sub h))) ce5
    · refine (List.Perm.nodup_iff ?_).1 hnd'
      simp only [T.ids]
      refine List.Perm.append_right _ ?_
      exact perm_rl
  · refine ⟨by rw [hry]; exact hxy, ?_, ?_, ?_⟩
    · rw [hS2]
      have h0 := Dep_RC hrc2
      obtain ⟨m, rfl⟩ : ∃ m, n = m + 1 := ⟨n - 1, by omega⟩
      refine .inr ?_
      rw [x2]
      show Dep s S2 m (S x).p
      rw [hp]
      exact h0.up (by omega)
    · have h3 : rl3 s n S x = S3 := by unfold rl3; rw [hS2, hS3]
      rw [h3, hry, p3]
      intro _
      exact (Dep_RC (RC_congr (S' := setP S3 y (par s fs)) (fun j hj => setP_oth _ _ (ne_mem hj hyf)) u2)).up (by omega)
    · rw [e5, hry]
      obtain ⟨m, rfl⟩ : ∃ m, n = m + 1 := ⟨n - 1, by omega⟩
      refine .inr ?_
      rw [y5]
      exact (Dep_RC hrc5).up (by omega)

theorem rr_spec {s n root x y : Nat} {S : St} {fs : Ctx} {a b e : T} {xi yi : It} {c d : Bool} (hz : Z s root S fs (.node x (.node y e yi d b) xi c a) x) (hn : fs.length + 1 < n) :
    Z s (rr s n S root x).2 (rr s n S root x).1 fs (.node y e yi d (.node x b xi c a)) y ∧ RrOk s n S root x := by
  obtain ⟨hrc, hrm, hnd⟩ := hz
  obtain ⟨-, hxs, hit, hc, hp, hm, hy, ha⟩ := hrm
  obtain ⟨hry, hys, hity, hcy, hpy, hmy, he, hb⟩ := hy
  -- which blocks are apart
  have hnd' := hnd
  simp only [T.ids, List.cons_append, List.append_assoc, List.nodup_cons, List.mem_append, List.mem_cons, not_or] at hnd
  obtain ⟨⟨hxy, hxe, hxb, hxa, hxf⟩, ⟨hye, hyb, hya, hyf⟩, hnd⟩ := hnd
  rw [List.nodup_append] at hnd
  obtain ⟨hne, hnd, hde⟩ := hnd
  rw [List.nodup_append] at hnd
  obtain ⟨hnb, hnd, hdb⟩ := hnd
  rw [List.nodup_append] at hnd
  obtain ⟨hna, hnf, hda⟩ := hnd
  have hab : ∀ j ∈ a.ids, j ∉ b.ids := fun j hj h => hdb j h j (List.mem_append_left _ hj) rfl
  have haf : ∀ j ∈ a.ids, j ∉ cids fs := fun j hj h => hda j hj j h rfl
  have hbe : ∀ j ∈ e.ids, j ∉ b.ids := fun j hj h => hde j hj j (List.mem_append_left _ h) rfl
  have hbf : ∀ j ∈ b.ids, j ∉ cids fs := fun j hj h => hdb j hj j (List.mem_append_right _ h) rfl
  have hef : ∀ j ∈ e.ids, j ∉ cids fs := fun j hj h => hde j hj j (List.mem_append_right _ (List.mem_append_right _ h)) rfl
  have hxsp : x ∉ spine fs := fun h => hxf (spine_sub h)
  have hysp : y ∉ spine fs := fun h => hyf (spine_sub h)
  -- y's one child goes to x
  have e2 : rr2 s S x = if (S y).r ≠ s then setP (setL S x (S y).r) (S y).r x else setL S x (S y).r := by unfold rr2; rw [hry]
  have hb2 : RM s (rr2 s S x) b (S y).r x := by
    rw [e2]
    exact RM_reP (S := setL S x (S y).r) (RM_congr (fun j hj => setL_oth S _ (ne_mem hj hxb)) hb) hnb
  have o2 : ∀ i, i ≠ x → i ∉ b.ids → rr2 s S x i = S i := fun i h1 h2 => by
    rw [e2]
    split
    · rename_i hq
      rw [setP_oth _ _ (Ne.symm (ne_mem (RM_ne hb hq) h2)), setL_oth _ _ h1]
    · exact setL_oth _ _ h1
  have x2 : rr2 s S x x = { S x with l := (S y).r } := by
    rw [e2]
    split
    · rename_i hq
      rw [setP_oth _ _ (Ne.symm (ne_mem (RM_ne hb hq) hxb))]
      show upd S x _ x = _
      rw [upd_same]
    · show upd S x _ x = _
      rw [upd_same]
  generalize hS2 : rr2 s S x = S2 at hb2 o2 x2
  have f2 : ∀ j ∈ cids fs, S2 j = S j := fun j hj => o2 j (ne_mem hj hxf) (fun h => hbf j h hj)
  have y2 : S2 y = S y := o2 y (Ne.symm hxy) hyb
  have a2 : RM s S2 a (S x).r x := RM_congr (fun j hj => o2 j (ne_mem hj hxa) (hab j hj)) ha
  have hlen : fs.length < n := by omega
  have hrc2 : RC s root S2 fs x (some (S2 x).m.k) := by
    have h0 := RC_congr f2 hrc
    rw [x2]
    show RC s root S2 fs x (some (S x).m.k)
    rw [hm]
    exact h0
  obtain ⟨u1, u2, u3, u4⟩ := um_spec s root fs n S2 x hlen hxs hxf hnf hrc2 (by rw [x2]; exact hp)
  have k3 : (newm s S2 x).k = kmo (kmo xi.e.k b.mx) a.mx := by
    rw [newm_k, x2]
    show kmo (kmo (S x).it.e.k (okey (chm s S2 (S y).r))) (okey (chm s S2 (S x).r)) = _
    rw [RM_mx a2, RM_mx hb2, hit]
  generalize hS3 : um s n S2 x = S3 at u1 u2 u3 u4
  have y3 : S3 y = S y := (u3 y (Ne.symm hxy) hysp).trans y2
  have p3 : (S3 x).p = par s fs := by rw [u4.p, x2]; exact hp
  -- y in x's place
  obtain ⟨r1, r2, r3, r4⟩ := rp_spec (n := n) (y := y) u2 p3 hxs hys hxy hxf hyf hnf hlen
  have e4 : rr4 s n S root x = rp s n S3 root x y := by unfold rr4 rr3; rw [hS2, hS3, hry]
  generalize hq4 : rp s n S3 root x y = q4 at r1 r2 r3 r4
  obtain ⟨S4, root'⟩ := q4
  dsimp only at r1 r2 r3 r4
  rw [y3] at r3
  -- x below y
  have x5 : setR S4 y x x = { S3 x with p := y } := (setR_oth _ _ hxy).trans r2
  have y5 : setR S4 y x y = { S y with p := par s fs, r := x } := by
    show upd S4 y _ y = _
    rw [upd_same, r3]
  have o5 : ∀ i, i ≠ y → setR S4 y x i = S4 i := fun i hi => setR_oth _ _ hi
  have e5 : rr5 s n S root x = setR S4 y x := by unfold rr5; rw [e4, hq4, hry]
  generalize hS5 : setR S4 y x = S5 at x5 y5 o5 e5
  have hrc5 : RC s root' S5 fs y (some (S5 y).m.k) := by
    have h0 := RC_congr (S' := S5) (fun j hj => o5 j (ne_mem hj hyf)) r1
    rw [y5]
    rw [y3] at h0
    exact h0
  obtain ⟨v1, v2, v3, v4⟩ := um_spec s root' fs n S5 y hlen hys hyf hnf hrc5 (by rw [y5])
  have s5 : ∀ i, i ≠ x → i ≠ y → i ∉ spine fs → S5 i = S2 i := fun i h1 h2 h3 => (o5 i h2).trans ((r4 i h1 h2 h3).trans (u3 i h1 h3))
  have ce5 : RM s S5 e (S y).l y := RM_congr (fun j hj => (s5 j (ne_mem hj hxe) (ne_mem hj hye) (fun h => hef j hj (spine_sub h))).trans (o2 j (ne_mem hj hxe) (hbe j hj))) he
  have kx5 : (S5 x).m.k = kmo (kmo xi.e.k b.mx) a.mx := by rw [x5]; show (S3 x).m.k = _; rw [u1, k3]
  have k6 : (newm s S5 y).k = kmo (kmo yi.e.k e.mx) (T.node x b xi c a).mx := by
    rw [newm_k, y5]
    show kmo (kmo (S y).it.e.k (okey (chm s S5 (S y).l))) (okey (chm s S5 x)) = _
    have h0 : okey (chm s S5 x) = some (S5 x).m.k := by unfold chm okey; rw [if_neg hxs]; rfl
    rw [h0, RM_mx ce5, kx5, hity]
    rfl
  have hres : rr s n S root x = (um s n S5 y, root') := by
    rw [rr_ne (by rw [hry]; exact hys), e4, e5, hry, hq4]
  generalize hS6 : um s n S5 y = S6 at v1 v2 v3 v4 hres
  have s6 : ∀ i, i ≠ x → i ≠ y → i ∉ spine fs → S6 i = S2 i := fun i h1 h2 h3 => (v3 i h2 h3).trans (s5 i h1 h2 h3)
  have x6 : S6 x = { S3 x with p := y } := (v3 x hxy hxsp).trans x5
  constructor
  · rw [hres]
    refine ⟨?_, ?_, ?_⟩
    · show RC s root' S6 fs y (some (kmo (kmo yi.e.k e.mx) (T.node x b xi c a).mx))
      rw [← k6]; exact v2
    · refine ⟨rfl, hys, ?_, ?_, ?_, ?_, ?_, ?_⟩
      · show (S6 y).it = yi; rw [v4.it, y5]; exact hity
      · show (S6 y).c = col d; rw [v4.c, y5]; exact hcy
      · show (S6 y).p = _; rw [v4.p, y5]
      · show (S6 y).m.k = _; rw [v1, k6]
      · show RM s S6 e (S6 y).l y
        rw [v4.l, y5]
        exact RM_congr (fun j hj => v3 j (ne_mem hj hye) (fun h => hef j hj (spine_sub h))) ce5
      · show RM s S6 (.node x b xi c a) (S6 y).r y
        rw [v4.r, y5]
        refine ⟨rfl, hxs, ?_, ?_, ?_, ?_, ?_, ?_⟩
        · rw [x6]; show (S3 x).it = xi; rw [u4.it, x2]; exact hit
        · rw [x6]; show (S3 x).c = _; rw [u4.c, x2]; exact hc
        · rw [x6]
        · rw [x6]; show (S3 x).m.k = _; rw [u1, k3]
        · rw [x6]; show RM s S6 b (S3 x).l x
          rw [u4.l, x2]
          exact RM_congr (fun j hj => s6 j (ne_mem hj hxb) (ne_mem hj hyb) (fun h => hbf j hj (spine_sub h))) hb2
        · rw [x6]; show RM s S6 a (S3 x).r x
          rw [u4.r, x2]
          exact RM_congr (fun j hj => s6 j (ne_mem hj hxa) (ne_mem hj hya) (fun h => haf j hj (spine_sub h))) a2
    · refine (List.Perm.nodup_iff ?_).1 hnd'
      simp only [T.ids]
      refine List.Perm.append_right _ ?_
      exact perm_rr
  · refine ⟨by rw [hry]; exact hxy, ?_, ?_, ?_⟩
    · rw [hS2]
      have h0 := Dep_RC hrc2
      obtain ⟨m, rfl⟩ : ∃ m, n = m + 1 := ⟨n - 1, by omega⟩
      refine .inr ?_
      rw [x2]
      show Dep s S2 m (S x).p
      rw [hp]
      exact h0.up (by omega)
    · have h3 : rr3 s n S x = S3 := by unfold rr3; rw [hS2, hS3]
      rw [h3, hry, p3]
      intro _
      exact (Dep_RC (RC_congr (S' := setP S3 y (par s fs)) (fun j hj => setP_oth _ _ (ne_mem hj hyf)) u2)).up (by omega)
    · rw [e5, hry]
      obtain ⟨m, rfl⟩ : ∃ m, n = m + 1 := ⟨n - 1, by omega⟩
      refine .inr ?_
      rw [y5]
      exact (Dep_RC hrc5).up (by omega)
end Go.Proofs.Ytbomnihiapjmpaa.TrP

namespace Go.Proofs.Ytbomnihiapjmpaa.TrP
open Go.RowKit Go.Lib Go.Proofs.Ytbomnihiapjmpaa Go.Proofs.Ytbomnihiapjmpaa.Sl
set_option linter.unusedVariables false
set_option linter.unusedSimpArgs false
set_option linter.unusedSectionVars false
/-! ## moves in a tree -/
theorem Z.upL {s root z i : Nat} {S : St} {fs : Ctx} {t sib : T} {x : It} {c : Bool} (h : Z s root S (⟨true, i, x, c, sib⟩ :: fs) t z) : Z s root S fs (.node i t x c sib) i := by
  obtain ⟨⟨h1, h2, h3, h4, h5, h6, h7⟩, rm, nd⟩ := h
  refine ⟨h7, ⟨rfl, h1, h2, h3, h4, h5, ?_, h6.2⟩, ?_⟩
  · have e : (S i).l = z := h6.1
    show RM s S t (S i).l i
    rw [e]; exact rm
  · refine (List.Perm.nodup_iff ?_).1 nd
    simp only [T.ids, cids, List.cons_append, List.append_assoc]
    exact List.perm_middle
theorem Z.upR {s root z i : Nat} {S : St} {fs : Ctx} {t sib : T} {x : It} {c : Bool} (h : Z s root S (⟨false, i, x, c, sib⟩ :: fs) t z) : Z s root S fs (.node i sib x c t) i := by
  obtain ⟨⟨h1, h2, h3, h4, h5, h6, h7⟩, rm, nd⟩ := h
  refine ⟨h7, ⟨rfl, h1, h2, h3, h4, h5, h6.2, ?_⟩, ?_⟩
  · have e : (S i).r = z := h6.1
    show RM s S t (S i).r i
    rw [e]; exact rm
  · refine (List.Perm.nodup_iff ?_).1 nd
    simp only [T.ids, cids, List.cons_append, List.append_assoc]
    refine List.perm_middle.trans (List.Perm.cons _ ?_)
    rw [← List.append_assoc, ← List.append_assoc]
    exact List.Perm.append_right _ List.perm_append_comm
theorem Z.downL {s root i : Nat} {S : St} {fs : Ctx} {t sib : T} {x : It} {c : Bool} (h : Z s root S fs (.node i t x c sib) i) : Z s root S (⟨true, i, x, c, sib⟩ :: fs) t (S i).l := by
  obtain ⟨rc, ⟨-, h1, h2, h3, h4, h5, h6, h7⟩, nd⟩ := h
  refine ⟨⟨h1, h2, h3, h4, h5, ⟨rfl, h7⟩, rc⟩, h6, ?_⟩
  refine (List.Perm.nodup_iff ?_).2 nd
  simp only [T.ids, cids, List.cons_append, List.append_assoc]
  exact List.perm_middle
theorem Z.downR {s root i : Nat} {S : St} {fs : Ctx} {t sib : T} {x : It} {c : Bool} (h : Z s root S fs (.node i sib x c t) i) : Z s root S (⟨false, i, x, c, sib⟩ :: fs) t (S i).r := by
  obtain ⟨rc, ⟨-, h1, h2, h3, h4, h5, h6, h7⟩, nd⟩ := h
  refine ⟨⟨h1, h2, h3, h4, h5, ⟨rfl, h6⟩, rc⟩, h7, ?_⟩
  refine (List.Perm.nodup_iff ?_).2 nd
  simp only [T.ids, cids, List.cons_append, List.append_assoc]
  refine List.perm_middle.trans (List.Perm.cons _ ?_)
  rw [← List.append_assoc, ← List.append_assoc]
  exact List.Perm.append_right _ List.perm_append_comm
theorem Z.up {s root z : Nat} {S : St} {fs : Ctx} {t : T} {f : Fr} (h : Z s root S (f :: fs) t z) : Z s root S fs (f.plug t) f.i := by
  obtain ⟨lf, i, x, c, sib⟩ := f
  cases lf
  · exact h.upR
  · exact h.upL
theorem Z.top {s root : Nat} {S : St} : ∀ {fs : Ctx} {t : T} {z : Nat}, Z s root S fs t z → Z s root S [] (zip fs t) root
  | [], t, z, h => by obtain rfl : z = root := h.rc; exact h
  | f :: fs, t, z, h => Z.top (fs := fs) h.up
/-- a node's colour -/
theorem Z.col {s root i : Nat} {S : St} {fs : Ctx} {l r : T} {x : It} {c : Bool} (c' : Bool) (h : Z s root S fs (.node i l x c r) i) : Z s root (setC S i (col c')) fs (.node i l x c' r) i := by
  obtain ⟨rc, ⟨-, h1, h2, h3, h4, h5, h6, h7⟩, nd⟩ := h
  have nd' := nd
  simp only [T.ids, List.cons_append, List.append_assoc, List.nodup_cons, List.mem_append, not_or] at nd'
  have o : ∀ j, j ≠ i → setC S i (TrP.col c') j = S j := fun j hj => setC_oth _ _ hj
  refine ⟨RC_congr (fun j hj => o j (ne_mem hj nd'.1.2.2)) rc, ⟨rfl, h1, ?_, setC_same _ _ _, ?_, ?_, ?_, ?_⟩, nd⟩
  · rw [setC_it]; exact h2
  · rw [setC_p]; exact h4
  · rw [setC_m]; exact h5
  · rw [setC_l]; exact RM_congr (fun j hj => o j (ne_mem hj nd'.1.1)) h6
  · rw [setC_r]; exact RM_congr (fun j hj => o j (ne_mem hj nd'.1.2.1)) h7
theorem Z.par {s root z : Nat} {S : St} {fs : Ctx} {t : T} (h : Z s root S fs t z) (hz : z ≠ s) : (S z).p = TrP.par s fs := by
  cases t with
  | leaf => exact absurd h.rm hz
  | node i l x c r => obtain ⟨rc, ⟨rfl, h1, h2, h3, h4, -⟩, nd⟩ := h; exact h4
theorem Z.no {s root z : Nat} {S : St} {fs : Ctx} {t : T} (h : Z s root S fs t z) (hz : z ≠ s) : z ∉ cids fs := fun hc => by
  have := RM_ne h.rm hz
  exact (List.nodup_append.1 h.nd).2.2 z this z hc rfl
def T.red : T → Bool
  | .leaf => false
  | .node _ _ _ c _ => c
theorem RM_red {s : Nat} {S : St} {t : T} {q p : Nat} (h : RM s S t q p) : colr s S q = col t.red := by
  cases t with
  | leaf => obtain rfl : q = s := h; unfold colr; rw [if_pos rfl]; rfl
  | node i l x c r =>
    obtain ⟨rfl, h1, -, h3, -⟩ := h
    unfold colr; rw [if_neg h1]; exact h3
theorem col_1 {c : Bool} : col c = 1 ↔ c = true := by cases c <;> simp [col]
/-! ## the repair, on trees -/
def rotT (p g : Fr) (t : T) : T :=
  if g.left then
    if p.left then .node p.i t p.x false (.node g.i p.sib g.x true g.sib)
    else match t with
      | .node z zl zx _ zr => .node z (.node p.i p.sib p.x p.c zl) zx false (.node g.i zr g.x true g.sib)
      | .leaf => .leaf
  else
    if p.left then match t with
      | .node z zl zx _ zr => .node z (.node g.i g.sib g.x true zl) zx false (.node p.i zr p.x p.c p.sib)
      | .leaf => .leaf
    else .node p.i (.node g.i g.sib g.x true p.sib) p.x false t
def T.blacken : T → T
  | .leaf => .leaf
  | .node i l x _ r => .node i l x false r
def flipT (p g : Fr) (t : T) : T := if g.left then .node g.i (({ p with c := false } : Fr).plug t) g.x true g.sib.blacken else .node g.i g.sib.blacken g.x true (({ p with c := false } : Fr).plug t)
def afx : Ctx → T → T
  | [], t => t
  | [p], t => zip [p] t
  | p :: g :: fs, t => if p.c then (if g.sib.red then afx fs (flipT p g t) else zip fs (rotT p g t)) else zip (p :: g :: fs) t
/-! one round -/
/-- a node, the other way round -/
abbrev NM (i : Nat) (l : T) (x : It) (c : Bool) (r : T) : T := .node i r x c l

theorem recL {s root gi y : Nat} {S : St} {fs : Ctx} {yl yr gs : T} {yx gx : It} {yc gc : Bool} (h : Z s root S fs (T.node gi (T.node y yl yx yc yr) gx gc gs) gi) :
    Z s root (setC (setC S y 0) gi 1) fs (T.node gi (T.node y yl yx false yr) gx true gs) gi := by
  have h1 := h.downL
  have e : (S gi).l = y := h1.rm.1
  rw [e] at h1
  exact (h1.col false).upL.col true
theorem flipL {s root gi y u : Nat} {S : St} {fs : Ctx} {yl yr ul ur : T} {yx gx ux : It} {yc gc : Bool} (h : Z s root S fs (T.node gi (T.node y yl yx yc yr) gx gc (T.node u ul ux true ur)) gi) :
    Z s root (setC (setC (setC S u 0) y 0) gi 1) fs (T.node gi (T.node y yl yx false yr) gx true (T.node u ul ux false ur)) gi := by
  have h1 := h.downR
  have e : (S gi).r = u := h1.rm.1
  rw [e] at h1
  exact recL (h1.col false).upR
theorem fxl_spec {s n root gi pi z : Nat} {S : St} {fs : Ctx} {lp gc zc : Bool} {ps gs zl zr : T} {px gx zx : It} (hz : Z s root S (⟨lp, pi, px, true, ps⟩ :: ⟨true, gi, gx, gc, gs⟩ :: fs) (.node z zl zx zc zr) z) (hn : fs.length + 3 < n) :
    FxL s n S root z ∧ (S z).p = (S (S (S z).p).p).l ∧ (S (S z).p).p ≠ s ∧
    (gs.red = true → ∃ S', fxl s n S root z = (S', root, gi) ∧ Z s root S' fs (flipT ⟨lp, pi, px, true, ps⟩ ⟨true, gi, gx, gc, gs⟩ (.node z zl zx zc zr)) gi) ∧
    (gs.red = false → ∃ S' root' z' f' t', fxl s n S root z = (S', root', z') ∧ Z s root' S' (f' :: fs) t' z' ∧ z' ≠ s ∧ f'.c = false ∧ f'.plug t' = rotT ⟨lp, pi, px, true, ps⟩ ⟨true, gi, gx, gc, gs⟩ (.node z zl zx zc zr)) := by
  have hzs : z ≠ s := hz.rm.2.1
  have hpz : (S z).p = pi := hz.par hzs
  have hps : pi ≠ s := hz.rc.1
  have hgs : gi ≠ s := hz.rc.2.2.2.2.2.2.1
  have hup := hz.up
  have hgp : (S pi).p = gi := hup.par hps
  have hlp : (S gi).l = pi := hz.rc.2.2.2.2.2.2.2.2.2.2.2.1.1
  have hg := hup.upL
  have hur := hg.downR.rm
  have hcu : colr s S (S gi).r = col gs.red := RM_red hur
  have hnd := hz.nd
  have eside : (S z).p = (S (S (S z).p).p).l := by rw [hpz, hgp, hlp]
  have ecu : colr s S (S (S (S z).p).p).r = col gs.red := by rw [hpz, hgp]; exact hcu
  have enz : (S (S z).p).p ≠ s := by rw [hpz, hgp]; exact hgs
  -- the uncle is black
  have black : gs.red = false → (∀ z1 : Nat, ∀ q : St × Nat, fxQl s n S root z = q → fxZl S z = z1 → ∀ y yl yx yc yr, (q.1 z1).p = y → (q.1 y).p = gi → Z s q.2 q.1 fs (T.node gi (T.node y yl yx yc yr) gx gc gs) gi → y ≠ s →
      FxBl s n q.1 q.2 z1 ∧ ∃ S' root', fxl s n S root z = (S', root', z1) ∧ Z s root' S' fs (T.node y yl yx false (T.node gi yr gx true gs)) y) := by
    intro hgr z1 q hq hz1 y yl yx yc yr hy1 hy2 hZ hys
    have h3 := recL hZ
    have e3 : fx3 q.1 z1 = setC (setC q.1 y 0) gi 1 := by unfold fx3; rw [hy1, hy2]
    obtain ⟨r1, r2⟩ := rr_spec (n := n) h3 (by omega)
    refine ⟨⟨by rw [hy1]; exact hys, by rw [hy1, hy2]; exact hgs, fun _ => by rw [hy1, hy2, e3]; exact r2⟩, ?_⟩
    refine ⟨(rr s n (setC (setC q.1 y 0) gi 1) q.2 gi).1, (rr s n (setC (setC q.1 y 0) gi 1) q.2 gi).2, ?_, r1⟩
    rw [fxl_b (by rw [ecu, hgr]; simp [TrP.col]), hq, hz1]
    unfold fxBl
    rw [e3, hy1, hy2]
  have sideIn : lp = true → ¬ z = (S (S z).p).r := fun hl e => by
    subst hl
    have h6 := hz.rc.2.2.2.2.2.1
    have h6' : RM s S ps (S pi).r pi := h6.2
    rw [hpz] at e
    have hm := RM_ne h6' (by rw [← e]; exact hzs)
    rw [← e] at hm
    exact (List.nodup_append.1 hnd).2.2 z List.mem_cons_self z (List.mem_cons_of_mem _ (List.mem_append_left _ hm)) rfl
  have inner : lp = false → z = (S (S z).p).r := fun hl => by
    subst hl
    rw [hpz]
    exact hz.rc.2.2.2.2.2.1.1.symm
  have hwalk : gs.red = false → (fxQl s n S root z = (if lp = true then (S, root) else rl s n S root pi)) ∧ (fxZl S z = if lp = true then z else pi) := fun _ => by
    cases lp
    · exact ⟨(by rw [fxQl_y (inner rfl), hpz]; rfl), (by rw [fxZl_y (inner rfl), hpz]; rfl)⟩
    · exact ⟨(fxQl_n (sideIn rfl)), (fxZl_n (sideIn rfl))⟩
  have hrot : lp = false → RlOk s n S root pi ∧ Z s (rl s n S root pi).2 (rl s n S root pi).1 (⟨true, gi, gx, gc, gs⟩ :: fs) (T.node z (T.node pi ps px true zl) zx zc zr) z := fun hl => by
    subst hl
    obtain ⟨r1, r2⟩ := rl_spec (n := n) (hup : Z s root S (⟨true, gi, gx, gc, gs⟩ :: fs) (T.node pi ps px true (T.node z zl zx zc zr)) pi) (by show fs.length + 1 + 1 < n; omega)
    exact ⟨r2, r1⟩
  have main : gs.red = false → FxBl s n (fxQl s n S root z).1 (fxQl s n S root z).2 (fxZl S z) ∧ ∃ S' root' z' f' t', fxl s n S root z = (S', root', z') ∧ Z s root' S' (f' :: fs) t' z' ∧ z' ≠ s ∧ f'.c = false ∧ f'.plug t' = rotT ⟨lp, pi, px, true, ps⟩ ⟨true, gi, gx, gc, gs⟩ (.node z zl zx zc zr) := fun hgr => by
    obtain ⟨w1, w2⟩ := hwalk hgr
    rw [w1, w2]
    by_cases hl : lp = true
    · rw [if_pos hl] at w1 w2
      rw [if_pos hl, if_pos hl]
      subst hl
      obtain ⟨b1, S', root', b2, b3⟩ := black hgr z (S, root) w1 w2 pi (T.node z zl zx zc zr) px true ps hpz hgp hg hps
      refine ⟨b1, S', root', z, ⟨true, pi, px, false, T.node gi ps gx true gs⟩, .node z zl zx zc zr, b2, ?_, hzs, ?_, ?_⟩
      · have h1 := b3.downL
        have e : (S' pi).l = z := h1.rm.1
        rw [e] at h1
        exact h1
      · rfl
      · rfl
    · have hl' : lp = false := by cases lp <;> first | rfl | exact absurd rfl hl
      rw [if_neg hl] at w1 w2
      rw [if_neg hl, if_neg hl]
      obtain ⟨hrk, hZ1⟩ := hrot hl'
      have hzp1 : ((rl s n S root pi).1 pi).p = z := by
        have h1 := hZ1.downL
        have e : ((rl s n S root pi).1 z).l = pi := h1.rm.1
        rw [e] at h1
        exact h1.par hps
      obtain ⟨b1, S', root', b2, b3⟩ := black hgr pi (rl s n S root pi) w1 w2 z (T.node pi ps px true zl) zx zc zr hzp1 (hZ1.par hzs) hZ1.upL hzs
      subst hl'
      refine ⟨b1, S', root', pi, ⟨true, z, zx, false, T.node gi zr gx true gs⟩, T.node pi ps px true zl, b2, ?_, hps, ?_, ?_⟩
      · have h1 := b3.downL
        have e : (S' z).l = pi := h1.rm.1
        rw [e] at h1
        exact h1
      · rfl
      · rfl
  refine ⟨⟨fun hu hin hr => ?_, fun hu => ?_⟩, eside, enz, fun hgr => ?_, fun hgr => (main hgr).2⟩
  · rw [hpz]
    refine (hrot ?_).1
    cases lp
    · first | rfl | exact absurd hin (sideIn rfl)
    · first | rfl | exact absurd hin (sideIn rfl)
  · refine (main ?_).1
    cases hgr : gs.red
    · rfl
    · rw [ecu, hgr] at hu; exact absurd rfl hu
  · cases gs with
    | leaf => cases hgr
    | node u ul ux uc ur =>
      obtain rfl : uc = true := hgr
      have eu : (S gi).r = u := hur.1
      refine ⟨fxCl S z, ?_, ?_⟩
      · rw [fxl_c (by rw [ecu]; rfl), hpz, hgp]
      · have e : fxCl S z = setC (setC (setC S u 0) pi 0) gi 1 := by unfold fxCl; rw [hpz, hgp, eu]
        rw [e]
        cases lp
        · exact flipL (yl := ps) (yr := T.node z zl zx zc zr) hg
        · exact flipL (yl := T.node z zl zx zc zr) (yr := ps) hg

theorem recR {s root gi y : Nat} {S : St} {fs : Ctx} {yl yr gs : T} {yx gx : It} {yc gc : Bool} (h : Z s root S fs (NM gi (NM y yl yx yc yr) gx gc gs) gi) :
    Z s root (setC (setC S y 0) gi 1) fs (NM gi (NM y yl yx false yr) gx true gs) gi := by
  have h1 := h.downR
  have e : (S gi).r = y := h1.rm.1
  rw [e] at h1
  exact (h1.col false).upR.col true
theorem flipR {s root gi y u : Nat} {S : St} {fs : Ctx} {yl yr ul ur : T} {yx gx ux : It} {yc gc : Bool} (h : Z s root S fs (NM gi (NM y yl yx yc yr) gx gc (NM u ul ux true ur)) gi) :
    Z s root (setC (setC (setC S u 0) y 0) gi 1) fs (NM gi (NM y yl yx false yr) gx true (NM u ul ux false ur)) gi := by
  have h1 := h.downL
  have e : (S gi).l = u := h1.rm.1
  rw [e] at h1
  exact recR (h1.col false).upL
theorem fxr_spec {s n root gi pi z : Nat} {S : St} {fs : Ctx} {lp gc zc : Bool} {ps gs zl zr : T} {px gx zx : It} (hz : Z s root S (⟨lp, pi, px, true, ps⟩ :: ⟨false, gi, gx, gc, gs⟩ :: fs) (.node z zl zx zc zr) z) (hn : fs.length + 3 < n) :
    FxR s n S root z ∧ ¬ (S z).p = (S (S (S z).p).p).l ∧ (S (S z).p).p ≠ s ∧
    (gs.red = true → ∃ S', fxr s n S root z = (S', root, gi) ∧ Z s root S' fs (flipT ⟨lp, pi, px, true, ps⟩ ⟨false, gi, gx, gc, gs⟩ (.node z zl zx zc zr)) gi) ∧
    (gs.red = false → ∃ S' root' z' f' t', fxr s n S root z = (S', root', z') ∧ Z s root' S' (f' :: fs) t' z' ∧ z' ≠ s ∧ f'.c = false ∧ f'.plug t' = rotT ⟨lp, pi, px, true, ps⟩ ⟨false, gi, gx, gc, gs⟩ (.node z zl zx zc zr)) := by
  have hzs : z ≠ s := hz.rm.2.1
  have hpz : (S z).p = pi := hz.par hzs
  have hps : pi ≠ s := hz.rc.1
  have hgs : gi ≠ s := hz.rc.2.2.2.2.2.2.1
  have hup := hz.up
  have hgp : (S pi).p = gi := hup.par hps
  have hlp : (S gi).r = pi := hz.rc.2.2.2.2.2.2.2.2.2.2.2.1.1
  have hg := hup.upR
  have hur := hg.downL.rm
  have hcu : colr s S (S gi).l = col gs.red := RM_red hur
  have hnd := hz.nd
  have eside : ¬ (S z).p = (S (S (S z).p).p).l := by
    rw [hpz, hgp]
    intro e
    rw [← e] at hur
    have hm := RM_ne hur hps
    have := (List.nodup_append.1 hg.downL.nd).2.2
    have hq := hg.nd
    simp only [T.ids, List.cons_append, List.append_assoc, List.nodup_cons] at hq
    have hq2 := (List.nodup_append.1 hq.2).2.2
    refine hq2 pi hm pi ?_ rfl
    refine List.mem_append_left _ ?_
    cases lp <;> exact List.mem_cons_self
  have ecu : colr s S (S (S (S z).p).p).l = col gs.red := by rw [hpz, hgp]; exact hcu
  have enz : (S (S z).p).p ≠ s := by rw [hpz, hgp]; exact hgs
  -- the uncle is black
  have black : gs.red = false → (∀ z1 : Nat, ∀ q : St × Nat, fxQr s n S root z = q → fxZr S z = z1 → ∀ y yl yx yc yr, (q.1 z1).p = y → (q.1 y).p = gi → Z s q.2 q.1 fs (NM gi (NM y yl yx yc yr) gx gc gs) gi → y ≠ s →
      FxBr s n q.1 q.2 z1 ∧ ∃ S' root', fxr s n S root z = (S', root', z1) ∧ Z s root' S' fs (NM y yl yx false (NM gi yr gx true gs)) y) := by
    intro hgr z1 q hq hz1 y yl yx yc yr hy1 hy2 hZ hys
    have h3 := recR hZ
    have e3 : fx3 q.1 z1 = setC (setC q.1 y 0) gi 1 := by unfold fx3; rw [hy1, hy2]
    obtain ⟨r1, r2⟩ := rl_spec (n := n) h3 (by omega)
    refine ⟨⟨by rw [hy1]; exact hys, by rw [hy1, hy2]; exact hgs, fun _ => by rw [hy1, hy2, e3]; exact r2⟩, ?_⟩
    refine ⟨(rl s n (setC (setC q.1 y 0) gi 1) q.2 gi).1, (rl s n (setC (setC q.1 y 0) gi 1) q.2 gi).2, ?_, r1⟩
    rw [fxr_b (by rw [ecu, hgr]; simp [TrP.col]), hq, hz1]
    unfold fxBr
    rw [e3, hy1, hy2]
  have sideIn : lp = false → ¬ z = (S (S z).p).l := fun hl e => by
    subst hl
    have h6 := hz.rc.2.2.2.2.2.1
    have h6' : RM s S ps (S pi).l pi := h6.2
    rw [hpz] at e
    have hm := RM_ne h6' (by rw [← e]; exact hzs)
    rw [← e] at hm
    exact (List.nodup_append.1 hnd).2.2 z List.mem_cons_self z (List.mem_cons_of_mem _ (List.mem_append_left _ hm)) rfl
  have inner : lp = true → z = (S (S z).p).l := fun hl => by
    subst hl
    rw [hpz]
    exact hz.rc.2.2.2.2.2.1.1.symm
  have hwalk : gs.red = false → (fxQr s n S root z = (if lp = false then (S, root) else rr s n S root pi)) ∧ (fxZr S z = if lp = false then z else pi) := fun _ => by
    cases lp
    · exact ⟨(fxQr_n (sideIn rfl)), (fxZr_n (sideIn rfl))⟩
    · exact ⟨(by rw [fxQr_y (inner rfl), hpz]; rfl), (by rw [fxZr_y (inner rfl), hpz]; rfl)⟩
  have hrot : lp = true → RrOk s n S root pi ∧ Z s (rr s n S root pi).2 (rr s n S root pi).1 (⟨false, gi, gx, gc, gs⟩ :: fs) (NM z (NM pi ps px true zr) zx zc zl) z := fun hl => by
    subst hl
    obtain ⟨r1, r2⟩ := rr_spec (n := n) (hup : Z s root S (⟨false, gi, gx, gc, gs⟩ :: fs) (NM pi ps px true (NM z zr zx zc zl)) pi) (by show fs.length + 1 + 1 < n; omega)
    exact ⟨r2, r1⟩
  have main : gs.red = false → FxBr s n (fxQr s n S root z).1 (fxQr s n S root z).2 (fxZr S z) ∧ ∃ S' root' z' f' t', fxr s n S root z = (S', root', z') ∧ Z s root' S' (f' :: fs) t' z' ∧ z' ≠ s ∧ f'.c = false ∧ f'.plug t' = rotT ⟨lp, pi, px, true, ps⟩ ⟨false, gi, gx, gc, gs⟩ (.node z zl zx zc zr) := fun hgr => by
    obtain ⟨w1, w2⟩ := hwalk hgr
    rw [w1, w2]
    by_cases hl : lp = false
    · rw [if_pos hl] at w1 w2
      rw [if_pos hl, if_pos hl]
      subst hl
      obtain ⟨b1, S', root', b2, b3⟩ := black hgr z (S, root) w1 w2 pi (NM z zr zx zc zl) px true ps hpz hgp hg hps
      refine ⟨b1, S', root', z, ⟨false, pi, px, false, NM gi ps gx true gs⟩, .node z zl zx zc zr, b2, ?_, hzs, ?_, ?_⟩
      · have h1 := b3.downR
        have e : (S' pi).r = z := h1.rm.1
        rw [e] at h1
        exact h1
      · rfl
      · rfl
    · have hl' : lp = true := by cases lp <;> first | rfl | exact absurd rfl hl
      rw [if_neg hl] at w1 w2
      rw [if_neg hl, if_neg hl]
      obtain ⟨hrk, hZ1⟩ := hrot hl'
      have hzp1 : ((rr s n S root pi).1 pi).p = z := by
        have h1 := hZ1.downR
        have e : ((rr s n S root pi).1 z).r = pi := h1.rm.1
        rw [e] at h1
        exact h1.par hps
      obtain ⟨b1, S', root', b2, b3⟩ := black hgr pi (rr s n S root pi) w1 w2 z (NM pi ps px true zr) zx zc zl hzp1 (hZ1.par hzs) hZ1.upR hzs
      subst hl'
      refine ⟨b1, S', root', pi, ⟨false, z, zx, false, NM gi zl gx true gs⟩, NM pi ps px true zr, b2, ?_, hps, ?_, ?_⟩
      · have h1 := b3.downR
        have e : (S' z).r = pi := h1.rm.1
        rw [e] at h1
        exact h1
      · rfl
      · rfl
  refine ⟨⟨fun hu hin hr => ?_, fun hu => ?_⟩, eside, enz, fun hgr => ?_, fun hgr => (main hgr).2⟩
  · rw [hpz]
    refine (hrot ?_).1
    cases lp
    · first | rfl | exact absurd hin (sideIn rfl)
    · first | rfl | exact absurd hin (sideIn rfl)
  · refine (main ?_).1
    cases hgr : gs.red
    · rfl
    · rw [ecu, hgr] at hu; exact absurd rfl hu
  · cases gs with
    | leaf => cases hgr
    | node u ul ux uc ur =>
      obtain rfl : uc = true := hgr
      have eu : (S gi).l = u := hur.1
      refine ⟨fxCr S z, ?_, ?_⟩
      · rw [fxr_c (by rw [ecu]; rfl), hpz, hgp]
      · have e : fxCr S z = setC (setC (setC S u 0) pi 0) gi 1 := by unfold fxCr; rw [hpz, hgp, eu]
        rw [e]
        cases lp
        · exact flipR (yl := NM z zr zx zc zl) (yr := ps) hg
        · exact flipR (yl := ps) (yr := NM z zr zx zc zl) hg
end Go.Proofs.Ytbomnihiapjmpaa.TrP

namespace Go.Proofs.Ytbomnihiapjmpaa.TrP
open Go.RowKit Go.Lib Go.Proofs.Ytbomnihiapjmpaa Go.Proofs.Ytbomnihiapjmpaa.Sl
set_option linter.unusedVariables false
set_option linter.unusedSimpArgs false
set_option linter.unusedSectionVars false
def topB : Ctx → Prop
  | [] => True
  | [f] => f.c = false
  | _ :: g :: fs => topB (g :: fs)
theorem topB_tail {f : Fr} {fs : Ctx} (h : topB (f :: fs)) : topB fs := by
  cases fs with
  | nil => trivial
  | cons g fs => exact h
theorem FxOk_no {s n k root z : Nat} {S : St} (h : ¬ colr s S (S z).p = 1) : FxOk s n k S root z := by
  cases k with
  | zero => exact h
  | succ k => exact fun h2 => absurd h2 h
theorem Z.black {s root z : Nat} {S : St} {fs : Ctx} {f : Fr} {t : T} (h : Z s root S (f :: fs) t z) (hz : z ≠ s) (hc : f.c = false) : ¬ colr s S (S z).p = 1 := by
  rw [h.par hz]
  show ¬ colr s S f.i = 1
  obtain ⟨h1, -, h3, -⟩ := h.rc
  unfold colr
  rw [if_neg h1, h3, hc]
  decide
theorem Z.blackTop {s root z : Nat} {S : St} {t : T} (h : Z s root S [] t z) (hz : z ≠ s) : ¬ colr s S (S z).p = 1 := by
  rw [h.par hz]
  show ¬ colr s S s = 1
  unfold colr
  rw [if_pos rfl]
  decide
theorem Z.redP {s root z : Nat} {S : St} {fs : Ctx} {f : Fr} {t : T} (h : Z s root S (f :: fs) t z) (hz : z ≠ s) (hc : f.c = true) : colr s S (S z).p = 1 := by
  rw [h.par hz]
  show colr s S f.i = 1
  obtain ⟨h1, -, h3, -⟩ := h.rc
  unfold colr
  rw [if_neg h1, h3, hc]
  rfl
theorem fx_stop {s n k root z : Nat} {S : St} {fs : Ctx} {t : T} (h : Z s root S fs t z) (hc : ¬ colr s S (S z).p = 1) : FxOk s n k S root z ∧ ∃ S' root', fx s n k S root z = (S', root') ∧ Z s root' S' [] (zip fs t) root' :=
  ⟨FxOk_no hc, S, root, fx_no hc, h.top⟩
theorem flipT_node (p g : Fr) (t : T) : ∃ l r, flipT p g t = .node g.i l g.x true r := by
  unfold flipT
  split
  · exact ⟨_, _, rfl⟩
  · exact ⟨_, _, rfl⟩
theorem fx_spec {s n : Nat} : ∀ (k : Nat) {fs : Ctx} {S : St} {root z : Nat} {zl zr : T} {zx : It} {zc : Bool}, Z s root S fs (.node z zl zx zc zr) z → fs.length ≤ k → fs.length + 1 < n → topB fs →
    FxOk s n k S root z ∧ ∃ S' root', fx s n k S root z = (S', root') ∧ Z s root' S' [] (afx fs (.node z zl zx zc zr)) root'
  | k, [], S, root, z, zl, zr, zx, zc, h, _, _, _ => fx_stop h (h.blackTop h.rm.2.1)
  | k, [p], S, root, z, zl, zr, zx, zc, h, _, _, hb => fx_stop h (h.black h.rm.2.1 hb)
  | 0, p :: g :: fs, S, root, z, zl, zr, zx, zc, h, hk, _, hb => by simp at hk
  | k + 1, p :: g :: fs, S, root, z, zl, zr, zx, zc, h, hk, hn, hb => by
    have hzs : z ≠ s := h.rm.2.1
    cases hpc : p.c with
    | false =>
      have e : afx (p :: g :: fs) (.node z zl zx zc zr) = zip (p :: g :: fs) (.node z zl zx zc zr) := by simp only [afx, hpc]; rfl
      rw [e]
      exact fx_stop h (h.black hzs hpc)
    | true =>
      have hred := h.redP hzs hpc
      have hk2 : fs.length ≤ k := by simp at hk; omega
      have hn2 : fs.length + 3 < n := by simp at hn; omega
      have hb2 : topB fs := topB_tail (topB_tail hb)
      -- what a round does, whichever side
      have round : ((S (S z).p).p ≠ s ∧ ((S z).p = (S (S (S z).p).p).l → FxL s n S root z) ∧ (¬ (S z).p = (S (S (S z).p).p).l → FxR s n S root z)) ∧
          (g.sib.red = true → ∃ S', fxs s n S root z = (S', root, g.i) ∧ Z s root S' fs (flipT p g (.node z zl zx zc zr)) g.i) ∧
          (g.sib.red = false → ∃ S' root' z' f' t', fxs s n S root z = (S', root', z') ∧ Z s root' S' (f' :: fs) t' z' ∧ z' ≠ s ∧ f'.c = false ∧ f'.plug t' = rotT p g (.node z zl zx zc zr)) := by
        obtain ⟨lp, pi, px, pc, ps⟩ := p
        obtain ⟨lg, gi, gx, gc, gs⟩ := g
        obtain rfl : pc = true := hpc
        cases lg with
        | true =>
          obtain ⟨a1, a2, a3, a4, a5⟩ := fxl_spec h hn2
          rw [fxs_l a2]
          exact ⟨⟨a3, fun _ => a1, fun h => absurd a2 h⟩, a4, a5⟩
        | false =>
          obtain ⟨a1, a2, a3, a4, a5⟩ := fxr_spec h hn2
          rw [fxs_r a2]
          exact ⟨⟨a3, fun h => absurd h a2, fun _ => a1⟩, a4, a5⟩
      obtain ⟨r1, r2, r3⟩ := round
      cases hgr : g.sib.red with
      | true =>
        have e : afx (p :: g :: fs) (.node z zl zx zc zr) = afx fs (flipT p g (.node z zl zx zc zr)) := by simp only [afx, hpc, hgr, if_true]
        obtain ⟨S1, q1, q2⟩ := r2 hgr
        obtain ⟨l, r, e2⟩ := flipT_node p g (.node z zl zx zc zr)
        rw [e2] at q2
        obtain ⟨i1, S', root', i2, i3⟩ := fx_spec (fs := fs) k q2 hk2 (Nat.lt_trans (Nat.add_lt_add_left (by decide : 1 < 3) _) hn2) hb2
        rw [e, e2]
        refine ⟨fun _ => ⟨r1, by rw [q1]; exact i1⟩, S', root', ?_, i3⟩
        rw [fx_yes hred, q1]
        exact i2
      | false =>
        have e : afx (p :: g :: fs) (.node z zl zx zc zr) = zip fs (rotT p g (.node z zl zx zc zr)) := by simp only [afx, hpc, hgr, if_true]; rfl
        obtain ⟨S1, root1, z1, f', t', q1, q2, q3, q4, q5⟩ := r3 hgr
        obtain ⟨i1, S', root', i2, i3⟩ := fx_stop (n := n) (k := k) q2 (q2.black q3 q4)
        rw [e, ← q5]
        refine ⟨fun _ => ⟨r1, by rw [q1]; exact i1⟩, S', root', ?_, i3⟩
        rw [fx_yes hred, q1]
        exact i2
/-! ## where an insert goes -/
def dsc (zb ze : Ky) : T → Ctx → Ctx
  | .leaf, fs => fs
  | .node i l x c r, fs => if goK zb ze x.b.k x.e.k then dsc zb ze l (⟨true, i, x, c, r⟩ :: fs) else dsc zb ze r (⟨false, i, x, c, l⟩ :: fs)
def T.depth : T → Nat
  | .leaf => 0
  | .node _ l _ _ r => 1 + max l.depth r.depth
theorem des_spec {s z root : Nat} {S : St} : ∀ {t : T} {fs : Ctx} {x : Nat} {k : Nat}, Z s root S fs t x → t.depth ≤ k →
    des s S z k x (par s fs) = par s (dsc (S z).it.b.k (S z).it.e.k t fs) ∧ DDep s S z k x ∧ Z s root S (dsc (S z).it.b.k (S z).it.e.k t fs) .leaf s ∧ (∀ f fs', dsc (S z).it.b.k (S z).it.e.k t fs = f :: fs' → t ≠ .leaf → (f.left = true ↔ goL S z f.i))
  | .leaf, fs, x, k, h, hk => by
    obtain rfl : x = s := h.rm
    refine ⟨des_s, ?_, h, fun _ _ _ h => absurd rfl h⟩
    cases k with
    | zero => rfl
    | succ k => exact .inl rfl
  | .node i l x c r, fs, q, 0, h, hk => by simp [T.depth] at hk
  | .node i l x c r, fs, q, k + 1, h, hk => by
    obtain rfl : q = i := h.rm.1
    have hqs : q ≠ s := h.rm.2.1
    have hit : (S q).it = x := h.rm.2.2.1
    have eg : goL S z q ↔ goK (S z).it.b.k (S z).it.e.k x.b.k x.e.k := by unfold goL; rw [hit]
    have hd : l.depth ≤ k ∧ r.depth ≤ k := by simp only [T.depth] at hk; omega
    unfold dsc
    by_cases hg : goK (S z).it.b.k (S z).it.e.k x.b.k x.e.k
    · obtain ⟨i1, i2, i3, i4⟩ := des_spec (z := z) h.downL hd.1
      rw [if_pos hg, des_x hqs, if_pos (eg.2 hg)]
      refine ⟨i1, .inr (by rw [if_pos (eg.2 hg)]; exact i2), i3, fun f fs' e _ => ?_⟩
      by_cases hl : l = .leaf
      · subst hl
        simp only [dsc, List.cons.injEq] at e
        rw [← e.1]
        exact ⟨fun _ => eg.2 hg, fun _ => rfl⟩
      · exact i4 f fs' e hl
    · obtain ⟨i1, i2, i3, i4⟩ := des_spec (z := z) h.downR hd.2
      rw [if_neg hg, des_x hqs, if_neg (fun h => hg (eg.1 h))]
      refine ⟨i1, .inr (by rw [if_neg (fun h => hg (eg.1 h))]; exact i2), i3, fun f fs' e _ => ?_⟩
      by_cases hl : r = .leaf
      · subst hl
        simp only [dsc, List.cons.injEq] at e
        rw [← e.1]
        exact ⟨fun h => by simp at h, fun h => absurd (eg.1 h) hg⟩
      · exact i4 f fs' e hl
end Go.Proofs.Ytbomnihiapjmpaa.TrP

namespace Go.Proofs.Ytbomnihiapjmpaa.TrP
open Go.RowKit Go.Lib Go.Proofs.Ytbomnihiapjmpaa Go.Proofs.Ytbomnihiapjmpaa.Sl
set_option linter.unusedVariables false
set_option linter.unusedSimpArgs false
set_option linter.unusedSectionVars false
/-! ## an insert, on trees -/
theorem hang_spec {s n root z : Nat} {S : St} {fs : Ctx} {x : It} (h : Z s root S fs .leaf s) (hzs : z ≠ s) (hz : z ∉ cids fs) (hx : S z = ⟨x, x.e, s, s, s, 1⟩) (hgo : ∀ f fs', fs = f :: fs' → (f.left = true ↔ goL S z f.i)) (hn : fs.length < n) :
    ∃ S' root', hang s n S root z (par s fs) = (S', root') ∧ Z s root' S' fs (.node z .leaf x true .leaf) z := by
  have hnd : (T.ids (.node z .leaf x true .leaf) ++ cids fs).Nodup := by
    have h0 : (cids fs).Nodup := (List.nodup_append.1 h.nd).2.1
    exact List.nodup_cons.2 ⟨hz, h0⟩
  cases fs with
  | nil =>
    refine ⟨setP S z s, z, hang_s rfl, rfl, ?_, hnd⟩
    have e : setP S z s z = ⟨x, x.e, s, s, s, 1⟩ := by show upd S z _ z = _; rw [upd_same, hx]
    refine ⟨rfl, hzs, ?_, ?_, ?_, ?_, ?_, ?_⟩ <;> rw [e]
    · rfl
    · rfl
    · rfl
    · rfl
    · rfl
  | cons f fs =>
    obtain ⟨h1, h2, h3, h4, h5, h6, h7⟩ := h.rc
    have hnd0 : (cids (f :: fs)).Nodup := (List.nodup_append.1 h.nd).2.1
    simp only [cids, List.nodup_cons, List.mem_append, not_or] at hnd0
    obtain ⟨⟨hfs, hff⟩, hnd2⟩ := hnd0
    have hndf : (cids fs).Nodup := (List.nodup_append.1 hnd2).2.1
    have hdis : ∀ a ∈ f.sib.ids, ∀ b ∈ cids fs, a ≠ b := (List.nodup_append.1 hnd2).2.2
    have hzf : z ≠ f.i := fun e => hz (e ▸ List.mem_cons_self)
    have hzsib : z ∉ f.sib.ids := fun h => hz (List.mem_cons_of_mem _ (List.mem_append_left _ h))
    have hzfs : z ∉ cids fs := fun h => hz (List.mem_cons_of_mem _ (List.mem_append_right _ h))
    have hzsp : z ∉ spine fs := fun h => hzfs (spine_sub h)
    have key : ∀ S2 : St, (∀ i, i ≠ z → i ≠ f.i → S2 i = S i) → S2 z = ⟨x, x.e, s, s, f.i, 1⟩ → (S2 f.i).it = f.x → (S2 f.i).c = col f.c → (S2 f.i).p = par s fs → (S2 f.i).m.k = f.mx none → Side s S2 f z →
        Z s root (um s n S2 f.i) (f :: fs) (.node z .leaf x true .leaf) z := by
      intro S2 k1 k2 k3 k4 k5 k6 k7
      have c2 : ∀ j ∈ cids fs, S2 j = S j := fun j hj => k1 j (ne_mem hj hzfs) (ne_mem hj hff)
      have hrc2 : RC s root S2 fs f.i (some (S2 f.i).m.k) := by rw [k6]; exact RC_congr c2 h7
      obtain ⟨u1, u2, u3, u4⟩ := um_spec s root fs n S2 f.i (by simp at hn; omega) h1 hff hndf hrc2 k5
      have uz : um s n S2 f.i z = ⟨x, x.e, s, s, f.i, 1⟩ := by rw [u3 z hzf hzsp]; exact k2
      have hkey : (newm s S2 f.i).k = f.mx (some x.e.k) := by
        rw [newm_k, k3]
        unfold Fr.mx
        unfold Side at k7
        have a1 : okey (chm s S2 z) = some x.e.k := by unfold chm okey; rw [if_neg hzs, k2]; rfl
        split at k7
        · rename_i hl; rw [if_pos hl, k7.1, a1, RM_mx k7.2]
        · rename_i hl; rw [if_neg hl, k7.1, a1, RM_mx k7.2]
      have emx : (T.node z .leaf x true .leaf).mx = some x.e.k := rfl
      refine ⟨⟨h1, ?_, ?_, ?_, ?_, ?_, ?_⟩, ⟨rfl, hzs, ?_, ?_, ?_, ?_, ?_, ?_⟩, hnd⟩
      · rw [u4.it]; exact k3
      · rw [u4.c]; exact k4
      · rw [u4.p]; exact k5
      · rw [u1, hkey, emx]
      · have hss : ∀ j ∈ f.sib.ids, um s n S2 f.i j = S2 j := fun j hj => u3 j (ne_mem hj hfs) (fun h => hdis j hj j (spine_sub h) rfl)
        unfold Side at *
        rw [u4.l, u4.r]
        split at k7
        · rename_i hl; rw [if_pos hl]; exact ⟨k7.1, RM_congr hss k7.2⟩
        · rename_i hl; rw [if_neg hl]; exact ⟨k7.1, RM_congr hss k7.2⟩
      · rw [emx, ← hkey]; exact u2
      · rw [uz]
      · rw [uz]; rfl
      · rw [uz]; rfl
      · rw [uz]; rfl
      · rw [uz]; rfl
      · rw [uz]; rfl
    have hg := hgo f fs rfl
    have o2 : ∀ i, i ≠ z → setP S z f.i i = S i := fun i hi => setP_oth _ _ hi
    have z2 : setP S z f.i z = ⟨x, x.e, s, s, f.i, 1⟩ := by show upd S z _ z = _; rw [upd_same, hx]
    by_cases hl : f.left = true
    · unfold Side at h6
      rw [if_pos hl] at h6
      refine ⟨um s n (setL (setP S z f.i) f.i z) f.i, root, hang_l h1 (hg.1 hl), key _ (fun i a b => by rw [setL_oth _ _ b, o2 i a]) ?_ ?_ ?_ ?_ ?_ ?_⟩
      · rw [setL_oth _ _ hzf]; exact z2
      · rw [setL_it, setP_it]; exact h2
      · rw [setL_c, setP_c]; exact h3
      · rw [setL_p, setP_oth _ _ (Ne.symm hzf)]; exact h4
      · rw [setL_m, setP_m]; exact h5
      · unfold Side
        rw [if_pos hl, setL_r, setP_r]
        exact ⟨setL_same _ _ _, RM_congr (fun j hj => by rw [setL_oth _ _ (ne_mem hj hfs), setP_oth _ _ (ne_mem hj hzsib)]) h6.2⟩
    · unfold Side at h6
      rw [if_neg hl] at h6
      refine ⟨um s n (setR (setP S z f.i) f.i z) f.i, root, hang_r h1 (fun e => hl (hg.2 e)), key _ (fun i a b => by rw [setR_oth _ _ b, o2 i a]) ?_ ?_ ?_ ?_ ?_ ?_⟩
      · rw [setR_oth _ _ hzf]; exact z2
      · rw [setR_it, setP_it]; exact h2
      · rw [setR_c, setP_c]; exact h3
      · rw [setR_p, setP_oth _ _ (Ne.symm hzf)]; exact h4
      · rw [setR_m, setP_m]; exact h5
      · unfold Side
        rw [if_neg hl, setR_l, setP_l]
        exact ⟨setR_same _ _ _, RM_congr (fun j hj => by rw [setR_oth _ _ (ne_mem hj hfs), setP_oth _ _ (ne_mem hj hzsib)]) h6.2⟩
theorem dsc_len (zb ze : Ky) : ∀ (t : T) (fs : Ctx), (dsc zb ze t fs).length ≤ fs.length + t.depth
  | .leaf, fs => by simp [dsc, T.depth]
  | .node i l x c r, fs => by
    unfold dsc
    have hl := dsc_len zb ze l (⟨true, i, x, c, r⟩ :: fs)
    have hr := dsc_len zb ze r (⟨false, i, x, c, l⟩ :: fs)
    simp only [List.length_cons] at hl hr
    simp only [T.depth]
    split <;> omega
theorem dsc_topB (zb ze : Ky) : ∀ (t : T) (fs : Ctx), topB fs → (fs = [] → t.red = false) → topB (dsc zb ze t fs)
  | .leaf, fs, h, _ => h
  | .node i l x c r, fs, h, h2 => by
    have hc : ∀ f : Fr, f.c = c → topB (f :: fs) := fun f hf => by
      cases fs with
      | nil => exact hf.trans (h2 rfl)
      | cons g fs => exact h
    unfold dsc
    split
    · exact dsc_topB zb ze l _ (hc _ rfl) (fun e => by cases e)
    · exact dsc_topB zb ze r _ (hc _ rfl) (fun e => by cases e)
theorem zip_ne : ∀ (fs : Ctx) {t : T}, t ≠ .leaf → zip fs t ≠ .leaf
  | [], _, h => h
  | f :: fs, t, h => zip_ne fs (t := f.plug t) (by unfold Fr.plug; split <;> simp)
theorem afx_ne : ∀ (fs : Ctx) {t : T}, (∃ i l x c r, t = .node i l x c r) → afx fs t ≠ .leaf
  | [], t, ⟨i, l, x, c, r, e⟩ => by rw [e]; simp [afx]
  | [p], t, ⟨i, l, x, c, r, e⟩ => zip_ne [p] (by rw [e]; simp)
  | p :: g :: fs, t, ⟨i, l, x, c, r, e⟩ => by
    unfold afx
    split
    · split
      · obtain ⟨l', r', e2⟩ := flipT_node p g t
        exact afx_ne fs ⟨_, _, _, _, _, e2⟩
      · refine zip_ne fs ?_
        subst e
        unfold rotT
        split <;> split <;> simp
    · exact zip_ne _ (by rw [e]; simp)

/-! the blocks of what comes about -/
theorem plug_ids {f : Fr} {t : T} {j : Nat} (h : j ∈ (f.plug t).ids) : j ∈ t.ids ∨ j = f.i ∨ j ∈ f.sib.ids := by
  unfold Fr.plug at h
  split at h <;> simp only [T.ids, List.mem_cons, List.mem_append] at h <;> rcases h with h | h | h <;> simp [h]
theorem zip_ids : ∀ (fs : Ctx) {t : T} {j : Nat}, j ∈ (zip fs t).ids → j ∈ t.ids ∨ j ∈ cids fs
  | [], _, _, h => .inl h
  | f :: fs, t, j, h => by
    rcases zip_ids fs (t := f.plug t) h with h | h
    · rcases plug_ids h with h | h | h
      · exact .inl h
      · subst h; exact .inr List.mem_cons_self
      · exact .inr (List.mem_cons_of_mem _ (List.mem_append_left _ h))
    · exact .inr (List.mem_cons_of_mem _ (List.mem_append_right _ h))
theorem blacken_ids (t : T) : t.blacken.ids = t.ids := by cases t <;> rfl
theorem flip_ids {p g : Fr} {t : T} {j : Nat} (h : j ∈ (flipT p g t).ids) : j ∈ t.ids ∨ j = p.i ∨ j ∈ p.sib.ids ∨ j = g.i ∨ j ∈ g.sib.ids := by
  unfold flipT at h
  split at h <;> simp only [T.ids, List.mem_cons, List.mem_append, blacken_ids] at h
  · rcases h with h | h | h
    · exact .inr (.inr (.inr (.inl h)))
    · rcases plug_ids h with h | h | h
      · exact .inl h
      · exact .inr (.inl h)
      · exact .inr (.inr (.inl h))
    · exact .inr (.inr (.inr (.inr h)))
  · rcases h with h | h | h
    · exact .inr (.inr (.inr (.inl h)))
    · exact .inr (.inr (.inr (.inr h)))
    · rcases plug_ids h with h | h | h
      · exact .inl h
      · exact .inr (.inl h)
      · exact .inr (.inr (.inl h))
theorem rot_ids {p g : Fr} {t : T} {j : Nat} (h : j ∈ (rotT p g t).ids) : j ∈ t.ids ∨ j = p.i ∨ j ∈ p.sib.ids ∨ j = g.i ∨ j ∈ g.sib.ids := by
  unfold rotT at h
  cases t with
  | leaf => split at h <;> split at h <;> simp only [T.ids, List.mem_cons, List.mem_append, List.append_nil, List.nil_append, List.not_mem_nil] at h ⊢ <;> grind
  | node z zl zx zc zr => split at h <;> split at h <;> simp only [T.ids, List.mem_cons, List.mem_append] at h ⊢ <;> grind
theorem afx_ids : ∀ (fs : Ctx) {t : T} {j : Nat}, j ∈ (afx fs t).ids → j ∈ t.ids ∨ j ∈ cids fs
  | [], _, _, h => .inl h
  | [p], t, j, h => zip_ids [p] h
  | p :: g :: fs, t, j, h => by
    have hc : j = p.i ∨ j ∈ p.sib.ids ∨ j = g.i ∨ j ∈ g.sib.ids ∨ j ∈ cids fs → j ∈ cids (p :: g :: fs) := fun h => by
      simp only [cids, List.mem_cons, List.mem_append]; grind
    unfold afx at h
    split at h
    · split at h
      · rcases afx_ids fs h with h | h
        · rcases flip_ids h with h | h | h | h | h
          · exact .inl h
          · exact .inr (hc (.inl h))
          · exact .inr (hc (.inr (.inl h)))
          · exact .inr (hc (.inr (.inr (.inl h))))
          · exact .inr (hc (.inr (.inr (.inr (.inl h)))))
        · exact .inr (hc (.inr (.inr (.inr (.inr h)))))
      · rcases zip_ids fs h with h | h
        · rcases rot_ids h with h | h | h | h | h
          · exact .inl h
          · exact .inr (hc (.inl h))
          · exact .inr (hc (.inr (.inl h)))
          · exact .inr (hc (.inr (.inr (.inl h))))
          · exact .inr (hc (.inr (.inr (.inr (.inl h)))))
        · exact .inr (hc (.inr (.inr (.inr (.inr h)))))
    · exact zip_ids _ h
theorem dsc_ids (zb ze : Ky) : ∀ (t : T) (fs : Ctx) {j : Nat}, j ∈ cids (dsc zb ze t fs) → j ∈ t.ids ∨ j ∈ cids fs
  | .leaf, fs, j, h => .inr h
  | .node i l x c r, fs, j, h => by
    unfold dsc at h
    split at h
    · rcases dsc_ids zb ze l _ h with h | h
      · exact .inl (by simp [T.ids, h])
      · simp only [cids, List.mem_cons, List.mem_append] at h
        simp only [T.ids, List.mem_cons, List.mem_append]
        grind
    · rcases dsc_ids zb ze r _ h with h | h
      · exact .inl (by simp [T.ids, h])
      · simp only [cids, List.mem_cons, List.mem_append] at h
        simp only [T.ids, List.mem_cons, List.mem_append]
        grind
/-- the tree behind an insert -/
def insT (z : Nat) (x : It) (t : T) : T := (afx (dsc x.b.k x.e.k t []) (.node z .leaf x true .leaf)).blacken
theorem insT_ids {z : Nat} {x : It} {t : T} {j : Nat} (h : j ∈ (insT z x t).ids) : j = z ∨ j ∈ t.ids := by
  unfold insT at h
  rw [blacken_ids] at h
  rcases afx_ids _ h with h | h
  · simp only [T.ids, List.append_nil, List.mem_singleton] at h; exact .inl h
  · rcases dsc_ids _ _ _ _ h with h | h
    · exact .inr h
    · cases h
theorem ins_spec {s n k root z : Nat} {S : St} {EL : List En} {D : List Nat} {t : T} {eb ee : En} {v : TypeId × Value} (h : Z s root S [] t root) (ht : t.red = false) (ok : Ok s EL D S) (hroot : Is s D root) (heb : eb ∈ EL) (hee : ee ∈ EL) (hzs : z ≠ s) (hzt : z ∉ t.ids) (htD : ∀ j ∈ t.ids, j ∈ D)
    (hk : t.depth ≤ k) (hn : t.depth + 1 < n) :
    InsOk s n k D S root eb ee v z ∧ Z s (insF s n k S root eb ee v z).2 (setC (insF s n k S root eb ee v z).1 (insF s n k S root eb ee v z).2 0) [] (insT z ⟨eb, ee, v.1, v.2⟩ t) (insF s n k S root eb ee v z).2 := by
  have o1 : ∀ i, i ≠ z → upd S z (newn eb ee v s) i = S i := fun i hi => upd_other _ _ hi
  have z1 : upd S z (newn eb ee v s) z = ⟨⟨eb, ee, v.1, v.2⟩, ee, s, s, s, 1⟩ := upd_same _ _ _
  have ok1 : Ok s EL (z :: D) (upd S z (newn eb ee v s)) := Ok.new ok heb hee
  have hZ1 : Z s root (upd S z (newn eb ee v s)) [] t root := ⟨rfl, RM_congr (fun j hj => o1 j (ne_mem hj hzt)) h.rm, h.nd⟩
  obtain ⟨d1, d2, d3, d4⟩ := des_spec (z := z) (k := k) hZ1 hk
  have hlen := dsc_len eb.k ee.k t []
  have htop := dsc_topB eb.k ee.k t [] trivial (fun _ => ht)
  have hids : z ∉ cids (dsc eb.k ee.k t []) := by
    intro hj
    rcases dsc_ids _ _ _ _ hj with h | h
    · exact hzt h
    · cases h
  have eS : ∀ S1 : St, S1 = upd S z (newn eb ee v s) → (S1 z).it.b.k = eb.k ∧ (S1 z).it.e.k = ee.k := fun S1 e => by rw [e, z1]; exact ⟨rfl, rfl⟩
  rw [(eS _ rfl).1, (eS _ rfl).2] at d1 d3 d4
  have hgo : ∀ f fs', dsc eb.k ee.k t [] = f :: fs' → (f.left = true ↔ goL (upd S z (newn eb ee v s)) z f.i) := fun f fs' e => by
    refine d4 f fs' e ?_
    rintro rfl
    cases e
  simp only [List.length_nil, Nat.zero_add] at hlen
  obtain ⟨S4, root4, g1, g2⟩ := hang_spec (n := n) (z := z) d3 hzs hids z1 hgo (by omega)
  have hins : insS s n k S root eb ee v z = (S4, root4) := by
    unfold insS
    have d1' : des s (upd S z (newn eb ee v s)) z k root s = par s (dsc eb.k ee.k t []) := d1
    rw [d1']; exact g1
  have g3 := g2.col true
  have hl1 : (dsc eb.k ee.k t []).length ≤ k := by omega
  have hl2 : (dsc eb.k ee.k t []).length + 1 < n := by omega
  obtain ⟨x1, S5, root5, x2, x3⟩ := fx_spec k g3 hl1 hl2 htop
  have hF : insF s n k S root eb ee v z = (S5, root5) := by unfold insF; rw [hins]; exact x2
  have hne : afx (dsc eb.k ee.k t []) (.node z .leaf ⟨eb, ee, v.1, v.2⟩ true .leaf) ≠ .leaf := afx_ne _ ⟨_, _, _, _, _, rfl⟩
  have x4 : Z s root5 (setC S5 root5 0) [] (insT z ⟨eb, ee, v.1, v.2⟩ t) root5 := by
    unfold insT
    revert x3 hne
    cases afx (dsc eb.k ee.k t []) (.node z .leaf ⟨eb, ee, v.1, v.2⟩ true .leaf) with
    | leaf => exact fun _ hne => absurd rfl hne
    | node i l x c r =>
      intro x3 hne
      obtain rfl : root5 = i := x3.rm.1
      exact x3.col false
  have hr5 : root5 ≠ s := by
    intro e
    have h0 := x3.rm
    revert h0 hne
    cases afx (dsc eb.k ee.k t []) (.node z .leaf ⟨eb, ee, v.1, v.2⟩ true .leaf) with
    | leaf => exact fun hne => absurd rfl hne
    | node i l x c r => intro hne h0; exact h0.2.1 (h0.1.symm.trans e)
  refine ⟨⟨d2, fun y hy hys => ?_, by rw [hins]; exact x1, ?_⟩, by rw [hF]; exact x4⟩
  · have hy' : y = par s (dsc eb.k ee.k t []) := hy.trans d1
    rw [hy']
    exact (Dep_RC (RC_congr (S' := setP (upd S z (newn eb ee v s)) z (par s (dsc eb.k ee.k t []))) (fun j hj => setP_oth _ _ (ne_mem hj hids)) d3.rc)).up (by omega)
  · rw [hF]
    rcases insT_ids (RM_ne x4.rm hr5) with h | h
    · rw [show root5 = z from h]; exact List.mem_cons_self
    · exact List.mem_cons_of_mem _ (htD _ h)
end Go.Proofs.Ytbomnihiapjmpaa.TrP

namespace Go.Proofs.Ytbomnihiapjmpaa.Tk
open Go.RowKit Go.Proofs.Ytbomnihiapjmpaa Go.Proofs.Ytbomnihiapjmpaa.Sl Go.Proofs.Ytbomnihiapjmpaa.TrP Go.Proofs.Ytbomnihiapjmpaa.Tc Go.Proofs.Ytbomnihiapjmpaa.Td Go.Proofs.Ytbomnihiapjmpaa.Te Go.Proofs.Ytbomnihiapjmpaa.Tf Go.Proofs.Ytbomnihiapjmpaa.Tg Go.Proofs.Ytbomnihiapjmpaa.Th Go.Proofs.Ytbomnihiapjmpaa.Ti
set_option linter.unusedVariables false
set_option linter.unusedSimpArgs false
set_option linter.unusedSectionVars false


theorem RM_node {s : Nat} {S : St} {t : T} {x p : Nat} (h : RM s S t x p) (hx : x ≠ s) : ∃ l it c r, t = .node x l it c r ∧ (S x).it = it ∧ RM s S l (S x).l x ∧ RM s S r (S x).r x := by
  cases t with
  | leaf => exact absurd h hx
  | node i l it c r => obtain ⟨rfl, h2, h3, h4, h5, h6, h7, h8⟩ := h; exact ⟨l, it, c, r, rfl, h3, h7, h8⟩
theorem RM_leaf {s : Nat} {S : St} {t : T} {x p : Nat} (h : RM s S t x p) (hx : x = s) : t = .leaf := by
  cases t with
  | leaf => rfl
  | node i l it c r => obtain ⟨rfl, h2, -⟩ := h; exact absurd hx h2
def lets (ib : Ky) : Option Ky → Bool
  | none => false
  | some m => decide (klt ib m)
/-- is there an interval that has something in common with the one from ib to ie? -/
def isect (ib ie : Ky) : T → Bool
  | .leaf => false
  | .node _ l x _ r => if icmp ib ie x.b.k x.e.k = 0 then true else if lets ib l.mx then isect ib ie l else isect ib ie r
theorem isect_l {ib ie : Ky} {i : Nat} {l r : T} {x : It} {c : Bool} (h : ¬ icmp ib ie x.b.k x.e.k = 0) (h2 : lets ib l.mx = true) : isect ib ie (.node i l x c r) = isect ib ie l := by
  conv => lhs; unfold isect
  rw [if_neg h, if_pos h2]
theorem isect_r {ib ie : Ky} {i : Nat} {l r : T} {x : It} {c : Bool} (h : ¬ icmp ib ie x.b.k x.e.k = 0) (h2 : lets ib l.mx = false) : isect ib ie (.node i l x c r) = isect ib ie r := by
  conv => lhs; unfold isect
  rw [if_neg h, if_neg (by rw [h2]; simp)]
theorem isect_y {ib ie : Ky} {i : Nat} {l r : T} {x : It} {c : Bool} (h : icmp ib ie x.b.k x.e.k = 0) : isect ib ie (.node i l x c r) = true := by
  unfold isect
  rw [if_pos h]
theorem lets_s {s : Nat} {S : St} {t : T} {q p : Nat} {ib : Ky} (h : RM s S t q p) (hq : q = s) : lets ib t.mx = false := by rw [RM_leaf h hq]; rfl
theorem lets_t {s : Nat} {S : St} {t : T} {q p : Nat} {ib : Ky} (h : RM s S t q p) (hq : q ≠ s) (hk : 0 < kcmp (S q).m.k ib) : lets ib t.mx = true := by
  have e := RM_mx h
  unfold chm okey at e
  rw [if_neg hq] at e
  rw [← e]
  exact decide_eq_true (kcmp_gt.1 hk)
theorem lets_f {s : Nat} {S : St} {t : T} {q p : Nat} {ib : Ky} (h : RM s S t q p) (hq : q ≠ s) (hk : ¬ 0 < kcmp (S q).m.k ib) : lets ib t.mx = false := by
  have e := RM_mx h
  unfold chm okey at e
  rw [if_neg hq] at e
  rw [← e]
  exact decide_eq_false (fun h => hk (kcmp_gt.2 h))
set_option maxRecDepth 100000 in
set_option maxHeartbeats 2000000 in
theorem isect_does (EL : List En) (t0 : TypeId) (hE : ∀ e ∈ EL, e.t = t0) (s : Nat) (D : List Nat) (ZC : List Value) (tb root : Nat) (cnt : Int) (S : St) (ok : Ok s EL D S) (hroot : Is s D root) (T0 : T) (hT : RM s S T0 root s) (ib ie : En) (hib : ib ∈ EL) (hie : ie ∈ EL) : Does Try.prog 139 [.pointer (some ⟨tb, 0, none⟩), .agg #[.iface ib.t (ib.u), .iface ie.t (ie.u)]] [Blk tb [.pointer (some ⟨root, 0, none⟩), .int .i64 (cnt), .pointer (some ⟨s, 0, none⟩)] 180, Ens EL, Sto S D, Blk s ZC 177] (fun v L => v = .bool (isect ib.k ie.k T0) ∧ L = [Blk tb [.pointer (some ⟨root, 0, none⟩), .int .i64 cnt, .pointer (some ⟨s, 0, none⟩)] 180, Ens EL, Sto S D, Blk s ZC 177]) := by
  refine Does.enter 61 Try.func139 rfl rfl rfl fun W F => ?_
  show WPc _ _ _ _ _ [(0, .pointer (some ⟨tb, 0, none⟩)), (1, .agg #[.iface ib.t (ib.u), .iface ie.t (ie.u)])] (Blk tb [.pointer (some ⟨root, 0, none⟩), .int .i64 (cnt), .pointer (some ⟨s, 0, none⟩)] 180 :: Ens EL :: Sto S D :: Blk s ZC 177 :: F)
  refine WPc.seq ?_
  refine WPc.region ?_
  refine WP.eff rfl rfl rfl (Eff.box (C := [.iface ib.t (ib.u), .iface ie.t (ie.u)]) rfl rfl rfl) ?_
  rintro _ _ ⟨b1, rfl, rfl⟩
  refine WP.val rfl rfl rfl (Val.assign rfl rfl) ?_
  refine WP.nil ?_
  refine Out.next ?_
  refine WPc.seq ?_
  refine WPc.region ?_
  refine WP.val rfl rfl rfl (Val.move rfl rfl) ?_
  refine WP.val rfl rfl rfl (Val.nilCheck rfl rfl) ?_
  refine WP.val rfl rfl rfl (Val.fieldAddr (j := 0) rfl Ty.fo180_0 rfl rfl) ?_
  refine WP.val rfl rfl rfl (Val.load rfl Ty.sc168 rfl (fun w h => h.cell 1 rfl rfl)) ?_
  refine WP.val rfl rfl rfl (Val.assign rfl rfl) ?_
  refine WP.nil ?_
  refine Out.next ?_
  refine WPc.seq ?_
  refine WPc.block ?_
  refine WPc.loop (ι := T × Nat) (fun ⟨t, x⟩ => (∃ p, RM s S t x p) ∧ isect ib.k ie.k t = isect ib.k ie.k T0 ∧ Is s D x) (fun ⟨t, x⟩ => [(0, .pointer (some ⟨tb, 0, none⟩)), (3, .pointer (some ⟨b1, 0, none⟩)), (5, .pointer (some ⟨x, 0, none⟩))]) (fun ⟨t, x⟩ => Blk b1 [.iface ib.t (ib.u), .iface ie.t (ie.u)] 172 :: Blk tb [.pointer (some ⟨root, 0, none⟩), .int .i64 (cnt), .pointer (some ⟨s, 0, none⟩)] 180 :: Ens EL :: Sto S D :: Blk s ZC 177 :: F) (fun ⟨t, x⟩ => t.depth) ⟨T0, root⟩ ⟨⟨s, hT⟩, rfl, hroot⟩ ((Sub.cons rfl (Sub.cons rfl (Sub.cons rfl Sub.nil)))) (fun _ h => h) ?_
  rintro ⟨t, x⟩ hI
  show WPc _ _ _ _ _ [(0, .pointer (some ⟨tb, 0, none⟩)), (3, .pointer (some ⟨b1, 0, none⟩)), (5, .pointer (some ⟨x, 0, none⟩))] (Blk b1 [.iface ib.t (ib.u), .iface ie.t (ie.u)] 172 :: Blk tb [.pointer (some ⟨root, 0, none⟩), .int .i64 (cnt), .pointer (some ⟨s, 0, none⟩)] 180 :: Ens EL :: Sto S D :: Blk s ZC 177 :: F)
  obtain ⟨⟨p, hrm⟩, hsec, hx⟩ := hI
  refine WPc.seq ?_
  refine WPc.seq ?_
  refine WPc.region ?_
  refine WP.val rfl rfl rfl (Val.move rfl rfl) ?_
  refine WP.val rfl rfl rfl (Val.move rfl rfl) ?_
  refine WP.val rfl rfl rfl (Val.nilCheck rfl rfl) ?_
  refine WP.val rfl rfl rfl (Val.fieldAddr (j := 2) rfl Ty.fo180_2 rfl rfl) ?_
  refine WP.val rfl rfl rfl (Val.load rfl Ty.sc168 rfl (fun w h => h.cell 1 rfl rfl)) ?_
  refine WP.val rfl rfl rfl (Val.neqP (T1 := 177) (T2 := 177) rfl pn168 rfl rfl rfl rfl (fun w h => whole (h.at 3 rfl) (h.at 4 rfl) hx) (fun w h => whole (h.at 3 rfl) (h.at 4 rfl) (.inl rfl))) ?_
  refine WP.val rfl rfl rfl (Val.move rfl rfl) ?_
  refine WP.split 16 rfl (fun h1 => ?_) (fun h1 => ?_)
  · skip
    have h1 : (x ≠ s) := h1
    refine WP.valG rfl rfl rfl rfl rfl rfl rfl (Val.move rfl rfl) ?_
    refine WP.valG rfl rfl rfl rfl rfl rfl rfl (Val.nilCheck rfl rfl) ?_
    refine WP.valG rfl rfl rfl rfl rfl rfl rfl (Val.fieldAddr (j := 0) rfl Ty.fo177_0 rfl rfl) ?_
    refine WP.valG rfl rfl rfl rfl rfl rfl rfl (Val.fieldAddr (j := 0) rfl Ty.fo174_0 rfl rfl) ?_
    refine WP.valG rfl rfl rfl rfl rfl rfl rfl (Val.iface rfl rfl Ty.ni279) ?_
    refine WP.perm pl2 ?_
    refine WP.perm pl3 ?_
    refine WP.perm pl2 ?_
    refine WP.effG rfl rfl rfl rfl rfl rfl rfl (Eff.call rfl rfl Try.call153 (icmp_does (Blk b1 [.iface ib.t ib.u, .iface ie.t ie.u] 172) (Sto S D) EL t0 hE b1 x ib ie (S x).it.b (S x).it.e hib hie (Ok.b ok (Is.mem hx (by first | assumption | (intro hh; simp_all; done) | (simp_all; done)))) (Ok.e ok (Is.mem hx (by first | assumption | (intro hh; simp_all; done) | (simp_all; done)))) (fun w h => h.cell 0) (fun w h => h.cell 1) (fun w h => sto_b h (Is.mem hx (by first | assumption | (intro hh; simp_all; done) | (simp_all; done))) rfl) (fun w h => sto_e h (Is.mem hx (by first | assumption | (intro hh; simp_all; done) | (simp_all; done))) rfl))) ?_
    rintro _ _ ⟨_, ⟨rfl, rfl⟩, rfl⟩
    show WP _ _ _ _ _ _ _ (Blk b1 [.iface ib.t (ib.u), .iface ie.t (ie.u)] 172 :: Sto S D :: Ens EL :: Blk tb [.pointer (some ⟨root, 0, none⟩), .int .i64 (cnt), .pointer (some ⟨s, 0, none⟩)] 180 :: Blk s ZC 177 :: F)
    refine WP.valG rfl rfl rfl rfl rfl rfl rfl (Val.neq rfl rfl rfl) ?_
    refine WP.val rfl rfl rfl (Val.pickT rfl rfl rfl) ?_
    refine WP.nil ?_
    refine Out.next ?_
    refine WPc.ifP rfl (fun h2 => ?_) (fun h2 => ?_)
    · skip
      have h2 : ((icmp ib.k ie.k ((S x).it.b).k ((S x).it.e).k) ≠ (0 : Int)) := h2
      refine WPc.skip ?_
      refine Out.next ?_
      refine WPc.block ?_
      refine WPc.seq ?_
      have hxs : x ≠ s := by assumption
      obtain ⟨l, it, c, r, rfl, hit, hl, hr⟩ := RM_node hrm hxs
      have hxD : x ∈ D := hx.mem hxs
      have hic : ¬ icmp ib.k ie.k it.b.k it.e.k = 0 := by rw [← hit]; assumption
      refine WPD.start (Sat W (Blk b1 [.iface ib.t (ib.u), .iface ie.t (ie.u)] 172 :: Sto S D :: Ens EL :: Blk tb [.pointer (some ⟨root, 0, none⟩), .int .i64 (cnt), .pointer (some ⟨s, 0, none⟩)] 180 :: Blk s ZC 177 :: F)) Ty.mixed ?_
      refine WPD.takeM 0 rfl rfl rfl rfl (by kernel_rfl) (by kernel_rfl) (by kernel_rfl) (by kernel_rfl) (fun _ _ _ h => h) (fun _ h => h) (Val.move rfl rfl) ?_
      refine WPD.takeM 1 rfl rfl rfl rfl (by kernel_rfl) (by kernel_rfl) (by kernel_rfl) (by kernel_rfl) (fun _ _ _ h => h) (fun _ h => h) (Val.nilCheck rfl rfl) ?_
      refine WPD.takeM 2 rfl rfl rfl rfl (by kernel_rfl) (by kernel_rfl) (by kernel_rfl) (by kernel_rfl) (fun _ _ _ h => h) (fun _ h => h) (Val.fieldAddr (j := 4) rfl Ty.fo177_2 rfl rfl) ?_
      refine WPD.take 3 rfl rfl rfl rfl (by kernel_rfl) (by kernel_rfl) (by kernel_rfl) (by kernel_rfl) (fun _ _ _ h => h) (by kernel_rfl) (fun _ h => h) (Val.load (v := .pointer (some ⟨(S x).l, 0, none⟩)) rfl Ty.sc168 rfl (fun w h => sto_l (h.at 1 rfl) hxD rfl)) ?_
      refine WPD.takeM 4 rfl rfl rfl rfl (by kernel_rfl) (by kernel_rfl) (by kernel_rfl) (by kernel_rfl) (fun _ _ _ h => h) (fun _ h => h) (Val.move rfl rfl) ?_
      refine WPD.takeM 5 rfl rfl rfl rfl (by kernel_rfl) (by kernel_rfl) (by kernel_rfl) (by kernel_rfl) (fun _ _ _ h => h) (fun _ h => h) (Val.nilCheck rfl rfl) ?_
      refine WPD.takeM 6 rfl rfl rfl rfl (by kernel_rfl) (by kernel_rfl) (by kernel_rfl) (by kernel_rfl) (fun _ _ _ h => h) (fun _ h => h) (Val.fieldAddr (j := 2) rfl Ty.fo180_2 rfl rfl) ?_
      refine WPD.take 7 rfl rfl rfl rfl (by kernel_rfl) (by kernel_rfl) (by kernel_rfl) (by kernel_rfl) (fun _ _ _ h => h) (by kernel_rfl) (fun _ h => h) (Val.load rfl Ty.sc168 rfl (fun w h => h.cell 3 rfl rfl)) ?_
      refine WPD.take 8 rfl rfl rfl rfl (by kernel_rfl) (by kernel_rfl) (by kernel_rfl) (by kernel_rfl) (fun _ _ _ h => h) (by kernel_rfl) (fun _ h => h) (Val.neqP (T1 := 177) (T2 := 177) rfl pn168 rfl rfl rfl rfl (fun w h => whole (h.at 1 rfl) (h.at 4 rfl) (Ok.l ok hxD)) (fun w h => whole (h.at 1 rfl) (h.at 4 rfl) (.inl rfl))) ?_
      refine WPD.takeM 9 rfl rfl rfl rfl (by kernel_rfl) (by kernel_rfl) (by kernel_rfl) (by kernel_rfl) (fun _ _ _ h => h) (fun _ h => h) (Val.move rfl rfl) ?_
      refine WPD.split 34 rfl (fun h3 => ?_) (fun h3 => ?_)
      · skip
        have h3 : ((S x).l ≠ s) := h3
        refine WPD.takeGM 10 rfl rfl rfl rfl rfl rfl rfl rfl (by kernel_rfl) (by kernel_rfl) (by kernel_rfl) (by kernel_rfl) (fun _ _ _ h => h) (fun _ h => h) (Val.move rfl rfl) ?_
        refine WPD.takeGM 11 rfl rfl rfl rfl rfl rfl rfl rfl (by kernel_rfl) (by kernel_rfl) (by kernel_rfl) (by kernel_rfl) (fun _ _ _ h => h) (fun _ h => h) (Val.nilCheck rfl rfl) ?_
        refine WPD.takeGM 12 rfl rfl rfl rfl rfl rfl rfl rfl (by kernel_rfl) (by kernel_rfl) (by kernel_rfl) (by kernel_rfl) (fun _ _ _ h => h) (fun _ h => h) (Val.fieldAddr (j := 4) rfl Ty.fo177_2 rfl rfl) ?_
        refine WPD.takeG 13 rfl rfl rfl rfl rfl rfl rfl rfl (by kernel_rfl) (by kernel_rfl) (by kernel_rfl) (by kernel_rfl) (fun _ _ _ h => h) (by kernel_rfl) (fun _ h => h) (Val.load (v := .pointer (some ⟨(S x).l, 0, none⟩)) rfl Ty.sc168 rfl (fun w h => sto_l (h.at 1 rfl) hxD rfl)) ?_
        refine WPD.takeGM 14 rfl rfl rfl rfl rfl rfl rfl rfl (by kernel_rfl) (by kernel_rfl) (by kernel_rfl) (by kernel_rfl) (fun _ _ _ h => h) (fun _ h => h) (Val.nilCheck rfl rfl) ?_
        refine WPD.takeGM 15 rfl rfl rfl rfl rfl rfl rfl rfl (by kernel_rfl) (by kernel_rfl) (by kernel_rfl) (by kernel_rfl) (fun _ _ _ h => h) (fun _ h => h) (Val.fieldAddr (j := 3) rfl Ty.fo177_1 rfl rfl) ?_
        refine WPD.takeG 16 rfl rfl rfl rfl rfl rfl rfl rfl (by kernel_rfl) (by kernel_rfl) (by kernel_rfl) (by kernel_rfl) (fun _ _ _ h => h) (by kernel_rfl) (fun _ h => h) (Val.load (v := .iface ((S ((S x).l)).m).t (((S ((S x).l)).m).u)) rfl Ty.sc170 rfl (fun w h => sto_m (h.at 1 rfl) (Is.mem (Ok.l ok hxD) (by first | assumption | (intro hh; simp_all; done) | (simp_all; done))) rfl)) ?_
        refine WPD.takeGM 17 rfl rfl rfl rfl rfl rfl rfl rfl (by kernel_rfl) (by kernel_rfl) (by kernel_rfl) (by kernel_rfl) (fun _ _ _ h => h) (fun _ h => h) (Val.fieldAddr (j := 0) rfl Ty.fo172_0 rfl rfl) ?_
        refine WPD.takeG 18 rfl rfl rfl rfl rfl rfl rfl rfl (by kernel_rfl) (by kernel_rfl) (by kernel_rfl) (by kernel_rfl) (fun _ _ _ h => h) (by kernel_rfl) (fun _ h => h) (Val.load rfl Ty.sc170 rfl (fun w h => h.cell 0 rfl rfl)) ?_
        refine WPD.perm pl2 ?_
        refine WPD.stepGC 19 (by kernel_rfl) rfl rfl rfl rfl rfl rfl rfl rfl (by kernel_rfl) (Eff.cmp (a := (S ((S x).l)).m) (b := ib) rfl rfl rfl (Ok.m ok (Is.mem (Ok.l ok hxD) (by first | assumption | (intro hh; simp_all; done) | (simp_all; done)))) hib ((hE _ (Ok.m ok (Is.mem (Ok.l ok hxD) (by first | assumption | (intro hh; simp_all; done) | (simp_all; done))))).trans (hE _ hib).symm)) ?_
        rintro _ _ ⟨rfl, rfl⟩
        refine ⟨(Sat W (Ens EL :: Blk b1 [.iface ib.t (ib.u), .iface ie.t (ie.u)] 172 :: Sto S D :: Blk tb [.pointer (some ⟨root, 0, none⟩), .int .i64 (cnt), .pointer (some ⟨s, 0, none⟩)] 180 :: Blk s ZC 177 :: F)), (fun _ h => h), ?_⟩
        refine WPD.takeGM 20 rfl rfl rfl rfl rfl rfl rfl rfl (by kernel_rfl) (by kernel_rfl) (by kernel_rfl) (by kernel_rfl) (fun _ _ _ h => h) (fun _ h => h) (Val.gtr rfl rfl rfl) ?_
        refine WPD.takeM 21 rfl rfl rfl rfl (by kernel_rfl) (by kernel_rfl) (by kernel_rfl) (by kernel_rfl) (fun _ _ _ h => h) (fun _ h => h) (Val.pickT rfl rfl rfl) ?_
        refine WPD.done (by kernel_rfl) ?_
        refine Out.next ?_
        refine WPc.ifP rfl (fun h4 => ?_) (fun h4 => ?_)
        · skip
          have h4 : ((0 : Int) < (kcmp ((S ((S x).l)).m).k ib.k)) := h4
          have hlt : lets ib.k l.mx = true := lets_t hl (by assumption) (by assumption)
          refine WPc.region ?_
          refine WP.val rfl rfl rfl (Val.move rfl rfl) ?_
          refine WP.val rfl rfl rfl (Val.nilCheck rfl rfl) ?_
          refine WP.val rfl rfl rfl (Val.fieldAddr (j := 4) rfl Ty.fo177_2 rfl rfl) ?_
          refine WP.val rfl rfl rfl (Val.load (v := .pointer (some ⟨(S x).l, 0, none⟩)) rfl Ty.sc168 rfl (fun w h => sto_l (h.at 2 rfl) hxD rfl)) ?_
          refine WP.val rfl rfl rfl (Val.assign rfl rfl) ?_
          refine WP.nil ?_
          refine Out.block ?_
          have hs2 : isect ib.k ie.k l = isect ib.k ie.k T0 := by rw [← hsec, isect_l hic hlt]
          refine Out.perm pl4 ?_
          refine Out.perm pl3 ?_
          refine Out.perm pl2 ?_
          refine Out.perm pl4 ?_
          refine Out.perm pl4 ?_
          refine Out.again ⟨l, (S x).l⟩ ?_ ?_ ?_ ?_
          · exact ⟨⟨x, hl⟩, hs2, (Ok.l ok hxD)⟩
          · show T.depth _ < T.depth (.node x l it c r); simp only [T.depth]; omega
          · exact (Sub.cons rfl (Sub.cons rfl (Sub.cons rfl Sub.nil)))
          · exact (fun _ h => h)
        · skip
          have h4 : ¬ ((0 : Int) < (kcmp ((S ((S x).l)).m).k ib.k)) := h4
          have hlt : lets ib.k l.mx = false := by first | exact lets_f hl (by assumption) (by assumption) | exact lets_s hl (Decidable.byContradiction (by assumption)) | exact lets_s hl (by assumption)
          refine WPc.region ?_
          refine WP.val rfl rfl rfl (Val.move rfl rfl) ?_
          refine WP.val rfl rfl rfl (Val.nilCheck rfl rfl) ?_
          refine WP.val rfl rfl rfl (Val.fieldAddr (j := 5) rfl Ty.fo177_3 rfl rfl) ?_
          refine WP.val rfl rfl rfl (Val.load (v := .pointer (some ⟨(S x).r, 0, none⟩)) rfl Ty.sc168 rfl (fun w h => sto_r (h.at 2 rfl) hxD rfl)) ?_
          refine WP.val rfl rfl rfl (Val.assign rfl rfl) ?_
          refine WP.nil ?_
          refine Out.block ?_
          have hs2 : isect ib.k ie.k r = isect ib.k ie.k T0 := by rw [← hsec, isect_r hic hlt]
          refine Out.perm pl4 ?_
          refine Out.perm pl3 ?_
          refine Out.perm pl2 ?_
          refine Out.perm pl4 ?_
          refine Out.perm pl4 ?_
          refine Out.again ⟨r, (S x).r⟩ ?_ ?_ ?_ ?_
          · exact ⟨⟨x, hr⟩, hs2, (Ok.r ok hxD)⟩
          · show T.depth _ < T.depth (.node x l it c r); simp only [T.depth]; omega
          · exact (Sub.cons rfl (Sub.cons rfl (Sub.cons rfl Sub.nil)))
          · exact (fun _ h => h)
      · skip
        have h3 : ¬ ((S x).l ≠ s) := h3
        refine WPD.skip 10 rfl rfl rfl rfl rfl rfl rfl rfl (by kernel_rfl) (by kernel_rfl) (by kernel_rfl) (by kernel_rfl) (fun _ _ _ h => h) (fun _ h => h) ?_
        refine WPD.skip 11 rfl rfl rfl rfl rfl rfl rfl rfl (by kernel_rfl) (by kernel_rfl) (by kernel_rfl) (by kernel_rfl) (fun _ _ _ h => h) (fun _ h => h) ?_
        refine WPD.skip 12 rfl rfl rfl rfl rfl rfl rfl rfl (by kernel_rfl) (by kernel_rfl) (by kernel_rfl) (by kernel_rfl) (fun _ _ _ h => h) (fun _ h => h) ?_
        refine WPD.skip 13 rfl rfl rfl rfl rfl rfl rfl rfl (by kernel_rfl) (by kernel_rfl) (by kernel_rfl) (by kernel_rfl) (fun _ _ _ h => h) (fun _ h => h) ?_
        refine WPD.skip 14 rfl rfl rfl rfl rfl rfl rfl rfl (by kernel_rfl) (by kernel_rfl) (by kernel_rfl) (by kernel_rfl) (fun _ _ _ h => h) (fun _ h => h) ?_
        refine WPD.skip 15 rfl rfl rfl rfl rfl rfl rfl rfl (by kernel_rfl) (by kernel_rfl) (by kernel_rfl) (by kernel_rfl) (fun _ _ _ h => h) (fun _ h => h) ?_
        refine WPD.skip 16 rfl rfl rfl rfl rfl rfl rfl rfl (by kernel_rfl) (by kernel_rfl) (by kernel_rfl) (by kernel_rfl) (fun _ _ _ h => h) (fun _ h => h) ?_
        refine WPD.skip 17 rfl rfl rfl rfl rfl rfl rfl rfl (by kernel_rfl) (by kernel_rfl) (by kernel_rfl) (by kernel_rfl) (fun _ _ _ h => h) (fun _ h => h) ?_
        refine WPD.skip 18 rfl rfl rfl rfl rfl rfl rfl rfl (by kernel_rfl) (by kernel_rfl) (by kernel_rfl) (by kernel_rfl) (fun _ _ _ h => h) (fun _ h => h) ?_
        refine WPD.skip 19 rfl rfl rfl rfl rfl rfl rfl rfl (by kernel_rfl) (by kernel_rfl) (by kernel_rfl) (by kernel_rfl) (fun _ _ _ h => h) (fun _ h => h) ?_
        refine WPD.skip 20 rfl rfl rfl rfl rfl rfl rfl rfl (by kernel_rfl) (by kernel_rfl) (by kernel_rfl) (by kernel_rfl) (fun _ _ _ h => h) (fun _ h => h) ?_
        refine WPD.takeM 21 rfl rfl rfl rfl (by kernel_rfl) (by kernel_rfl) (by kernel_rfl) (by kernel_rfl) (fun _ _ _ h => h) (fun _ h => h) (Val.pickF rfl rfl rfl) ?_
        refine WPD.done (by kernel_rfl) ?_
        refine Out.next ?_
        refine WPc.condF rfl rfl ?_
        have hlt : lets ib.k l.mx = false := by first | exact lets_f hl (by assumption) (by assumption) | exact lets_s hl (Decidable.byContradiction (by assumption)) | exact lets_s hl (by assumption)
        refine WPc.region ?_
        refine WP.val rfl rfl rfl (Val.move rfl rfl) ?_
        refine WP.val rfl rfl rfl (Val.nilCheck rfl rfl) ?_
        refine WP.val rfl rfl rfl (Val.fieldAddr (j := 5) rfl Ty.fo177_3 rfl rfl) ?_
        refine WP.val rfl rfl rfl (Val.load (v := .pointer (some ⟨(S x).r, 0, none⟩)) rfl Ty.sc168 rfl (fun w h => sto_r (h.at 1 rfl) hxD rfl)) ?_
        refine WP.val rfl rfl rfl (Val.assign rfl rfl) ?_
        refine WP.nil ?_
        refine Out.block ?_
        have hs2 : isect ib.k ie.k r = isect ib.k ie.k T0 := by rw [← hsec, isect_r hic hlt]
        refine Out.perm pl4 ?_
        refine Out.perm pl2 ?_
        refine Out.perm pl3 ?_
        refine Out.perm pl4 ?_
        refine Out.perm pl4 ?_
        refine Out.again ⟨r, (S x).r⟩ ?_ ?_ ?_ ?_
        · exact ⟨⟨x, hr⟩, hs2, (Ok.r ok hxD)⟩
        · show T.depth _ < T.depth (.node x l it c r); simp only [T.depth]; omega
        · exact (Sub.cons rfl (Sub.cons rfl (Sub.cons rfl Sub.nil)))
        · exact (fun _ h => h)
    · skip
      have h2 : ¬ ((icmp ib.k ie.k ((S x).it.b).k ((S x).it.e).k) ≠ (0 : Int)) := h2
      refine WPc.exit ?_
      refine Out.then_exit ?_
      refine Out.then_exit ?_
      refine Out.block_exit ?_
      refine Out.next ?_
      refine WPc.seq ?_
      refine WPc.region ?_
      refine WP.val rfl rfl rfl (Val.move rfl rfl) ?_
      refine WP.val rfl rfl rfl (Val.move rfl rfl) ?_
      refine WP.val rfl rfl rfl (Val.nilCheck rfl rfl) ?_
      refine WP.val rfl rfl rfl (Val.fieldAddr (j := 2) rfl Ty.fo180_2 rfl rfl) ?_
      refine WP.val rfl rfl rfl (Val.load rfl Ty.sc168 rfl (fun w h => h.cell 3 rfl rfl)) ?_
      refine WP.val rfl rfl rfl (Val.neqP (T1 := 177) (T2 := 177) rfl pn168 rfl rfl rfl rfl (fun w h => whole (h.at 1 rfl) (h.at 4 rfl) hx) (fun w h => whole (h.at 1 rfl) (h.at 4 rfl) (.inl rfl))) ?_
      refine WP.val rfl rfl rfl (Val.assign rfl rfl) ?_
      refine WP.nil ?_
      refine Out.next ?_
      refine WPc.ret ?_
      have hres : decide (x ≠ s) = isect ib.k ie.k T0 := by
        rw [← hsec]
        by_cases hxs : x = s
        · rw [RM_leaf hrm hxs, decide_eq_false (fun h => h hxs)]; rfl
        · obtain ⟨l, it, c, r, rfl, hit, hl, hr⟩ := RM_node hrm hxs
          rw [decide_eq_true hxs, isect_y (by rw [← hit]; first | exact Decidable.byContradiction (by assumption) | assumption | exact absurd (by assumption) hxs | (exfalso; simp_all))]
      refine Out.drop ?_
      refine Out.perm pl3 ?_
      refine Out.perm pl1 ?_
      refine Out.perm pl2 ?_
      refine Out.perm pl3 ?_
      exact Out.ret1 (L' := _) Try.results139 rfl ⟨congrArg Value.bool hres, rfl⟩ (fun _ h => h)
  · skip
    have h1 : ¬ (x ≠ s) := h1
    refine WP.skip rfl rfl rfl rfl rfl rfl rfl ?_
    refine WP.skip rfl rfl rfl rfl rfl rfl rfl ?_
    refine WP.skip rfl rfl rfl rfl rfl rfl rfl ?_
    refine WP.skip rfl rfl rfl rfl rfl rfl rfl ?_
    refine WP.skip rfl rfl rfl rfl rfl rfl rfl ?_
    refine WP.skip rfl rfl rfl rfl rfl rfl rfl ?_
    refine WP.skip rfl rfl rfl rfl rfl rfl rfl ?_
    refine WP.val rfl rfl rfl (Val.pickF rfl rfl rfl) ?_
    refine WP.nil ?_
    refine Out.next ?_
    refine WPc.condF rfl rfl ?_
    refine WPc.exit ?_
    refine Out.then_exit ?_
    refine Out.then_exit ?_
    refine Out.block_exit ?_
    refine Out.next ?_
    refine WPc.seq ?_
    refine WPc.region ?_
    refine WP.val rfl rfl rfl (Val.move rfl rfl) ?_
    refine WP.val rfl rfl rfl (Val.move rfl rfl) ?_
    refine WP.val rfl rfl rfl (Val.nilCheck rfl rfl) ?_
    refine WP.val rfl rfl rfl (Val.fieldAddr (j := 2) rfl Ty.fo180_2 rfl rfl) ?_
    refine WP.val rfl rfl rfl (Val.load rfl Ty.sc168 rfl (fun w h => h.cell 1 rfl rfl)) ?_
    refine WP.val rfl rfl rfl (Val.neqP (T1 := 177) (T2 := 177) rfl pn168 rfl rfl rfl rfl (fun w h => whole (h.at 3 rfl) (h.at 4 rfl) hx) (fun w h => whole (h.at 3 rfl) (h.at 4 rfl) (.inl rfl))) ?_
    refine WP.val rfl rfl rfl (Val.assign rfl rfl) ?_
    refine WP.nil ?_
    refine Out.next ?_
    refine WPc.ret ?_
    have hres : decide (x ≠ s) = isect ib.k ie.k T0 := by
      rw [← hsec]
      by_cases hxs : x = s
      · rw [RM_leaf hrm hxs, decide_eq_false (fun h => h hxs)]; rfl
      · obtain ⟨l, it, c, r, rfl, hit, hl, hr⟩ := RM_node hrm hxs
        rw [decide_eq_true hxs, isect_y (by rw [← hit]; first | exact Decidable.byContradiction (by assumption) | assumption | exact absurd (by assumption) hxs | (exfalso; simp_all))]
    refine Out.drop ?_
    exact Out.ret1 (L' := _) Try.results139 rfl ⟨congrArg Value.bool hres, rfl⟩ (fun _ h => h)

end Go.Proofs.Ytbomnihiapjmpaa.Tk

namespace Go.Proofs.Ytbomnihiapjmpaa.Tl
open Go.RowKit Go.Proofs.Ytbomnihiapjmpaa Go.Proofs.Ytbomnihiapjmpaa.Sl Go.Proofs.Ytbomnihiapjmpaa.TrP Go.Proofs.Ytbomnihiapjmpaa.Tc Go.Proofs.Ytbomnihiapjmpaa.Td Go.Proofs.Ytbomnihiapjmpaa.Te Go.Proofs.Ytbomnihiapjmpaa.Tf Go.Proofs.Ytbomnihiapjmpaa.Tg Go.Proofs.Ytbomnihiapjmpaa.Th Go.Proofs.Ytbomnihiapjmpaa.Ti Go.Proofs.Ytbomnihiapjmpaa.Tk
set_option linter.unusedVariables false
set_option linter.unusedSimpArgs false
set_option linter.unusedSectionVars false


/-- the nodes that are gone to, in order -/
def vl (ib ie : Ky) : T → List Nat
  | .leaf => []
  | .node i l x _ r => if icmp ib ie x.b.k x.e.k < 0 then vl ib ie l
    else if 0 < icmp ib ie x.b.k x.e.k then (if icmp x.b.k (kmo (kmo x.e.k l.mx) r.mx) ib ie = 0 then vl ib ie l ++ vl ib ie r else [])
    else vl ib ie l ++ i :: vl ib ie r
def vfold {σ : Type} (step : σ → Nat → σ × Bool) : List Nat → σ → σ × Bool
  | [], q => (q, true)
  | i :: l, q => if (step q i).2 then vfold step l (step q i).1 else ((step q i).1, false)
theorem vfold_app {σ : Type} {step : σ → Nat → σ × Bool} : ∀ (l m : List Nat) (q : σ), vfold step (l ++ m) q = if (vfold step l q).2 then vfold step m (vfold step l q).1 else ((vfold step l q).1, false)
  | [], m, q => by simp [vfold]
  | i :: l, m, q => by
    simp only [List.cons_append, vfold]
    split
    · rename_i h; rw [vfold_app l m]
    · rename_i h; simp
theorem vl_n {ib ie : Ky} {i : Nat} {l r : T} {x : It} {c : Bool} (h : icmp ib ie x.b.k x.e.k < 0) : vl ib ie (.node i l x c r) = vl ib ie l := by
  conv => lhs; unfold vl
  rw [if_pos h]
theorem vl_p {ib ie : Ky} {i : Nat} {l r : T} {x : It} {c : Bool} (h : ¬ icmp ib ie x.b.k x.e.k < 0) (h2 : 0 < icmp ib ie x.b.k x.e.k) (h3 : icmp x.b.k (kmo (kmo x.e.k l.mx) r.mx) ib ie = 0) : vl ib ie (.node i l x c r) = vl ib ie l ++ vl ib ie r := by
  conv => lhs; unfold vl
  rw [if_neg h, if_pos h2, if_pos h3]
theorem vl_0 {ib ie : Ky} {i : Nat} {l r : T} {x : It} {c : Bool} (h : ¬ icmp ib ie x.b.k x.e.k < 0) (h2 : 0 < icmp ib ie x.b.k x.e.k) (h3 : ¬ icmp x.b.k (kmo (kmo x.e.k l.mx) r.mx) ib ie = 0) : vl ib ie (.node i l x c r) = [] := by
  conv => lhs; unfold vl
  rw [if_neg h, if_pos h2, if_neg h3]
theorem vl_z {ib ie : Ky} {i : Nat} {l r : T} {x : It} {c : Bool} (h : ¬ icmp ib ie x.b.k x.e.k < 0) (h2 : ¬ 0 < icmp ib ie x.b.k x.e.k) : vl ib ie (.node i l x c r) = vl ib ie l ++ i :: vl ib ie r := by
  conv => lhs; unfold vl
  rw [if_neg h, if_neg h2]
structure Pre {σ : Type} (step : σ → Nat → σ × Bool) (pre : Nat → σ → Prop) : Prop where
  step : ∀ {m q i}, pre (m + 1) q → pre m (step q i).1
theorem Pre.fold {σ : Type} {step : σ → Nat → σ × Bool} {pre : Nat → σ → Prop} (h : Pre step pre) : ∀ {l : List Nat} {m : Nat} {q : σ}, pre (l.length + m) q → (vfold step l q).2 = true → pre m (vfold step l q).1
  | [], m, q, hp, _ => by simpa [vfold] using hp
  | i :: l, m, q, hp, h2 => by
    simp only [vfold] at h2 ⊢
    split at h2
    · rename_i hs
      rw [if_pos hs]
      exact Pre.fold h (h.step (by rw [show l.length + m + 1 = (i :: l).length + m from by simp; omega]; exact hp)) h2
    · cases h2
set_option maxRecDepth 100000 in
set_option maxHeartbeats 2000000 in
theorem visit_leaf (A : HProp) (EL : List En) (t0 : TypeId) (hE : ∀ e ∈ EL, e.t = t0) (s : Nat) (D : List Nat) (ZC : List Value) (S : St) (ok : Ok s EL D S) (ivb vb : Nat) (ib ie : En) (hib : ib ∈ EL) (hie : ie ∈ EL) (hA0 : ∀ w, Holds A w → w.cell? ⟨ivb, 0, none⟩ = some (.iface ib.t ib.u)) (hA1 : ∀ w, Holds A w → w.cell? ⟨ivb, 1, none⟩ = some (.iface ie.t ie.u)) (σ : Type) (R : σ → HProp) (step : σ → Nat → σ × Bool) (pre : Nat → σ → Prop) (hpre : Pre step pre) (q : σ) : Does Try.prog 157 [.pointer (some ⟨s, 0, none⟩), .pointer (some ⟨ivb, 0, none⟩), .pointer (some ⟨s, 0, none⟩), .func (.func 158) #[] #[.pointer (some ⟨vb, 0, none⟩)]] [A, Ens EL, Sto S D, Blk s ZC 177, R q] (fun v L => v = .bool (vfold step [] q).2 ∧ L = [A, Ens EL, Sto S D, Blk s ZC 177, R (vfold step [] q).1]) := by
  refine Does.enter 97 Try.func157 rfl rfl rfl fun W F => ?_
  show WPc _ _ _ _ _ [(0, .pointer (some ⟨s, 0, none⟩)), (1, .pointer (some ⟨ivb, 0, none⟩)), (2, .pointer (some ⟨s, 0, none⟩)), (3, .func (.func 158) #[] #[.pointer (some ⟨vb, 0, none⟩)])] (A :: Ens EL :: Sto S D :: Blk s ZC 177 :: R q :: F)
  refine WPc.seq ?_
  refine WPc.region ?_
  refine WP.val rfl rfl rfl (Val.assign rfl rfl) ?_
  refine WP.nil ?_
  refine Out.next ?_
  refine WPc.seq ?_
  refine WPc.seq ?_
  refine WPc.region ?_
  refine WP.val rfl rfl rfl (Val.move rfl rfl) ?_
  refine WP.val rfl rfl rfl (Val.move rfl rfl) ?_
  refine WP.val rfl rfl rfl (Val.eqSame rfl pe168 rfl rfl) ?_
  refine WP.nil ?_
  refine Out.next ?_
  refine WPc.condT rfl rfl ?_
  refine WPc.seq ?_
  refine WPc.region ?_
  refine WP.val rfl rfl rfl (Val.assign rfl rfl) ?_
  refine WP.nil ?_
  refine Out.next ?_
  refine WPc.ret ?_
  refine Out.then_ret ?_
  exact Out.ret1 (L' := _) Try.results157 rfl ⟨rfl, rfl⟩ (fun _ h => h)
set_option maxRecDepth 100000 in
set_option maxHeartbeats 2000000 in
theorem visit_node (A : HProp) (EL : List En) (t0 : TypeId) (hE : ∀ e ∈ EL, e.t = t0) (s : Nat) (D : List Nat) (ZC : List Value) (S : St) (ok : Ok s EL D S) (ivb vb : Nat) (ib ie : En) (hib : ib ∈ EL) (hie : ie ∈ EL) (hA0 : ∀ w, Holds A w → w.cell? ⟨ivb, 0, none⟩ = some (.iface ib.t ib.u)) (hA1 : ∀ w, Holds A w → w.cell? ⟨ivb, 1, none⟩ = some (.iface ie.t ie.u)) (σ : Type) (R : σ → HProp) (step : σ → Nat → σ × Bool) (pre : Nat → σ → Prop) (hpre : Pre step pre) (x : Nat) (hx : x ∈ D) (hxs : x ≠ s) (l r : T) (c : Bool) (hm : (S x).m.k = kmo (kmo (S x).it.e.k l.mx) r.mx) (hv : ∀ i ∈ D, ∀ m q, pre (m + 1) q → Does Try.prog 158 [.pointer (some ⟨i, 0, none⟩), .pointer (some ⟨vb, 0, none⟩)] [A, Ens EL, Sto S D, Blk s ZC 177, R q] (fun v L => v = .bool (step q i).2 ∧ L = [A, Ens EL, Sto S D, Blk s ZC 177, R (step q i).1])) (ihl : ∀ m q, pre ((vl ib.k ie.k l).length + m) q → Does Try.prog 157 [.pointer (some ⟨(S x).l, 0, none⟩), .pointer (some ⟨ivb, 0, none⟩), .pointer (some ⟨s, 0, none⟩), .func (.func 158) #[] #[.pointer (some ⟨vb, 0, none⟩)]] [A, Ens EL, Sto S D, Blk s ZC 177, R q] (fun v L => v = .bool (vfold step (vl ib.k ie.k l) q).2 ∧ L = [A, Ens EL, Sto S D, Blk s ZC 177, R (vfold step (vl ib.k ie.k l) q).1])) (ihr : ∀ m q, pre ((vl ib.k ie.k r).length + m) q → Does Try.prog 157 [.pointer (some ⟨(S x).r, 0, none⟩), .pointer (some ⟨ivb, 0, none⟩), .pointer (some ⟨s, 0, none⟩), .func (.func 158) #[] #[.pointer (some ⟨vb, 0, none⟩)]] [A, Ens EL, Sto S D, Blk s ZC 177, R q] (fun v L => v = .bool (vfold step (vl ib.k ie.k r) q).2 ∧ L = [A, Ens EL, Sto S D, Blk s ZC 177, R (vfold step (vl ib.k ie.k r) q).1])) (m : Nat) (q : σ) (hp : pre ((vl ib.k ie.k (.node x l (S x).it c r)).length + m) q) : Does Try.prog 157 [.pointer (some ⟨x, 0, none⟩), .pointer (some ⟨ivb, 0, none⟩), .pointer (some ⟨s, 0, none⟩), .func (.func 158) #[] #[.pointer (some ⟨vb, 0, none⟩)]] [A, Ens EL, Sto S D, Blk s ZC 177, R q] (fun v L => v = .bool (vfold step (vl ib.k ie.k (.node x l (S x).it c r)) q).2 ∧ L = [A, Ens EL, Sto S D, Blk s ZC 177, R (vfold step (vl ib.k ie.k (.node x l (S x).it c r)) q).1]) := by
  refine Does.enter 97 Try.func157 rfl rfl rfl fun W F => ?_
  show WPc _ _ _ _ _ [(0, .pointer (some ⟨x, 0, none⟩)), (1, .pointer (some ⟨ivb, 0, none⟩)), (2, .pointer (some ⟨s, 0, none⟩)), (3, .func (.func 158) #[] #[.pointer (some ⟨vb, 0, none⟩)])] (A :: Ens EL :: Sto S D :: Blk s ZC 177 :: R q :: F)
  refine WPc.seq ?_
  refine WPc.region ?_
  refine WP.val rfl rfl rfl (Val.assign rfl rfl) ?_
  refine WP.nil ?_
  refine Out.next ?_
  refine WPc.seq ?_
  refine WPc.seq ?_
  refine WPc.region ?_
  refine WP.val rfl rfl rfl (Val.move rfl rfl) ?_
  refine WP.val rfl rfl rfl (Val.move rfl rfl) ?_
  refine WP.val rfl rfl rfl (Val.eqP (T1 := 177) (T2 := 177) rfl pn168 rfl rfl rfl rfl (fun w h => whole (h.at 2 rfl) (h.at 3 rfl) (.inr hx)) (fun w h => whole (h.at 2 rfl) (h.at 3 rfl) (.inl rfl))) ?_
  refine WP.nil ?_
  refine Out.next ?_
  refine WPc.ifP rfl (fun h1 => ?_) (fun h1 => ?_)
  · skip
    have h1 : (x = s) := h1
    exact absurd (by assumption) hxs
  · skip
    have h1 : ¬ (x = s) := h1
    refine WPc.skip ?_
    refine Out.next ?_
    refine WPc.seq ?_
    refine WPc.region ?_
    refine WP.val rfl rfl rfl (Val.move rfl rfl) ?_
    refine WP.val rfl rfl rfl (Val.move rfl rfl) ?_
    refine WP.val rfl rfl rfl (Val.nilCheck rfl rfl) ?_
    refine WP.val rfl rfl rfl (Val.fieldAddr (j := 0) rfl Ty.fo177_0 rfl rfl) ?_
    refine WP.val rfl rfl rfl (Val.fieldAddr (j := 0) rfl Ty.fo174_0 rfl rfl) ?_
    refine WP.val rfl rfl rfl (Val.iface rfl rfl Ty.ni279) ?_
    refine WP.perm pl1 ?_
    refine WP.perm pl2 ?_
    refine WP.perm pl2 ?_
    refine WP.eff rfl rfl rfl (Eff.call rfl rfl Try.call153 (icmp_does A (Sto S D) EL t0 hE ivb x ib ie (S x).it.b (S x).it.e hib hie (Ok.b ok hx) (Ok.e ok hx) hA0 hA1 (fun w h => sto_b h hx rfl) (fun w h => sto_e h hx rfl))) ?_
    rintro _ _ ⟨_, ⟨rfl, rfl⟩, rfl⟩
    show WP _ _ _ _ _ _ _ (A :: Sto S D :: Ens EL :: Blk s ZC 177 :: R q :: F)
    refine WP.val rfl rfl rfl (Val.assign rfl rfl) ?_
    refine WP.nil ?_
    refine Out.next ?_
    refine WPc.seq ?_
    refine WPc.block ?_
    refine WPc.seq ?_
    refine WPc.region ?_
    refine WP.val rfl rfl rfl (Val.move rfl rfl) ?_
    refine WP.val rfl rfl rfl (Val.lss rfl rfl rfl) ?_
    refine WP.val rfl rfl rfl (Val.assign rfl rfl) ?_
    refine WP.nil ?_
    refine Out.next ?_
    refine WPc.ifP rfl (fun h2 => ?_) (fun h2 => ?_)
    · skip
      have h2 : ((icmp ib.k ie.k ((S x).it.b).k ((S x).it.e).k) < (0 : Int)) := h2
      refine WPc.seq ?_
      have hp0 : pre ((vl ib.k ie.k l).length + m) q := by
        have e0 : (vl ib.k ie.k (.node x l (S x).it c r)).length + m = (vl ib.k ie.k l).length + m := by rw [vl_n (by assumption)]; (try simp only [List.length_append, List.length_cons]); (try omega)
        rw [← e0]; exact hp
      refine WPc.region ?_
      refine WP.val rfl rfl rfl (Val.move rfl rfl) ?_
      refine WP.val rfl rfl rfl (Val.nilCheck rfl rfl) ?_
      refine WP.val rfl rfl rfl (Val.fieldAddr (j := 4) rfl Ty.fo177_2 rfl rfl) ?_
      refine WP.val rfl rfl rfl (Val.load (v := .pointer (some ⟨(S x).l, 0, none⟩)) rfl Ty.sc168 rfl (fun w h => sto_l (h.at 1 rfl) hx rfl)) ?_
      refine WP.val rfl rfl rfl (Val.move rfl rfl) ?_
      refine WP.val rfl rfl rfl (Val.move rfl rfl) ?_
      refine WP.val rfl rfl rfl (Val.move rfl rfl) ?_
      refine WP.perm pl4 ?_
      refine WP.perm pl4 ?_
      refine WP.perm pl3 ?_
      refine WP.perm pl4 ?_
      refine WP.perm pl4 ?_
      refine WP.eff rfl rfl rfl (Eff.call rfl rfl Try.call157 (ihl m q hp0)) ?_
      rintro _ _ ⟨_, ⟨rfl, rfl⟩, rfl⟩
      show WP _ _ _ _ _ _ _ (A :: Ens EL :: Sto S D :: Blk s ZC 177 :: R ((vfold step (vl ib.k ie.k l) q).1) :: F)
      refine WP.val rfl rfl rfl (Val.not rfl rfl) ?_
      refine WP.nil ?_
      refine Out.next ?_
      refine WPc.cond rfl (fun h3 => ?_) (fun h3 => ?_)
      · skip
        have h3 : (!((vfold step (vl ib.k ie.k l) q).2)) = true := h3
        refine WPc.seq ?_
        refine WPc.region ?_
        refine WP.val rfl rfl rfl (Val.assign rfl rfl) ?_
        refine WP.nil ?_
        refine Out.next ?_
        refine WPc.ret ?_
        refine Out.block_ret ?_
        refine Out.then_ret ?_
        have hvl : vl ib.k ie.k (.node x l (S x).it c r) = _ := vl_n (by assumption)
        have hvf : vfold step (vl ib.k ie.k (.node x l (S x).it c r)) q = ((vfold step (vl ib.k ie.k l) q).1, false) := by rw [hvl]; simp_all [vfold_app, vfold, Prod.ext_iff]
        exact Out.ret1 (L' := [A, Ens EL, Sto S D, Blk s ZC 177, R ((vfold step (vl ib.k ie.k l) q).1)]) Try.results157 rfl ⟨by rw [hvf], by rw [hvf]⟩ (fun _ h => h)
      · skip
        have h3 : (!((vfold step (vl ib.k ie.k l) q).2)) = false := h3
        refine WPc.skip ?_
        refine Out.block ?_
        refine Out.next ?_
        refine WPc.seq ?_
        refine WPc.region ?_
        refine WP.val rfl rfl rfl (Val.assign rfl rfl) ?_
        refine WP.nil ?_
        refine Out.next ?_
        refine WPc.ret ?_
        have hvl : vl ib.k ie.k (.node x l (S x).it c r) = _ := vl_n (by assumption)
        have hvf : vfold step (vl ib.k ie.k (.node x l (S x).it c r)) q = ((vfold step (vl ib.k ie.k l) q).1, true) := by rw [hvl]; simp_all [vfold_app, vfold, Prod.ext_iff]
        exact Out.ret1 (L' := [A, Ens EL, Sto S D, Blk s ZC 177, R ((vfold step (vl ib.k ie.k l) q).1)]) Try.results157 rfl ⟨by rw [hvf], by rw [hvf]⟩ (fun _ h => h)
    · skip
      have h2 : ¬ ((icmp ib.k ie.k ((S x).it.b).k ((S x).it.e).k) < (0 : Int)) := h2
      refine WPc.seq ?_
      refine WPc.region ?_
      refine WP.val rfl rfl rfl (Val.move rfl rfl) ?_
      refine WP.val rfl rfl rfl (Val.gtr rfl rfl rfl) ?_
      refine WP.val rfl rfl rfl (Val.assign rfl rfl) ?_
      refine WP.nil ?_
      refine Out.next ?_
      refine WPc.ifP rfl (fun h4 => ?_) (fun h4 => ?_)
      · skip
        have h4 : ((0 : Int) < (icmp ib.k ie.k ((S x).it.b).k ((S x).it.e).k)) := h4
        refine WPc.seq ?_
        refine WPD.start (Sat W [Sto S D]) Ty.mixed ?_
        refine WPD.takeM 0 rfl rfl rfl rfl (by kernel_rfl) (by kernel_rfl) (by kernel_rfl) (by kernel_rfl) (fun _ _ _ h => h) (fun w h => ((h.perm pl1)).dropEnd (L := [_])) (Val.move rfl rfl) ?_
        refine WPD.takeM 1 rfl rfl rfl rfl (by kernel_rfl) (by kernel_rfl) (by kernel_rfl) (by kernel_rfl) (fun _ _ _ h => h) (fun w h => ((h.perm pl1)).dropEnd (L := [_])) (Val.nilCheck rfl rfl) ?_
        refine WPD.takeM 2 rfl rfl rfl rfl (by kernel_rfl) (by kernel_rfl) (by kernel_rfl) (by kernel_rfl) (fun _ _ _ h => h) (fun w h => ((h.perm pl1)).dropEnd (L := [_])) (Val.fieldAddr (j := 0) rfl Ty.fo177_0 rfl rfl) ?_
        refine WPD.takeM 3 rfl rfl rfl rfl (by kernel_rfl) (by kernel_rfl) (by kernel_rfl) (by kernel_rfl) (fun _ _ _ h => h) (fun w h => ((h.perm pl1)).dropEnd (L := [_])) (Val.fieldAddr (j := 0) rfl Ty.fo174_0 rfl rfl) ?_
        refine WPD.takeM 4 rfl rfl rfl rfl (by kernel_rfl) (by kernel_rfl) (by kernel_rfl) (by kernel_rfl) (fun _ _ _ h => h) (fun w h => ((h.perm pl1)).dropEnd (L := [_])) (Val.fieldAddr (j := 0) rfl Ty.fo172_0 rfl rfl) ?_
        refine WPD.take 5 rfl rfl rfl rfl (by kernel_rfl) (by kernel_rfl) (by kernel_rfl) (by kernel_rfl) (fun _ _ _ h => h) (by kernel_rfl) (fun w h => ((h.perm pl1)).dropEnd (L := [_])) (Val.load (v := .iface ((S x).it.b).t (((S x).it.b).u)) rfl Ty.sc170 rfl (fun w h => sto_b (h.at 0 rfl) hx rfl)) ?_
        refine WPD.takeM 6 rfl rfl rfl rfl (by kernel_rfl) (by kernel_rfl) (by kernel_rfl) (by kernel_rfl) (fun _ _ _ h => h) (fun w h => ((h.perm pl1)).dropEnd (L := [_])) (Val.move rfl rfl) ?_
        refine WPD.takeM 7 rfl rfl rfl rfl (by kernel_rfl) (by kernel_rfl) (by kernel_rfl) (by kernel_rfl) (fun _ _ _ h => h) (fun w h => ((h.perm pl1)).dropEnd (L := [_])) (Val.nilCheck rfl rfl) ?_
        refine WPD.takeM 8 rfl rfl rfl rfl (by kernel_rfl) (by kernel_rfl) (by kernel_rfl) (by kernel_rfl) (fun _ _ _ h => h) (fun w h => ((h.perm pl1)).dropEnd (L := [_])) (Val.fieldAddr (j := 3) rfl Ty.fo177_1 rfl rfl) ?_
        refine WPD.take 9 rfl rfl rfl rfl (by kernel_rfl) (by kernel_rfl) (by kernel_rfl) (by kernel_rfl) (fun _ _ _ h => h) (by kernel_rfl) (fun w h => ((h.perm pl1)).dropEnd (L := [_])) (Val.load (v := .iface ((S x).m).t (((S x).m).u)) rfl Ty.sc170 rfl (fun w h => sto_m (h.at 0 rfl) hx rfl)) ?_
        refine WPD.takeM 10 rfl rfl rfl rfl (by kernel_rfl) (by kernel_rfl) (by kernel_rfl) (by kernel_rfl) (fun _ _ _ h => h) (fun w h => ((h.perm pl1)).dropEnd (L := [_])) (Val.mk (cs := [.iface ((S x).it.b).t (((S x).it.b).u), .iface ((S x).m).t (((S x).m).u)]) rfl rfl (fun _ => by kernel_rfl)) ?_
        refine WPD.step 11 (by kernel_rfl) rfl rfl rfl rfl (Eff.alloc rfl Ty.z172) ?_
        rintro _ _ ⟨b1, rfl, rfl⟩
        refine ⟨(fun w h => ((h.perm pl2)).dropEnd (L := [_])), ?_⟩
        refine WPD.stepC0 12 (by kernel_rfl) rfl rfl rfl (by kernel_rfl) (Eff.storeAgg (cs := [.iface ((S x).it.b).t (((S x).it.b).u), .iface ((S x).m).t (((S x).m).u)]) (C' := [.iface ((S x).it.b).t (((S x).it.b).u), .iface ((S x).m).t (((S x).m).u)]) rfl Ty.ag172 rfl rfl rfl rfl (by simp) rfl) ?_
        rintro _ _ rfl
        refine ⟨(Sat W (Blk b1 [.iface ((S x).it.b).t (((S x).it.b).u), .iface ((S x).m).t (((S x).m).u)] 172 :: A :: Sto S D :: Ens EL :: Blk s ZC 177 :: R q :: F)), (fun _ h => h), ?_⟩
        refine WPD.done (by kernel_rfl) ?_
        refine Out.next ?_
        refine WPc.seq ?_
        refine WPc.region ?_
        refine WP.val rfl rfl rfl (Val.move rfl rfl) ?_
        refine WP.val rfl rfl rfl (Val.iface rfl rfl Ty.ni279) ?_
        refine WP.perm pl3 ?_
        refine WP.perm pl2 ?_
        refine WP.perm pl2 ?_
        refine WP.eff rfl rfl rfl (Eff.call rfl rfl Try.call153 (icmp_does (Blk b1 [.iface ((S x).it.b).t (((S x).it.b).u), .iface ((S x).m).t (((S x).m).u)] 172) A EL t0 hE b1 ivb ((S x).it.b) ((S x).m) ib ie (Ok.b ok hx) (Ok.m ok hx) hib hie (fun w h => h.cell 0) (fun w h => h.cell 1) hA0 hA1)) ?_
        rintro _ _ ⟨_, ⟨rfl, rfl⟩, rfl⟩
        show WP _ _ _ _ _ _ _ (Blk b1 [.iface ((S x).it.b).t (((S x).it.b).u), .iface ((S x).m).t (((S x).m).u)] 172 :: A :: Ens EL :: Sto S D :: Blk s ZC 177 :: R q :: F)
        refine WP.val rfl rfl rfl (Val.eql rfl rfl rfl) ?_
        refine WP.nil ?_
        refine Out.next ?_
        refine WPc.ifP rfl (fun h5 => ?_) (fun h5 => ?_)
        · skip
          have h5 : ((icmp ((S x).it.b).k ((S x).m).k ib.k ie.k) = (0 : Int)) := h5
          refine WPc.seq ?_
          have hp0 : pre ((vl ib.k ie.k l).length + ((vl ib.k ie.k r).length + m)) q := by
            have e0 : (vl ib.k ie.k (.node x l (S x).it c r)).length + m = (vl ib.k ie.k l).length + ((vl ib.k ie.k r).length + m) := by rw [vl_p (by assumption) (by assumption) (by rw [← hm]; assumption)]; (try simp only [List.length_append, List.length_cons]); (try omega)
            rw [← e0]; exact hp
          refine WPc.region ?_
          refine WP.val rfl rfl rfl (Val.move rfl rfl) ?_
          refine WP.val rfl rfl rfl (Val.nilCheck rfl rfl) ?_
          refine WP.val rfl rfl rfl (Val.fieldAddr (j := 4) rfl Ty.fo177_2 rfl rfl) ?_
          refine WP.val rfl rfl rfl (Val.load (v := .pointer (some ⟨(S x).l, 0, none⟩)) rfl Ty.sc168 rfl (fun w h => sto_l (h.at 3 rfl) hx rfl)) ?_
          refine WP.val rfl rfl rfl (Val.move rfl rfl) ?_
          refine WP.val rfl rfl rfl (Val.move rfl rfl) ?_
          refine WP.val rfl rfl rfl (Val.move rfl rfl) ?_
          refine WP.perm pl5 ?_
          refine WP.perm pl5 ?_
          refine WP.perm pl5 ?_
          refine WP.perm pl5 ?_
          refine WP.perm pl5 ?_
          refine WP.eff rfl rfl rfl (Eff.call rfl rfl Try.call157 (ihl ((vl ib.k ie.k r).length + m) q hp0)) ?_
          rintro _ _ ⟨_, ⟨rfl, rfl⟩, rfl⟩
          show WP _ _ _ _ _ _ _ (A :: Ens EL :: Sto S D :: Blk s ZC 177 :: R ((vfold step (vl ib.k ie.k l) q).1) :: Blk b1 [.iface ((S x).it.b).t (((S x).it.b).u), .iface ((S x).m).t (((S x).m).u)] 172 :: F)
          refine WP.val rfl rfl rfl (Val.not rfl rfl) ?_
          refine WP.val rfl rfl rfl (Val.move rfl rfl) ?_
          refine WP.splitB 86 rfl (fun h6 => ?_) (fun h6 => ?_)
          · skip
            refine WP.skip rfl rfl rfl rfl rfl rfl rfl ?_
            refine WP.skip rfl rfl rfl rfl rfl rfl rfl ?_
            refine WP.skip rfl rfl rfl rfl rfl rfl rfl ?_
            refine WP.skip rfl rfl rfl rfl rfl rfl rfl ?_
            refine WP.skip rfl rfl rfl rfl rfl rfl rfl ?_
            refine WP.skip rfl rfl rfl rfl rfl rfl rfl ?_
            refine WP.skip rfl rfl rfl rfl rfl rfl rfl ?_
            refine WP.skip rfl rfl rfl rfl rfl rfl rfl ?_
            refine WP.skip rfl rfl rfl rfl rfl rfl rfl ?_
            refine WP.val rfl rfl rfl (Val.pickT rfl rfl rfl) ?_
            refine WP.nil ?_
            refine Out.next ?_
            refine WPc.condT rfl rfl ?_
            refine WPc.seq ?_
            refine WPc.region ?_
            refine WP.val rfl rfl rfl (Val.assign rfl rfl) ?_
            refine WP.nil ?_
            refine Out.next ?_
            refine WPc.ret ?_
            refine Out.block_ret ?_
            refine Out.then_ret ?_
            have hvl : vl ib.k ie.k (.node x l (S x).it c r) = _ := vl_p (by assumption) (by assumption) (by rw [← hm]; assumption)
            have hvf : vfold step (vl ib.k ie.k (.node x l (S x).it c r)) q = ((vfold step (vl ib.k ie.k l) q).1, false) := by rw [hvl]; simp_all [vfold_app, vfold, Prod.ext_iff]
            refine Out.perm pl5 ?_
            refine Out.drop ?_
            exact Out.ret1 (L' := [A, Ens EL, Sto S D, Blk s ZC 177, R ((vfold step (vl ib.k ie.k l) q).1)]) Try.results157 rfl ⟨by rw [hvf], by rw [hvf]⟩ (fun _ h => h)
          · skip
            refine WP.valG rfl rfl rfl rfl rfl rfl rfl (Val.move rfl rfl) ?_
            refine WP.valG rfl rfl rfl rfl rfl rfl rfl (Val.nilCheck rfl rfl) ?_
            refine WP.valG rfl rfl rfl rfl rfl rfl rfl (Val.fieldAddr (j := 5) rfl Ty.fo177_3 rfl rfl) ?_
            refine WP.valG rfl rfl rfl rfl rfl rfl rfl (Val.load (v := .pointer (some ⟨(S x).r, 0, none⟩)) rfl Ty.sc168 rfl (fun w h => sto_r (h.at 2 rfl) hx rfl)) ?_
            refine WP.valG rfl rfl rfl rfl rfl rfl rfl (Val.move rfl rfl) ?_
            refine WP.valG rfl rfl rfl rfl rfl rfl rfl (Val.move rfl rfl) ?_
            refine WP.valG rfl rfl rfl rfl rfl rfl rfl (Val.move rfl rfl) ?_
            refine WP.perm pl4 ?_
            refine WP.perm pl4 ?_
            refine WP.perm pl4 ?_
            refine WP.perm pl4 ?_
            refine WP.perm pl4 ?_
            refine WP.effG rfl rfl rfl rfl rfl rfl rfl (Eff.call rfl rfl Try.call157 (ihr m ((vfold step (vl ib.k ie.k l) q).1) (hpre.fold hp0 (by have h0 := ‹(!(vfold step (vl ib.k ie.k l) q).2) = false›; simpa using h0)))) ?_
            rintro _ _ ⟨_, ⟨rfl, rfl⟩, rfl⟩
            show WP _ _ _ _ _ _ _ (A :: Ens EL :: Sto S D :: Blk s ZC 177 :: R ((vfold step (vl ib.k ie.k r) ((vfold step (vl ib.k ie.k l) q).1)).1) :: Blk b1 [.iface ((S x).it.b).t (((S x).it.b).u), .iface ((S x).m).t (((S x).m).u)] 172 :: F)
            refine WP.valG rfl rfl rfl rfl rfl rfl rfl (Val.not rfl rfl) ?_
            refine WP.val rfl rfl rfl (Val.pickF rfl rfl rfl) ?_
            refine WP.nil ?_
            refine Out.next ?_
            refine WPc.cond rfl (fun h7 => ?_) (fun h7 => ?_)
            · skip
              have h7 : (!((vfold step (vl ib.k ie.k r) ((vfold step (vl ib.k ie.k l) q).1)).2)) = true := h7
              refine WPc.seq ?_
              refine WPc.region ?_
              refine WP.val rfl rfl rfl (Val.assign rfl rfl) ?_
              refine WP.nil ?_
              refine Out.next ?_
              refine WPc.ret ?_
              refine Out.block_ret ?_
              refine Out.then_ret ?_
              have hvl : vl ib.k ie.k (.node x l (S x).it c r) = _ := vl_p (by assumption) (by assumption) (by rw [← hm]; assumption)
              have hvf : vfold step (vl ib.k ie.k (.node x l (S x).it c r)) q = ((vfold step (vl ib.k ie.k r) ((vfold step (vl ib.k ie.k l) q).1)).1, false) := by rw [hvl]; simp_all [vfold_app, vfold, Prod.ext_iff]
              refine Out.perm pl5 ?_
              refine Out.drop ?_
              exact Out.ret1 (L' := [A, Ens EL, Sto S D, Blk s ZC 177, R ((vfold step (vl ib.k ie.k r) ((vfold step (vl ib.k ie.k l) q).1)).1)]) Try.results157 rfl ⟨by rw [hvf], by rw [hvf]⟩ (fun _ h => h)
            · skip
              have h7 : (!((vfold step (vl ib.k ie.k r) ((vfold step (vl ib.k ie.k l) q).1)).2)) = false := h7
              refine WPc.skip ?_
              refine Out.block ?_
              refine Out.next ?_
              refine WPc.seq ?_
              refine WPc.region ?_
              refine WP.val rfl rfl rfl (Val.assign rfl rfl) ?_
              refine WP.nil ?_
              refine Out.next ?_
              refine WPc.ret ?_
              have hvl : vl ib.k ie.k (.node x l (S x).it c r) = _ := vl_p (by assumption) (by assumption) (by rw [← hm]; assumption)
              have hvf : vfold step (vl ib.k ie.k (.node x l (S x).it c r)) q = ((vfold step (vl ib.k ie.k r) ((vfold step (vl ib.k ie.k l) q).1)).1, true) := by rw [hvl]; simp_all [vfold_app, vfold, Prod.ext_iff]
              refine Out.perm pl5 ?_
              refine Out.drop ?_
              exact Out.ret1 (L' := [A, Ens EL, Sto S D, Blk s ZC 177, R ((vfold step (vl ib.k ie.k r) ((vfold step (vl ib.k ie.k l) q).1)).1)]) Try.results157 rfl ⟨by rw [hvf], by rw [hvf]⟩ (fun _ h => h)
        · skip
          have h5 : ¬ ((icmp ((S x).it.b).k ((S x).m).k ib.k ie.k) = (0 : Int)) := h5
          refine WPc.skip ?_
          refine Out.block ?_
          refine Out.next ?_
          refine WPc.seq ?_
          refine WPc.region ?_
          refine WP.val rfl rfl rfl (Val.assign rfl rfl) ?_
          refine WP.nil ?_
          refine Out.next ?_
          refine WPc.ret ?_
          have hvl : vl ib.k ie.k (.node x l (S x).it c r) = _ := vl_0 (by assumption) (by assumption) (by rw [← hm]; assumption)
          have hvf : vfold step (vl ib.k ie.k (.node x l (S x).it c r)) q = (q, true) := by rw [hvl]; simp_all [vfold_app, vfold, Prod.ext_iff]
          refine Out.drop ?_
          exact Out.ret1 (L' := [A, Ens EL, Sto S D, Blk s ZC 177, R q]) Try.results157 rfl ⟨by rw [hvf], by rw [hvf]⟩ (fun _ h => h)
      · skip
        have h4 : ¬ ((0 : Int) < (icmp ib.k ie.k ((S x).it.b).k ((S x).it.e).k)) := h4
        refine WPc.seq ?_
        have hp0 : pre ((vl ib.k ie.k l).length + ((vl ib.k ie.k r).length + m + 1)) q := by
          have e0 : (vl ib.k ie.k (.node x l (S x).it c r)).length + m = (vl ib.k ie.k l).length + ((vl ib.k ie.k r).length + m + 1) := by rw [vl_z (by assumption) (by assumption)]; (try simp only [List.length_append, List.length_cons]); (try omega)
          rw [← e0]; exact hp
        refine WPc.region ?_
        refine WP.val rfl rfl rfl (Val.move rfl rfl) ?_
        refine WP.val rfl rfl rfl (Val.nilCheck rfl rfl) ?_
        refine WP.val rfl rfl rfl (Val.fieldAddr (j := 4) rfl Ty.fo177_2 rfl rfl) ?_
        refine WP.val rfl rfl rfl (Val.load (v := .pointer (some ⟨(S x).l, 0, none⟩)) rfl Ty.sc168 rfl (fun w h => sto_l (h.at 1 rfl) hx rfl)) ?_
        refine WP.val rfl rfl rfl (Val.move rfl rfl) ?_
        refine WP.val rfl rfl rfl (Val.move rfl rfl) ?_
        refine WP.val rfl rfl rfl (Val.move rfl rfl) ?_
        refine WP.perm pl4 ?_
        refine WP.perm pl4 ?_
        refine WP.perm pl3 ?_
        refine WP.perm pl4 ?_
        refine WP.perm pl4 ?_
        refine WP.eff rfl rfl rfl (Eff.call rfl rfl Try.call157 (ihl ((vl ib.k ie.k r).length + m + 1) q hp0)) ?_
        rintro _ _ ⟨_, ⟨rfl, rfl⟩, rfl⟩
        show WP _ _ _ _ _ _ _ (A :: Ens EL :: Sto S D :: Blk s ZC 177 :: R ((vfold step (vl ib.k ie.k l) q).1) :: F)
        refine WP.val rfl rfl rfl (Val.not rfl rfl) ?_
        refine WP.val rfl rfl rfl (Val.move rfl rfl) ?_
        refine WP.splitB 30 rfl (fun h8 => ?_) (fun h8 => ?_)
        · skip
          refine WP.skip rfl rfl rfl rfl rfl rfl rfl ?_
          refine WP.skip rfl rfl rfl rfl rfl rfl rfl ?_
          refine WP.skip rfl rfl rfl rfl rfl rfl rfl ?_
          refine WP.skip rfl rfl rfl rfl rfl rfl rfl ?_
          refine WP.val rfl rfl rfl (Val.pickT rfl rfl rfl) ?_
          refine WP.val rfl rfl rfl (Val.move rfl rfl) ?_
          refine WP.skip rfl rfl rfl rfl rfl rfl rfl ?_
          refine WP.skip rfl rfl rfl rfl rfl rfl rfl ?_
          refine WP.skip rfl rfl rfl rfl rfl rfl rfl ?_
          refine WP.skip rfl rfl rfl rfl rfl rfl rfl ?_
          refine WP.skip rfl rfl rfl rfl rfl rfl rfl ?_
          refine WP.skip rfl rfl rfl rfl rfl rfl rfl ?_
          refine WP.skip rfl rfl rfl rfl rfl rfl rfl ?_
          refine WP.skip rfl rfl rfl rfl rfl rfl rfl ?_
          refine WP.skip rfl rfl rfl rfl rfl rfl rfl ?_
          refine WP.val rfl rfl rfl (Val.pickT rfl rfl rfl) ?_
          refine WP.nil ?_
          refine Out.next ?_
          refine WPc.condT rfl rfl ?_
          refine WPc.seq ?_
          refine WPc.region ?_
          refine WP.val rfl rfl rfl (Val.assign rfl rfl) ?_
          refine WP.nil ?_
          refine Out.next ?_
          refine WPc.ret ?_
          refine Out.block_ret ?_
          refine Out.then_ret ?_
          have hvl : vl ib.k ie.k (.node x l (S x).it c r) = _ := vl_z (by assumption) (by assumption)
          have hvf : vfold step (vl ib.k ie.k (.node x l (S x).it c r)) q = ((vfold step (vl ib.k ie.k l) q).1, false) := by rw [hvl]; simp_all [vfold_app, vfold, Prod.ext_iff]
          exact Out.ret1 (L' := [A, Ens EL, Sto S D, Blk s ZC 177, R ((vfold step (vl ib.k ie.k l) q).1)]) Try.results157 rfl ⟨by rw [hvf], by rw [hvf]⟩ (fun _ h => h)
        · skip
          refine WP.valG rfl rfl rfl rfl rfl rfl rfl (Val.move rfl rfl) ?_
          refine WP.valG rfl rfl rfl rfl rfl rfl rfl (Val.move rfl rfl) ?_
          refine WP.perm pl4 ?_
          refine WP.perm pl4 ?_
          refine WP.perm pl4 ?_
          refine WP.perm pl4 ?_
          refine WP.perm pl4 ?_
          refine WP.effG rfl rfl rfl rfl rfl rfl rfl (Eff.callF (args' := [.pointer (some ⟨x, 0, none⟩), .pointer (some ⟨vb, 0, none⟩)]) rfl rfl rfl rfl Try.call158 (hv x hx ((vl ib.k ie.k r).length + m) ((vfold step (vl ib.k ie.k l) q).1) (hpre.fold hp0 (by have h0 := ‹(!(vfold step (vl ib.k ie.k l) q).2) = false›; simpa using h0)))) ?_
          rintro _ _ ⟨_, ⟨rfl, rfl⟩, rfl⟩
          show WP _ _ _ _ _ _ _ (A :: Ens EL :: Sto S D :: Blk s ZC 177 :: R ((step ((vfold step (vl ib.k ie.k l) q).1) x).1) :: F)
          refine WP.valG rfl rfl rfl rfl rfl rfl rfl (Val.not rfl rfl) ?_
          refine WP.val rfl rfl rfl (Val.pickF rfl rfl rfl) ?_
          refine WP.val rfl rfl rfl (Val.move rfl rfl) ?_
          refine WP.splitB 36 rfl (fun h9 => ?_) (fun h9 => ?_)
          · skip
            refine WP.skip rfl rfl rfl rfl rfl rfl rfl ?_
            refine WP.skip rfl rfl rfl rfl rfl rfl rfl ?_
            refine WP.skip rfl rfl rfl rfl rfl rfl rfl ?_
            refine WP.skip rfl rfl rfl rfl rfl rfl rfl ?_
            refine WP.skip rfl rfl rfl rfl rfl rfl rfl ?_
            refine WP.skip rfl rfl rfl rfl rfl rfl rfl ?_
            refine WP.skip rfl rfl rfl rfl rfl rfl rfl ?_
            refine WP.skip rfl rfl rfl rfl rfl rfl rfl ?_
            refine WP.skip rfl rfl rfl rfl rfl rfl rfl ?_
            refine WP.val rfl rfl rfl (Val.pickT rfl rfl rfl) ?_
            refine WP.nil ?_
            refine Out.next ?_
            refine WPc.condT rfl rfl ?_
            refine WPc.seq ?_
            refine WPc.region ?_
            refine WP.val rfl rfl rfl (Val.assign rfl rfl) ?_
            refine WP.nil ?_
            refine Out.next ?_
            refine WPc.ret ?_
            refine Out.block_ret ?_
            refine Out.then_ret ?_
            have hvl : vl ib.k ie.k (.node x l (S x).it c r) = _ := vl_z (by assumption) (by assumption)
            have hvf : vfold step (vl ib.k ie.k (.node x l (S x).it c r)) q = ((step ((vfold step (vl ib.k ie.k l) q).1) x).1, false) := by rw [hvl]; simp_all [vfold_app, vfold, Prod.ext_iff]
            exact Out.ret1 (L' := [A, Ens EL, Sto S D, Blk s ZC 177, R ((step ((vfold step (vl ib.k ie.k l) q).1) x).1)]) Try.results157 rfl ⟨by rw [hvf], by rw [hvf]⟩ (fun _ h => h)
          · skip
            refine WP.valG rfl rfl rfl rfl rfl rfl rfl (Val.move rfl rfl) ?_
            refine WP.valG rfl rfl rfl rfl rfl rfl rfl (Val.nilCheck rfl rfl) ?_
            refine WP.valG rfl rfl rfl rfl rfl rfl rfl (Val.fieldAddr (j := 5) rfl Ty.fo177_3 rfl rfl) ?_
            refine WP.valG rfl rfl rfl rfl rfl rfl rfl (Val.load (v := .pointer (some ⟨(S x).r, 0, none⟩)) rfl Ty.sc168 rfl (fun w h => sto_r (h.at 2 rfl) hx rfl)) ?_
            refine WP.valG rfl rfl rfl rfl rfl rfl rfl (Val.move rfl rfl) ?_
            refine WP.valG rfl rfl rfl rfl rfl rfl rfl (Val.move rfl rfl) ?_
            refine WP.valG rfl rfl rfl rfl rfl rfl rfl (Val.move rfl rfl) ?_
            refine WP.perm pl4 ?_
            refine WP.perm pl4 ?_
            refine WP.perm pl4 ?_
            refine WP.perm pl4 ?_
            refine WP.perm pl4 ?_
            refine WP.effG rfl rfl rfl rfl rfl rfl rfl (Eff.call rfl rfl Try.call157 (ihr m ((step ((vfold step (vl ib.k ie.k l) q).1) x).1) (hpre.step (hpre.fold hp0 (by have h0 := ‹(!(vfold step (vl ib.k ie.k l) q).2) = false›; simpa using h0))))) ?_
            rintro _ _ ⟨_, ⟨rfl, rfl⟩, rfl⟩
            show WP _ _ _ _ _ _ _ (A :: Ens EL :: Sto S D :: Blk s ZC 177 :: R ((vfold step (vl ib.k ie.k r) ((step ((vfold step (vl ib.k ie.k l) q).1) x).1)).1) :: F)
            refine WP.valG rfl rfl rfl rfl rfl rfl rfl (Val.not rfl rfl) ?_
            refine WP.val rfl rfl rfl (Val.pickF rfl rfl rfl) ?_
            refine WP.nil ?_
            refine Out.next ?_
            refine WPc.cond rfl (fun h10 => ?_) (fun h10 => ?_)
            · skip
              have h10 : (!((vfold step (vl ib.k ie.k r) ((step ((vfold step (vl ib.k ie.k l) q).1) x).1)).2)) = true := h10
              refine WPc.seq ?_
              refine WPc.region ?_
              refine WP.val rfl rfl rfl (Val.assign rfl rfl) ?_
              refine WP.nil ?_
              refine Out.next ?_
              refine WPc.ret ?_
              refine Out.block_ret ?_
              refine Out.then_ret ?_
              have hvl : vl ib.k ie.k (.node x l (S x).it c r) = _ := vl_z (by assumption) (by assumption)
              have hvf : vfold step (vl ib.k ie.k (.node x l (S x).it c r)) q = ((vfold step (vl ib.k ie.k r) ((step ((vfold step (vl ib.k ie.k l) q).1) x).1)).1, false) := by rw [hvl]; simp_all [vfold_app, vfold, Prod.ext_iff]
              exact Out.ret1 (L' := [A, Ens EL, Sto S D, Blk s ZC 177, R ((vfold step (vl ib.k ie.k r) ((step ((vfold step (vl ib.k ie.k l) q).1) x).1)).1)]) Try.results157 rfl ⟨by rw [hvf], by rw [hvf]⟩ (fun _ h => h)
            · skip
              have h10 : (!((vfold step (vl ib.k ie.k r) ((step ((vfold step (vl ib.k ie.k l) q).1) x).1)).2)) = false := h10
              refine WPc.skip ?_
              refine Out.block ?_
              refine Out.next ?_
              refine WPc.seq ?_
              refine WPc.region ?_
              refine WP.val rfl rfl rfl (Val.assign rfl rfl) ?_
              refine WP.nil ?_
              refine Out.next ?_
              refine WPc.ret ?_
              have hvl : vl ib.k ie.k (.node x l (S x).it c r) = _ := vl_z (by assumption) (by assumption)
              have hvf : vfold step (vl ib.k ie.k (.node x l (S x).it c r)) q = ((vfold step (vl ib.k ie.k r) ((step ((vfold step (vl ib.k ie.k l) q).1) x).1)).1, true) := by rw [hvl]; simp_all [vfold_app, vfold, Prod.ext_iff]
              exact Out.ret1 (L' := [A, Ens EL, Sto S D, Blk s ZC 177, R ((vfold step (vl ib.k ie.k r) ((step ((vfold step (vl ib.k ie.k l) q).1) x).1)).1)]) Try.results157 rfl ⟨by rw [hvf], by rw [hvf]⟩ (fun _ h => h)

end Go.Proofs.Ytbomnihiapjmpaa.Tl

