import Derived.Test.YtbomnihiapjmpaaMeb
namespace Go.Proofs.Ytbomnihiapjmpaa.Te
open Go.RowKit Go.Proofs.Ytbomnihiapjmpaa Go.Proofs.Ytbomnihiapjmpaa.Sl Go.Proofs.Ytbomnihiapjmpaa.TrP Go.Proofs.Ytbomnihiapjmpaa.Tc Go.Proofs.Ytbomnihiapjmpaa.Td
set_option linter.unusedVariables false
set_option linter.unusedSimpArgs false
set_option linter.unusedSectionVars false

set_option maxRecDepth 100000 in
set_option maxHeartbeats 2000000 in
theorem color_does (EL : List En) (s : Nat) (D : List Nat) (ZC : List Value) (S : St) (ok : Ok s EL D S) (x : Nat) (hx : Is s D x) : Does Try.prog 148 [.pointer (some ⟨x, 0, none⟩), .pointer (some ⟨s, 0, none⟩)] [Sto S D, Blk s ZC 177] (fun v L => v = .int .i64 (colr s S x) ∧ L = [Sto S D, Blk s ZC 177]) := by
  refine Does.enter 12 Try.func148 rfl rfl rfl fun W F => ?_
  show WPc _ _ _ _ _ [(0, .pointer (some ⟨x, 0, none⟩)), (1, .pointer (some ⟨s, 0, none⟩))] (Sto S D :: Blk s ZC 177 :: F)
  refine WPc.seq ?_
  refine WPc.region ?_
  refine WP.val rfl rfl rfl (Val.assign rfl rfl) ?_
  refine WP.nil ?_
  refine Out.next ?_
  refine WPc.seq ?_
  refine WPc.seq ?_
  refine WPc.region ?_
  refine WP.val rfl rfl rfl (Val.move rfl rfl) ?_
  refine WP.val rfl rfl rfl (Val.move rfl rfl) ?_
  refine WP.val rfl rfl rfl (Val.eqP (T1 := 177) (T2 := 177) rfl pn168 rfl rfl rfl rfl (fun w h => whole (h.at 0 rfl) (h.at 1 rfl) hx) (fun w h => whole (h.at 0 rfl) (h.at 1 rfl) (.inl rfl))) ?_
  refine WP.nil ?_
  refine Out.next ?_
  refine WPc.ifP rfl (fun h1 => ?_) (fun h1 => ?_)
  · skip
    have h1 : (x = s) := h1
    refine WPc.seq ?_
    refine WPc.region ?_
    refine WP.val rfl rfl rfl (Val.assign rfl rfl) ?_
    refine WP.nil ?_
    refine Out.next ?_
    refine WPc.ret ?_
    refine Out.then_ret ?_
    exact Out.ret1 (L' := _) Try.results148 rfl ⟨congrArg (Value.int .i64) (by unfold colr; first | rw [if_pos (by assumption)] | rw [if_neg (by assumption)]), rfl⟩ (fun _ h => h)
  · skip
    have h1 : ¬ (x = s) := h1
    refine WPc.skip ?_
    refine Out.next ?_
    refine WPc.seq ?_
    refine WPc.region ?_
    refine WP.val rfl rfl rfl (Val.move rfl rfl) ?_
    refine WP.val rfl rfl rfl (Val.nilCheck rfl rfl) ?_
    refine WP.val rfl rfl rfl (Val.fieldAddr (j := 7) rfl Ty.fo177_5 rfl rfl) ?_
    refine WP.val rfl rfl rfl (Val.load (v := .int .i64 ((S x).c)) rfl Ty.sc175 rfl (fun w h => sto_c (h.at 0 rfl) (Is.mem hx (by first | assumption | (intro hh; simp_all; done) | (simp_all; done))) rfl)) ?_
    refine WP.val rfl rfl rfl (Val.assign rfl rfl) ?_
    refine WP.nil ?_
    refine Out.next ?_
    refine WPc.ret ?_
    exact Out.ret1 (L' := _) Try.results148 rfl ⟨congrArg (Value.int .i64) (by unfold colr; first | rw [if_pos (by assumption)] | rw [if_neg (by assumption)]), rfl⟩ (fun _ h => h)
set_option maxRecDepth 100000 in
set_option maxHeartbeats 2000000 in
theorem um_does (EL : List En) (t0 : TypeId) (hE : ∀ e ∈ EL, e.t = t0) (s : Nat) (D : List Nat) (ZC : List Value) (S0 : St) (ok : Ok s EL D S0) (x0 n0 : Nat) (hx : Is s D x0) (hdep : Dep s S0 n0 x0) : Does Try.prog 133 [.pointer (some ⟨x0, 0, none⟩), .pointer (some ⟨s, 0, none⟩)] [Ens EL, Sto S0 D, Blk s ZC 177] (fun _ L => L = [Ens EL, Sto (um s n0 S0 x0) D, Blk s ZC 177]) := by
  refine Does.enter 81 Try.func133 rfl rfl rfl fun W F => ?_
  show WPc _ _ _ _ _ [(0, .pointer (some ⟨x0, 0, none⟩)), (1, .pointer (some ⟨s, 0, none⟩))] (Ens EL :: Sto S0 D :: Blk s ZC 177 :: F)
  refine WPc.block ?_
  refine WPc.loop (ι := St × Nat × Nat) (fun ⟨S, x, n⟩ => um s n S x = um s n0 S0 x0 ∧ Ok s EL D S ∧ Is s D x ∧ Dep s S n x) (fun ⟨S, x, n⟩ => [(0, .pointer (some ⟨x, 0, none⟩)), (1, .pointer (some ⟨s, 0, none⟩))]) (fun ⟨S, x, n⟩ => Ens EL :: Sto S D :: Blk s ZC 177 :: F) (fun ⟨S, x, n⟩ => n) ⟨S0, x0, n0⟩ ⟨rfl, ok, hx, hdep⟩ ((Sub.cons rfl (Sub.cons rfl Sub.nil))) (fun _ h => h) ?_
  rintro ⟨S, x, n⟩ hI
  show WPc _ _ _ _ _ [(0, .pointer (some ⟨x, 0, none⟩)), (1, .pointer (some ⟨s, 0, none⟩))] (Ens EL :: Sto S D :: Blk s ZC 177 :: F)
  obtain ⟨hum, ok, hx, hdep⟩ := hI
  refine WPc.seq ?_
  refine WPc.seq ?_
  refine WPc.region ?_
  refine WP.val rfl rfl rfl (Val.move rfl rfl) ?_
  refine WP.val rfl rfl rfl (Val.move rfl rfl) ?_
  refine WP.val rfl rfl rfl (Val.neqP (T1 := 177) (T2 := 177) rfl pn168 rfl rfl rfl rfl (fun w h => whole (h.at 1 rfl) (h.at 2 rfl) hx) (fun w h => whole (h.at 1 rfl) (h.at 2 rfl) (.inl rfl))) ?_
  refine WP.nil ?_
  refine Out.next ?_
  refine WPc.ifP rfl (fun h1 => ?_) (fun h1 => ?_)
  · skip
    have h1 : (x ≠ s) := h1
    refine WPc.skip ?_
    refine Out.next ?_
    refine WPc.block ?_
    refine WPc.seq ?_
    have hxs : x ≠ s := by assumption
    obtain ⟨n, rfl, hdp1⟩ := hdep.succ hxs
    have hxD : x ∈ D := hx.mem hxs
    refine WPc.region ?_
    refine WP.val rfl rfl rfl (Val.move rfl rfl) ?_
    refine WP.val rfl rfl rfl (Val.nilCheck rfl rfl) ?_
    refine WP.val rfl rfl rfl (Val.fieldAddr (j := 3) rfl Ty.fo177_1 rfl rfl) ?_
    refine WP.val rfl rfl rfl (Val.load (v := .iface ((S x).m).t (((S x).m).u)) rfl Ty.sc170 rfl (fun w h => sto_m (h.at 1 rfl) hxD rfl)) ?_
    refine WP.val rfl rfl rfl (Val.assign rfl rfl) ?_
    refine WP.nil ?_
    refine Out.next ?_
    refine WPc.seq ?_
    refine WPc.region ?_
    refine WP.val rfl rfl rfl (Val.move rfl rfl) ?_
    refine WP.val rfl rfl rfl (Val.nilCheck rfl rfl) ?_
    refine WP.val rfl rfl rfl (Val.fieldAddr (j := 0) rfl Ty.fo177_0 rfl rfl) ?_
    refine WP.val rfl rfl rfl (Val.fieldAddr (j := 0) rfl Ty.fo174_0 rfl rfl) ?_
    refine WP.val rfl rfl rfl (Val.fieldAddr (j := 1) rfl Ty.fo172_1 rfl rfl) ?_
    refine WP.val rfl rfl rfl (Val.load (v := .iface ((S x).it.e).t (((S x).it.e).u)) rfl Ty.sc170 rfl (fun w h => sto_e (h.at 1 rfl) hxD rfl)) ?_
    refine WP.val rfl rfl rfl (Val.assign rfl rfl) ?_
    refine WP.nil ?_
    refine Out.next ?_
    refine WPc.seq ?_
    refine WPc.seq ?_
    refine WPc.region ?_
    refine WP.val rfl rfl rfl (Val.move rfl rfl) ?_
    refine WP.val rfl rfl rfl (Val.nilCheck rfl rfl) ?_
    refine WP.val rfl rfl rfl (Val.fieldAddr (j := 4) rfl Ty.fo177_2 rfl rfl) ?_
    refine WP.val rfl rfl rfl (Val.load (v := .pointer (some ⟨(S x).l, 0, none⟩)) rfl Ty.sc168 rfl (fun w h => sto_l (h.at 1 rfl) hxD rfl)) ?_
    refine WP.val rfl rfl rfl (Val.move rfl rfl) ?_
    refine WP.val rfl rfl rfl (Val.neqP (T1 := 177) (T2 := 177) rfl pn168 rfl rfl rfl rfl (fun w h => whole (h.at 1 rfl) (h.at 2 rfl) (Ok.l ok hxD)) (fun w h => whole (h.at 1 rfl) (h.at 2 rfl) (.inl rfl))) ?_
    refine WP.val rfl rfl rfl (Val.move rfl rfl) ?_
    refine WP.split 25 rfl (fun h2 => ?_) (fun h2 => ?_)
    · skip
      have h2 : ((S x).l ≠ s) := h2
      refine WP.valG rfl rfl rfl rfl rfl rfl rfl (Val.move rfl rfl) ?_
      refine WP.valG rfl rfl rfl rfl rfl rfl rfl (Val.nilCheck rfl rfl) ?_
      refine WP.valG rfl rfl rfl rfl rfl rfl rfl (Val.fieldAddr (j := 4) rfl Ty.fo177_2 rfl rfl) ?_
      refine WP.valG rfl rfl rfl rfl rfl rfl rfl (Val.load (v := .pointer (some ⟨(S x).l, 0, none⟩)) rfl Ty.sc168 rfl (fun w h => sto_l (h.at 1 rfl) hxD rfl)) ?_
      refine WP.valG rfl rfl rfl rfl rfl rfl rfl (Val.nilCheck rfl rfl) ?_
      refine WP.valG rfl rfl rfl rfl rfl rfl rfl (Val.fieldAddr (j := 3) rfl Ty.fo177_1 rfl rfl) ?_
      refine WP.valG rfl rfl rfl rfl rfl rfl rfl (Val.load (v := .iface ((S ((S x).l)).m).t (((S ((S x).l)).m).u)) rfl Ty.sc170 rfl (fun w h => sto_m (h.at 1 rfl) (Is.mem (Ok.l ok hxD) (by first | assumption | (intro hh; simp_all; done) | (simp_all; done))) rfl)) ?_
      refine WP.valG rfl rfl rfl rfl rfl rfl rfl (Val.move rfl rfl) ?_
      refine WP.effG rfl rfl rfl rfl rfl rfl rfl (Eff.cmp (a := (S ((S x).l)).m) (b := (S x).it.e) rfl rfl rfl (Ok.m ok (Is.mem (Ok.l ok hxD) (by first | assumption | (intro hh; simp_all; done) | (simp_all; done)))) (Ok.e ok hxD) ((hE _ (Ok.m ok (Is.mem (Ok.l ok hxD) (by first | assumption | (intro hh; simp_all; done) | (simp_all; done))))).trans (hE _ (Ok.e ok hxD)).symm)) ?_
      rintro _ _ ⟨rfl, rfl⟩
      refine WP.valG rfl rfl rfl rfl rfl rfl rfl (Val.gtr rfl rfl rfl) ?_
      refine WP.val rfl rfl rfl (Val.pickT rfl rfl rfl) ?_
      refine WP.nil ?_
      refine Out.next ?_
      refine WPc.ifP rfl (fun h3 => ?_) (fun h3 => ?_)
      · skip
        have h3 : ((0 : Int) < (kcmp ((S ((S x).l)).m).k ((S x).it.e).k)) := h3
        refine WPc.region ?_
        refine WP.val rfl rfl rfl (Val.move rfl rfl) ?_
        refine WP.val rfl rfl rfl (Val.nilCheck rfl rfl) ?_
        refine WP.val rfl rfl rfl (Val.fieldAddr (j := 4) rfl Ty.fo177_2 rfl rfl) ?_
        refine WP.val rfl rfl rfl (Val.load (v := .pointer (some ⟨(S x).l, 0, none⟩)) rfl Ty.sc168 rfl (fun w h => sto_l (h.at 1 rfl) hxD rfl)) ?_
        refine WP.val rfl rfl rfl (Val.nilCheck rfl rfl) ?_
        refine WP.val rfl rfl rfl (Val.fieldAddr (j := 3) rfl Ty.fo177_1 rfl rfl) ?_
        refine WP.val rfl rfl rfl (Val.load (v := .iface ((S ((S x).l)).m).t (((S ((S x).l)).m).u)) rfl Ty.sc170 rfl (fun w h => sto_m (h.at 1 rfl) (Is.mem (Ok.l ok hxD) (by first | assumption | (intro hh; simp_all; done) | (simp_all; done))) rfl)) ?_
        refine WP.val rfl rfl rfl (Val.assign rfl rfl) ?_
        refine WP.nil ?_
        refine Out.next ?_
        refine WPc.seq ?_
        refine WPc.seq ?_
        have hp1 : pickm (S x).it.e (chm s S (S x).l) = (S ((S x).l)).m := by first | exact pick_gt (by assumption) (by assumption) | exact pick_le (by assumption) (by (first | assumption | omega)) | exact pick_s (Decidable.byContradiction (by assumption)) | exact pick_s (by assumption)
        refine WPc.region ?_
        refine WP.val rfl rfl rfl (Val.move rfl rfl) ?_
        refine WP.val rfl rfl rfl (Val.nilCheck rfl rfl) ?_
        refine WP.val rfl rfl rfl (Val.fieldAddr (j := 5) rfl Ty.fo177_3 rfl rfl) ?_
        refine WP.val rfl rfl rfl (Val.load (v := .pointer (some ⟨(S x).r, 0, none⟩)) rfl Ty.sc168 rfl (fun w h => sto_r (h.at 1 rfl) hxD rfl)) ?_
        refine WP.val rfl rfl rfl (Val.move rfl rfl) ?_
        refine WP.val rfl rfl rfl (Val.neqP (T1 := 177) (T2 := 177) rfl pn168 rfl rfl rfl rfl (fun w h => whole (h.at 1 rfl) (h.at 2 rfl) (Ok.r ok hxD)) (fun w h => whole (h.at 1 rfl) (h.at 2 rfl) (.inl rfl))) ?_
        refine WP.val rfl rfl rfl (Val.move rfl rfl) ?_
        refine WP.split 50 rfl (fun h4 => ?_) (fun h4 => ?_)
        · skip
          have h4 : ((S x).r ≠ s) := h4
          refine WP.valG rfl rfl rfl rfl rfl rfl rfl (Val.move rfl rfl) ?_
          refine WP.valG rfl rfl rfl rfl rfl rfl rfl (Val.nilCheck rfl rfl) ?_
          refine WP.valG rfl rfl rfl rfl rfl rfl rfl (Val.fieldAddr (j := 5) rfl Ty.fo177_3 rfl rfl) ?_
          refine WP.valG rfl rfl rfl rfl rfl rfl rfl (Val.load (v := .pointer (some ⟨(S x).r, 0, none⟩)) rfl Ty.sc168 rfl (fun w h => sto_r (h.at 1 rfl) hxD rfl)) ?_
          refine WP.valG rfl rfl rfl rfl rfl rfl rfl (Val.nilCheck rfl rfl) ?_
          refine WP.valG rfl rfl rfl rfl rfl rfl rfl (Val.fieldAddr (j := 3) rfl Ty.fo177_1 rfl rfl) ?_
          refine WP.valG rfl rfl rfl rfl rfl rfl rfl (Val.load (v := .iface ((S ((S x).r)).m).t (((S ((S x).r)).m).u)) rfl Ty.sc170 rfl (fun w h => sto_m (h.at 1 rfl) (Is.mem (Ok.r ok hxD) (by first | assumption | (intro hh; simp_all; done) | (simp_all; done))) rfl)) ?_
          refine WP.valG rfl rfl rfl rfl rfl rfl rfl (Val.move rfl rfl) ?_
          refine WP.effG rfl rfl rfl rfl rfl rfl rfl (Eff.cmp (a := (S ((S x).r)).m) (b := (S ((S x).l)).m) rfl rfl rfl (Ok.m ok (Is.mem (Ok.r ok hxD) (by first | assumption | (intro hh; simp_all; done) | (simp_all; done)))) (Ok.m ok (Is.mem (Ok.l ok hxD) (by first | assumption | (intro hh; simp_all; done) | (simp_all; done)))) ((hE _ (Ok.m ok (Is.mem (Ok.r ok hxD) (by first | assumption | (intro hh; simp_all; done) | (simp_all; done))))).trans (hE _ (Ok.m ok (Is.mem (Ok.l ok hxD) (by first | assumption | (intro hh; simp_all; done) | (simp_all; done))))).symm)) ?_
          rintro _ _ ⟨rfl, rfl⟩
          refine WP.valG rfl rfl rfl rfl rfl rfl rfl (Val.gtr rfl rfl rfl) ?_
          refine WP.val rfl rfl rfl (Val.pickT rfl rfl rfl) ?_
          refine WP.nil ?_
          refine Out.next ?_
          refine WPc.ifP rfl (fun h5 => ?_) (fun h5 => ?_)
          · skip
            have h5 : ((0 : Int) < (kcmp ((S ((S x).r)).m).k ((S ((S x).l)).m).k)) := h5
            refine WPc.region ?_
            refine WP.val rfl rfl rfl (Val.move rfl rfl) ?_
            refine WP.val rfl rfl rfl (Val.nilCheck rfl rfl) ?_
            refine WP.val rfl rfl rfl (Val.fieldAddr (j := 5) rfl Ty.fo177_3 rfl rfl) ?_
            refine WP.val rfl rfl rfl (Val.load (v := .pointer (some ⟨(S x).r, 0, none⟩)) rfl Ty.sc168 rfl (fun w h => sto_r (h.at 1 rfl) hxD rfl)) ?_
            refine WP.val rfl rfl rfl (Val.nilCheck rfl rfl) ?_
            refine WP.val rfl rfl rfl (Val.fieldAddr (j := 3) rfl Ty.fo177_1 rfl rfl) ?_
            refine WP.val rfl rfl rfl (Val.load (v := .iface ((S ((S x).r)).m).t (((S ((S x).r)).m).u)) rfl Ty.sc170 rfl (fun w h => sto_m (h.at 1 rfl) (Is.mem (Ok.r ok hxD) (by first | assumption | (intro hh; simp_all; done) | (simp_all; done))) rfl)) ?_
            refine WP.val rfl rfl rfl (Val.assign rfl rfl) ?_
            refine WP.nil ?_
            refine Out.next ?_
            refine WPc.seq ?_
            refine WPc.seq ?_
            have hp2 : newm s S x = (S ((S x).r)).m := by unfold newm; rw [hp1]; first | exact pick_gt (by assumption) (by assumption) | exact pick_le (by assumption) (by (first | assumption | omega)) | exact pick_s (Decidable.byContradiction (by assumption)) | exact pick_s (by assumption)
            refine WPc.region ?_
            refine WP.val rfl rfl rfl (Val.move rfl rfl) ?_
            refine WP.val rfl rfl rfl (Val.move rfl rfl) ?_
            refine WP.eff rfl rfl rfl (Eff.cmp (a := (S x).m) (b := (S ((S x).r)).m) rfl rfl rfl (Ok.m ok hxD) (Ok.m ok (Is.mem (Ok.r ok hxD) (by first | assumption | (intro hh; simp_all; done) | (simp_all; done)))) ((hE _ (Ok.m ok hxD)).trans (hE _ (Ok.m ok (Is.mem (Ok.r ok hxD) (by first | assumption | (intro hh; simp_all; done) | (simp_all; done))))).symm)) ?_
            rintro _ _ ⟨rfl, rfl⟩
            refine WP.val rfl rfl rfl (Val.eql rfl rfl rfl) ?_
            refine WP.nil ?_
            refine Out.next ?_
            refine WPc.ifP rfl (fun h6 => ?_) (fun h6 => ?_)
            · skip
              have h6 : ((kcmp ((S x).m).k ((S ((S x).r)).m).k) = (0 : Int)) := h6
              refine WPc.exit ?_
              refine Out.then_exit ?_
              refine Out.block_other rfl ?_
              refine Out.then_exit ?_
              refine Out.block_exit ?_
              have hfin : um s n0 S0 x0 = S := by rw [← hum]; exact um_eq hxs hp2 (by assumption)
              exact Out.end0 (L' := [Ens EL, Sto (um s n0 S0 x0) D, Blk s ZC 177]) Try.results133 rfl (fun w h => by rw [hfin]; exact h)
            · skip
              have h6 : ¬ ((kcmp ((S x).m).k ((S ((S x).r)).m).k) = (0 : Int)) := h6
              refine WPc.skip ?_
              refine Out.next ?_
              refine WPc.seq ?_
              refine WPc.region ?_
              refine WP.val rfl rfl rfl (Val.move rfl rfl) ?_
              refine WP.val rfl rfl rfl (Val.move rfl rfl) ?_
              refine WP.val rfl rfl rfl (Val.nilCheck rfl rfl) ?_
              refine WP.val rfl rfl rfl (Val.fieldAddr (j := 3) rfl Ty.fo177_1 rfl rfl) ?_
              refine WP.perm pl1 ?_
              refine WP.eff0 rfl rfl (Eff.storeK (f := fun i => (S i).cells) (f' := fun i => (setM S x ((S ((S x).r)).m) i).cells) rfl Ty.sc170 rfl rfl rfl hxD (show 3 < 8 by decide) (by unfold setM; rw [upd_same]; rfl) (by unfold setM; exact cells_other)) ?_
              rintro _ _ rfl
              show WP _ _ _ _ _ _ _ (Sto (setM S x ((S ((S x).r)).m)) D :: Ens EL :: Blk s ZC 177 :: F)
              obtain ⟨S1, hS1⟩ : ∃ S1, S1 = setM S x ((S ((S x).r)).m) := ⟨_, rfl⟩
              rw [← hS1]
              have okS1 : Ok s EL D S1 := by rw [hS1]; exact (ok.setM (Ok.m ok (Is.mem (Ok.r ok hxD) (by first | assumption | (intro hh; simp_all; done) | (simp_all; done)))))
              have k2 : (S1 x).p = (S x).p := (by rw [hS1]; exact (setM_p _ _ _ _).trans rfl)
              have k3 : (S1 x).l = (S x).l := (by rw [hS1]; exact (setM_l _ _ _ _).trans rfl)
              have k4 : (S1 x).r = (S x).r := (by rw [hS1]; exact (setM_r _ _ _ _).trans rfl)
              have k5 : (S1 x).it.e = (S x).it.e := (by rw [hS1]; exact (congrArg It.e (setM_it _ _ _ _)).trans rfl)
              have k6 : (S1 x).m = (S ((S x).r)).m := by rw [hS1]; exact setM_same _ _ _
              refine WP.nil ?_
              refine Out.next ?_
              refine WPc.region ?_
              refine WP.val rfl rfl rfl (Val.move rfl rfl) ?_
              refine WP.val rfl rfl rfl (Val.nilCheck rfl rfl) ?_
              refine WP.val rfl rfl rfl (Val.fieldAddr (j := 6) rfl Ty.fo177_4 rfl rfl) ?_
              refine WP.val rfl rfl rfl (Val.load (v := .pointer (some ⟨(S x).p, 0, none⟩)) rfl Ty.sc168 rfl (fun w h => sto_p (h.at 0 rfl) hxD k2)) ?_
              refine WP.val rfl rfl rfl (Val.assign rfl rfl) ?_
              refine WP.nil ?_
              refine Out.block ?_
              have hnx : um s n S1 (S x).p = um s n0 S0 x0 := by rw [hS1, ← hum]; exact (um_ne hxs hp2 (by assumption)).symm
              have hd2 : Dep s S1 n (S x).p := by rw [hS1]; exact Dep.congr (fun i => setM_p _ _ _ i) hdp1
              refine Out.perm pl2 ?_
              refine Out.perm pl1 ?_
              refine Out.perm pl2 ?_
              refine Out.again ⟨S1, (S x).p, n⟩ ?_ ?_ ?_ ?_
              · exact ⟨hnx, okS1, (Ok.p ok hxD), hd2⟩
              · show n < n + 1; omega
              · exact (Sub.cons rfl (Sub.cons rfl Sub.nil))
              · exact (fun _ h => h)
          · skip
            have h5 : ¬ ((0 : Int) < (kcmp ((S ((S x).r)).m).k ((S ((S x).l)).m).k)) := h5
            refine WPc.skip ?_
            refine Out.next ?_
            refine WPc.seq ?_
            refine WPc.seq ?_
            have hp2 : newm s S x = (S ((S x).l)).m := by unfold newm; rw [hp1]; first | exact pick_gt (by assumption) (by assumption) | exact pick_le (by assumption) (by (first | assumption | omega)) | exact pick_s (Decidable.byContradiction (by assumption)) | exact pick_s (by assumption)
            refine WPc.region ?_
            refine WP.val rfl rfl rfl (Val.move rfl rfl) ?_
            refine WP.val rfl rfl rfl (Val.move rfl rfl) ?_
            refine WP.eff rfl rfl rfl (Eff.cmp (a := (S x).m) (b := (S ((S x).l)).m) rfl rfl rfl (Ok.m ok hxD) (Ok.m ok (Is.mem (Ok.l ok hxD) (by first | assumption | (intro hh; simp_all; done) | (simp_all; done)))) ((hE _ (Ok.m ok hxD)).trans (hE _ (Ok.m ok (Is.mem (Ok.l ok hxD) (by first | assumption | (intro hh; simp_all; done) | (simp_all; done))))).symm)) ?_
            rintro _ _ ⟨rfl, rfl⟩
            refine WP.val rfl rfl rfl (Val.eql rfl rfl rfl) ?_
            refine WP.nil ?_
            refine Out.next ?_
            refine WPc.ifP rfl (fun h7 => ?_) (fun h7 => ?_)
            · skip
              have h7 : ((kcmp ((S x).m).k ((S ((S x).l)).m).k) = (0 : Int)) := h7
              refine WPc.exit ?_
              refine Out.then_exit ?_
              refine Out.block_other rfl ?_
              refine Out.then_exit ?_
              refine Out.block_exit ?_
              have hfin : um s n0 S0 x0 = S := by rw [← hum]; exact um_eq hxs hp2 (by assumption)
              exact Out.end0 (L' := [Ens EL, Sto (um s n0 S0 x0) D, Blk s ZC 177]) Try.results133 rfl (fun w h => by rw [hfin]; exact h)
            · skip
              have h7 : ¬ ((kcmp ((S x).m).k ((S ((S x).l)).m).k) = (0 : Int)) := h7
              refine WPc.skip ?_
              refine Out.next ?_
              refine WPc.seq ?_
              refine WPc.region ?_
              refine WP.val rfl rfl rfl (Val.move rfl rfl) ?_
              refine WP.val rfl rfl rfl (Val.move rfl rfl) ?_
              refine WP.val rfl rfl rfl (Val.nilCheck rfl rfl) ?_
              refine WP.val rfl rfl rfl (Val.fieldAddr (j := 3) rfl Ty.fo177_1 rfl rfl) ?_
              refine WP.perm pl1 ?_
              refine WP.eff0 rfl rfl (Eff.storeK (f := fun i => (S i).cells) (f' := fun i => (setM S x ((S ((S x).l)).m) i).cells) rfl Ty.sc170 rfl rfl rfl hxD (show 3 < 8 by decide) (by unfold setM; rw [upd_same]; rfl) (by unfold setM; exact cells_other)) ?_
              rintro _ _ rfl
              show WP _ _ _ _ _ _ _ (Sto (setM S x ((S ((S x).l)).m)) D :: Ens EL :: Blk s ZC 177 :: F)
              obtain ⟨S7, hS7⟩ : ∃ S7, S7 = setM S x ((S ((S x).l)).m) := ⟨_, rfl⟩
              rw [← hS7]
              have okS7 : Ok s EL D S7 := by rw [hS7]; exact (ok.setM (Ok.m ok (Is.mem (Ok.l ok hxD) (by first | assumption | (intro hh; simp_all; done) | (simp_all; done)))))
              have k8 : (S7 x).p = (S x).p := (by rw [hS7]; exact (setM_p _ _ _ _).trans rfl)
              have k9 : (S7 x).l = (S x).l := (by rw [hS7]; exact (setM_l _ _ _ _).trans rfl)
              have k10 : (S7 x).r = (S x).r := (by rw [hS7]; exact (setM_r _ _ _ _).trans rfl)
              have k11 : (S7 x).it.e = (S x).it.e := (by rw [hS7]; exact (congrArg It.e (setM_it _ _ _ _)).trans rfl)
              have k12 : (S7 x).m = (S ((S x).l)).m := by rw [hS7]; exact setM_same _ _ _
              refine WP.nil ?_
              refine Out.next ?_
              refine WPc.region ?_
              refine WP.val rfl rfl rfl (Val.move rfl rfl) ?_
              refine WP.val rfl rfl rfl (Val.nilCheck rfl rfl) ?_
              refine WP.val rfl rfl rfl (Val.fieldAddr (j := 6) rfl Ty.fo177_4 rfl rfl) ?_
              refine WP.val rfl rfl rfl (Val.load (v := .pointer (some ⟨(S x).p, 0, none⟩)) rfl Ty.sc168 rfl (fun w h => sto_p (h.at 0 rfl) hxD k8)) ?_
              refine WP.val rfl rfl rfl (Val.assign rfl rfl) ?_
              refine WP.nil ?_
              refine Out.block ?_
              have hnx : um s n S7 (S x).p = um s n0 S0 x0 := by rw [hS7, ← hum]; exact (um_ne hxs hp2 (by assumption)).symm
              have hd2 : Dep s S7 n (S x).p := by rw [hS7]; exact Dep.congr (fun i => setM_p _ _ _ i) hdp1
              refine Out.perm pl2 ?_
              refine Out.perm pl1 ?_
              refine Out.perm pl2 ?_
              refine Out.again ⟨S7, (S x).p, n⟩ ?_ ?_ ?_ ?_
              · exact ⟨hnx, okS7, (Ok.p ok hxD), hd2⟩
              · show n < n + 1; omega
              · exact (Sub.cons rfl (Sub.cons rfl Sub.nil))
              · exact (fun _ h => h)
        · skip
          have h4 : ¬ ((S x).r ≠ s) := h4
          refine WP.skip rfl rfl rfl rfl rfl rfl rfl ?_
          refine WP.skip rfl rfl rfl rfl rfl rfl rfl ?_
          refine WP.skip rfl rfl rfl rfl rfl rfl rfl ?_
          refine WP.skip rfl rfl rfl rfl rfl rfl rfl ?_
          refine WP.skip rfl rfl rfl rfl rfl rfl rfl ?_
          refine WP.skip rfl rfl rfl rfl rfl rfl rfl ?_
          refine WP.skip rfl rfl rfl rfl rfl rfl rfl ?_
          refine WP.skip rfl rfl rfl rfl rfl rfl rfl ?_
          refine WP.skip rfl rfl rfl rfl rfl rfl rfl ?_
          refine WP.skip rfl rfl rfl rfl rfl rfl rfl ?_
          refine WP.val rfl rfl rfl (Val.pickF rfl rfl rfl) ?_
          refine WP.nil ?_
          refine Out.next ?_
          refine WPc.condF rfl rfl ?_
          refine WPc.skip ?_
          refine Out.next ?_
          refine WPc.seq ?_
          refine WPc.seq ?_
          have hp2 : newm s S x = (S ((S x).l)).m := by unfold newm; rw [hp1]; first | exact pick_gt (by assumption) (by assumption) | exact pick_le (by assumption) (by (first | assumption | omega)) | exact pick_s (Decidable.byContradiction (by assumption)) | exact pick_s (by assumption)
          refine WPc.region ?_
          refine WP.val rfl rfl rfl (Val.move rfl rfl) ?_
          refine WP.val rfl rfl rfl (Val.move rfl rfl) ?_
          refine WP.eff rfl rfl rfl (Eff.cmp (a := (S x).m) (b := (S ((S x).l)).m) rfl rfl rfl (Ok.m ok hxD) (Ok.m ok (Is.mem (Ok.l ok hxD) (by first | assumption | (intro hh; simp_all; done) | (simp_all; done)))) ((hE _ (Ok.m ok hxD)).trans (hE _ (Ok.m ok (Is.mem (Ok.l ok hxD) (by first | assumption | (intro hh; simp_all; done) | (simp_all; done))))).symm)) ?_
          rintro _ _ ⟨rfl, rfl⟩
          refine WP.val rfl rfl rfl (Val.eql rfl rfl rfl) ?_
          refine WP.nil ?_
          refine Out.next ?_
          refine WPc.ifP rfl (fun h8 => ?_) (fun h8 => ?_)
          · skip
            have h8 : ((kcmp ((S x).m).k ((S ((S x).l)).m).k) = (0 : Int)) := h8
            refine WPc.exit ?_
            refine Out.then_exit ?_
            refine Out.block_other rfl ?_
            refine Out.then_exit ?_
            refine Out.block_exit ?_
            have hfin : um s n0 S0 x0 = S := by rw [← hum]; exact um_eq hxs hp2 (by assumption)
            exact Out.end0 (L' := [Ens EL, Sto (um s n0 S0 x0) D, Blk s ZC 177]) Try.results133 rfl (fun w h => by rw [hfin]; exact h)
          · skip
            have h8 : ¬ ((kcmp ((S x).m).k ((S ((S x).l)).m).k) = (0 : Int)) := h8
            refine WPc.skip ?_
            refine Out.next ?_
            refine WPc.seq ?_
            refine WPc.region ?_
            refine WP.val rfl rfl rfl (Val.move rfl rfl) ?_
            refine WP.val rfl rfl rfl (Val.move rfl rfl) ?_
            refine WP.val rfl rfl rfl (Val.nilCheck rfl rfl) ?_
            refine WP.val rfl rfl rfl (Val.fieldAddr (j := 3) rfl Ty.fo177_1 rfl rfl) ?_
            refine WP.perm pl1 ?_
            refine WP.eff0 rfl rfl (Eff.storeK (f := fun i => (S i).cells) (f' := fun i => (setM S x ((S ((S x).l)).m) i).cells) rfl Ty.sc170 rfl rfl rfl hxD (show 3 < 8 by decide) (by unfold setM; rw [upd_same]; rfl) (by unfold setM; exact cells_other)) ?_
            rintro _ _ rfl
            show WP _ _ _ _ _ _ _ (Sto (setM S x ((S ((S x).l)).m)) D :: Ens EL :: Blk s ZC 177 :: F)
            obtain ⟨S13, hS13⟩ : ∃ S13, S13 = setM S x ((S ((S x).l)).m) := ⟨_, rfl⟩
            rw [← hS13]
            have okS13 : Ok s EL D S13 := by rw [hS13]; exact (ok.setM (Ok.m ok (Is.mem (Ok.l ok hxD) (by first | assumption | (intro hh; simp_all; done) | (simp_all; done)))))
            have k14 : (S13 x).p = (S x).p := (by rw [hS13]; exact (setM_p _ _ _ _).trans rfl)
            have k15 : (S13 x).l = (S x).l := (by rw [hS13]; exact (setM_l _ _ _ _).trans rfl)
            have k16 : (S13 x).r = (S x).r := (by rw [hS13]; exact (setM_r _ _ _ _).trans rfl)
            have k17 : (S13 x).it.e = (S x).it.e := (by rw [hS13]; exact (congrArg It.e (setM_it _ _ _ _)).trans rfl)
            have k18 : (S13 x).m = (S ((S x).l)).m := by rw [hS13]; exact setM_same _ _ _
            refine WP.nil ?_
            refine Out.next ?_
            refine WPc.region ?_
            refine WP.val rfl rfl rfl (Val.move rfl rfl) ?_
            refine WP.val rfl rfl rfl (Val.nilCheck rfl rfl) ?_
            refine WP.val rfl rfl rfl (Val.fieldAddr (j := 6) rfl Ty.fo177_4 rfl rfl) ?_
            refine WP.val rfl rfl rfl (Val.load (v := .pointer (some ⟨(S x).p, 0, none⟩)) rfl Ty.sc168 rfl (fun w h => sto_p (h.at 0 rfl) hxD k14)) ?_
            refine WP.val rfl rfl rfl (Val.assign rfl rfl) ?_
            refine WP.nil ?_
            refine Out.block ?_
            have hnx : um s n S13 (S x).p = um s n0 S0 x0 := by rw [hS13, ← hum]; exact (um_ne hxs hp2 (by assumption)).symm
            have hd2 : Dep s S13 n (S x).p := by rw [hS13]; exact Dep.congr (fun i => setM_p _ _ _ i) hdp1
            refine Out.perm pl2 ?_
            refine Out.perm pl1 ?_
            refine Out.perm pl2 ?_
            refine Out.again ⟨S13, (S x).p, n⟩ ?_ ?_ ?_ ?_
            · exact ⟨hnx, okS13, (Ok.p ok hxD), hd2⟩
            · show n < n + 1; omega
            · exact (Sub.cons rfl (Sub.cons rfl Sub.nil))
            · exact (fun _ h => h)
      · skip
        have h3 : ¬ ((0 : Int) < (kcmp ((S ((S x).l)).m).k ((S x).it.e).k)) := h3
        refine WPc.skip ?_
        refine Out.next ?_
        refine WPc.seq ?_
        refine WPc.seq ?_
        have hp1 : pickm (S x).it.e (chm s S (S x).l) = (S x).it.e := by first | exact pick_gt (by assumption) (by assumption) | exact pick_le (by assumption) (by (first | assumption | omega)) | exact pick_s (Decidable.byContradiction (by assumption)) | exact pick_s (by assumption)
        refine WPc.region ?_
        refine WP.val rfl rfl rfl (Val.move rfl rfl) ?_
        refine WP.val rfl rfl rfl (Val.nilCheck rfl rfl) ?_
        refine WP.val rfl rfl rfl (Val.fieldAddr (j := 5) rfl Ty.fo177_3 rfl rfl) ?_
        refine WP.val rfl rfl rfl (Val.load (v := .pointer (some ⟨(S x).r, 0, none⟩)) rfl Ty.sc168 rfl (fun w h => sto_r (h.at 1 rfl) hxD rfl)) ?_
        refine WP.val rfl rfl rfl (Val.move rfl rfl) ?_
        refine WP.val rfl rfl rfl (Val.neqP (T1 := 177) (T2 := 177) rfl pn168 rfl rfl rfl rfl (fun w h => whole (h.at 1 rfl) (h.at 2 rfl) (Ok.r ok hxD)) (fun w h => whole (h.at 1 rfl) (h.at 2 rfl) (.inl rfl))) ?_
        refine WP.val rfl rfl rfl (Val.move rfl rfl) ?_
        refine WP.split 50 rfl (fun h9 => ?_) (fun h9 => ?_)
        · skip
          have h9 : ((S x).r ≠ s) := h9
          refine WP.valG rfl rfl rfl rfl rfl rfl rfl (Val.move rfl rfl) ?_
          refine WP.valG rfl rfl rfl rfl rfl rfl rfl (Val.nilCheck rfl rfl) ?_
          refine WP.valG rfl rfl rfl rfl rfl rfl rfl (Val.fieldAddr (j := 5) rfl Ty.fo177_3 rfl rfl) ?_
          refine WP.valG rfl rfl rfl rfl rfl rfl rfl (Val.load (v := .pointer (some ⟨(S x).r, 0, none⟩)) rfl Ty.sc168 rfl (fun w h => sto_r (h.at 1 rfl) hxD rfl)) ?_
          refine WP.valG rfl rfl rfl rfl rfl rfl rfl (Val.nilCheck rfl rfl) ?_
          refine WP.valG rfl rfl rfl rfl rfl rfl rfl (Val.fieldAddr (j := 3) rfl Ty.fo177_1 rfl rfl) ?_
          refine WP.valG rfl rfl rfl rfl rfl rfl rfl (Val.load (v := .iface ((S ((S x).r)).m).t (((S ((S x).r)).m).u)) rfl Ty.sc170 rfl (fun w h => sto_m (h.at 1 rfl) (Is.mem (Ok.r ok hxD) (by first | assumption | (intro hh; simp_all; done) | (simp_all; done))) rfl)) ?_
          refine WP.valG rfl rfl rfl rfl rfl rfl rfl (Val.move rfl rfl) ?_
          refine WP.effG rfl rfl rfl rfl rfl rfl rfl (Eff.cmp (a := (S ((S x).r)).m) (b := (S x).it.e) rfl rfl rfl (Ok.m ok (Is.mem (Ok.r ok hxD) (by first | assumption | (intro hh; simp_all; done) | (simp_all; done)))) (Ok.e ok hxD) ((hE _ (Ok.m ok (Is.mem (Ok.r ok hxD) (by first | assumption | (intro hh; simp_all; done) | (simp_all; done))))).trans (hE _ (Ok.e ok hxD)).symm)) ?_
          rintro _ _ ⟨rfl, rfl⟩
          refine WP.valG rfl rfl rfl rfl rfl rfl rfl (Val.gtr rfl rfl rfl) ?_
          refine WP.val rfl rfl rfl (Val.pickT rfl rfl rfl) ?_
          refine WP.nil ?_
          refine Out.next ?_
          refine WPc.ifP rfl (fun h10 => ?_) (fun h10 => ?_)
          · skip
            have h10 : ((0 : Int) < (kcmp ((S ((S x).r)).m).k ((S x).it.e).k)) := h10
            refine WPc.region ?_
            refine WP.val rfl rfl rfl (Val.move rfl rfl) ?_
            refine WP.val rfl rfl rfl (Val.nilCheck rfl rfl) ?_
            refine WP.val rfl rfl rfl (Val.fieldAddr (j := 5) rfl Ty.fo177_3 rfl rfl) ?_
            refine WP.val rfl rfl rfl (Val.load (v := .pointer (some ⟨(S x).r, 0, none⟩)) rfl Ty.sc168 rfl (fun w h => sto_r (h.at 1 rfl) hxD rfl)) ?_
            refine WP.val rfl rfl rfl (Val.nilCheck rfl rfl) ?_
            refine WP.val rfl rfl rfl (Val.fieldAddr (j := 3) rfl Ty.fo177_1 rfl rfl) ?_
            refine WP.val rfl rfl rfl (Val.load (v := .iface ((S ((S x).r)).m).t (((S ((S x).r)).m).u)) rfl Ty.sc170 rfl (fun w h => sto_m (h.at 1 rfl) (Is.mem (Ok.r ok hxD) (by first | assumption | (intro hh; simp_all; done) | (simp_all; done))) rfl)) ?_
            refine WP.val rfl rfl rfl (Val.assign rfl rfl) ?_
            refine WP.nil ?_
            refine Out.next ?_
            refine WPc.seq ?_
            refine WPc.seq ?_
            have hp2 : newm s S x = (S ((S x).r)).m := by unfold newm; rw [hp1]; first | exact pick_gt (by assumption) (by assumption) | exact pick_le (by assumption) (by (first | assumption | omega)) | exact pick_s (Decidable.byContradiction (by assumption)) | exact pick_s (by assumption)
            refine WPc.region ?_
            refine WP.val rfl rfl rfl (Val.move rfl rfl) ?_
            refine WP.val rfl rfl rfl (Val.move rfl rfl) ?_
            refine WP.eff rfl rfl rfl (Eff.cmp (a := (S x).m) (b := (S ((S x).r)).m) rfl rfl rfl (Ok.m ok hxD) (Ok.m ok (Is.mem (Ok.r ok hxD) (by first | assumption | (intro hh; simp_all; done) | (simp_all; done)))) ((hE _ (Ok.m ok hxD)).trans (hE _ (Ok.m ok (Is.mem (Ok.r ok hxD) (by first | assumption | (intro hh; simp_all; done) | (simp_all; done))))).symm)) ?_
            rintro _ _ ⟨rfl, rfl⟩
            refine WP.val rfl rfl rfl (Val.eql rfl rfl rfl) ?_
            refine WP.nil ?_
            refine Out.next ?_
            refine WPc.ifP rfl (fun h11 => ?_) (fun h11 => ?_)
            · skip
              have h11 : ((kcmp ((S x).m).k ((S ((S x).r)).m).k) = (0 : Int)) := h11
              refine WPc.exit ?_
              refine Out.then_exit ?_
              refine Out.block_other rfl ?_
              refine Out.then_exit ?_
              refine Out.block_exit ?_
              have hfin : um s n0 S0 x0 = S := by rw [← hum]; exact um_eq hxs hp2 (by assumption)
              exact Out.end0 (L' := [Ens EL, Sto (um s n0 S0 x0) D, Blk s ZC 177]) Try.results133 rfl (fun w h => by rw [hfin]; exact h)
            · skip
              have h11 : ¬ ((kcmp ((S x).m).k ((S ((S x).r)).m).k) = (0 : Int)) := h11
              refine WPc.skip ?_
              refine Out.next ?_
              refine WPc.seq ?_
              refine WPc.region ?_
              refine WP.val rfl rfl rfl (Val.move rfl rfl) ?_
              refine WP.val rfl rfl rfl (Val.move rfl rfl) ?_
              refine WP.val rfl rfl rfl (Val.nilCheck rfl rfl) ?_
              refine WP.val rfl rfl rfl (Val.fieldAddr (j := 3) rfl Ty.fo177_1 rfl rfl) ?_
              refine WP.perm pl1 ?_
              refine WP.eff0 rfl rfl (Eff.storeK (f := fun i => (S i).cells) (f' := fun i => (setM S x ((S ((S x).r)).m) i).cells) rfl Ty.sc170 rfl rfl rfl hxD (show 3 < 8 by decide) (by unfold setM; rw [upd_same]; rfl) (by unfold setM; exact cells_other)) ?_
              rintro _ _ rfl
              show WP _ _ _ _ _ _ _ (Sto (setM S x ((S ((S x).r)).m)) D :: Ens EL :: Blk s ZC 177 :: F)
              obtain ⟨S19, hS19⟩ : ∃ S19, S19 = setM S x ((S ((S x).r)).m) := ⟨_, rfl⟩
              rw [← hS19]
              have okS19 : Ok s EL D S19 := by rw [hS19]; exact (ok.setM (Ok.m ok (Is.mem (Ok.r ok hxD) (by first | assumption | (intro hh; simp_all; done) | (simp_all; done)))))
              have k20 : (S19 x).p = (S x).p := (by rw [hS19]; exact (setM_p _ _ _ _).trans rfl)
              have k21 : (S19 x).l = (S x).l := (by rw [hS19]; exact (setM_l _ _ _ _).trans rfl)
              have k22 : (S19 x).r = (S x).r := (by rw [hS19]; exact (setM_r _ _ _ _).trans rfl)
              have k23 : (S19 x).it.e = (S x).it.e := (by rw [hS19]; exact (congrArg It.e (setM_it _ _ _ _)).trans rfl)
              have k24 : (S19 x).m = (S ((S x).r)).m := by rw [hS19]; exact setM_same _ _ _
              refine WP.nil ?_
              refine Out.next ?_
              refine WPc.region ?_
              refine WP.val rfl rfl rfl (Val.move rfl rfl) ?_
              refine WP.val rfl rfl rfl (Val.nilCheck rfl rfl) ?_
              refine WP.val rfl rfl rfl (Val.fieldAddr (j := 6) rfl Ty.fo177_4 rfl rfl) ?_
              refine WP.val rfl rfl rfl (Val.load (v := .pointer (some ⟨(S x).p, 0, none⟩)) rfl Ty.sc168 rfl (fun w h => sto_p (h.at 0 rfl) hxD k20)) ?_
              refine WP.val rfl rfl rfl (Val.assign rfl rfl) ?_
              refine WP.nil ?_
              refine Out.block ?_
              have hnx : um s n S19 (S x).p = um s n0 S0 x0 := by rw [hS19, ← hum]; exact (um_ne hxs hp2 (by assumption)).symm
              have hd2 : Dep s S19 n (S x).p := by rw [hS19]; exact Dep.congr (fun i => setM_p _ _ _ i) hdp1
              refine Out.perm pl2 ?_
              refine Out.perm pl1 ?_
              refine Out.perm pl2 ?_
              refine Out.again ⟨S19, (S x).p, n⟩ ?_ ?_ ?_ ?_
              · exact ⟨hnx, okS19, (Ok.p ok hxD), hd2⟩
              · show n < n + 1; omega
              · exact (Sub.cons rfl (Sub.cons rfl Sub.nil))
              · exact (fun _ h => h)
          · skip
            have h10 : ¬ ((0 : Int) < (kcmp ((S ((S x).r)).m).k ((S x).it.e).k)) := h10
            refine WPc.skip ?_
            refine Out.next ?_
            refine WPc.seq ?_
            refine WPc.seq ?_
            have hp2 : newm s S x = (S x).it.e := by unfold newm; rw [hp1]; first | exact pick_gt (by assumption) (by assumption) | exact pick_le (by assumption) (by (first | assumption | omega)) | exact pick_s (Decidable.byContradiction (by assumption)) | exact pick_s (by assumption)
            refine WPc.region ?_
            refine WP.val rfl rfl rfl (Val.move rfl rfl) ?_
            refine WP.val rfl rfl rfl (Val.move rfl rfl) ?_
            refine WP.eff rfl rfl rfl (Eff.cmp (a := (S x).m) (b := (S x).it.e) rfl rfl rfl (Ok.m ok hxD) (Ok.e ok hxD) ((hE _ (Ok.m ok hxD)).trans (hE _ (Ok.e ok hxD)).symm)) ?_
            rintro _ _ ⟨rfl, rfl⟩
            refine WP.val rfl rfl rfl (Val.eql rfl rfl rfl) ?_
            refine WP.nil ?_
            refine Out.next ?_
            refine WPc.ifP rfl (fun h12 => ?_) (fun h12 => ?_)
            · skip
              have h12 : ((kcmp ((S x).m).k ((S x).it.e).k) = (0 : Int)) := h12
              refine WPc.exit ?_
              refine Out.then_exit ?_
              refine Out.block_other rfl ?_
              refine Out.then_exit ?_
              refine Out.block_exit ?_
              have hfin : um s n0 S0 x0 = S := by rw [← hum]; exact um_eq hxs hp2 (by assumption)
              exact Out.end0 (L' := [Ens EL, Sto (um s n0 S0 x0) D, Blk s ZC 177]) Try.results133 rfl (fun w h => by rw [hfin]; exact h)
            · skip
              have h12 : ¬ ((kcmp ((S x).m).k ((S x).it.e).k) = (0 : Int)) := h12
              refine WPc.skip ?_
              refine Out.next ?_
              refine WPc.seq ?_
              refine WPc.region ?_
              refine WP.val rfl rfl rfl (Val.move rfl rfl) ?_
              refine WP.val rfl rfl rfl (Val.move rfl rfl) ?_
              refine WP.val rfl rfl rfl (Val.nilCheck rfl rfl) ?_
              refine WP.val rfl rfl rfl (Val.fieldAddr (j := 3) rfl Ty.fo177_1 rfl rfl) ?_
              refine WP.perm pl1 ?_
              refine WP.eff0 rfl rfl (Eff.storeK (f := fun i => (S i).cells) (f' := fun i => (setM S x ((S x).it.e) i).cells) rfl Ty.sc170 rfl rfl rfl hxD (show 3 < 8 by decide) (by unfold setM; rw [upd_same]; rfl) (by unfold setM; exact cells_other)) ?_
              rintro _ _ rfl
              show WP _ _ _ _ _ _ _ (Sto (setM S x ((S x).it.e)) D :: Ens EL :: Blk s ZC 177 :: F)
              obtain ⟨S25, hS25⟩ : ∃ S25, S25 = setM S x ((S x).it.e) := ⟨_, rfl⟩
              rw [← hS25]
              have okS25 : Ok s EL D S25 := by rw [hS25]; exact (ok.setM (Ok.e ok hxD))
              have k26 : (S25 x).p = (S x).p := (by rw [hS25]; exact (setM_p _ _ _ _).trans rfl)
              have k27 : (S25 x).l = (S x).l := (by rw [hS25]; exact (setM_l _ _ _ _).trans rfl)
              have k28 : (S25 x).r = (S x).r := (by rw [hS25]; exact (setM_r _ _ _ _).trans rfl)
              have k29 : (S25 x).it.e = (S x).it.e := (by rw [hS25]; exact (congrArg It.e (setM_it _ _ _ _)).trans rfl)
              have k30 : (S25 x).m = (S x).it.e := by rw [hS25]; exact setM_same _ _ _
              refine WP.nil ?_
              refine Out.next ?_
              refine WPc.region ?_
              refine WP.val rfl rfl rfl (Val.move rfl rfl) ?_
              refine WP.val rfl rfl rfl (Val.nilCheck rfl rfl) ?_
              refine WP.val rfl rfl rfl (Val.fieldAddr (j := 6) rfl Ty.fo177_4 rfl rfl) ?_
              refine WP.val rfl rfl rfl (Val.load (v := .pointer (some ⟨(S x).p, 0, none⟩)) rfl Ty.sc168 rfl (fun w h => sto_p (h.at 0 rfl) hxD k26)) ?_
              refine WP.val rfl rfl rfl (Val.assign rfl rfl) ?_
              refine WP.nil ?_
              refine Out.block ?_
              have hnx : um s n S25 (S x).p = um s n0 S0 x0 := by rw [hS25, ← hum]; exact (um_ne hxs hp2 (by assumption)).symm
              have hd2 : Dep s S25 n (S x).p := by rw [hS25]; exact Dep.congr (fun i => setM_p _ _ _ i) hdp1
              refine Out.perm pl2 ?_
              refine Out.perm pl1 ?_
              refine Out.perm pl2 ?_
              refine Out.again ⟨S25, (S x).p, n⟩ ?_ ?_ ?_ ?_
              · exact ⟨hnx, okS25, (Ok.p ok hxD), hd2⟩
              · show n < n + 1; omega
              · exact (Sub.cons rfl (Sub.cons rfl Sub.nil))
              · exact (fun _ h => h)
        · skip
          have h9 : ¬ ((S x).r ≠ s) := h9
          refine WP.skip rfl rfl rfl rfl rfl rfl rfl ?_
          refine WP.skip rfl rfl rfl rfl rfl rfl rfl ?_
          refine WP.skip rfl rfl rfl rfl rfl rfl rfl ?_
          refine WP.skip rfl rfl rfl rfl rfl rfl rfl ?_
          refine WP.skip rfl rfl rfl rfl rfl rfl rfl ?_
          refine WP.skip rfl rfl rfl rfl rfl rfl rfl ?_
          refine WP.skip rfl rfl rfl rfl rfl rfl rfl ?_
          refine WP.skip rfl rfl rfl rfl rfl rfl rfl ?_
          refine WP.skip rfl rfl rfl rfl rfl rfl rfl ?_
          refine WP.skip rfl rfl rfl rfl rfl rfl rfl ?_
          refine WP.val rfl rfl rfl (Val.pickF rfl rfl rfl) ?_
          refine WP.nil ?_
          refine Out.next ?_
          refine WPc.condF rfl rfl ?_
          refine WPc.skip ?_
          refine Out.next ?_
          refine WPc.seq ?_
          refine WPc.seq ?_
          have hp2 : newm s S x = (S x).it.e := by unfold newm; rw [hp1]; first | exact pick_gt (by assumption) (by assumption) | exact pick_le (by assumption) (by (first | assumption | omega)) | exact pick_s (Decidable.byContradiction (by assumption)) | exact pick_s (by assumption)
          refine WPc.region ?_
          refine WP.val rfl rfl rfl (Val.move rfl rfl) ?_
          refine WP.val rfl rfl rfl (Val.move rfl rfl) ?_
          refine WP.eff rfl rfl rfl (Eff.cmp (a := (S x).m) (b := (S x).it.e) rfl rfl rfl (Ok.m ok hxD) (Ok.e ok hxD) ((hE _ (Ok.m ok hxD)).trans (hE _ (Ok.e ok hxD)).symm)) ?_
          rintro _ _ ⟨rfl, rfl⟩
          refine WP.val rfl rfl rfl (Val.eql rfl rfl rfl) ?_
          refine WP.nil ?_
          refine Out.next ?_
          refine WPc.ifP rfl (fun h13 => ?_) (fun h13 => ?_)
          · skip
            have h13 : ((kcmp ((S x).m).k ((S x).it.e).k) = (0 : Int)) := h13
            refine WPc.exit ?_
            refine Out.then_exit ?_
            refine Out.block_other rfl ?_
            refine Out.then_exit ?_
            refine Out.block_exit ?_
            have hfin : um s n0 S0 x0 = S := by rw [← hum]; exact um_eq hxs hp2 (by assumption)
            exact Out.end0 (L' := [Ens EL, Sto (um s n0 S0 x0) D, Blk s ZC 177]) Try.results133 rfl (fun w h => by rw [hfin]; exact h)
          · skip
            have h13 : ¬ ((kcmp ((S x).m).k ((S x).it.e).k) = (0 : Int)) := h13
            refine WPc.skip ?_
            refine Out.next ?_
            refine WPc.seq ?_
            refine WPc.region ?_
            refine WP.val rfl rfl rfl (Val.move rfl rfl) ?_
            refine WP.val rfl rfl rfl (Val.move rfl rfl) ?_
            refine WP.val rfl rfl rfl (Val.nilCheck rfl rfl) ?_
            refine WP.val rfl rfl rfl (Val.fieldAddr (j := 3) rfl Ty.fo177_1 rfl rfl) ?_
            refine WP.perm pl1 ?_
            refine WP.eff0 rfl rfl (Eff.storeK (f := fun i => (S i).cells) (f' := fun i => (setM S x ((S x).it.e) i).cells) rfl Ty.sc170 rfl rfl rfl hxD (show 3 < 8 by decide) (by unfold setM; rw [upd_same]; rfl) (by unfold setM; exact cells_other)) ?_
            rintro _ _ rfl
            show WP _ _ _ _ _ _ _ (Sto (setM S x ((S x).it.e)) D :: Ens EL :: Blk s ZC 177 :: F)
            obtain ⟨S31, hS31⟩ : ∃ S31, S31 = setM S x ((S x).it.e) := ⟨_, rfl⟩
            rw [← hS31]
            have okS31 : Ok s EL D S31 := by rw [hS31]; exact (ok.setM (Ok.e ok hxD))
            have k32 : (S31 x).p = (S x).p := (by rw [hS31]; exact (setM_p _ _ _ _).trans rfl)
            have k33 : (S31 x).l = (S x).l := (by rw [hS31]; exact (setM_l _ _ _ _).trans rfl)
            have k34 : (S31 x).r = (S x).r := (by rw [hS31]; exact (setM_r _ _ _ _).trans rfl)
            have k35 : (S31 x).it.e = (S x).it.e := (by rw [hS31]; exact (congrArg It.e (setM_it _ _ _ _)).trans rfl)
            have k36 : (S31 x).m = (S x).it.e := by rw [hS31]; exact setM_same _ _ _
            refine WP.nil ?_
            refine Out.next ?_
            refine WPc.region ?_
            refine WP.val rfl rfl rfl (Val.move rfl rfl) ?_
            refine WP.val rfl rfl rfl (Val.nilCheck rfl rfl) ?_
            refine WP.val rfl rfl rfl (Val.fieldAddr (j := 6) rfl Ty.fo177_4 rfl rfl) ?_
            refine WP.val rfl rfl rfl (Val.load (v := .pointer (some ⟨(S x).p, 0, none⟩)) rfl Ty.sc168 rfl (fun w h => sto_p (h.at 0 rfl) hxD k32)) ?_
            refine WP.val rfl rfl rfl (Val.assign rfl rfl) ?_
            refine WP.nil ?_
            refine Out.block ?_
            have hnx : um s n S31 (S x).p = um s n0 S0 x0 := by rw [hS31, ← hum]; exact (um_ne hxs hp2 (by assumption)).symm
            have hd2 : Dep s S31 n (S x).p := by rw [hS31]; exact Dep.congr (fun i => setM_p _ _ _ i) hdp1
            refine Out.perm pl2 ?_
            refine Out.perm pl1 ?_
            refine Out.perm pl2 ?_
            refine Out.again ⟨S31, (S x).p, n⟩ ?_ ?_ ?_ ?_
            · exact ⟨hnx, okS31, (Ok.p ok hxD), hd2⟩
            · show n < n + 1; omega
            · exact (Sub.cons rfl (Sub.cons rfl Sub.nil))
            · exact (fun _ h => h)
    · skip
      have h2 : ¬ ((S x).l ≠ s) := h2
      refine WP.skip rfl rfl rfl rfl rfl rfl rfl ?_
      refine WP.skip rfl rfl rfl rfl rfl rfl rfl ?_
      refine WP.skip rfl rfl rfl rfl rfl rfl rfl ?_
      refine WP.skip rfl rfl rfl rfl rfl rfl rfl ?_
      refine WP.skip rfl rfl rfl rfl rfl rfl rfl ?_
      refine WP.skip rfl rfl rfl rfl rfl rfl rfl ?_
      refine WP.skip rfl rfl rfl rfl rfl rfl rfl ?_
      refine WP.skip rfl rfl rfl rfl rfl rfl rfl ?_
      refine WP.skip rfl rfl rfl rfl rfl rfl rfl ?_
      refine WP.skip rfl rfl rfl rfl rfl rfl rfl ?_
      refine WP.val rfl rfl rfl (Val.pickF rfl rfl rfl) ?_
      refine WP.nil ?_
      refine Out.next ?_
      refine WPc.condF rfl rfl ?_
      refine WPc.skip ?_
      refine Out.next ?_
      refine WPc.seq ?_
      refine WPc.seq ?_
      have hp1 : pickm (S x).it.e (chm s S (S x).l) = (S x).it.e := by first | exact pick_gt (by assumption) (by assumption) | exact pick_le (by assumption) (by (first | assumption | omega)) | exact pick_s (Decidable.byContradiction (by assumption)) | exact pick_s (by assumption)
      refine WPc.region ?_
      refine WP.val rfl rfl rfl (Val.move rfl rfl) ?_
      refine WP.val rfl rfl rfl (Val.nilCheck rfl rfl) ?_
      refine WP.val rfl rfl rfl (Val.fieldAddr (j := 5) rfl Ty.fo177_3 rfl rfl) ?_
      refine WP.val rfl rfl rfl (Val.load (v := .pointer (some ⟨(S x).r, 0, none⟩)) rfl Ty.sc168 rfl (fun w h => sto_r (h.at 1 rfl) hxD rfl)) ?_
      refine WP.val rfl rfl rfl (Val.move rfl rfl) ?_
      refine WP.val rfl rfl rfl (Val.neqP (T1 := 177) (T2 := 177) rfl pn168 rfl rfl rfl rfl (fun w h => whole (h.at 1 rfl) (h.at 2 rfl) (Ok.r ok hxD)) (fun w h => whole (h.at 1 rfl) (h.at 2 rfl) (.inl rfl))) ?_
      refine WP.val rfl rfl rfl (Val.move rfl rfl) ?_
      refine WP.split 50 rfl (fun h14 => ?_) (fun h14 => ?_)
      · skip
        have h14 : ((S x).r ≠ s) := h14
        refine WP.valG rfl rfl rfl rfl rfl rfl rfl (Val.move rfl rfl) ?_
        refine WP.valG rfl rfl rfl rfl rfl rfl rfl (Val.nilCheck rfl rfl) ?_
        refine WP.valG rfl rfl rfl rfl rfl rfl rfl (Val.fieldAddr (j := 5) rfl Ty.fo177_3 rfl rfl) ?_
        refine WP.valG rfl rfl rfl rfl rfl rfl rfl (Val.load (v := .pointer (some ⟨(S x).r, 0, none⟩)) rfl Ty.sc168 rfl (fun w h => sto_r (h.at 1 rfl) hxD rfl)) ?_
        refine WP.valG rfl rfl rfl rfl rfl rfl rfl (Val.nilCheck rfl rfl) ?_
        refine WP.valG rfl rfl rfl rfl rfl rfl rfl (Val.fieldAddr (j := 3) rfl Ty.fo177_1 rfl rfl) ?_
        refine WP.valG rfl rfl rfl rfl rfl rfl rfl (Val.load (v := .iface ((S ((S x).r)).m).t (((S ((S x).r)).m).u)) rfl Ty.sc170 rfl (fun w h => sto_m (h.at 1 rfl) (Is.mem (Ok.r ok hxD) (by first | assumption | (intro hh; simp_all; done) | (simp_all; done))) rfl)) ?_
        refine WP.valG rfl rfl rfl rfl rfl rfl rfl (Val.move rfl rfl) ?_
        refine WP.effG rfl rfl rfl rfl rfl rfl rfl (Eff.cmp (a := (S ((S x).r)).m) (b := (S x).it.e) rfl rfl rfl (Ok.m ok (Is.mem (Ok.r ok hxD) (by first | assumption | (intro hh; simp_all; done) | (simp_all; done)))) (Ok.e ok hxD) ((hE _ (Ok.m ok (Is.mem (Ok.r ok hxD) (by first | assumption | (intro hh; simp_all; done) | (simp_all; done))))).trans (hE _ (Ok.e ok hxD)).symm)) ?_
        rintro _ _ ⟨rfl, rfl⟩
        refine WP.valG rfl rfl rfl rfl rfl rfl rfl (Val.gtr rfl rfl rfl) ?_
        refine WP.val rfl rfl rfl (Val.pickT rfl rfl rfl) ?_
        refine WP.nil ?_
        refine Out.next ?_
        refine WPc.ifP rfl (fun h15 => ?_) (fun h15 => ?_)
        · skip
          have h15 : ((0 : Int) < (kcmp ((S ((S x).r)).m).k ((S x).it.e).k)) := h15
          refine WPc.region ?_
          refine WP.val rfl rfl rfl (Val.move rfl rfl) ?_
          refine WP.val rfl rfl rfl (Val.nilCheck rfl rfl) ?_
          refine WP.val rfl rfl rfl (Val.fieldAddr (j := 5) rfl Ty.fo177_3 rfl rfl) ?_
          refine WP.val rfl rfl rfl (Val.load (v := .pointer (some ⟨(S x).r, 0, none⟩)) rfl Ty.sc168 rfl (fun w h => sto_r (h.at 1 rfl) hxD rfl)) ?_
          refine WP.val rfl rfl rfl (Val.nilCheck rfl rfl) ?_
          refine WP.val rfl rfl rfl (Val.fieldAddr (j := 3) rfl Ty.fo177_1 rfl rfl) ?_
          refine WP.val rfl rfl rfl (Val.load (v := .iface ((S ((S x).r)).m).t (((S ((S x).r)).m).u)) rfl Ty.sc170 rfl (fun w h => sto_m (h.at 1 rfl) (Is.mem (Ok.r ok hxD) (by first | assumption | (intro hh; simp_all; done) | (simp_all; done))) rfl)) ?_
          refine WP.val rfl rfl rfl (Val.assign rfl rfl) ?_
          refine WP.nil ?_
          refine Out.next ?_
          refine WPc.seq ?_
          refine WPc.seq ?_
          have hp2 : newm s S x = (S ((S x).r)).m := by unfold newm; rw [hp1]; first | exact pick_gt (by assumption) (by assumption) | exact pick_le (by assumption) (by (first | assumption | omega)) | exact pick_s (Decidable.byContradiction (by assumption)) | exact pick_s (by assumption)
          refine WPc.region ?_
          refine WP.val rfl rfl rfl (Val.move rfl rfl) ?_
          refine WP.val rfl rfl rfl (Val.move rfl rfl) ?_
          refine WP.eff rfl rfl rfl (Eff.cmp (a := (S x).m) (b := (S ((S x).r)).m) rfl rfl rfl (Ok.m ok hxD) (Ok.m ok (Is.mem (Ok.r ok hxD) (by first | assumption | (intro hh; simp_all; done) | (simp_all; done)))) ((hE _ (Ok.m ok hxD)).trans (hE _ (Ok.m ok (Is.mem (Ok.r ok hxD) (by first | assumption | (intro hh; simp_all; done) | (simp_all; done))))).symm)) ?_
          rintro _ _ ⟨rfl, rfl⟩
          refine WP.val rfl rfl rfl (Val.eql rfl rfl rfl) ?_
          refine WP.nil ?_
          refine Out.next ?_
          refine WPc.ifP rfl (fun h16 => ?_) (fun h16 => ?_)
          · skip
            have h16 : ((kcmp ((S x).m).k ((S ((S x).r)).m).k) = (0 : Int)) := h16
            refine WPc.exit ?_
            refine Out.then_exit ?_
            refine Out.block_other rfl ?_
            refine Out.then_exit ?_
            refine Out.block_exit ?_
            have hfin : um s n0 S0 x0 = S := by rw [← hum]; exact um_eq hxs hp2 (by assumption)
            exact Out.end0 (L' := [Ens EL, Sto (um s n0 S0 x0) D, Blk s ZC 177]) Try.results133 rfl (fun w h => by rw [hfin]; exact h)
          · skip
            have h16 : ¬ ((kcmp ((S x).m).k ((S ((S x).r)).m).k) = (0 : Int)) := h16
            refine WPc.skip ?_
            refine Out.next ?_
            refine WPc.seq ?_
            refine WPc.region ?_
            refine WP.val rfl rfl rfl (Val.move rfl rfl) ?_
            refine WP.val rfl rfl rfl (Val.move rfl rfl) ?_
            refine WP.val rfl rfl rfl (Val.nilCheck rfl rfl) ?_
            refine WP.val rfl rfl rfl (Val.fieldAddr (j := 3) rfl Ty.fo177_1 rfl rfl) ?_
            refine WP.perm pl1 ?_
            refine WP.eff0 rfl rfl (Eff.storeK (f := fun i => (S i).cells) (f' := fun i => (setM S x ((S ((S x).r)).m) i).cells) rfl Ty.sc170 rfl rfl rfl hxD (show 3 < 8 by decide) (by unfold setM; rw [upd_same]; rfl) (by unfold setM; exact cells_other)) ?_
            rintro _ _ rfl
            show WP _ _ _ _ _ _ _ (Sto (setM S x ((S ((S x).r)).m)) D :: Ens EL :: Blk s ZC 177 :: F)
            obtain ⟨S37, hS37⟩ : ∃ S37, S37 = setM S x ((S ((S x).r)).m) := ⟨_, rfl⟩
            rw [← hS37]
            have okS37 : Ok s EL D S37 := by rw [hS37]; exact (ok.setM (Ok.m ok (Is.mem (Ok.r ok hxD) (by first | assumption | (intro hh; simp_all; done) | (simp_all; done)))))
            have k38 : (S37 x).p = (S x).p := (by rw [hS37]; exact (setM_p _ _ _ _).trans rfl)
            have k39 : (S37 x).l = (S x).l := (by rw [hS37]; exact (setM_l _ _ _ _).trans rfl)
            have k40 : (S37 x).r = (S x).r := (by rw [hS37]; exact (setM_r _ _ _ _).trans rfl)
            have k41 : (S37 x).it.e = (S x).it.e := (by rw [hS37]; exact (congrArg It.e (setM_it _ _ _ _)).trans rfl)
            have k42 : (S37 x).m = (S ((S x).r)).m := by rw [hS37]; exact setM_same _ _ _
            refine WP.nil ?_
            refine Out.next ?_
            refine WPc.region ?_
            refine WP.val rfl rfl rfl (Val.move rfl rfl) ?_
            refine WP.val rfl rfl rfl (Val.nilCheck rfl rfl) ?_
            refine WP.val rfl rfl rfl (Val.fieldAddr (j := 6) rfl Ty.fo177_4 rfl rfl) ?_
            refine WP.val rfl rfl rfl (Val.load (v := .pointer (some ⟨(S x).p, 0, none⟩)) rfl Ty.sc168 rfl (fun w h => sto_p (h.at 0 rfl) hxD k38)) ?_
            refine WP.val rfl rfl rfl (Val.assign rfl rfl) ?_
            refine WP.nil ?_
            refine Out.block ?_
            have hnx : um s n S37 (S x).p = um s n0 S0 x0 := by rw [hS37, ← hum]; exact (um_ne hxs hp2 (by assumption)).symm
            have hd2 : Dep s S37 n (S x).p := by rw [hS37]; exact Dep.congr (fun i => setM_p _ _ _ i) hdp1
            refine Out.perm pl2 ?_
            refine Out.perm pl1 ?_
            refine Out.perm pl2 ?_
            refine Out.again ⟨S37, (S x).p, n⟩ ?_ ?_ ?_ ?_
            · exact ⟨hnx, okS37, (Ok.p ok hxD), hd2⟩
            · show n < n + 1; omega
            · exact (Sub.cons rfl (Sub.cons rfl Sub.nil))
            · exact (fun _ h => h)
        · skip
          have h15 : ¬ ((0 : Int) < (kcmp ((S ((S x).r)).m).k ((S x).it.e).k)) := h15
          refine WPc.skip ?_
          refine Out.next ?_
          refine WPc.seq ?_
          refine WPc.seq ?_
          have hp2 : newm s S x = (S x).it.e := by unfold newm; rw [hp1]; first | exact pick_gt (by assumption) (by assumption) | exact pick_le (by assumption) (by (first | assumption | omega)) | exact pick_s (Decidable.byContradiction (by assumption)) | exact pick_s (by assumption)
          refine WPc.region ?_
          refine WP.val rfl rfl rfl (Val.move rfl rfl) ?_
          refine WP.val rfl rfl rfl (Val.move rfl rfl) ?_
          refine WP.eff rfl rfl rfl (Eff.cmp (a := (S x).m) (b := (S x).it.e) rfl rfl rfl (Ok.m ok hxD) (Ok.e ok hxD) ((hE _ (Ok.m ok hxD)).trans (hE _ (Ok.e ok hxD)).symm)) ?_
          rintro _ _ ⟨rfl, rfl⟩
          refine WP.val rfl rfl rfl (Val.eql rfl rfl rfl) ?_
          refine WP.nil ?_
          refine Out.next ?_
          refine WPc.ifP rfl (fun h17 => ?_) (fun h17 => ?_)
          · skip
            have h17 : ((kcmp ((S x).m).k ((S x).it.e).k) = (0 : Int)) := h17
            refine WPc.exit ?_
            refine Out.then_exit ?_
            refine Out.block_other rfl ?_
            refine Out.then_exit ?_
            refine Out.block_exit ?_
            have hfin : um s n0 S0 x0 = S := by rw [← hum]; exact um_eq hxs hp2 (by assumption)
            exact Out.end0 (L' := [Ens EL, Sto (um s n0 S0 x0) D, Blk s ZC 177]) Try.results133 rfl (fun w h => by rw [hfin]; exact h)
          · skip
            have h17 : ¬ ((kcmp ((S x).m).k ((S x).it.e).k) = (0 : Int)) := h17
            refine WPc.skip ?_
            refine Out.next ?_
            refine WPc.seq ?_
            refine WPc.region ?_
            refine WP.val rfl rfl rfl (Val.move rfl rfl) ?_
            refine WP.val rfl rfl rfl (Val.move rfl rfl) ?_
            refine WP.val rfl rfl rfl (Val.nilCheck rfl rfl) ?_
            refine WP.val rfl rfl rfl (Val.fieldAddr (j := 3) rfl Ty.fo177_1 rfl rfl) ?_
            refine WP.perm pl1 ?_
            refine WP.eff0 rfl rfl (Eff.storeK (f := fun i => (S i).cells) (f' := fun i => (setM S x ((S x).it.e) i).cells) rfl Ty.sc170 rfl rfl rfl hxD (show 3 < 8 by decide) (by unfold setM; rw [upd_same]; rfl) (by unfold setM; exact cells_other)) ?_
            rintro _ _ rfl
            show WP _ _ _ _ _ _ _ (Sto (setM S x ((S x).it.e)) D :: Ens EL :: Blk s ZC 177 :: F)
            obtain ⟨S43, hS43⟩ : ∃ S43, S43 = setM S x ((S x).it.e) := ⟨_, rfl⟩
            rw [← hS43]
            have okS43 : Ok s EL D S43 := by rw [hS43]; exact (ok.setM (Ok.e ok hxD))
            have k44 : (S43 x).p = (S x).p := (by rw [hS43]; exact (setM_p _ _ _ _).trans rfl)
            have k45 : (S43 x).l = (S x).l := (by rw [hS43]; exact (setM_l _ _ _ _).trans rfl)
            have k46 : (S43 x).r = (S x).r := (by rw [hS43]; exact (setM_r _ _ _ _).trans rfl)
            have k47 : (S43 x).it.e = (S x).it.e := (by rw [hS43]; exact (congrArg It.e (setM_it _ _ _ _)).trans rfl)
            have k48 : (S43 x).m = (S x).it.e := by rw [hS43]; exact setM_same _ _ _
            refine WP.nil ?_
            refine Out.next ?_
            refine WPc.region ?_
            refine WP.val rfl rfl rfl (Val.move rfl rfl) ?_
            refine WP.val rfl rfl rfl (Val.nilCheck rfl rfl) ?_
            refine WP.val rfl rfl rfl (Val.fieldAddr (j := 6) rfl Ty.fo177_4 rfl rfl) ?_
            refine WP.val rfl rfl rfl (Val.load (v := .pointer (some ⟨(S x).p, 0, none⟩)) rfl Ty.sc168 rfl (fun w h => sto_p (h.at 0 rfl) hxD k44)) ?_
            refine WP.val rfl rfl rfl (Val.assign rfl rfl) ?_
            refine WP.nil ?_
            refine Out.block ?_
            have hnx : um s n S43 (S x).p = um s n0 S0 x0 := by rw [hS43, ← hum]; exact (um_ne hxs hp2 (by assumption)).symm
            have hd2 : Dep s S43 n (S x).p := by rw [hS43]; exact Dep.congr (fun i => setM_p _ _ _ i) hdp1
            refine Out.perm pl2 ?_
            refine Out.perm pl1 ?_
            refine Out.perm pl2 ?_
            refine Out.again ⟨S43, (S x).p, n⟩ ?_ ?_ ?_ ?_
            · exact ⟨hnx, okS43, (Ok.p ok hxD), hd2⟩
            · show n < n + 1; omega
            · exact (Sub.cons rfl (Sub.cons rfl Sub.nil))
            · exact (fun _ h => h)
      · skip
        have h14 : ¬ ((S x).r ≠ s) := h14
        refine WP.skip rfl rfl rfl rfl rfl rfl rfl ?_
        refine WP.skip rfl rfl rfl rfl rfl rfl rfl ?_
        refine WP.skip rfl rfl rfl rfl rfl rfl rfl ?_
        refine WP.skip rfl rfl rfl rfl rfl rfl rfl ?_
        refine WP.skip rfl rfl rfl rfl rfl rfl rfl ?_
        refine WP.skip rfl rfl rfl rfl rfl rfl rfl ?_
        refine WP.skip rfl rfl rfl rfl rfl rfl rfl ?_
        refine WP.skip rfl rfl rfl rfl rfl rfl rfl ?_
        refine WP.skip rfl rfl rfl rfl rfl rfl rfl ?_
        refine WP.skip rfl rfl rfl rfl rfl rfl rfl ?_
        refine WP.val rfl rfl rfl (Val.pickF rfl rfl rfl) ?_
        refine WP.nil ?_
        refine Out.next ?_
        refine WPc.condF rfl rfl ?_
        refine WPc.skip ?_
        refine Out.next ?_
        refine WPc.seq ?_
        refine WPc.seq ?_
        have hp2 : newm s S x = (S x).it.e := by unfold newm; rw [hp1]; first | exact pick_gt (by assumption) (by assumption) | exact pick_le (by assumption) (by (first | assumption | omega)) | exact pick_s (Decidable.byContradiction (by assumption)) | exact pick_s (by assumption)
        refine WPc.region ?_
        refine WP.val rfl rfl rfl (Val.move rfl rfl) ?_
        refine WP.val rfl rfl rfl (Val.move rfl rfl) ?_
        refine WP.eff rfl rfl rfl (Eff.cmp (a := (S x).m) (b := (S x).it.e) rfl rfl rfl (Ok.m ok hxD) (Ok.e ok hxD) ((hE _ (Ok.m ok hxD)).trans (hE _ (Ok.e ok hxD)).symm)) ?_
        rintro _ _ ⟨rfl, rfl⟩
        refine WP.val rfl rfl rfl (Val.eql rfl rfl rfl) ?_
        refine WP.nil ?_
        refine Out.next ?_
        refine WPc.ifP rfl (fun h18 => ?_) (fun h18 => ?_)
        · skip
          have h18 : ((kcmp ((S x).m).k ((S x).it.e).k) = (0 : Int)) := h18
          refine WPc.exit ?_
          refine Out.then_exit ?_
          refine Out.block_other rfl ?_
          refine Out.then_exit ?_
          refine Out.block_exit ?_
          have hfin : um s n0 S0 x0 = S := by rw [← hum]; exact um_eq hxs hp2 (by assumption)
          exact Out.end0 (L' := [Ens EL, Sto (um s n0 S0 x0) D, Blk s ZC 177]) Try.results133 rfl (fun w h => by rw [hfin]; exact h)
        · skip
          have h18 : ¬ ((kcmp ((S x).m).k ((S x).it.e).k) = (0 : Int)) := h18
          refine WPc.skip ?_
          refine Out.next ?_
          refine WPc.seq ?_
          refine WPc.region ?_
          refine WP.val rfl rfl rfl (Val.move rfl rfl) ?_
          refine WP.val rfl rfl rfl (Val.move rfl rfl) ?_
          refine WP.val rfl rfl rfl (Val.nilCheck rfl rfl) ?_
          refine WP.val rfl rfl rfl (Val.fieldAddr (j := 3) rfl Ty.fo177_1 rfl rfl) ?_
          refine WP.perm pl1 ?_
          refine WP.eff0 rfl rfl (Eff.storeK (f := fun i => (S i).cells) (f' := fun i => (setM S x ((S x).it.e) i).cells) rfl Ty.sc170 rfl rfl rfl hxD (show 3 < 8 by decide) (by unfold setM; rw [upd_same]; rfl) (by unfold setM; exact cells_other)) ?_
          rintro _ _ rfl
          show WP _ _ _ _ _ _ _ (Sto (setM S x ((S x).it.e)) D :: Ens EL :: Blk s ZC 177 :: F)
          obtain ⟨S49, hS49⟩ : ∃ S49, S49 = setM S x ((S x).it.e) := ⟨_, rfl⟩
          rw [← hS49]
          have okS49 : Ok s EL D S49 := by rw [hS49]; exact (ok.setM (Ok.e ok hxD))
          have k50 : (S49 x).p = (S x).p := (by rw [hS49]; exact (setM_p _ _ _ _).trans rfl)
          have k51 : (S49 x).l = (S x).l := (by rw [hS49]; exact (setM_l _ _ _ _).trans rfl)
          have k52 : (S49 x).r = (S x).r := (by rw [hS49]; exact (setM_r _ _ _ _).trans rfl)
          have k53 : (S49 x).it.e = (S x).it.e := (by rw [hS49]; exact (congrArg It.e (setM_it _ _ _ _)).trans rfl)
          have k54 : (S49 x).m = (S x).it.e := by rw [hS49]; exact setM_same _ _ _
          refine WP.nil ?_
          refine Out.next ?_
          refine WPc.region ?_
          refine WP.val rfl rfl rfl (Val.move rfl rfl) ?_
          refine WP.val rfl rfl rfl (Val.nilCheck rfl rfl) ?_
          refine WP.val rfl rfl rfl (Val.fieldAddr (j := 6) rfl Ty.fo177_4 rfl rfl) ?_
          refine WP.val rfl rfl rfl (Val.load (v := .pointer (some ⟨(S x).p, 0, none⟩)) rfl Ty.sc168 rfl (fun w h => sto_p (h.at 0 rfl) hxD k50)) ?_
          refine WP.val rfl rfl rfl (Val.assign rfl rfl) ?_
          refine WP.nil ?_
          refine Out.block ?_
          have hnx : um s n S49 (S x).p = um s n0 S0 x0 := by rw [hS49, ← hum]; exact (um_ne hxs hp2 (by assumption)).symm
          have hd2 : Dep s S49 n (S x).p := by rw [hS49]; exact Dep.congr (fun i => setM_p _ _ _ i) hdp1
          refine Out.perm pl2 ?_
          refine Out.perm pl1 ?_
          refine Out.perm pl2 ?_
          refine Out.again ⟨S49, (S x).p, n⟩ ?_ ?_ ?_ ?_
          · exact ⟨hnx, okS49, (Ok.p ok hxD), hd2⟩
          · show n < n + 1; omega
          · exact (Sub.cons rfl (Sub.cons rfl Sub.nil))
          · exact (fun _ h => h)
  · skip
    have h1 : ¬ (x ≠ s) := h1
    refine WPc.exit ?_
    refine Out.then_exit ?_
    refine Out.then_exit ?_
    refine Out.block_exit ?_
    have hxs : x = s := Decidable.byContradiction (by assumption)
    have hfin : um s n0 S0 x0 = S := by rw [← hum, hxs]; exact um_s s n S
    exact Out.end0 (L' := [Ens EL, Sto (um s n0 S0 x0) D, Blk s ZC 177]) Try.results133 rfl (fun w h => by rw [hfin]; exact h)

end Go.Proofs.Ytbomnihiapjmpaa.Te

namespace Go.Proofs.Ytbomnihiapjmpaa.Tf
open Go.RowKit Go.Proofs.Ytbomnihiapjmpaa Go.Proofs.Ytbomnihiapjmpaa.Sl Go.Proofs.Ytbomnihiapjmpaa.TrP Go.Proofs.Ytbomnihiapjmpaa.Tc Go.Proofs.Ytbomnihiapjmpaa.Td Go.Proofs.Ytbomnihiapjmpaa.Te
set_option linter.unusedVariables false
set_option linter.unusedSimpArgs false
set_option linter.unusedSectionVars false

set_option maxRecDepth 100000 in
set_option maxHeartbeats 2000000 in
theorem rp_does (EL : List En) (t0 : TypeId) (hE : ∀ e ∈ EL, e.t = t0) (s : Nat) (D : List Nat) (ZC : List Value) (tb root : Nat) (cnt : Int) (S : St) (ok : Ok s EL D S) (hroot : Is s D root) (x y n : Nat) (hx : x ∈ D) (hy : y ∈ D) (hxy : x ≠ y) (hdep : (S x).p ≠ s → Dep s (setP S y (S x).p) n (S x).p) : Does Try.prog 164 [.pointer (some ⟨tb, 0, none⟩), .pointer (some ⟨x, 0, none⟩), .pointer (some ⟨y, 0, none⟩)] [Blk tb [.pointer (some ⟨root, 0, none⟩), .int .i64 (cnt), .pointer (some ⟨s, 0, none⟩)] 180, Ens EL, Sto S D, Blk s ZC 177] (fun _ L => L = [Blk tb [.pointer (some ⟨(rp s n S root x y).2, 0, none⟩), .int .i64 cnt, .pointer (some ⟨s, 0, none⟩)] 180, Ens EL, Sto (rp s n S root x y).1 D, Blk s ZC 177]) := by
  refine Does.enter 62 Try.func164 rfl rfl rfl fun W F => ?_
  show WPc _ _ _ _ _ [(0, .pointer (some ⟨tb, 0, none⟩)), (1, .pointer (some ⟨x, 0, none⟩)), (2, .pointer (some ⟨y, 0, none⟩))] (Blk tb [.pointer (some ⟨root, 0, none⟩), .int .i64 (cnt), .pointer (some ⟨s, 0, none⟩)] 180 :: Ens EL :: Sto S D :: Blk s ZC 177 :: F)
  refine WPc.seq ?_
  refine WPc.region ?_
  refine WP.val rfl rfl rfl (Val.move rfl rfl) ?_
  refine WP.val rfl rfl rfl (Val.move rfl rfl) ?_
  refine WP.val rfl rfl rfl (Val.nilCheck rfl rfl) ?_
  refine WP.val rfl rfl rfl (Val.fieldAddr (j := 6) rfl Ty.fo177_4 rfl rfl) ?_
  refine WP.val rfl rfl rfl (Val.load (v := .pointer (some ⟨(S x).p, 0, none⟩)) rfl Ty.sc168 rfl (fun w h => sto_p (h.at 2 rfl) hx rfl)) ?_
  refine WP.val rfl rfl rfl (Val.nilCheck rfl rfl) ?_
  refine WP.val rfl rfl rfl (Val.fieldAddr (j := 6) rfl Ty.fo177_4 rfl rfl) ?_
  refine WP.perm pl2 ?_
  refine WP.eff0 rfl rfl (Eff.storeK (f := fun i => (S i).cells) (f' := fun i => (setP S y ((S x).p) i).cells) rfl Ty.sc168 rfl rfl rfl hy (show 6 < 8 by decide) (by unfold setP; rw [upd_same]; rfl) (by unfold setP; exact cells_other)) ?_
  rintro _ _ rfl
  show WP _ _ _ _ _ _ _ (Sto (setP S y ((S x).p)) D :: Blk tb [.pointer (some ⟨root, 0, none⟩), .int .i64 (cnt), .pointer (some ⟨s, 0, none⟩)] 180 :: Ens EL :: Blk s ZC 177 :: F)
  obtain ⟨S1, hS1⟩ : ∃ S1, S1 = setP S y ((S x).p) := ⟨_, rfl⟩
  rw [← hS1]
  have okS1 : Ok s EL D S1 := by rw [hS1]; exact (ok.setP (Ok.p ok hx))
  have k2 : (S1 x).p = (S x).p := (by rw [hS1]; exact (congrArg NR.p (setP_oth _ _ hxy)).trans rfl)
  have k3 : (S1 y).p = (S x).p := by rw [hS1]; exact setP_same _ _ _
  refine WP.nil ?_
  refine Out.next ?_
  refine WPc.seq ?_
  refine WPc.seq ?_
  refine WPD.start (Sat W (Sto S1 D :: Blk tb [.pointer (some ⟨root, 0, none⟩), .int .i64 (cnt), .pointer (some ⟨s, 0, none⟩)] 180 :: Ens EL :: Blk s ZC 177 :: F)) Ty.mixed ?_
  refine WPD.takeM 0 rfl rfl rfl rfl (by kernel_rfl) (by kernel_rfl) (by kernel_rfl) (by kernel_rfl) (fun _ _ _ h => h) (fun _ h => h) (Val.move rfl rfl) ?_
  refine WPD.takeM 1 rfl rfl rfl rfl (by kernel_rfl) (by kernel_rfl) (by kernel_rfl) (by kernel_rfl) (fun _ _ _ h => h) (fun _ h => h) (Val.nilCheck rfl rfl) ?_
  refine WPD.takeM 2 rfl rfl rfl rfl (by kernel_rfl) (by kernel_rfl) (by kernel_rfl) (by kernel_rfl) (fun _ _ _ h => h) (fun _ h => h) (Val.fieldAddr (j := 6) rfl Ty.fo177_4 rfl rfl) ?_
  refine WPD.take 3 rfl rfl rfl rfl (by kernel_rfl) (by kernel_rfl) (by kernel_rfl) (by kernel_rfl) (fun _ _ _ h => h) (by kernel_rfl) (fun _ h => h) (Val.load (v := .pointer (some ⟨(S x).p, 0, none⟩)) rfl Ty.sc168 rfl (fun w h => sto_p (h.at 0 rfl) hx k2)) ?_
  refine WPD.takeM 4 rfl rfl rfl rfl (by kernel_rfl) (by kernel_rfl) (by kernel_rfl) (by kernel_rfl) (fun _ _ _ h => h) (fun _ h => h) (Val.move rfl rfl) ?_
  refine WPD.takeM 5 rfl rfl rfl rfl (by kernel_rfl) (by kernel_rfl) (by kernel_rfl) (by kernel_rfl) (fun _ _ _ h => h) (fun _ h => h) (Val.nilCheck rfl rfl) ?_
  refine WPD.takeM 6 rfl rfl rfl rfl (by kernel_rfl) (by kernel_rfl) (by kernel_rfl) (by kernel_rfl) (fun _ _ _ h => h) (fun _ h => h) (Val.fieldAddr (j := 2) rfl Ty.fo180_2 rfl rfl) ?_
  refine WPD.take 7 rfl rfl rfl rfl (by kernel_rfl) (by kernel_rfl) (by kernel_rfl) (by kernel_rfl) (fun _ _ _ h => h) (by kernel_rfl) (fun _ h => h) (Val.load rfl Ty.sc168 rfl (fun w h => h.cell 1 rfl rfl)) ?_
  refine WPD.take 8 rfl rfl rfl rfl (by kernel_rfl) (by kernel_rfl) (by kernel_rfl) (by kernel_rfl) (fun _ _ _ h => h) (by kernel_rfl) (fun _ h => h) (Val.eqP (T1 := 177) (T2 := 177) rfl pn168 rfl rfl rfl rfl (fun w h => whole (h.at 0 rfl) (h.at 3 rfl) (Ok.p ok hx)) (fun w h => whole (h.at 0 rfl) (h.at 3 rfl) (.inl rfl))) ?_
  refine WPD.done (by kernel_rfl) ?_
  refine Out.next ?_
  refine WPc.ifP rfl (fun h1 => ?_) (fun h1 => ?_)
  · skip
    have h1 : ((S x).p = s) := h1
    refine WPc.region ?_
    refine WP.val rfl rfl rfl (Val.move rfl rfl) ?_
    refine WP.val rfl rfl rfl (Val.move rfl rfl) ?_
    refine WP.val rfl rfl rfl (Val.nilCheck rfl rfl) ?_
    refine WP.val rfl rfl rfl (Val.fieldAddr (j := 0) rfl Ty.fo180_0 rfl rfl) ?_
    refine WP.perm pl1 ?_
    refine WP.eff0 rfl rfl (Eff.store rfl Ty.sc168 rfl rfl rfl (by simp) st0) ?_
    rintro _ _ rfl
    refine WP.nil ?_
    refine Out.next ?_
    refine WPc.region ?_
    refine WP.val rfl rfl rfl (Val.move rfl rfl) ?_
    refine WP.val rfl rfl rfl (Val.move rfl rfl) ?_
    refine WP.val rfl rfl rfl (Val.nilCheck rfl rfl) ?_
    refine WP.val rfl rfl rfl (Val.fieldAddr (j := 6) rfl Ty.fo177_4 rfl rfl) ?_
    refine WP.perm pl1 ?_
    refine WP.eff0 rfl rfl (Eff.storeK (f := fun i => (S1 i).cells) (f' := fun i => (setP S1 x y i).cells) rfl Ty.sc168 rfl rfl rfl hx (show 6 < 8 by decide) (by unfold setP; rw [upd_same]; rfl) (by unfold setP; exact cells_other)) ?_
    rintro _ _ rfl
    show WP _ _ _ _ _ _ _ (Sto (setP S1 x y) D :: Blk tb [.pointer (some ⟨y, 0, none⟩), .int .i64 (cnt), .pointer (some ⟨s, 0, none⟩)] 180 :: Ens EL :: Blk s ZC 177 :: F)
    obtain ⟨S4, hS4⟩ : ∃ S4, S4 = setP S1 x y := ⟨_, rfl⟩
    rw [← hS4]
    have okS4 : Ok s EL D S4 := by rw [hS4]; exact (okS1.setP (.inr hy))
    have k5 : (S4 x).p = y := by rw [hS4]; exact setP_same _ _ _
    refine WP.nil ?_
    have hfin := (rp_top (by assumption) : rp s n S root x y = _)
    refine Out.perm pl3 ?_
    refine Out.perm pl1 ?_
    refine Out.perm pl3 ?_
    refine Out.perm pl3 ?_
    exact Out.end0 (L' := _) Try.results164 rfl (fun w h => by rw [hfin]; subst hS4 hS1; exact h)
  · skip
    have h1 : ¬ ((S x).p = s) := h1
    refine WPc.seq ?_
    refine WPc.seq ?_
    have hq : (S x).p ≠ s := by assumption
    have hqD : (S x).p ∈ D := Is.mem (Ok.p ok hx) hq
    have kq : (S1 (S x).p).l = (S (S x).p).l := by rw [hS1]; exact setP_l _ _ _ _
    refine WPc.region ?_
    refine WP.val rfl rfl rfl (Val.move rfl rfl) ?_
    refine WP.val rfl rfl rfl (Val.move rfl rfl) ?_
    refine WP.val rfl rfl rfl (Val.nilCheck rfl rfl) ?_
    refine WP.val rfl rfl rfl (Val.fieldAddr (j := 6) rfl Ty.fo177_4 rfl rfl) ?_
    refine WP.val rfl rfl rfl (Val.load (v := .pointer (some ⟨(S x).p, 0, none⟩)) rfl Ty.sc168 rfl (fun w h => sto_p (h.at 0 rfl) hx k2)) ?_
    refine WP.val rfl rfl rfl (Val.nilCheck rfl rfl) ?_
    refine WP.val rfl rfl rfl (Val.fieldAddr (j := 4) rfl Ty.fo177_2 rfl rfl) ?_
    refine WP.val rfl rfl rfl (Val.load (v := .pointer (some ⟨(S (S x).p).l, 0, none⟩)) rfl Ty.sc168 rfl (fun w h => sto_l (h.at 0 rfl) hqD kq)) ?_
    refine WP.val rfl rfl rfl (Val.eqP (T1 := 177) (T2 := 177) rfl pn168 rfl rfl rfl rfl (fun w h => whole (h.at 0 rfl) (h.at 3 rfl) (.inr hx)) (fun w h => whole (h.at 0 rfl) (h.at 3 rfl) (ok.l hqD))) ?_
    refine WP.nil ?_
    refine Out.next ?_
    refine WPc.ifP rfl (fun h2 => ?_) (fun h2 => ?_)
    · skip
      have h2 : (x = (S (S x).p).l) := h2
      refine WPc.region ?_
      refine WP.val rfl rfl rfl (Val.move rfl rfl) ?_
      refine WP.val rfl rfl rfl (Val.nilCheck rfl rfl) ?_
      refine WP.val rfl rfl rfl (Val.fieldAddr (j := 6) rfl Ty.fo177_4 rfl rfl) ?_
      refine WP.val rfl rfl rfl (Val.load (v := .pointer (some ⟨(S x).p, 0, none⟩)) rfl Ty.sc168 rfl (fun w h => sto_p (h.at 0 rfl) hx k2)) ?_
      refine WP.val rfl rfl rfl (Val.move rfl rfl) ?_
      refine WP.val rfl rfl rfl (Val.nilCheck rfl rfl) ?_
      refine WP.val rfl rfl rfl (Val.fieldAddr (j := 4) rfl Ty.fo177_2 rfl rfl) ?_
      refine WP.eff0 rfl rfl (Eff.storeK (f := fun i => (S1 i).cells) (f' := fun i => (setL S1 ((S x).p) y i).cells) rfl Ty.sc168 rfl rfl rfl hqD (show 4 < 8 by decide) (by unfold setL; rw [upd_same]; rfl) (by unfold setL; exact cells_other)) ?_
      rintro _ _ rfl
      show WP _ _ _ _ _ _ _ (Sto (setL S1 ((S x).p) y) D :: Blk tb [.pointer (some ⟨root, 0, none⟩), .int .i64 (cnt), .pointer (some ⟨s, 0, none⟩)] 180 :: Ens EL :: Blk s ZC 177 :: F)
      obtain ⟨S6, hS6⟩ : ∃ S6, S6 = setL S1 ((S x).p) y := ⟨_, rfl⟩
      rw [← hS6]
      have okS6 : Ok s EL D S6 := by rw [hS6]; exact (okS1.setL (.inr hy))
      have k7 : (S6 x).p = (S x).p := (by rw [hS6]; exact (setL_p _ _ _ _).trans k2)
      have k8 : (S6 y).p = (S x).p := (by rw [hS6]; exact (setL_p _ _ _ _).trans k3)
      have k9 : (S6 ((S x).p)).l = y := by rw [hS6]; exact setL_same _ _ _
      refine WP.nil ?_
      refine Out.next ?_
      refine WPD.start (Sat W (Sto S6 D :: Blk tb [.pointer (some ⟨root, 0, none⟩), .int .i64 (cnt), .pointer (some ⟨s, 0, none⟩)] 180 :: Ens EL :: Blk s ZC 177 :: F)) Ty.mixed ?_
      refine WPD.takeM 0 rfl rfl rfl rfl (by kernel_rfl) (by kernel_rfl) (by kernel_rfl) (by kernel_rfl) (fun _ _ _ h => h) (fun _ h => h) (Val.move rfl rfl) ?_
      refine WPD.takeM 1 rfl rfl rfl rfl (by kernel_rfl) (by kernel_rfl) (by kernel_rfl) (by kernel_rfl) (fun _ _ _ h => h) (fun _ h => h) (Val.nilCheck rfl rfl) ?_
      refine WPD.takeM 2 rfl rfl rfl rfl (by kernel_rfl) (by kernel_rfl) (by kernel_rfl) (by kernel_rfl) (fun _ _ _ h => h) (fun _ h => h) (Val.fieldAddr (j := 6) rfl Ty.fo177_4 rfl rfl) ?_
      refine WPD.take 3 rfl rfl rfl rfl (by kernel_rfl) (by kernel_rfl) (by kernel_rfl) (by kernel_rfl) (fun _ _ _ h => h) (by kernel_rfl) (fun _ h => h) (Val.load (v := .pointer (some ⟨(S x).p, 0, none⟩)) rfl Ty.sc168 rfl (fun w h => sto_p (h.at 0 rfl) hx k7)) ?_
      refine WPD.takeM 4 rfl rfl rfl rfl (by kernel_rfl) (by kernel_rfl) (by kernel_rfl) (by kernel_rfl) (fun _ _ _ h => h) (fun _ h => h) (Val.move rfl rfl) ?_
      refine WPD.takeM 5 rfl rfl rfl rfl (by kernel_rfl) (by kernel_rfl) (by kernel_rfl) (by kernel_rfl) (fun _ _ _ h => h) (fun _ h => h) (Val.nilCheck rfl rfl) ?_
      refine WPD.takeM 6 rfl rfl rfl rfl (by kernel_rfl) (by kernel_rfl) (by kernel_rfl) (by kernel_rfl) (fun _ _ _ h => h) (fun _ h => h) (Val.fieldAddr (j := 2) rfl Ty.fo180_2 rfl rfl) ?_
      refine WPD.take 7 rfl rfl rfl rfl (by kernel_rfl) (by kernel_rfl) (by kernel_rfl) (by kernel_rfl) (fun _ _ _ h => h) (by kernel_rfl) (fun _ h => h) (Val.load rfl Ty.sc168 rfl (fun w h => h.cell 1 rfl rfl)) ?_
      refine WPD.perm pl3 ?_
      refine WPD.perm pl1 ?_
      refine WPD.perm pl3 ?_
      refine WPD.stepC 8 (by kernel_rfl) rfl rfl rfl rfl (by kernel_rfl) (Eff.call rfl rfl Try.call133 (um_does EL t0 hE s D ZC S6 okS6 ((S x).p) n (Ok.p ok hx) (Dep.congr (S := setP S y (S x).p) (fun i => by rw [hS6, hS1]; exact setL_p _ _ _ _) (hdep hq)))) ?_
      rintro _ _ ⟨_, rfl, rfl⟩
      refine ⟨(Sat W (Ens EL :: Sto (um s n S6 ((S x).p)) D :: Blk s ZC 177 :: Blk tb [.pointer (some ⟨root, 0, none⟩), .int .i64 (cnt), .pointer (some ⟨s, 0, none⟩)] 180 :: F)), (fun _ h => h), ?_⟩
      show WPD _ _ _ _ _ _ _ _ _ (Ens EL :: Sto (um s n S6 ((S x).p)) D :: Blk s ZC 177 :: Blk tb [.pointer (some ⟨root, 0, none⟩), .int .i64 (cnt), .pointer (some ⟨s, 0, none⟩)] 180 :: F)
      obtain ⟨S10, hS10⟩ : ∃ S10, S10 = um s n S6 ((S x).p) := ⟨_, rfl⟩
      rw [← hS10]
      have okS10 : Ok s EL D S10 := by rw [hS10]; exact (um_ok _ _ _ okS6 (Ok.p ok hx))
      have k11 : (S10 x).p = (S x).p := (by rw [hS10]; exact (OnlyM.p (um_only _ _ _ _) _).trans k7)
      have k12 : (S10 y).p = (S x).p := (by rw [hS10]; exact (OnlyM.p (um_only _ _ _ _) _).trans k8)
      have k13 : (S10 ((S x).p)).l = y := (by rw [hS10]; exact (OnlyM.l (um_only _ _ _ _) _).trans k9)
      refine WPD.done (by kernel_rfl) ?_
      refine Out.next ?_
      refine WPc.region ?_
      refine WP.val rfl rfl rfl (Val.move rfl rfl) ?_
      refine WP.val rfl rfl rfl (Val.move rfl rfl) ?_
      refine WP.val rfl rfl rfl (Val.nilCheck rfl rfl) ?_
      refine WP.val rfl rfl rfl (Val.fieldAddr (j := 6) rfl Ty.fo177_4 rfl rfl) ?_
      refine WP.perm pl1 ?_
      refine WP.eff0 rfl rfl (Eff.storeK (f := fun i => (S10 i).cells) (f' := fun i => (setP S10 x y i).cells) rfl Ty.sc168 rfl rfl rfl hx (show 6 < 8 by decide) (by unfold setP; rw [upd_same]; rfl) (by unfold setP; exact cells_other)) ?_
      rintro _ _ rfl
      show WP _ _ _ _ _ _ _ (Sto (setP S10 x y) D :: Ens EL :: Blk s ZC 177 :: Blk tb [.pointer (some ⟨root, 0, none⟩), .int .i64 (cnt), .pointer (some ⟨s, 0, none⟩)] 180 :: F)
      obtain ⟨S14, hS14⟩ : ∃ S14, S14 = setP S10 x y := ⟨_, rfl⟩
      rw [← hS14]
      have okS14 : Ok s EL D S14 := by rw [hS14]; exact (okS10.setP (.inr hy))
      have k15 : (S14 ((S x).p)).l = y := (by rw [hS14]; exact (setP_l _ _ _ _).trans k13)
      have k16 : (S14 x).p = y := by rw [hS14]; exact setP_same _ _ _
      refine WP.nil ?_
      have hfin := (rp_left hq (by assumption) : rp s n S root x y = _)
      refine Out.perm pl2 ?_
      refine Out.perm pl1 ?_
      refine Out.perm pl2 ?_
      refine Out.perm pl3 ?_
      exact Out.end0 (L' := _) Try.results164 rfl (fun w h => by rw [hfin]; subst hS14 hS10 hS6 hS1; exact h)
    · skip
      have h2 : ¬ (x = (S (S x).p).l) := h2
      refine WPc.region ?_
      refine WP.val rfl rfl rfl (Val.move rfl rfl) ?_
      refine WP.val rfl rfl rfl (Val.nilCheck rfl rfl) ?_
      refine WP.val rfl rfl rfl (Val.fieldAddr (j := 6) rfl Ty.fo177_4 rfl rfl) ?_
      refine WP.val rfl rfl rfl (Val.load (v := .pointer (some ⟨(S x).p, 0, none⟩)) rfl Ty.sc168 rfl (fun w h => sto_p (h.at 0 rfl) hx k2)) ?_
      refine WP.val rfl rfl rfl (Val.move rfl rfl) ?_
      refine WP.val rfl rfl rfl (Val.nilCheck rfl rfl) ?_
      refine WP.val rfl rfl rfl (Val.fieldAddr (j := 5) rfl Ty.fo177_3 rfl rfl) ?_
      refine WP.eff0 rfl rfl (Eff.storeK (f := fun i => (S1 i).cells) (f' := fun i => (setR S1 ((S x).p) y i).cells) rfl Ty.sc168 rfl rfl rfl hqD (show 5 < 8 by decide) (by unfold setR; rw [upd_same]; rfl) (by unfold setR; exact cells_other)) ?_
      rintro _ _ rfl
      show WP _ _ _ _ _ _ _ (Sto (setR S1 ((S x).p) y) D :: Blk tb [.pointer (some ⟨root, 0, none⟩), .int .i64 (cnt), .pointer (some ⟨s, 0, none⟩)] 180 :: Ens EL :: Blk s ZC 177 :: F)
      obtain ⟨S17, hS17⟩ : ∃ S17, S17 = setR S1 ((S x).p) y := ⟨_, rfl⟩
      rw [← hS17]
      have okS17 : Ok s EL D S17 := by rw [hS17]; exact (okS1.setR (.inr hy))
      have k18 : (S17 x).p = (S x).p := (by rw [hS17]; exact (setR_p _ _ _ _).trans k2)
      have k19 : (S17 y).p = (S x).p := (by rw [hS17]; exact (setR_p _ _ _ _).trans k3)
      have k20 : (S17 ((S x).p)).l = (S (S x).p).l := (by rw [hS17]; exact (setR_l _ _ _ _).trans kq)
      have k21 : (S17 ((S x).p)).r = y := by rw [hS17]; exact setR_same _ _ _
      refine WP.nil ?_
      refine Out.next ?_
      refine WPD.start (Sat W (Sto S17 D :: Blk tb [.pointer (some ⟨root, 0, none⟩), .int .i64 (cnt), .pointer (some ⟨s, 0, none⟩)] 180 :: Ens EL :: Blk s ZC 177 :: F)) Ty.mixed ?_
      refine WPD.takeM 0 rfl rfl rfl rfl (by kernel_rfl) (by kernel_rfl) (by kernel_rfl) (by kernel_rfl) (fun _ _ _ h => h) (fun _ h => h) (Val.move rfl rfl) ?_
      refine WPD.takeM 1 rfl rfl rfl rfl (by kernel_rfl) (by kernel_rfl) (by kernel_rfl) (by kernel_rfl) (fun _ _ _ h => h) (fun _ h => h) (Val.nilCheck rfl rfl) ?_
      refine WPD.takeM 2 rfl rfl rfl rfl (by kernel_rfl) (by kernel_rfl) (by kernel_rfl) (by kernel_rfl) (fun _ _ _ h => h) (fun _ h => h) (Val.fieldAddr (j := 6) rfl Ty.fo177_4 rfl rfl) ?_
      refine WPD.take 3 rfl rfl rfl rfl (by kernel_rfl) (by kernel_rfl) (by kernel_rfl) (by kernel_rfl) (fun _ _ _ h => h) (by kernel_rfl) (fun _ h => h) (Val.load (v := .pointer (some ⟨(S x).p, 0, none⟩)) rfl Ty.sc168 rfl (fun w h => sto_p (h.at 0 rfl) hx k18)) ?_
      refine WPD.takeM 4 rfl rfl rfl rfl (by kernel_rfl) (by kernel_rfl) (by kernel_rfl) (by kernel_rfl) (fun _ _ _ h => h) (fun _ h => h) (Val.move rfl rfl) ?_
      refine WPD.takeM 5 rfl rfl rfl rfl (by kernel_rfl) (by kernel_rfl) (by kernel_rfl) (by kernel_rfl) (fun _ _ _ h => h) (fun _ h => h) (Val.nilCheck rfl rfl) ?_
      refine WPD.takeM 6 rfl rfl rfl rfl (by kernel_rfl) (by kernel_rfl) (by kernel_rfl) (by kernel_rfl) (fun _ _ _ h => h) (fun _ h => h) (Val.fieldAddr (j := 2) rfl Ty.fo180_2 rfl rfl) ?_
      refine WPD.take 7 rfl rfl rfl rfl (by kernel_rfl) (by kernel_rfl) (by kernel_rfl) (by kernel_rfl) (fun _ _ _ h => h) (by kernel_rfl) (fun _ h => h) (Val.load rfl Ty.sc168 rfl (fun w h => h.cell 1 rfl rfl)) ?_
      refine WPD.perm pl3 ?_
      refine WPD.perm pl1 ?_
      refine WPD.perm pl3 ?_
      refine WPD.stepC 8 (by kernel_rfl) rfl rfl rfl rfl (by kernel_rfl) (Eff.call rfl rfl Try.call133 (um_does EL t0 hE s D ZC S17 okS17 ((S x).p) n (Ok.p ok hx) (Dep.congr (S := setP S y (S x).p) (fun i => by rw [hS17, hS1]; exact setR_p _ _ _ _) (hdep hq)))) ?_
      rintro _ _ ⟨_, rfl, rfl⟩
      refine ⟨(Sat W (Ens EL :: Sto (um s n S17 ((S x).p)) D :: Blk s ZC 177 :: Blk tb [.pointer (some ⟨root, 0, none⟩), .int .i64 (cnt), .pointer (some ⟨s, 0, none⟩)] 180 :: F)), (fun _ h => h), ?_⟩
      show WPD _ _ _ _ _ _ _ _ _ (Ens EL :: Sto (um s n S17 ((S x).p)) D :: Blk s ZC 177 :: Blk tb [.pointer (some ⟨root, 0, none⟩), .int .i64 (cnt), .pointer (some ⟨s, 0, none⟩)] 180 :: F)
      obtain ⟨S22, hS22⟩ : ∃ S22, S22 = um s n S17 ((S x).p) := ⟨_, rfl⟩
      rw [← hS22]
      have okS22 : Ok s EL D S22 := by rw [hS22]; exact (um_ok _ _ _ okS17 (Ok.p ok hx))
      have k23 : (S22 x).p = (S x).p := (by rw [hS22]; exact (OnlyM.p (um_only _ _ _ _) _).trans k18)
      have k24 : (S22 y).p = (S x).p := (by rw [hS22]; exact (OnlyM.p (um_only _ _ _ _) _).trans k19)
      have k25 : (S22 ((S x).p)).l = (S (S x).p).l := (by rw [hS22]; exact (OnlyM.l (um_only _ _ _ _) _).trans k20)
      have k26 : (S22 ((S x).p)).r = y := (by rw [hS22]; exact (OnlyM.r (um_only _ _ _ _) _).trans k21)
      refine WPD.done (by kernel_rfl) ?_
      refine Out.next ?_
      refine WPc.region ?_
      refine WP.val rfl rfl rfl (Val.move rfl rfl) ?_
      refine WP.val rfl rfl rfl (Val.move rfl rfl) ?_
      refine WP.val rfl rfl rfl (Val.nilCheck rfl rfl) ?_
      refine WP.val rfl rfl rfl (Val.fieldAddr (j := 6) rfl Ty.fo177_4 rfl rfl) ?_
      refine WP.perm pl1 ?_
      refine WP.eff0 rfl rfl (Eff.storeK (f := fun i => (S22 i).cells) (f' := fun i => (setP S22 x y i).cells) rfl Ty.sc168 rfl rfl rfl hx (show 6 < 8 by decide) (by unfold setP; rw [upd_same]; rfl) (by unfold setP; exact cells_other)) ?_
      rintro _ _ rfl
      show WP _ _ _ _ _ _ _ (Sto (setP S22 x y) D :: Ens EL :: Blk s ZC 177 :: Blk tb [.pointer (some ⟨root, 0, none⟩), .int .i64 (cnt), .pointer (some ⟨s, 0, none⟩)] 180 :: F)
      obtain ⟨S27, hS27⟩ : ∃ S27, S27 = setP S22 x y := ⟨_, rfl⟩
      rw [← hS27]
      have okS27 : Ok s EL D S27 := by rw [hS27]; exact (okS22.setP (.inr hy))
      have k28 : (S27 ((S x).p)).l = (S (S x).p).l := (by rw [hS27]; exact (setP_l _ _ _ _).trans k25)
      have k29 : (S27 ((S x).p)).r = y := (by rw [hS27]; exact (setP_r _ _ _ _).trans k26)
      have k30 : (S27 x).p = y := by rw [hS27]; exact setP_same _ _ _
      refine WP.nil ?_
      have hfin := (rp_right hq (by assumption) : rp s n S root x y = _)
      refine Out.perm pl2 ?_
      refine Out.perm pl1 ?_
      refine Out.perm pl2 ?_
      refine Out.perm pl3 ?_
      exact Out.end0 (L' := _) Try.results164 rfl (fun w h => by rw [hfin]; subst hS27 hS22 hS17 hS1; exact h)

end Go.Proofs.Ytbomnihiapjmpaa.Tf

namespace Go.Proofs.Ytbomnihiapjmpaa.Tg
open Go.RowKit Go.Proofs.Ytbomnihiapjmpaa Go.Proofs.Ytbomnihiapjmpaa.Sl Go.Proofs.Ytbomnihiapjmpaa.TrP Go.Proofs.Ytbomnihiapjmpaa.Tc Go.Proofs.Ytbomnihiapjmpaa.Td Go.Proofs.Ytbomnihiapjmpaa.Te Go.Proofs.Ytbomnihiapjmpaa.Tf
set_option linter.unusedVariables false
set_option linter.unusedSimpArgs false
set_option linter.unusedSectionVars false

set_option maxRecDepth 100000 in
set_option maxHeartbeats 2000000 in
theorem rl_does (EL : List En) (t0 : TypeId) (hE : ∀ e ∈ EL, e.t = t0) (s : Nat) (D : List Nat) (ZC : List Value) (tb root : Nat) (cnt : Int) (S : St) (ok : Ok s EL D S) (hroot : Is s D root) (x n : Nat) (hx : x ∈ D) (hok : ¬ (S x).r = s → RlOk s n S root x) : Does Try.prog 160 [.pointer (some ⟨tb, 0, none⟩), .pointer (some ⟨x, 0, none⟩)] [Blk tb [.pointer (some ⟨root, 0, none⟩), .int .i64 (cnt), .pointer (some ⟨s, 0, none⟩)] 180, Ens EL, Sto S D, Blk s ZC 177] (fun _ L => L = [Blk tb [.pointer (some ⟨(rl s n S root x).2, 0, none⟩), .int .i64 cnt, .pointer (some ⟨s, 0, none⟩)] 180, Ens EL, Sto (rl s n S root x).1 D, Blk s ZC 177]) := by
  refine Does.enter 61 Try.func160 rfl rfl rfl fun W F => ?_
  show WPc _ _ _ _ _ [(0, .pointer (some ⟨tb, 0, none⟩)), (1, .pointer (some ⟨x, 0, none⟩))] (Blk tb [.pointer (some ⟨root, 0, none⟩), .int .i64 (cnt), .pointer (some ⟨s, 0, none⟩)] 180 :: Ens EL :: Sto S D :: Blk s ZC 177 :: F)
  refine WPc.seq ?_
  refine WPc.seq ?_
  refine WPD.start (Sat W (Blk tb [.pointer (some ⟨root, 0, none⟩), .int .i64 (cnt), .pointer (some ⟨s, 0, none⟩)] 180 :: Ens EL :: Sto S D :: Blk s ZC 177 :: F)) Ty.mixed ?_
  refine WPD.takeM 0 rfl rfl rfl rfl (by kernel_rfl) (by kernel_rfl) (by kernel_rfl) (by kernel_rfl) (fun _ _ _ h => h) (fun _ h => h) (Val.move rfl rfl) ?_
  refine WPD.takeM 1 rfl rfl rfl rfl (by kernel_rfl) (by kernel_rfl) (by kernel_rfl) (by kernel_rfl) (fun _ _ _ h => h) (fun _ h => h) (Val.nilCheck rfl rfl) ?_
  refine WPD.takeM 2 rfl rfl rfl rfl (by kernel_rfl) (by kernel_rfl) (by kernel_rfl) (by kernel_rfl) (fun _ _ _ h => h) (fun _ h => h) (Val.fieldAddr (j := 5) rfl Ty.fo177_3 rfl rfl) ?_
  refine WPD.take 3 rfl rfl rfl rfl (by kernel_rfl) (by kernel_rfl) (by kernel_rfl) (by kernel_rfl) (fun _ _ _ h => h) (by kernel_rfl) (fun _ h => h) (Val.load (v := .pointer (some ⟨(S x).r, 0, none⟩)) rfl Ty.sc168 rfl (fun w h => sto_r (h.at 2 rfl) hx rfl)) ?_
  refine WPD.takeM 4 rfl rfl rfl rfl (by kernel_rfl) (by kernel_rfl) (by kernel_rfl) (by kernel_rfl) (fun _ _ _ h => h) (fun _ h => h) (Val.move rfl rfl) ?_
  refine WPD.takeM 5 rfl rfl rfl rfl (by kernel_rfl) (by kernel_rfl) (by kernel_rfl) (by kernel_rfl) (fun _ _ _ h => h) (fun _ h => h) (Val.nilCheck rfl rfl) ?_
  refine WPD.takeM 6 rfl rfl rfl rfl (by kernel_rfl) (by kernel_rfl) (by kernel_rfl) (by kernel_rfl) (fun _ _ _ h => h) (fun _ h => h) (Val.fieldAddr (j := 2) rfl Ty.fo180_2 rfl rfl) ?_
  refine WPD.take 7 rfl rfl rfl rfl (by kernel_rfl) (by kernel_rfl) (by kernel_rfl) (by kernel_rfl) (fun _ _ _ h => h) (by kernel_rfl) (fun _ h => h) (Val.load rfl Ty.sc168 rfl (fun w h => h.cell 0 rfl rfl)) ?_
  refine WPD.take 8 rfl rfl rfl rfl (by kernel_rfl) (by kernel_rfl) (by kernel_rfl) (by kernel_rfl) (fun _ _ _ h => h) (by kernel_rfl) (fun _ h => h) (Val.eqP (T1 := 177) (T2 := 177) rfl pn168 rfl rfl rfl rfl (fun w h => whole (h.at 2 rfl) (h.at 3 rfl) (Ok.r ok hx)) (fun w h => whole (h.at 2 rfl) (h.at 3 rfl) (.inl rfl))) ?_
  refine WPD.done (by kernel_rfl) ?_
  refine Out.next ?_
  refine WPc.ifP rfl (fun h1 => ?_) (fun h1 => ?_)
  · skip
    have h1 : ((S x).r = s) := h1
    refine WPc.ret ?_
    refine Out.then_ret ?_
    have hfin : rl s n S root x = _ := rl_s (by assumption)
    exact Out.ret0 (L' := _) Try.results160 rfl (fun w h => by rw [hfin]; exact h)
  · skip
    have h1 : ¬ ((S x).r = s) := h1
    refine WPc.skip ?_
    refine Out.next ?_
    refine WPc.seq ?_
    have hr : ¬ (S x).r = s := by assumption
    have hy : (S x).r ∈ D := Is.mem (Ok.r ok hx) hr
    have hd := hok hr
    refine WPc.region ?_
    refine WP.val rfl rfl rfl (Val.move rfl rfl) ?_
    refine WP.val rfl rfl rfl (Val.nilCheck rfl rfl) ?_
    refine WP.val rfl rfl rfl (Val.fieldAddr (j := 5) rfl Ty.fo177_3 rfl rfl) ?_
    refine WP.val rfl rfl rfl (Val.load (v := .pointer (some ⟨(S x).r, 0, none⟩)) rfl Ty.sc168 rfl (fun w h => sto_r (h.at 2 rfl) hx rfl)) ?_
    refine WP.val rfl rfl rfl (Val.assign rfl rfl) ?_
    refine WP.nil ?_
    refine Out.next ?_
    refine WPc.seq ?_
    refine WPc.region ?_
    refine WP.val rfl rfl rfl (Val.move rfl rfl) ?_
    refine WP.val rfl rfl rfl (Val.move rfl rfl) ?_
    refine WP.val rfl rfl rfl (Val.nilCheck rfl rfl) ?_
    refine WP.val rfl rfl rfl (Val.fieldAddr (j := 4) rfl Ty.fo177_2 rfl rfl) ?_
    refine WP.val rfl rfl rfl (Val.load (v := .pointer (some ⟨(S ((S x).r)).l, 0, none⟩)) rfl Ty.sc168 rfl (fun w h => sto_l (h.at 2 rfl) hy rfl)) ?_
    refine WP.val rfl rfl rfl (Val.nilCheck rfl rfl) ?_
    refine WP.val rfl rfl rfl (Val.fieldAddr (j := 5) rfl Ty.fo177_3 rfl rfl) ?_
    refine WP.perm pl2 ?_
    refine WP.eff0 rfl rfl (Eff.storeK (f := fun i => (S i).cells) (f' := fun i => (setR S x ((S ((S x).r)).l) i).cells) rfl Ty.sc168 rfl rfl rfl hx (show 5 < 8 by decide) (by unfold setR; rw [upd_same]; rfl) (by unfold setR; exact cells_other)) ?_
    rintro _ _ rfl
    show WP _ _ _ _ _ _ _ (Sto (setR S x ((S ((S x).r)).l)) D :: Blk tb [.pointer (some ⟨root, 0, none⟩), .int .i64 (cnt), .pointer (some ⟨s, 0, none⟩)] 180 :: Ens EL :: Blk s ZC 177 :: F)
    obtain ⟨S1, hS1⟩ : ∃ S1, S1 = setR S x ((S ((S x).r)).l) := ⟨_, rfl⟩
    rw [← hS1]
    have okS1 : Ok s EL D S1 := by rw [hS1]; exact (ok.setR (Ok.l ok hy))
    have k2 : (S1 ((S x).r)).l = (S ((S x).r)).l := (by rw [hS1]; exact (setR_l _ _ _ _).trans rfl)
    have k3 : (S1 x).r = (S ((S x).r)).l := by rw [hS1]; exact setR_same _ _ _
    refine WP.nil ?_
    refine Out.next ?_
    refine WPc.seq ?_
    refine WPc.seq ?_
    refine WPD.start (Sat W (Sto S1 D :: Blk tb [.pointer (some ⟨root, 0, none⟩), .int .i64 (cnt), .pointer (some ⟨s, 0, none⟩)] 180 :: Ens EL :: Blk s ZC 177 :: F)) Ty.mixed ?_
    refine WPD.takeM 0 rfl rfl rfl rfl (by kernel_rfl) (by kernel_rfl) (by kernel_rfl) (by kernel_rfl) (fun _ _ _ h => h) (fun _ h => h) (Val.move rfl rfl) ?_
    refine WPD.takeM 1 rfl rfl rfl rfl (by kernel_rfl) (by kernel_rfl) (by kernel_rfl) (by kernel_rfl) (fun _ _ _ h => h) (fun _ h => h) (Val.nilCheck rfl rfl) ?_
    refine WPD.takeM 2 rfl rfl rfl rfl (by kernel_rfl) (by kernel_rfl) (by kernel_rfl) (by kernel_rfl) (fun _ _ _ h => h) (fun _ h => h) (Val.fieldAddr (j := 4) rfl Ty.fo177_2 rfl rfl) ?_
    refine WPD.take 3 rfl rfl rfl rfl (by kernel_rfl) (by kernel_rfl) (by kernel_rfl) (by kernel_rfl) (fun _ _ _ h => h) (by kernel_rfl) (fun _ h => h) (Val.load (v := .pointer (some ⟨(S ((S x).r)).l, 0, none⟩)) rfl Ty.sc168 rfl (fun w h => sto_l (h.at 0 rfl) hy k2)) ?_
    refine WPD.takeM 4 rfl rfl rfl rfl (by kernel_rfl) (by kernel_rfl) (by kernel_rfl) (by kernel_rfl) (fun _ _ _ h => h) (fun _ h => h) (Val.move rfl rfl) ?_
    refine WPD.takeM 5 rfl rfl rfl rfl (by kernel_rfl) (by kernel_rfl) (by kernel_rfl) (by kernel_rfl) (fun _ _ _ h => h) (fun _ h => h) (Val.nilCheck rfl rfl) ?_
    refine WPD.takeM 6 rfl rfl rfl rfl (by kernel_rfl) (by kernel_rfl) (by kernel_rfl) (by kernel_rfl) (fun _ _ _ h => h) (fun _ h => h) (Val.fieldAddr (j := 2) rfl Ty.fo180_2 rfl rfl) ?_
    refine WPD.take 7 rfl rfl rfl rfl (by kernel_rfl) (by kernel_rfl) (by kernel_rfl) (by kernel_rfl) (fun _ _ _ h => h) (by kernel_rfl) (fun _ h => h) (Val.load rfl Ty.sc168 rfl (fun w h => h.cell 1 rfl rfl)) ?_
    refine WPD.take 8 rfl rfl rfl rfl (by kernel_rfl) (by kernel_rfl) (by kernel_rfl) (by kernel_rfl) (fun _ _ _ h => h) (by kernel_rfl) (fun _ h => h) (Val.neqP (T1 := 177) (T2 := 177) rfl pn168 rfl rfl rfl rfl (fun w h => whole (h.at 0 rfl) (h.at 3 rfl) (Ok.l ok hy)) (fun w h => whole (h.at 0 rfl) (h.at 3 rfl) (.inl rfl))) ?_
    refine WPD.done (by kernel_rfl) ?_
    refine Out.next ?_
    refine WPc.ifP rfl (fun h2 => ?_) (fun h2 => ?_)
    · skip
      have h2 : ((S ((S x).r)).l ≠ s) := h2
      refine WPc.region ?_
      refine WP.val rfl rfl rfl (Val.move rfl rfl) ?_
      refine WP.val rfl rfl rfl (Val.nilCheck rfl rfl) ?_
      refine WP.val rfl rfl rfl (Val.fieldAddr (j := 4) rfl Ty.fo177_2 rfl rfl) ?_
      refine WP.val rfl rfl rfl (Val.load (v := .pointer (some ⟨(S ((S x).r)).l, 0, none⟩)) rfl Ty.sc168 rfl (fun w h => sto_l (h.at 0 rfl) hy k2)) ?_
      refine WP.val rfl rfl rfl (Val.move rfl rfl) ?_
      refine WP.val rfl rfl rfl (Val.nilCheck rfl rfl) ?_
      refine WP.val rfl rfl rfl (Val.fieldAddr (j := 6) rfl Ty.fo177_4 rfl rfl) ?_
      refine WP.eff0 rfl rfl (Eff.storeK (f := fun i => (S1 i).cells) (f' := fun i => (setP S1 ((S ((S x).r)).l) x i).cells) rfl Ty.sc168 rfl rfl rfl (Is.mem (Ok.l ok hy) (by first | assumption | (intro hh; simp_all; done) | (simp_all; done))) (show 6 < 8 by decide) (by unfold setP; rw [upd_same]; rfl) (by unfold setP; exact cells_other)) ?_
      rintro _ _ rfl
      show WP _ _ _ _ _ _ _ (Sto (setP S1 ((S ((S x).r)).l) x) D :: Blk tb [.pointer (some ⟨root, 0, none⟩), .int .i64 (cnt), .pointer (some ⟨s, 0, none⟩)] 180 :: Ens EL :: Blk s ZC 177 :: F)
      obtain ⟨S4, hS4⟩ : ∃ S4, S4 = setP S1 ((S ((S x).r)).l) x := ⟨_, rfl⟩
      rw [← hS4]
      have okS4 : Ok s EL D S4 := by rw [hS4]; exact (okS1.setP (.inr hx))
      have k5 : (S4 ((S x).r)).l = (S ((S x).r)).l := (by rw [hS4]; exact (setP_l _ _ _ _).trans k2)
      have k6 : (S4 x).r = (S ((S x).r)).l := (by rw [hS4]; exact (setP_r _ _ _ _).trans k3)
      have k7 : (S4 ((S ((S x).r)).l)).p = x := by rw [hS4]; exact setP_same _ _ _
      refine WP.nil ?_
      refine Out.next ?_
      refine WPc.seq ?_
      refine WPc.region ?_
      refine WP.val rfl rfl rfl (Val.move rfl rfl) ?_
      refine WP.val rfl rfl rfl (Val.move rfl rfl) ?_
      refine WP.val rfl rfl rfl (Val.nilCheck rfl rfl) ?_
      refine WP.val rfl rfl rfl (Val.fieldAddr (j := 2) rfl Ty.fo180_2 rfl rfl) ?_
      refine WP.val rfl rfl rfl (Val.load rfl Ty.sc168 rfl (fun w h => h.cell 1 rfl rfl)) ?_
      refine WP.perm pl3 ?_
      refine WP.perm pl1 ?_
      refine WP.perm pl3 ?_
      refine WP.eff rfl rfl rfl (Eff.call rfl rfl Try.call133 (um_does EL t0 hE s D ZC S4 okS4 x n (.inr hx) (by have h0 := hd.d1; rw [rl2_pos (by assumption)] at h0; subst hS4 hS1; exact h0))) ?_
      rintro _ _ ⟨_, rfl, rfl⟩
      show WP _ _ _ _ _ _ _ (Ens EL :: Sto (um s n S4 x) D :: Blk s ZC 177 :: Blk tb [.pointer (some ⟨root, 0, none⟩), .int .i64 (cnt), .pointer (some ⟨s, 0, none⟩)] 180 :: F)
      obtain ⟨S8, hS8⟩ : ∃ S8, S8 = um s n S4 x := ⟨_, rfl⟩
      rw [← hS8]
      have okS8 : Ok s EL D S8 := by rw [hS8]; exact (um_ok _ _ _ okS4 (.inr hx))
      have k9 : (S8 ((S x).r)).l = (S ((S x).r)).l := (by rw [hS8]; exact (OnlyM.l (um_only _ _ _ _) _).trans k5)
      have k10 : (S8 x).r = (S ((S x).r)).l := (by rw [hS8]; exact (OnlyM.r (um_only _ _ _ _) _).trans k6)
      have k11 : (S8 ((S ((S x).r)).l)).p = x := (by rw [hS8]; exact (OnlyM.p (um_only _ _ _ _) _).trans k7)
      refine WP.nil ?_
      refine Out.next ?_
      refine WPc.seq ?_
      refine WPc.region ?_
      refine WP.val rfl rfl rfl (Val.move rfl rfl) ?_
      refine WP.val rfl rfl rfl (Val.move rfl rfl) ?_
      refine WP.val rfl rfl rfl (Val.move rfl rfl) ?_
      refine WP.perm pl2 ?_
      refine WP.perm pl2 ?_
      refine WP.perm pl2 ?_
      refine WP.perm pl3 ?_
      refine WP.eff rfl rfl rfl (Eff.call rfl rfl Try.call164 (rp_does EL t0 hE s D ZC tb root cnt S8 okS8 hroot x ((S x).r) n hx hy hd.ne (by have h0 := hd.d2; unfold rl3 at h0; rw [rl2_pos (by assumption)] at h0; subst hS8 hS4 hS1; exact h0))) ?_
      rintro _ _ ⟨_, rfl, rfl⟩
      show WP _ _ _ _ _ _ _ (Blk tb [.pointer (some ⟨(rp s n S8 root x ((S x).r)).2, 0, none⟩), .int .i64 (cnt), .pointer (some ⟨s, 0, none⟩)] 180 :: Ens EL :: Sto ((rp s n S8 root x ((S x).r)).1) D :: Blk s ZC 177 :: F)
      obtain ⟨S12, hS12⟩ : ∃ S12, S12 = (rp s n S8 root x ((S x).r)).1 := ⟨_, rfl⟩
      rw [← hS12]
      have okS12 : Ok s EL D S12 := by rw [hS12]; exact (rp_ok okS8 hx hy)
      refine WP.nil ?_
      refine Out.next ?_
      refine WPc.seq ?_
      refine WPc.region ?_
      refine WP.val rfl rfl rfl (Val.move rfl rfl) ?_
      refine WP.val rfl rfl rfl (Val.move rfl rfl) ?_
      refine WP.val rfl rfl rfl (Val.nilCheck rfl rfl) ?_
      refine WP.val rfl rfl rfl (Val.fieldAddr (j := 4) rfl Ty.fo177_2 rfl rfl) ?_
      refine WP.perm pl2 ?_
      refine WP.eff0 rfl rfl (Eff.storeK (f := fun i => (S12 i).cells) (f' := fun i => (setL S12 ((S x).r) x i).cells) rfl Ty.sc168 rfl rfl rfl hy (show 4 < 8 by decide) (by unfold setL; rw [upd_same]; rfl) (by unfold setL; exact cells_other)) ?_
      rintro _ _ rfl
      show WP _ _ _ _ _ _ _ (Sto (setL S12 ((S x).r) x) D :: Blk tb [.pointer (some ⟨(rp s n S8 root x ((S x).r)).2, 0, none⟩), .int .i64 (cnt), .pointer (some ⟨s, 0, none⟩)] 180 :: Ens EL :: Blk s ZC 177 :: F)
      obtain ⟨S13, hS13⟩ : ∃ S13, S13 = setL S12 ((S x).r) x := ⟨_, rfl⟩
      rw [← hS13]
      have okS13 : Ok s EL D S13 := by rw [hS13]; exact (okS12.setL (.inr hx))
      have k14 : (S13 ((S x).r)).l = x := by rw [hS13]; exact setL_same _ _ _
      refine WP.nil ?_
      refine Out.next ?_
      refine WPc.region ?_
      refine WP.val rfl rfl rfl (Val.move rfl rfl) ?_
      refine WP.val rfl rfl rfl (Val.move rfl rfl) ?_
      refine WP.val rfl rfl rfl (Val.nilCheck rfl rfl) ?_
      refine WP.val rfl rfl rfl (Val.fieldAddr (j := 2) rfl Ty.fo180_2 rfl rfl) ?_
      refine WP.val rfl rfl rfl (Val.load rfl Ty.sc168 rfl (fun w h => h.cell 1 rfl rfl)) ?_
      refine WP.perm pl3 ?_
      refine WP.perm pl1 ?_
      refine WP.perm pl3 ?_
      refine WP.eff rfl rfl rfl (Eff.call rfl rfl Try.call133 (um_does EL t0 hE s D ZC S13 okS13 ((S x).r) n (Ok.r ok hx) (by have h0 := hd.d3; unfold rl5 rl4 rl3 at h0; rw [rl2_pos (by assumption)] at h0; subst hS13 hS12 hS8 hS4 hS1; exact h0))) ?_
      rintro _ _ ⟨_, rfl, rfl⟩
      show WP _ _ _ _ _ _ _ (Ens EL :: Sto (um s n S13 ((S x).r)) D :: Blk s ZC 177 :: Blk tb [.pointer (some ⟨(rp s n S8 root x ((S x).r)).2, 0, none⟩), .int .i64 (cnt), .pointer (some ⟨s, 0, none⟩)] 180 :: F)
      obtain ⟨S15, hS15⟩ : ∃ S15, S15 = um s n S13 ((S x).r) := ⟨_, rfl⟩
      rw [← hS15]
      have okS15 : Ok s EL D S15 := by rw [hS15]; exact (um_ok _ _ _ okS13 (Ok.r ok hx))
      have k16 : (S15 ((S x).r)).l = x := (by rw [hS15]; exact (OnlyM.l (um_only _ _ _ _) _).trans k14)
      refine WP.nil ?_
      have hfin := (rl_ne hr : rl s n S root x = _)
      unfold rl5 rl4 rl3 at hfin
      rw [rl2_pos (by assumption)] at hfin
      refine Out.perm pl2 ?_
      refine Out.perm pl2 ?_
      refine Out.perm pl2 ?_
      refine Out.perm pl3 ?_
      exact Out.end0 (L' := _) Try.results160 rfl (fun w h => by rw [hfin]; subst hS15 hS13 hS12 hS8 hS4 hS1; exact h)
    · skip
      have h2 : ¬ ((S ((S x).r)).l ≠ s) := h2
      refine WPc.skip ?_
      refine Out.next ?_
      refine WPc.seq ?_
      refine WPc.region ?_
      refine WP.val rfl rfl rfl (Val.move rfl rfl) ?_
      refine WP.val rfl rfl rfl (Val.move rfl rfl) ?_
      refine WP.val rfl rfl rfl (Val.nilCheck rfl rfl) ?_
      refine WP.val rfl rfl rfl (Val.fieldAddr (j := 2) rfl Ty.fo180_2 rfl rfl) ?_
      refine WP.val rfl rfl rfl (Val.load rfl Ty.sc168 rfl (fun w h => h.cell 1 rfl rfl)) ?_
      refine WP.perm pl3 ?_
      refine WP.perm pl1 ?_
      refine WP.perm pl3 ?_
      refine WP.eff rfl rfl rfl (Eff.call rfl rfl Try.call133 (um_does EL t0 hE s D ZC S1 okS1 x n (.inr hx) (by have h0 := hd.d1; rw [rl2_neg (by assumption)] at h0; subst hS1; exact h0))) ?_
      rintro _ _ ⟨_, rfl, rfl⟩
      show WP _ _ _ _ _ _ _ (Ens EL :: Sto (um s n S1 x) D :: Blk s ZC 177 :: Blk tb [.pointer (some ⟨root, 0, none⟩), .int .i64 (cnt), .pointer (some ⟨s, 0, none⟩)] 180 :: F)
      obtain ⟨S17, hS17⟩ : ∃ S17, S17 = um s n S1 x := ⟨_, rfl⟩
      rw [← hS17]
      have okS17 : Ok s EL D S17 := by rw [hS17]; exact (um_ok _ _ _ okS1 (.inr hx))
      have k18 : (S17 ((S x).r)).l = (S ((S x).r)).l := (by rw [hS17]; exact (OnlyM.l (um_only _ _ _ _) _).trans k2)
      have k19 : (S17 x).r = (S ((S x).r)).l := (by rw [hS17]; exact (OnlyM.r (um_only _ _ _ _) _).trans k3)
      refine WP.nil ?_
      refine Out.next ?_
      refine WPc.seq ?_
      refine WPc.region ?_
      refine WP.val rfl rfl rfl (Val.move rfl rfl) ?_
      refine WP.val rfl rfl rfl (Val.move rfl rfl) ?_
      refine WP.val rfl rfl rfl (Val.move rfl rfl) ?_
      refine WP.perm pl2 ?_
      refine WP.perm pl2 ?_
      refine WP.perm pl2 ?_
      refine WP.perm pl3 ?_
      refine WP.eff rfl rfl rfl (Eff.call rfl rfl Try.call164 (rp_does EL t0 hE s D ZC tb root cnt S17 okS17 hroot x ((S x).r) n hx hy hd.ne (by have h0 := hd.d2; unfold rl3 at h0; rw [rl2_neg (by assumption)] at h0; subst hS17 hS1; exact h0))) ?_
      rintro _ _ ⟨_, rfl, rfl⟩
      show WP _ _ _ _ _ _ _ (Blk tb [.pointer (some ⟨(rp s n S17 root x ((S x).r)).2, 0, none⟩), .int .i64 (cnt), .pointer (some ⟨s, 0, none⟩)] 180 :: Ens EL :: Sto ((rp s n S17 root x ((S x).r)).1) D :: Blk s ZC 177 :: F)
      obtain ⟨S20, hS20⟩ : ∃ S20, S20 = (rp s n S17 root x ((S x).r)).1 := ⟨_, rfl⟩
      rw [← hS20]
      have okS20 : Ok s EL D S20 := by rw [hS20]; exact (rp_ok okS17 hx hy)
      refine WP.nil ?_
      refine Out.next ?_
      refine WPc.seq ?_
      refine WPc.region ?_
      refine WP.val rfl rfl rfl (Val.move rfl rfl) ?_
      refine WP.val rfl rfl rfl (Val.move rfl rfl) ?_
      refine WP.val rfl rfl rfl (Val.nilCheck rfl rfl) ?_
      refine WP.val rfl rfl rfl (Val.fieldAddr (j := 4) rfl Ty.fo177_2 rfl rfl) ?_
      refine WP.perm pl2 ?_
      refine WP.eff0 rfl rfl (Eff.storeK (f := fun i => (S20 i).cells) (f' := fun i => (setL S20 ((S x).r) x i).cells) rfl Ty.sc168 rfl rfl rfl hy (show 4 < 8 by decide) (by unfold setL; rw [upd_same]; rfl) (by unfold setL; exact cells_other)) ?_
      rintro _ _ rfl
      show WP _ _ _ _ _ _ _ (Sto (setL S20 ((S x).r) x) D :: Blk tb [.pointer (some ⟨(rp s n S17 root x ((S x).r)).2, 0, none⟩), .int .i64 (cnt), .pointer (some ⟨s, 0, none⟩)] 180 :: Ens EL :: Blk s ZC 177 :: F)
      obtain ⟨S21, hS21⟩ : ∃ S21, S21 = setL S20 ((S x).r) x := ⟨_, rfl⟩
      rw [← hS21]
      have okS21 : Ok s EL D S21 := by rw [hS21]; exact (okS20.setL (.inr hx))
      have k22 : (S21 ((S x).r)).l = x := by rw [hS21]; exact setL_same _ _ _
      refine WP.nil ?_
      refine Out.next ?_
      refine WPc.region ?_
      refine WP.val rfl rfl rfl (Val.move rfl rfl) ?_
      refine WP.val rfl rfl rfl (Val.move rfl rfl) ?_
      refine WP.val rfl rfl rfl (Val.nilCheck rfl rfl) ?_
      refine WP.val rfl rfl rfl (Val.fieldAddr (j := 2) rfl Ty.fo180_2 rfl rfl) ?_
      refine WP.val rfl rfl rfl (Val.load rfl Ty.sc168 rfl (fun w h => h.cell 1 rfl rfl)) ?_
      refine WP.perm pl3 ?_
      refine WP.perm pl1 ?_
      refine WP.perm pl3 ?_
      refine WP.eff rfl rfl rfl (Eff.call rfl rfl Try.call133 (um_does EL t0 hE s D ZC S21 okS21 ((S x).r) n (Ok.r ok hx) (by have h0 := hd.d3; unfold rl5 rl4 rl3 at h0; rw [rl2_neg (by assumption)] at h0; subst hS21 hS20 hS17 hS1; exact h0))) ?_
      rintro _ _ ⟨_, rfl, rfl⟩
      show WP _ _ _ _ _ _ _ (Ens EL :: Sto (um s n S21 ((S x).r)) D :: Blk s ZC 177 :: Blk tb [.pointer (some ⟨(rp s n S17 root x ((S x).r)).2, 0, none⟩), .int .i64 (cnt), .pointer (some ⟨s, 0, none⟩)] 180 :: F)
      obtain ⟨S23, hS23⟩ : ∃ S23, S23 = um s n S21 ((S x).r) := ⟨_, rfl⟩
      rw [← hS23]
      have okS23 : Ok s EL D S23 := by rw [hS23]; exact (um_ok _ _ _ okS21 (Ok.r ok hx))
      have k24 : (S23 ((S x).r)).l = x := (by rw [hS23]; exact (OnlyM.l (um_only _ _ _ _) _).trans k22)
      refine WP.nil ?_
      have hfin := (rl_ne hr : rl s n S root x = _)
      unfold rl5 rl4 rl3 at hfin
      rw [rl2_neg (by assumption)] at hfin
      refine Out.perm pl2 ?_
      refine Out.perm pl2 ?_
      refine Out.perm pl2 ?_
      refine Out.perm pl3 ?_
      exact Out.end0 (L' := _) Try.results160 rfl (fun w h => by rw [hfin]; subst hS23 hS21 hS20 hS17 hS1; exact h)
set_option maxRecDepth 100000 in
set_option maxHeartbeats 2000000 in
theorem rr_does (EL : List En) (t0 : TypeId) (hE : ∀ e ∈ EL, e.t = t0) (s : Nat) (D : List Nat) (ZC : List Value) (tb root : Nat) (cnt : Int) (S : St) (ok : Ok s EL D S) (hroot : Is s D root) (x n : Nat) (hx : x ∈ D) (hok : ¬ (S x).l = s → RrOk s n S root x) : Does Try.prog 161 [.pointer (some ⟨tb, 0, none⟩), .pointer (some ⟨x, 0, none⟩)] [Blk tb [.pointer (some ⟨root, 0, none⟩), .int .i64 (cnt), .pointer (some ⟨s, 0, none⟩)] 180, Ens EL, Sto S D, Blk s ZC 177] (fun _ L => L = [Blk tb [.pointer (some ⟨(rr s n S root x).2, 0, none⟩), .int .i64 cnt, .pointer (some ⟨s, 0, none⟩)] 180, Ens EL, Sto (rr s n S root x).1 D, Blk s ZC 177]) := by
  refine Does.enter 61 Try.func161 rfl rfl rfl fun W F => ?_
  show WPc _ _ _ _ _ [(0, .pointer (some ⟨tb, 0, none⟩)), (1, .pointer (some ⟨x, 0, none⟩))] (Blk tb [.pointer (some ⟨root, 0, none⟩), .int .i64 (cnt), .pointer (some ⟨s, 0, none⟩)] 180 :: Ens EL :: Sto S D :: Blk s ZC 177 :: F)
  refine WPc.seq ?_
  refine WPc.seq ?_
  refine WPD.start (Sat W (Blk tb [.pointer (some ⟨root, 0, none⟩), .int .i64 (cnt), .pointer (some ⟨s, 0, none⟩)] 180 :: Ens EL :: Sto S D :: Blk s ZC 177 :: F)) Ty.mixed ?_
  refine WPD.takeM 0 rfl rfl rfl rfl (by kernel_rfl) (by kernel_rfl) (by kernel_rfl) (by kernel_rfl) (fun _ _ _ h => h) (fun _ h => h) (Val.move rfl rfl) ?_
  refine WPD.takeM 1 rfl rfl rfl rfl (by kernel_rfl) (by kernel_rfl) (by kernel_rfl) (by kernel_rfl) (fun _ _ _ h => h) (fun _ h => h) (Val.nilCheck rfl rfl) ?_
  refine WPD.takeM 2 rfl rfl rfl rfl (by kernel_rfl) (by kernel_rfl) (by kernel_rfl) (by kernel_rfl) (fun _ _ _ h => h) (fun _ h => h) (Val.fieldAddr (j := 4) rfl Ty.fo177_2 rfl rfl) ?_
  refine WPD.take 3 rfl rfl rfl rfl (by kernel_rfl) (by kernel_rfl) (by kernel_rfl) (by kernel_rfl) (fun _ _ _ h => h) (by kernel_rfl) (fun _ h => h) (Val.load (v := .pointer (some ⟨(S x).l, 0, none⟩)) rfl Ty.sc168 rfl (fun w h => sto_l (h.at 2 rfl) hx rfl)) ?_
  refine WPD.takeM 4 rfl rfl rfl rfl (by kernel_rfl) (by kernel_rfl) (by kernel_rfl) (by kernel_rfl) (fun _ _ _ h => h) (fun _ h => h) (Val.move rfl rfl) ?_
  refine WPD.takeM 5 rfl rfl rfl rfl (by kernel_rfl) (by kernel_rfl) (by kernel_rfl) (by kernel_rfl) (fun _ _ _ h => h) (fun _ h => h) (Val.nilCheck rfl rfl) ?_
  refine WPD.takeM 6 rfl rfl rfl rfl (by kernel_rfl) (by kernel_rfl) (by kernel_rfl) (by kernel_rfl) (fun _ _ _ h => h) (fun _ h => h) (Val.fieldAddr (j := 2) rfl Ty.fo180_2 rfl rfl) ?_
  refine WPD.take 7 rfl rfl rfl rfl (by kernel_rfl) (by kernel_rfl) (by kernel_rfl) (by kernel_rfl) (fun _ _ _ h => h) (by kernel_rfl) (fun _ h => h) (Val.load rfl Ty.sc168 rfl (fun w h => h.cell 0 rfl rfl)) ?_
  refine WPD.take 8 rfl rfl rfl rfl (by kernel_rfl) (by kernel_rfl) (by kernel_rfl) (by kernel_rfl) (fun _ _ _ h => h) (by kernel_rfl) (fun _ h => h) (Val.eqP (T1 := 177) (T2 := 177) rfl pn168 rfl rfl rfl rfl (fun w h => whole (h.at 2 rfl) (h.at 3 rfl) (Ok.l ok hx)) (fun w h => whole (h.at 2 rfl) (h.at 3 rfl) (.inl rfl))) ?_
  refine WPD.done (by kernel_rfl) ?_
  refine Out.next ?_
  refine WPc.ifP rfl (fun h1 => ?_) (fun h1 => ?_)
  · skip
    have h1 : ((S x).l = s) := h1
    refine WPc.ret ?_
    refine Out.then_ret ?_
    have hfin : rr s n S root x = _ := rr_s (by assumption)
    exact Out.ret0 (L' := _) Try.results161 rfl (fun w h => by rw [hfin]; exact h)
  · skip
    have h1 : ¬ ((S x).l = s) := h1
    refine WPc.skip ?_
    refine Out.next ?_
    refine WPc.seq ?_
    have hr : ¬ (S x).l = s := by assumption
    have hy : (S x).l ∈ D := Is.mem (Ok.l ok hx) hr
    have hd := hok hr
    refine WPc.region ?_
    refine WP.val rfl rfl rfl (Val.move rfl rfl) ?_
    refine WP.val rfl rfl rfl (Val.nilCheck rfl rfl) ?_
    refine WP.val rfl rfl rfl (Val.fieldAddr (j := 4) rfl Ty.fo177_2 rfl rfl) ?_
    refine WP.val rfl rfl rfl (Val.load (v := .pointer (some ⟨(S x).l, 0, none⟩)) rfl Ty.sc168 rfl (fun w h => sto_l (h.at 2 rfl) hx rfl)) ?_
    refine WP.val rfl rfl rfl (Val.assign rfl rfl) ?_
    refine WP.nil ?_
    refine Out.next ?_
    refine WPc.seq ?_
    refine WPc.region ?_
    refine WP.val rfl rfl rfl (Val.move rfl rfl) ?_
    refine WP.val rfl rfl rfl (Val.move rfl rfl) ?_
    refine WP.val rfl rfl rfl (Val.nilCheck rfl rfl) ?_
    refine WP.val rfl rfl rfl (Val.fieldAddr (j := 5) rfl Ty.fo177_3 rfl rfl) ?_
    refine WP.val rfl rfl rfl (Val.load (v := .pointer (some ⟨(S ((S x).l)).r, 0, none⟩)) rfl Ty.sc168 rfl (fun w h => sto_r (h.at 2 rfl) hy rfl)) ?_
    refine WP.val rfl rfl rfl (Val.nilCheck rfl rfl) ?_
    refine WP.val rfl rfl rfl (Val.fieldAddr (j := 4) rfl Ty.fo177_2 rfl rfl) ?_
    refine WP.perm pl2 ?_
    refine WP.eff0 rfl rfl (Eff.storeK (f := fun i => (S i).cells) (f' := fun i => (setL S x ((S ((S x).l)).r) i).cells) rfl Ty.sc168 rfl rfl rfl hx (show 4 < 8 by decide) (by unfold setL; rw [upd_same]; rfl) (by unfold setL; exact cells_other)) ?_
    rintro _ _ rfl
    show WP _ _ _ _ _ _ _ (Sto (setL S x ((S ((S x).l)).r)) D :: Blk tb [.pointer (some ⟨root, 0, none⟩), .int .i64 (cnt), .pointer (some ⟨s, 0, none⟩)] 180 :: Ens EL :: Blk s ZC 177 :: F)
    obtain ⟨S1, hS1⟩ : ∃ S1, S1 = setL S x ((S ((S x).l)).r) := ⟨_, rfl⟩
    rw [← hS1]
    have okS1 : Ok s EL D S1 := by rw [hS1]; exact (ok.setL (Ok.r ok hy))
    have k2 : (S1 ((S x).l)).r = (S ((S x).l)).r := (by rw [hS1]; exact (setL_r _ _ _ _).trans rfl)
    have k3 : (S1 x).l = (S ((S x).l)).r := by rw [hS1]; exact setL_same _ _ _
    refine WP.nil ?_
    refine Out.next ?_
    refine WPc.seq ?_
    refine WPc.seq ?_
    refine WPD.start (Sat W (Sto S1 D :: Blk tb [.pointer (some ⟨root, 0, none⟩), .int .i64 (cnt), .pointer (some ⟨s, 0, none⟩)] 180 :: Ens EL :: Blk s ZC 177 :: F)) Ty.mixed ?_
    refine WPD.takeM 0 rfl rfl rfl rfl (by kernel_rfl) (by kernel_rfl) (by kernel_rfl) (by kernel_rfl) (fun _ _ _ h => h) (fun _ h => h) (Val.move rfl rfl) ?_
    refine WPD.takeM 1 rfl rfl rfl rfl (by kernel_rfl) (by kernel_rfl) (by kernel_rfl) (by kernel_rfl) (fun _ _ _ h => h) (fun _ h => h) (Val.nilCheck rfl rfl) ?_
    refine WPD.takeM 2 rfl rfl rfl rfl (by kernel_rfl) (by kernel_rfl) (by kernel_rfl) (by kernel_rfl) (fun _ _ _ h => h) (fun _ h => h) (Val.fieldAddr (j := 5) rfl Ty.fo177_3 rfl rfl) ?_
    refine WPD.take 3 rfl rfl rfl rfl (by kernel_rfl) (by kernel_rfl) (by kernel_rfl) (by kernel_rfl) (fun _ _ _ h => h) (by kernel_rfl) (fun _ h => h) (Val.load (v := .pointer (some ⟨(S ((S x).l)).r, 0, none⟩)) rfl Ty.sc168 rfl (fun w h => sto_r (h.at 0 rfl) hy k2)) ?_
    refine WPD.takeM 4 rfl rfl rfl rfl (by kernel_rfl) (by kernel_rfl) (by kernel_rfl) (by kernel_rfl) (fun _ _ _ h => h) (fun _ h => h) (Val.move rfl rfl) ?_
    refine WPD.takeM 5 rfl rfl rfl rfl (by kernel_rfl) (by kernel_rfl) (by kernel_rfl) (by kernel_rfl) (fun _ _ _ h => h) (fun _ h => h) (Val.nilCheck rfl rfl) ?_
    refine WPD.takeM 6 rfl rfl rfl rfl (by kernel_rfl) (by kernel_rfl) (by kernel_rfl) (by kernel_rfl) (fun _ _ _ h => h) (fun _ h => h) (Val.fieldAddr (j := 2) rfl Ty.fo180_2 rfl rfl) ?_
    refine WPD.take 7 rfl rfl rfl rfl (by kernel_rfl) (by kernel_rfl) (by kernel_rfl) (by kernel_rfl) (fun _ _ _ h => h) (by kernel_rfl) (fun _ h => h) (Val.load rfl Ty.sc168 rfl (fun w h => h.cell 1 rfl rfl)) ?_
    refine WPD.take 8 rfl rfl rfl rfl (by kernel_rfl) (by kernel_rfl) (by kernel_rfl) (by kernel_rfl) (fun _ _ _ h => h) (by kernel_rfl) (fun _ h => h) (Val.neqP (T1 := 177) (T2 := 177) rfl pn168 rfl rfl rfl rfl (fun w h => whole (h.at 0 rfl) (h.at 3 rfl) (Ok.r ok hy)) (fun w h => whole (h.at 0 rfl) (h.at 3 rfl) (.inl rfl))) ?_
    refine WPD.done (by kernel_rfl) ?_
    refine Out.next ?_
    refine WPc.ifP rfl (fun h2 => ?_) (fun h2 => ?_)
    · skip
      have h2 : ((S ((S x).l)).r ≠ s) := h2
      refine WPc.region ?_
      refine WP.val rfl rfl rfl (Val.move rfl rfl) ?_
      refine WP.val rfl rfl rfl (Val.nilCheck rfl rfl) ?_
      refine WP.val rfl rfl rfl (Val.fieldAddr (j := 5) rfl Ty.fo177_3 rfl rfl) ?_
      refine WP.val rfl rfl rfl (Val.load (v := .pointer (some ⟨(S ((S x).l)).r, 0, none⟩)) rfl Ty.sc168 rfl (fun w h => sto_r (h.at 0 rfl) hy k2)) ?_
      refine WP.val rfl rfl rfl (Val.move rfl rfl) ?_
      refine WP.val rfl rfl rfl (Val.nilCheck rfl rfl) ?_
      refine WP.val rfl rfl rfl (Val.fieldAddr (j := 6) rfl Ty.fo177_4 rfl rfl) ?_
      refine WP.eff0 rfl rfl (Eff.storeK (f := fun i => (S1 i).cells) (f' := fun i => (setP S1 ((S ((S x).l)).r) x i).cells) rfl Ty.sc168 rfl rfl rfl (Is.mem (Ok.r ok hy) (by first | assumption | (intro hh; simp_all; done) | (simp_all; done))) (show 6 < 8 by decide) (by unfold setP; rw [upd_same]; rfl) (by unfold setP; exact cells_other)) ?_
      rintro _ _ rfl
      show WP _ _ _ _ _ _ _ (Sto (setP S1 ((S ((S x).l)).r) x) D :: Blk tb [.pointer (some ⟨root, 0, none⟩), .int .i64 (cnt), .pointer (some ⟨s, 0, none⟩)] 180 :: Ens EL :: Blk s ZC 177 :: F)
      obtain ⟨S4, hS4⟩ : ∃ S4, S4 = setP S1 ((S ((S x).l)).r) x := ⟨_, rfl⟩
      rw [← hS4]
      have okS4 : Ok s EL D S4 := by rw [hS4]; exact (okS1.setP (.inr hx))
      have k5 : (S4 ((S x).l)).r = (S ((S x).l)).r := (by rw [hS4]; exact (setP_r _ _ _ _).trans k2)
      have k6 : (S4 x).l = (S ((S x).l)).r := (by rw [hS4]; exact (setP_l _ _ _ _).trans k3)
      have k7 : (S4 ((S ((S x).l)).r)).p = x := by rw [hS4]; exact setP_same _ _ _
      refine WP.nil ?_
      refine Out.next ?_
      refine WPc.seq ?_
      refine WPc.region ?_
      refine WP.val rfl rfl rfl (Val.move rfl rfl) ?_
      refine WP.val rfl rfl rfl (Val.move rfl rfl) ?_
      refine WP.val rfl rfl rfl (Val.nilCheck rfl rfl) ?_
      refine WP.val rfl rfl rfl (Val.fieldAddr (j := 2) rfl Ty.fo180_2 rfl rfl) ?_
      refine WP.val rfl rfl rfl (Val.load rfl Ty.sc168 rfl (fun w h => h.cell 1 rfl rfl)) ?_
      refine WP.perm pl3 ?_
      refine WP.perm pl1 ?_
      refine WP.perm pl3 ?_
      refine WP.eff rfl rfl rfl (Eff.call rfl rfl Try.call133 (um_does EL t0 hE s D ZC S4 okS4 x n (.inr hx) (by have h0 := hd.d1; rw [rr2_pos (by assumption)] at h0; subst hS4 hS1; exact h0))) ?_
      rintro _ _ ⟨_, rfl, rfl⟩
      show WP _ _ _ _ _ _ _ (Ens EL :: Sto (um s n S4 x) D :: Blk s ZC 177 :: Blk tb [.pointer (some ⟨root, 0, none⟩), .int .i64 (cnt), .pointer (some ⟨s, 0, none⟩)] 180 :: F)
      obtain ⟨S8, hS8⟩ : ∃ S8, S8 = um s n S4 x := ⟨_, rfl⟩
      rw [← hS8]
      have okS8 : Ok s EL D S8 := by rw [hS8]; exact (um_ok _ _ _ okS4 (.inr hx))
      have k9 : (S8 ((S x).l)).r = (S ((S x).l)).r := (by rw [hS8]; exact (OnlyM.r (um_only _ _ _ _) _).trans k5)
      have k10 : (S8 x).l = (S ((S x).l)).r := (by rw [hS8]; exact (OnlyM.l (um_only _ _ _ _) _).trans k6)
      have k11 : (S8 ((S ((S x).l)).r)).p = x := (by rw [hS8]; exact (OnlyM.p (um_only _ _ _ _) _).trans k7)
      refine WP.nil ?_
      refine Out.next ?_
      refine WPc.seq ?_
      refine WPc.region ?_
      refine WP.val rfl rfl rfl (Val.move rfl rfl) ?_
      refine WP.val rfl rfl rfl (Val.move rfl rfl) ?_
      refine WP.val rfl rfl rfl (Val.move rfl rfl) ?_
      refine WP.perm pl2 ?_
      refine WP.perm pl2 ?_
      refine WP.perm pl2 ?_
      refine WP.perm pl3 ?_
      refine WP.eff rfl rfl rfl (Eff.call rfl rfl Try.call164 (rp_does EL t0 hE s D ZC tb root cnt S8 okS8 hroot x ((S x).l) n hx hy hd.ne (by have h0 := hd.d2; unfold rr3 at h0; rw [rr2_pos (by assumption)] at h0; subst hS8 hS4 hS1; exact h0))) ?_
      rintro _ _ ⟨_, rfl, rfl⟩
      show WP _ _ _ _ _ _ _ (Blk tb [.pointer (some ⟨(rp s n S8 root x ((S x).l)).2, 0, none⟩), .int .i64 (cnt), .pointer (some ⟨s, 0, none⟩)] 180 :: Ens EL :: Sto ((rp s n S8 root x ((S x).l)).1) D :: Blk s ZC 177 :: F)
      obtain ⟨S12, hS12⟩ : ∃ S12, S12 = (rp s n S8 root x ((S x).l)).1 := ⟨_, rfl⟩
      rw [← hS12]
      have okS12 : Ok s EL D S12 := by rw [hS12]; exact (rp_ok okS8 hx hy)
      refine WP.nil ?_
      refine Out.next ?_
      refine WPc.seq ?_
      refine WPc.region ?_
      refine WP.val rfl rfl rfl (Val.move rfl rfl) ?_
      refine WP.val rfl rfl rfl (Val.move rfl rfl) ?_
      refine WP.val rfl rfl rfl (Val.nilCheck rfl rfl) ?_
      refine WP.val rfl rfl rfl (Val.fieldAddr (j := 5) rfl Ty.fo177_3 rfl rfl) ?_
      refine WP.perm pl2 ?_
      refine WP.eff0 rfl rfl (Eff.storeK (f := fun i => (S12 i).cells) (f' := fun i => (setR S12 ((S x).l) x i).cells) rfl Ty.sc168 rfl rfl rfl hy (show 5 < 8 by decide) (by unfold setR; rw [upd_same]; rfl) (by unfold setR; exact cells_other)) ?_
      rintro _ _ rfl
      show WP _ _ _ _ _ _ _ (Sto (setR S12 ((S x).l) x) D :: Blk tb [.pointer (some ⟨(rp s n S8 root x ((S x).l)).2, 0, none⟩), .int .i64 (cnt), .pointer (some ⟨s, 0, none⟩)] 180 :: Ens EL :: Blk s ZC 177 :: F)
      obtain ⟨S13, hS13⟩ : ∃ S13, S13 = setR S12 ((S x).l) x := ⟨_, rfl⟩
      rw [← hS13]
      have okS13 : Ok s EL D S13 := by rw [hS13]; exact (okS12.setR (.inr hx))
      have k14 : (S13 ((S x).l)).r = x := by rw [hS13]; exact setR_same _ _ _
      refine WP.nil ?_
      refine Out.next ?_
      refine WPc.region ?_
      refine WP.val rfl rfl rfl (Val.move rfl rfl) ?_
      refine WP.val rfl rfl rfl (Val.move rfl rfl) ?_
      refine WP.val rfl rfl rfl (Val.nilCheck rfl rfl) ?_
      refine WP.val rfl rfl rfl (Val.fieldAddr (j := 2) rfl Ty.fo180_2 rfl rfl) ?_
      refine WP.val rfl rfl rfl (Val.load rfl Ty.sc168 rfl (fun w h => h.cell 1 rfl rfl)) ?_
      refine WP.perm pl3 ?_
      refine WP.perm pl1 ?_
      refine WP.perm pl3 ?_
      refine WP.eff rfl rfl rfl (Eff.call rfl rfl Try.call133 (um_does EL t0 hE s D ZC S13 okS13 ((S x).l) n (Ok.l ok hx) (by have h0 := hd.d3; unfold rr5 rr4 rr3 at h0; rw [rr2_pos (by assumption)] at h0; subst hS13 hS12 hS8 hS4 hS1; exact h0))) ?_
      rintro _ _ ⟨_, rfl, rfl⟩
      show WP _ _ _ _ _ _ _ (Ens EL :: Sto (um s n S13 ((S x).l)) D :: Blk s ZC 177 :: Blk tb [.pointer (some ⟨(rp s n S8 root x ((S x).l)).2, 0, none⟩), .int .i64 (cnt), .pointer (some ⟨s, 0, none⟩)] 180 :: F)
      obtain ⟨S15, hS15⟩ : ∃ S15, S15 = um s n S13 ((S x).l) := ⟨_, rfl⟩
      rw [← hS15]
      have okS15 : Ok s EL D S15 := by rw [hS15]; exact (um_ok _ _ _ okS13 (Ok.l ok hx))
      have k16 : (S15 ((S x).l)).r = x := (by rw [hS15]; exact (OnlyM.r (um_only _ _ _ _) _).trans k14)
      refine WP.nil ?_
      have hfin := (rr_ne hr : rr s n S root x = _)
      unfold rr5 rr4 rr3 at hfin
      rw [rr2_pos (by assumption)] at hfin
      refine Out.perm pl2 ?_
      refine Out.perm pl2 ?_
      refine Out.perm pl2 ?_
      refine Out.perm pl3 ?_
      exact Out.end0 (L' := _) Try.results161 rfl (fun w h => by rw [hfin]; subst hS15 hS13 hS12 hS8 hS4 hS1; exact h)
    · skip
      have h2 : ¬ ((S ((S x).l)).r ≠ s) := h2
      refine WPc.skip ?_
      refine Out.next ?_
      refine WPc.seq ?_
      refine WPc.region ?_
      refine WP.val rfl rfl rfl (Val.move rfl rfl) ?_
      refine WP.val rfl rfl rfl (Val.move rfl rfl) ?_
      refine WP.val rfl rfl rfl (Val.nilCheck rfl rfl) ?_
      refine WP.val rfl rfl rfl (Val.fieldAddr (j := 2) rfl Ty.fo180_2 rfl rfl) ?_
      refine WP.val rfl rfl rfl (Val.load rfl Ty.sc168 rfl (fun w h => h.cell 1 rfl rfl)) ?_
      refine WP.perm pl3 ?_
      refine WP.perm pl1 ?_
      refine WP.perm pl3 ?_
      refine WP.eff rfl rfl rfl (Eff.call rfl rfl Try.call133 (um_does EL t0 hE s D ZC S1 okS1 x n (.inr hx) (by have h0 := hd.d1; rw [rr2_neg (by assumption)] at h0; subst hS1; exact h0))) ?_
      rintro _ _ ⟨_, rfl, rfl⟩
      show WP _ _ _ _ _ _ _ (Ens EL :: Sto (um s n S1 x) D :: Blk s ZC 177 :: Blk tb [.pointer (some ⟨root, 0, none⟩), .int .i64 (cnt), .pointer (some ⟨s, 0, none⟩)] 180 :: F)
      obtain ⟨S17, hS17⟩ : ∃ S17, S17 = um s n S1 x := ⟨_, rfl⟩
      rw [← hS17]
      have okS17 : Ok s EL D S17 := by rw [hS17]; exact (um_ok _ _ _ okS1 (.inr hx))
      have k18 : (S17 ((S x).l)).r = (S ((S x).l)).r := (by rw [hS17]; exact (OnlyM.r (um_only _ _ _ _) _).trans k2)
      have k19 : (S17 x).l = (S ((S x).l)).r := (by rw [hS17]; exact (OnlyM.l (um_only _ _ _ _) _).trans k3)
      refine WP.nil ?_
      refine Out.next ?_
      refine WPc.seq ?_
      refine WPc.region ?_
      refine WP.val rfl rfl rfl (Val.move rfl rfl) ?_
      refine WP.val rfl rfl rfl (Val.move rfl rfl) ?_
      refine WP.val rfl rfl rfl (Val.move rfl rfl) ?_
      refine WP.perm pl2 ?_
      refine WP.perm pl2 ?_
      refine WP.perm pl2 ?_
      refine WP.perm pl3 ?_
      refine WP.eff rfl rfl rfl (Eff.call rfl rfl Try.call164 (rp_does EL t0 hE s D ZC tb root cnt S17 okS17 hroot x ((S x).l) n hx hy hd.ne (by have h0 := hd.d2; unfold rr3 at h0; rw [rr2_neg (by assumption)] at h0; subst hS17 hS1; exact h0))) ?_
      rintro _ _ ⟨_, rfl, rfl⟩
      show WP _ _ _ _ _ _ _ (Blk tb [.pointer (some ⟨(rp s n S17 root x ((S x).l)).2, 0, none⟩), .int .i64 (cnt), .pointer (some ⟨s, 0, none⟩)] 180 :: Ens EL :: Sto ((rp s n S17 root x ((S x).l)).1) D :: Blk s ZC 177 :: F)
      obtain ⟨S20, hS20⟩ : ∃ S20, S20 = (rp s n S17 root x ((S x).l)).1 := ⟨_, rfl⟩
      rw [← hS20]
      have okS20 : Ok s EL D S20 := by rw [hS20]; exact (rp_ok okS17 hx hy)
      refine WP.nil ?_
      refine Out.next ?_
      refine WPc.seq ?_
      refine WPc.region ?_
      refine WP.val rfl rfl rfl (Val.move rfl rfl) ?_
      refine WP.val rfl rfl rfl (Val.move rfl rfl) ?_
      refine WP.val rfl rfl rfl (Val.nilCheck rfl rfl) ?_
      refine WP.val rfl rfl rfl (Val.fieldAddr (j := 5) rfl Ty.fo177_3 rfl rfl) ?_
      refine WP.perm pl2 ?_
      refine WP.eff0 rfl rfl (Eff.storeK (f := fun i => (S20 i).cells) (f' := fun i => (setR S20 ((S x).l) x i).cells) rfl Ty.sc168 rfl rfl rfl hy (show 5 < 8 by decide) (by unfold setR; rw [upd_same]; rfl) (by unfold setR; exact cells_other)) ?_
      rintro _ _ rfl
      show WP _ _ _ _ _ _ _ (Sto (setR S20 ((S x).l) x) D :: Blk tb [.pointer (some ⟨(rp s n S17 root x ((S x).l)).2, 0, none⟩), .int .i64 (cnt), .pointer (some ⟨s, 0, none⟩)] 180 :: Ens EL :: Blk s ZC 177 :: F)
      obtain ⟨S21, hS21⟩ : ∃ S21, S21 = setR S20 ((S x).l) x := ⟨_, rfl⟩
      rw [← hS21]
      have okS21 : Ok s EL D S21 := by rw [hS21]; exact (okS20.setR (.inr hx))
      have k22 : (S21 ((S x).l)).r = x := by rw [hS21]; exact setR_same _ _ _
      refine WP.nil ?_
      refine Out.next ?_
      refine WPc.region ?_
      refine WP.val rfl rfl rfl (Val.move rfl rfl) ?_
      refine WP.val rfl rfl rfl (Val.move rfl rfl) ?_
      refine WP.val rfl rfl rfl (Val.nilCheck rfl rfl) ?_
      refine WP.val rfl rfl rfl (Val.fieldAddr (j := 2) rfl Ty.fo180_2 rfl rfl) ?_
      refine WP.val rfl rfl rfl (Val.load rfl Ty.sc168 rfl (fun w h => h.cell 1 rfl rfl)) ?_
      refine WP.perm pl3 ?_
      refine WP.perm pl1 ?_
      refine WP.perm pl3 ?_
      refine WP.eff rfl rfl rfl (Eff.call rfl rfl Try.call133 (um_does EL t0 hE s D ZC S21 okS21 ((S x).l) n (Ok.l ok hx) (by have h0 := hd.d3; unfold rr5 rr4 rr3 at h0; rw [rr2_neg (by assumption)] at h0; subst hS21 hS20 hS17 hS1; exact h0))) ?_
      rintro _ _ ⟨_, rfl, rfl⟩
      show WP _ _ _ _ _ _ _ (Ens EL :: Sto (um s n S21 ((S x).l)) D :: Blk s ZC 177 :: Blk tb [.pointer (some ⟨(rp s n S17 root x ((S x).l)).2, 0, none⟩), .int .i64 (cnt), .pointer (some ⟨s, 0, none⟩)] 180 :: F)
      obtain ⟨S23, hS23⟩ : ∃ S23, S23 = um s n S21 ((S x).l) := ⟨_, rfl⟩
      rw [← hS23]
      have okS23 : Ok s EL D S23 := by rw [hS23]; exact (um_ok _ _ _ okS21 (Ok.l ok hx))
      have k24 : (S23 ((S x).l)).r = x := (by rw [hS23]; exact (OnlyM.r (um_only _ _ _ _) _).trans k22)
      refine WP.nil ?_
      have hfin := (rr_ne hr : rr s n S root x = _)
      unfold rr5 rr4 rr3 at hfin
      rw [rr2_neg (by assumption)] at hfin
      refine Out.perm pl2 ?_
      refine Out.perm pl2 ?_
      refine Out.perm pl2 ?_
      refine Out.perm pl3 ?_
      exact Out.end0 (L' := _) Try.results161 rfl (fun w h => by rw [hfin]; subst hS23 hS21 hS20 hS17 hS1; exact h)

end Go.Proofs.Ytbomnihiapjmpaa.Tg

namespace Go.Proofs.Ytbomnihiapjmpaa.Th
open Go.RowKit Go.Proofs.Ytbomnihiapjmpaa Go.Proofs.Ytbomnihiapjmpaa.Sl Go.Proofs.Ytbomnihiapjmpaa.TrP Go.Proofs.Ytbomnihiapjmpaa.Tc Go.Proofs.Ytbomnihiapjmpaa.Td Go.Proofs.Ytbomnihiapjmpaa.Te Go.Proofs.Ytbomnihiapjmpaa.Tf Go.Proofs.Ytbomnihiapjmpaa.Tg
set_option linter.unusedVariables false
set_option linter.unusedSimpArgs false
set_option linter.unusedSectionVars false


set_option maxRecDepth 100000 in
set_option maxHeartbeats 2000000 in
theorem fx_does (EL : List En) (t0 : TypeId) (hE : ∀ e ∈ EL, e.t = t0) (s : Nat) (D : List Nat) (ZC : List Value) (tb root0 : Nat) (cnt : Int) (S0 : St) (ok : Ok s EL D S0) (hroot : Is s D root0) (z0 n k0 : Nat) (hz : z0 ∈ D) (hfo : FxOk s n k0 S0 root0 z0) (hlast : (fx s n k0 S0 root0 z0).2 ∈ D) : Does Try.prog 152 [.pointer (some ⟨tb, 0, none⟩), .pointer (some ⟨z0, 0, none⟩)] [Blk tb [.pointer (some ⟨root0, 0, none⟩), .int .i64 (cnt), .pointer (some ⟨s, 0, none⟩)] 180, Ens EL, Sto S0 D, Blk s ZC 177] (fun _ L => L = [Blk tb [.pointer (some ⟨(fx s n k0 S0 root0 z0).2, 0, none⟩), .int .i64 cnt, .pointer (some ⟨s, 0, none⟩)] 180, Ens EL, Sto (setC (fx s n k0 S0 root0 z0).1 (fx s n k0 S0 root0 z0).2 0) D, Blk s ZC 177]) := by
  refine Does.enter 201 Try.func152 rfl rfl rfl fun W F => ?_
  show WPc _ _ _ _ _ [(0, .pointer (some ⟨tb, 0, none⟩)), (1, .pointer (some ⟨z0, 0, none⟩))] (Blk tb [.pointer (some ⟨root0, 0, none⟩), .int .i64 (cnt), .pointer (some ⟨s, 0, none⟩)] 180 :: Ens EL :: Sto S0 D :: Blk s ZC 177 :: F)
  refine WPc.seq ?_
  refine WPc.block ?_
  refine WPc.loop (ι := St × Nat × Nat × Nat) (fun ⟨S, root, z, k⟩ => fx s n k S root z = fx s n k0 S0 root0 z0 ∧ Ok s EL D S ∧ z ∈ D ∧ Is s D root ∧ FxOk s n k S root z) (fun ⟨S, root, z, k⟩ => [(0, .pointer (some ⟨tb, 0, none⟩)), (1, .pointer (some ⟨z, 0, none⟩))]) (fun ⟨S, root, z, k⟩ => Blk tb [.pointer (some ⟨root, 0, none⟩), .int .i64 (cnt), .pointer (some ⟨s, 0, none⟩)] 180 :: Ens EL :: Sto S D :: Blk s ZC 177 :: F) (fun ⟨S, root, z, k⟩ => k) ⟨S0, root0, z0, k0⟩ ⟨rfl, ok, hz, hroot, hfo⟩ ((Sub.cons rfl (Sub.cons rfl Sub.nil))) (fun _ h => h) ?_
  rintro ⟨S, root, z, k⟩ hI
  show WPc _ _ _ _ _ [(0, .pointer (some ⟨tb, 0, none⟩)), (1, .pointer (some ⟨z, 0, none⟩))] (Blk tb [.pointer (some ⟨root, 0, none⟩), .int .i64 (cnt), .pointer (some ⟨s, 0, none⟩)] 180 :: Ens EL :: Sto S D :: Blk s ZC 177 :: F)
  obtain ⟨hfx, ok, hz, hroot, hfo⟩ := hI
  refine WPc.seq ?_
  refine WPc.seq ?_
  refine WPD.start (Sat W (Blk tb [.pointer (some ⟨root, 0, none⟩), .int .i64 (cnt), .pointer (some ⟨s, 0, none⟩)] 180 :: Ens EL :: Sto S D :: Blk s ZC 177 :: F)) Ty.mixed ?_
  refine WPD.takeM 0 rfl rfl rfl rfl (by kernel_rfl) (by kernel_rfl) (by kernel_rfl) (by kernel_rfl) (fun _ _ _ h => h) (fun _ h => h) (Val.move rfl rfl) ?_
  refine WPD.takeM 1 rfl rfl rfl rfl (by kernel_rfl) (by kernel_rfl) (by kernel_rfl) (by kernel_rfl) (fun _ _ _ h => h) (fun _ h => h) (Val.nilCheck rfl rfl) ?_
  refine WPD.takeM 2 rfl rfl rfl rfl (by kernel_rfl) (by kernel_rfl) (by kernel_rfl) (by kernel_rfl) (fun _ _ _ h => h) (fun _ h => h) (Val.fieldAddr (j := 6) rfl Ty.fo177_4 rfl rfl) ?_
  refine WPD.take 3 rfl rfl rfl rfl (by kernel_rfl) (by kernel_rfl) (by kernel_rfl) (by kernel_rfl) (fun _ _ _ h => h) (by kernel_rfl) (fun _ h => h) (Val.load (v := .pointer (some ⟨(S z).p, 0, none⟩)) rfl Ty.sc168 rfl (fun w h => sto_p (h.at 2 rfl) hz rfl)) ?_
  refine WPD.takeM 4 rfl rfl rfl rfl (by kernel_rfl) (by kernel_rfl) (by kernel_rfl) (by kernel_rfl) (fun _ _ _ h => h) (fun _ h => h) (Val.move rfl rfl) ?_
  refine WPD.takeM 5 rfl rfl rfl rfl (by kernel_rfl) (by kernel_rfl) (by kernel_rfl) (by kernel_rfl) (fun _ _ _ h => h) (fun _ h => h) (Val.nilCheck rfl rfl) ?_
  refine WPD.takeM 6 rfl rfl rfl rfl (by kernel_rfl) (by kernel_rfl) (by kernel_rfl) (by kernel_rfl) (fun _ _ _ h => h) (fun _ h => h) (Val.fieldAddr (j := 2) rfl Ty.fo180_2 rfl rfl) ?_
  refine WPD.take 7 rfl rfl rfl rfl (by kernel_rfl) (by kernel_rfl) (by kernel_rfl) (by kernel_rfl) (fun _ _ _ h => h) (by kernel_rfl) (fun _ h => h) (Val.load rfl Ty.sc168 rfl (fun w h => h.cell 0 rfl rfl)) ?_
  refine WPD.perm pl3 ?_
  refine WPD.perm pl3 ?_
  refine WPD.stepC 8 (by kernel_rfl) rfl rfl rfl rfl (by kernel_rfl) (Eff.call rfl rfl Try.call148 (color_does EL s D ZC S ok ((S z).p) (Ok.p ok hz))) ?_
  rintro _ _ ⟨_, ⟨rfl, rfl⟩, rfl⟩
  refine ⟨(Sat W (Sto S D :: Blk s ZC 177 :: Blk tb [.pointer (some ⟨root, 0, none⟩), .int .i64 (cnt), .pointer (some ⟨s, 0, none⟩)] 180 :: Ens EL :: F)), (fun _ h => h), ?_⟩
  show WPD _ _ _ _ _ _ _ _ _ (Sto S D :: Blk s ZC 177 :: Blk tb [.pointer (some ⟨root, 0, none⟩), .int .i64 (cnt), .pointer (some ⟨s, 0, none⟩)] 180 :: Ens EL :: F)
  refine WPD.take 9 rfl rfl rfl rfl (by kernel_rfl) (by kernel_rfl) (by kernel_rfl) (by kernel_rfl) (fun _ _ _ h => h) (by kernel_rfl) (fun _ h => h) (Val.eql rfl rfl rfl) ?_
  refine WPD.done (by kernel_rfl) ?_
  refine Out.next ?_
  refine WPc.ifP rfl (fun h1 => ?_) (fun h1 => ?_)
  · skip
    have h1 : ((colr s S ((S z).p)) = (1 : Int)) := h1
    refine WPc.skip ?_
    refine Out.next ?_
    refine WPc.block ?_
    refine WPc.seq ?_
    have hred : colr s S (S z).p = 1 := by assumption
    obtain ⟨k, rfl, ⟨hg, hfl, hfr⟩, hfo⟩ := hfo.yes hred
    have hp : (S z).p ∈ D := Is.mem (Ok.p ok hz) (colr_ne hred)
    have hgD : (S ((S z).p)).p ∈ D := Is.mem (Ok.p ok hp) hg
    refine WPD.start (Sat W (Sto S D :: Blk s ZC 177 :: Blk tb [.pointer (some ⟨root, 0, none⟩), .int .i64 (cnt), .pointer (some ⟨s, 0, none⟩)] 180 :: Ens EL :: F)) Ty.mixed ?_
    refine WPD.takeM 0 rfl rfl rfl rfl (by kernel_rfl) (by kernel_rfl) (by kernel_rfl) (by kernel_rfl) (fun _ _ _ h => h) (fun _ h => h) (Val.move rfl rfl) ?_
    refine WPD.takeM 1 rfl rfl rfl rfl (by kernel_rfl) (by kernel_rfl) (by kernel_rfl) (by kernel_rfl) (fun _ _ _ h => h) (fun _ h => h) (Val.nilCheck rfl rfl) ?_
    refine WPD.takeM 2 rfl rfl rfl rfl (by kernel_rfl) (by kernel_rfl) (by kernel_rfl) (by kernel_rfl) (fun _ _ _ h => h) (fun _ h => h) (Val.fieldAddr (j := 6) rfl Ty.fo177_4 rfl rfl) ?_
    refine WPD.take 3 rfl rfl rfl rfl (by kernel_rfl) (by kernel_rfl) (by kernel_rfl) (by kernel_rfl) (fun _ _ _ h => h) (by kernel_rfl) (fun _ h => h) (Val.load (v := .pointer (some ⟨(S z).p, 0, none⟩)) rfl Ty.sc168 rfl (fun w h => sto_p (h.at 0 rfl) hz rfl)) ?_
    refine WPD.takeM 4 rfl rfl rfl rfl (by kernel_rfl) (by kernel_rfl) (by kernel_rfl) (by kernel_rfl) (fun _ _ _ h => h) (fun _ h => h) (Val.move rfl rfl) ?_
    refine WPD.takeM 5 rfl rfl rfl rfl (by kernel_rfl) (by kernel_rfl) (by kernel_rfl) (by kernel_rfl) (fun _ _ _ h => h) (fun _ h => h) (Val.nilCheck rfl rfl) ?_
    refine WPD.takeM 6 rfl rfl rfl rfl (by kernel_rfl) (by kernel_rfl) (by kernel_rfl) (by kernel_rfl) (fun _ _ _ h => h) (fun _ h => h) (Val.fieldAddr (j := 6) rfl Ty.fo177_4 rfl rfl) ?_
    refine WPD.take 7 rfl rfl rfl rfl (by kernel_rfl) (by kernel_rfl) (by kernel_rfl) (by kernel_rfl) (fun _ _ _ h => h) (by kernel_rfl) (fun _ h => h) (Val.load (v := .pointer (some ⟨(S z).p, 0, none⟩)) rfl Ty.sc168 rfl (fun w h => sto_p (h.at 0 rfl) hz rfl)) ?_
    refine WPD.takeM 8 rfl rfl rfl rfl (by kernel_rfl) (by kernel_rfl) (by kernel_rfl) (by kernel_rfl) (fun _ _ _ h => h) (fun _ h => h) (Val.nilCheck rfl rfl) ?_
    refine WPD.takeM 9 rfl rfl rfl rfl (by kernel_rfl) (by kernel_rfl) (by kernel_rfl) (by kernel_rfl) (fun _ _ _ h => h) (fun _ h => h) (Val.fieldAddr (j := 6) rfl Ty.fo177_4 rfl rfl) ?_
    refine WPD.take 10 rfl rfl rfl rfl (by kernel_rfl) (by kernel_rfl) (by kernel_rfl) (by kernel_rfl) (fun _ _ _ h => h) (by kernel_rfl) (fun _ h => h) (Val.load (v := .pointer (some ⟨(S ((S z).p)).p, 0, none⟩)) rfl Ty.sc168 rfl (fun w h => sto_p (h.at 0 rfl) hp rfl)) ?_
    refine WPD.takeM 11 rfl rfl rfl rfl (by kernel_rfl) (by kernel_rfl) (by kernel_rfl) (by kernel_rfl) (fun _ _ _ h => h) (fun _ h => h) (Val.nilCheck rfl rfl) ?_
    refine WPD.takeM 12 rfl rfl rfl rfl (by kernel_rfl) (by kernel_rfl) (by kernel_rfl) (by kernel_rfl) (fun _ _ _ h => h) (fun _ h => h) (Val.fieldAddr (j := 4) rfl Ty.fo177_2 rfl rfl) ?_
    refine WPD.take 13 rfl rfl rfl rfl (by kernel_rfl) (by kernel_rfl) (by kernel_rfl) (by kernel_rfl) (fun _ _ _ h => h) (by kernel_rfl) (fun _ h => h) (Val.load (v := .pointer (some ⟨(S ((S ((S z).p)).p)).l, 0, none⟩)) rfl Ty.sc168 rfl (fun w h => sto_l (h.at 0 rfl) hgD rfl)) ?_
    refine WPD.take 14 rfl rfl rfl rfl (by kernel_rfl) (by kernel_rfl) (by kernel_rfl) (by kernel_rfl) (fun _ _ _ h => h) (by kernel_rfl) (fun _ h => h) (Val.eqP (T1 := 177) (T2 := 177) rfl pn168 rfl rfl rfl rfl (fun w h => whole (h.at 0 rfl) (h.at 1 rfl) (Ok.p ok hz)) (fun w h => whole (h.at 0 rfl) (h.at 1 rfl) (Ok.l ok hgD))) ?_
    refine WPD.done (by kernel_rfl) ?_
    refine Out.next ?_
    refine WPc.ifP rfl (fun h2 => ?_) (fun h2 => ?_)
    · skip
      have h2 : ((S z).p = (S ((S ((S z).p)).p)).l) := h2
      refine WPc.seq ?_
      have hside : (S z).p = (S ((S ((S z).p)).p)).l := by assumption
      have hf := hfl hside
      refine WPc.region ?_
      refine WP.val rfl rfl rfl (Val.move rfl rfl) ?_
      refine WP.val rfl rfl rfl (Val.nilCheck rfl rfl) ?_
      refine WP.val rfl rfl rfl (Val.fieldAddr (j := 6) rfl Ty.fo177_4 rfl rfl) ?_
      refine WP.val rfl rfl rfl (Val.load (v := .pointer (some ⟨(S z).p, 0, none⟩)) rfl Ty.sc168 rfl (fun w h => sto_p (h.at 0 rfl) hz rfl)) ?_
      refine WP.val rfl rfl rfl (Val.nilCheck rfl rfl) ?_
      refine WP.val rfl rfl rfl (Val.fieldAddr (j := 6) rfl Ty.fo177_4 rfl rfl) ?_
      refine WP.val rfl rfl rfl (Val.load (v := .pointer (some ⟨(S ((S z).p)).p, 0, none⟩)) rfl Ty.sc168 rfl (fun w h => sto_p (h.at 0 rfl) hp rfl)) ?_
      refine WP.val rfl rfl rfl (Val.nilCheck rfl rfl) ?_
      refine WP.val rfl rfl rfl (Val.fieldAddr (j := 5) rfl Ty.fo177_3 rfl rfl) ?_
      refine WP.val rfl rfl rfl (Val.load (v := .pointer (some ⟨(S ((S ((S z).p)).p)).r, 0, none⟩)) rfl Ty.sc168 rfl (fun w h => sto_r (h.at 0 rfl) hgD rfl)) ?_
      refine WP.val rfl rfl rfl (Val.assign rfl rfl) ?_
      refine WP.nil ?_
      refine Out.next ?_
      refine WPc.seq ?_
      refine WPc.region ?_
      refine WP.val rfl rfl rfl (Val.move rfl rfl) ?_
      refine WP.val rfl rfl rfl (Val.move rfl rfl) ?_
      refine WP.val rfl rfl rfl (Val.nilCheck rfl rfl) ?_
      refine WP.val rfl rfl rfl (Val.fieldAddr (j := 2) rfl Ty.fo180_2 rfl rfl) ?_
      refine WP.val rfl rfl rfl (Val.load rfl Ty.sc168 rfl (fun w h => h.cell 2 rfl rfl)) ?_
      refine WP.perm pl1 ?_
      refine WP.perm pl1 ?_
      refine WP.eff rfl rfl rfl (Eff.call rfl rfl Try.call148 (color_does EL s D ZC S ok ((S ((S ((S z).p)).p)).r) (Ok.r ok hgD))) ?_
      rintro _ _ ⟨_, ⟨rfl, rfl⟩, rfl⟩
      show WP _ _ _ _ _ _ _ (Sto S D :: Blk s ZC 177 :: Blk tb [.pointer (some ⟨root, 0, none⟩), .int .i64 (cnt), .pointer (some ⟨s, 0, none⟩)] 180 :: Ens EL :: F)
      refine WP.val rfl rfl rfl (Val.eql rfl rfl rfl) ?_
      refine WP.nil ?_
      refine Out.next ?_
      refine WPc.ifP rfl (fun h3 => ?_) (fun h3 => ?_)
      · skip
        have h3 : ((colr s S ((S ((S ((S z).p)).p)).r)) = (1 : Int)) := h3
        refine WPc.seq ?_
        have hu : colr s S (S ((S ((S z).p)).p)).r = 1 := by assumption
        have huD : (S ((S ((S z).p)).p)).r ∈ D := Is.mem (Ok.r ok hgD) (colr_ne hu)
        refine WPc.region ?_
        refine WP.val rfl rfl rfl (Val.move rfl rfl) ?_
        refine WP.val rfl rfl rfl (Val.nilCheck rfl rfl) ?_
        refine WP.val rfl rfl rfl (Val.fieldAddr (j := 7) rfl Ty.fo177_5 rfl rfl) ?_
        refine WP.eff0 rfl rfl (Eff.storeK (f := fun i => (S i).cells) (f' := fun i => (setC S ((S ((S ((S z).p)).p)).r) 0 i).cells) rfl Ty.sc175 rfl rfl rfl huD (show 7 < 8 by decide) (by unfold setC; rw [upd_same]; rfl) (by unfold setC; exact cells_other)) ?_
        rintro _ _ rfl
        show WP _ _ _ _ _ _ _ (Sto (setC S ((S ((S ((S z).p)).p)).r) 0) D :: Blk s ZC 177 :: Blk tb [.pointer (some ⟨root, 0, none⟩), .int .i64 (cnt), .pointer (some ⟨s, 0, none⟩)] 180 :: Ens EL :: F)
        obtain ⟨S1, hS1⟩ : ∃ S1, S1 = setC S ((S ((S ((S z).p)).p)).r) 0 := ⟨_, rfl⟩
        rw [← hS1]
        have okS1 : Ok s EL D S1 := by rw [hS1]; exact (ok.setC)
        have k2 : (S1 z).p = (S z).p := (by rw [hS1]; exact (setC_p _ _ _ _).trans rfl)
        have k3 : (S1 ((S z).p)).p = (S ((S z).p)).p := (by rw [hS1]; exact (setC_p _ _ _ _).trans rfl)
        have k4 : (S1 ((S ((S z).p)).p)).l = (S ((S ((S z).p)).p)).l := (by rw [hS1]; exact (setC_l _ _ _ _).trans rfl)
        have k5 : (S1 ((S ((S z).p)).p)).r = (S ((S ((S z).p)).p)).r := (by rw [hS1]; exact (setC_r _ _ _ _).trans rfl)
        have k6 : (S1 ((S z).p)).l = (S ((S z).p)).l := (by rw [hS1]; exact (setC_l _ _ _ _).trans rfl)
        have k7 : (S1 ((S z).p)).r = (S ((S z).p)).r := (by rw [hS1]; exact (setC_r _ _ _ _).trans rfl)
        have k8 : (S1 ((S ((S ((S z).p)).p)).r)).c = 0 := by rw [hS1]; exact setC_same _ _ _
        refine WP.nil ?_
        refine Out.next ?_
        refine WPc.seq ?_
        refine WPc.region ?_
        refine WP.val rfl rfl rfl (Val.move rfl rfl) ?_
        refine WP.val rfl rfl rfl (Val.nilCheck rfl rfl) ?_
        refine WP.val rfl rfl rfl (Val.fieldAddr (j := 6) rfl Ty.fo177_4 rfl rfl) ?_
        refine WP.val rfl rfl rfl (Val.load (v := .pointer (some ⟨(S z).p, 0, none⟩)) rfl Ty.sc168 rfl (fun w h => sto_p (h.at 0 rfl) hz k2)) ?_
        refine WP.val rfl rfl rfl (Val.nilCheck rfl rfl) ?_
        refine WP.val rfl rfl rfl (Val.fieldAddr (j := 7) rfl Ty.fo177_5 rfl rfl) ?_
        refine WP.eff0 rfl rfl (Eff.storeK (f := fun i => (S1 i).cells) (f' := fun i => (setC S1 ((S z).p) 0 i).cells) rfl Ty.sc175 rfl rfl rfl hp (show 7 < 8 by decide) (by unfold setC; rw [upd_same]; rfl) (by unfold setC; exact cells_other)) ?_
        rintro _ _ rfl
        show WP _ _ _ _ _ _ _ (Sto (setC S1 ((S z).p) 0) D :: Blk s ZC 177 :: Blk tb [.pointer (some ⟨root, 0, none⟩), .int .i64 (cnt), .pointer (some ⟨s, 0, none⟩)] 180 :: Ens EL :: F)
        obtain ⟨S9, hS9⟩ : ∃ S9, S9 = setC S1 ((S z).p) 0 := ⟨_, rfl⟩
        rw [← hS9]
        have okS9 : Ok s EL D S9 := by rw [hS9]; exact (okS1.setC)
        have k10 : (S9 z).p = (S z).p := (by rw [hS9]; exact (setC_p _ _ _ _).trans k2)
        have k11 : (S9 ((S z).p)).p = (S ((S z).p)).p := (by rw [hS9]; exact (setC_p _ _ _ _).trans k3)
        have k12 : (S9 ((S ((S z).p)).p)).l = (S ((S ((S z).p)).p)).l := (by rw [hS9]; exact (setC_l _ _ _ _).trans k4)
        have k13 : (S9 ((S ((S z).p)).p)).r = (S ((S ((S z).p)).p)).r := (by rw [hS9]; exact (setC_r _ _ _ _).trans k5)
        have k14 : (S9 ((S z).p)).l = (S ((S z).p)).l := (by rw [hS9]; exact (setC_l _ _ _ _).trans k6)
        have k15 : (S9 ((S z).p)).r = (S ((S z).p)).r := (by rw [hS9]; exact (setC_r _ _ _ _).trans k7)
        have k16 : (S9 ((S z).p)).c = 0 := by rw [hS9]; exact setC_same _ _ _
        refine WP.nil ?_
        refine Out.next ?_
        refine WPc.seq ?_
        refine WPc.region ?_
        refine WP.val rfl rfl rfl (Val.move rfl rfl) ?_
        refine WP.val rfl rfl rfl (Val.nilCheck rfl rfl) ?_
        refine WP.val rfl rfl rfl (Val.fieldAddr (j := 6) rfl Ty.fo177_4 rfl rfl) ?_
        refine WP.val rfl rfl rfl (Val.load (v := .pointer (some ⟨(S z).p, 0, none⟩)) rfl Ty.sc168 rfl (fun w h => sto_p (h.at 0 rfl) hz k10)) ?_
        refine WP.val rfl rfl rfl (Val.nilCheck rfl rfl) ?_
        refine WP.val rfl rfl rfl (Val.fieldAddr (j := 6) rfl Ty.fo177_4 rfl rfl) ?_
        refine WP.val rfl rfl rfl (Val.load (v := .pointer (some ⟨(S ((S z).p)).p, 0, none⟩)) rfl Ty.sc168 rfl (fun w h => sto_p (h.at 0 rfl) hp k11)) ?_
        refine WP.val rfl rfl rfl (Val.nilCheck rfl rfl) ?_
        refine WP.val rfl rfl rfl (Val.fieldAddr (j := 7) rfl Ty.fo177_5 rfl rfl) ?_
        refine WP.eff0 rfl rfl (Eff.storeK (f := fun i => (S9 i).cells) (f' := fun i => (setC S9 ((S ((S z).p)).p) 1 i).cells) rfl Ty.sc175 rfl rfl rfl hgD (show 7 < 8 by decide) (by unfold setC; rw [upd_same]; rfl) (by unfold setC; exact cells_other)) ?_
        rintro _ _ rfl
        show WP _ _ _ _ _ _ _ (Sto (setC S9 ((S ((S z).p)).p) 1) D :: Blk s ZC 177 :: Blk tb [.pointer (some ⟨root, 0, none⟩), .int .i64 (cnt), .pointer (some ⟨s, 0, none⟩)] 180 :: Ens EL :: F)
        obtain ⟨S17, hS17⟩ : ∃ S17, S17 = setC S9 ((S ((S z).p)).p) 1 := ⟨_, rfl⟩
        rw [← hS17]
        have okS17 : Ok s EL D S17 := by rw [hS17]; exact (okS9.setC)
        have k18 : (S17 z).p = (S z).p := (by rw [hS17]; exact (setC_p _ _ _ _).trans k10)
        have k19 : (S17 ((S z).p)).p = (S ((S z).p)).p := (by rw [hS17]; exact (setC_p _ _ _ _).trans k11)
        have k20 : (S17 ((S ((S z).p)).p)).l = (S ((S ((S z).p)).p)).l := (by rw [hS17]; exact (setC_l _ _ _ _).trans k12)
        have k21 : (S17 ((S ((S z).p)).p)).r = (S ((S ((S z).p)).p)).r := (by rw [hS17]; exact (setC_r _ _ _ _).trans k13)
        have k22 : (S17 ((S z).p)).l = (S ((S z).p)).l := (by rw [hS17]; exact (setC_l _ _ _ _).trans k14)
        have k23 : (S17 ((S z).p)).r = (S ((S z).p)).r := (by rw [hS17]; exact (setC_r _ _ _ _).trans k15)
        have k24 : (S17 ((S ((S z).p)).p)).c = 1 := by rw [hS17]; exact setC_same _ _ _
        refine WP.nil ?_
        refine Out.next ?_
        refine WPc.region ?_
        refine WP.val rfl rfl rfl (Val.move rfl rfl) ?_
        refine WP.val rfl rfl rfl (Val.nilCheck rfl rfl) ?_
        refine WP.val rfl rfl rfl (Val.fieldAddr (j := 6) rfl Ty.fo177_4 rfl rfl) ?_
        refine WP.val rfl rfl rfl (Val.load (v := .pointer (some ⟨(S z).p, 0, none⟩)) rfl Ty.sc168 rfl (fun w h => sto_p (h.at 0 rfl) hz k18)) ?_
        refine WP.val rfl rfl rfl (Val.nilCheck rfl rfl) ?_
        refine WP.val rfl rfl rfl (Val.fieldAddr (j := 6) rfl Ty.fo177_4 rfl rfl) ?_
        refine WP.val rfl rfl rfl (Val.load (v := .pointer (some ⟨(S ((S z).p)).p, 0, none⟩)) rfl Ty.sc168 rfl (fun w h => sto_p (h.at 0 rfl) hp k19)) ?_
        refine WP.val rfl rfl rfl (Val.assign rfl rfl) ?_
        refine WP.nil ?_
        refine Out.block ?_
        have hstep : fxs s n S root z = _ := (fxs_l hside).trans (fxl_c hu)
        unfold fxCl at hstep
        rw [← hS1, ← hS9, ← hS17] at hstep
        rw [fx_yes hred, hstep] at hfx
        rw [hstep] at hfo
        refine Out.perm pl1 ?_
        refine Out.perm pl1 ?_
        refine Out.perm pl3 ?_
        refine Out.perm pl3 ?_
        refine Out.again ⟨S17, root, (S ((S z).p)).p, k⟩ ?_ ?_ ?_ ?_
        · exact ⟨hfx, okS17, hgD, hroot, hfo⟩
        · show k < k + 1; omega
        · exact (Sub.cons rfl (Sub.cons rfl Sub.nil))
        · exact (fun _ h => h)
      · skip
        have h3 : ¬ ((colr s S ((S ((S ((S z).p)).p)).r)) = (1 : Int)) := h3
        refine WPc.seq ?_
        refine WPc.seq ?_
        have hu : ¬ colr s S (S ((S ((S z).p)).p)).r = 1 := by assumption
        have hfb := hf.b hu
        refine WPc.region ?_
        refine WP.val rfl rfl rfl (Val.move rfl rfl) ?_
        refine WP.val rfl rfl rfl (Val.move rfl rfl) ?_
        refine WP.val rfl rfl rfl (Val.nilCheck rfl rfl) ?_
        refine WP.val rfl rfl rfl (Val.fieldAddr (j := 6) rfl Ty.fo177_4 rfl rfl) ?_
        refine WP.val rfl rfl rfl (Val.load (v := .pointer (some ⟨(S z).p, 0, none⟩)) rfl Ty.sc168 rfl (fun w h => sto_p (h.at 0 rfl) hz rfl)) ?_
        refine WP.val rfl rfl rfl (Val.nilCheck rfl rfl) ?_
        refine WP.val rfl rfl rfl (Val.fieldAddr (j := 5) rfl Ty.fo177_3 rfl rfl) ?_
        refine WP.val rfl rfl rfl (Val.load (v := .pointer (some ⟨(S ((S z).p)).r, 0, none⟩)) rfl Ty.sc168 rfl (fun w h => sto_r (h.at 0 rfl) hp rfl)) ?_
        refine WP.val rfl rfl rfl (Val.eqP (T1 := 177) (T2 := 177) rfl pn168 rfl rfl rfl rfl (fun w h => whole (h.at 0 rfl) (h.at 1 rfl) (.inr hz)) (fun w h => whole (h.at 0 rfl) (h.at 1 rfl) (Ok.r ok hp))) ?_
        refine WP.nil ?_
        refine Out.next ?_
        refine WPc.ifP rfl (fun h4 => ?_) (fun h4 => ?_)
        · skip
          have h4 : (z = (S ((S z).p)).r) := h4
          refine WPc.seq ?_
          have hin : z = (S ((S z).p)).r := by assumption
          rw [fxQl_y hin, fxZl_y hin] at hfb
          refine WPc.region ?_
          refine WP.val rfl rfl rfl (Val.move rfl rfl) ?_
          refine WP.val rfl rfl rfl (Val.nilCheck rfl rfl) ?_
          refine WP.val rfl rfl rfl (Val.fieldAddr (j := 6) rfl Ty.fo177_4 rfl rfl) ?_
          refine WP.val rfl rfl rfl (Val.load (v := .pointer (some ⟨(S z).p, 0, none⟩)) rfl Ty.sc168 rfl (fun w h => sto_p (h.at 0 rfl) hz rfl)) ?_
          refine WP.val rfl rfl rfl (Val.assign rfl rfl) ?_
          refine WP.nil ?_
          refine Out.next ?_
          refine WPc.region ?_
          refine WP.val rfl rfl rfl (Val.move rfl rfl) ?_
          refine WP.val rfl rfl rfl (Val.move rfl rfl) ?_
          refine WP.perm pl1 ?_
          refine WP.perm pl1 ?_
          refine WP.perm pl3 ?_
          refine WP.perm pl3 ?_
          refine WP.eff rfl rfl rfl (Eff.call rfl rfl Try.call160 (rl_does EL t0 hE s D ZC tb root cnt S ok hroot ((S z).p) n hp (fun h0 => hf.rot hu hin h0))) ?_
          rintro _ _ ⟨_, rfl, rfl⟩
          show WP _ _ _ _ _ _ _ (Blk tb [.pointer (some ⟨(rl s n S root ((S z).p)).2, 0, none⟩), .int .i64 (cnt), .pointer (some ⟨s, 0, none⟩)] 180 :: Ens EL :: Sto ((rl s n S root ((S z).p)).1) D :: Blk s ZC 177 :: F)
          obtain ⟨S25, hS25⟩ : ∃ S25, S25 = (rl s n S root ((S z).p)).1 := ⟨_, rfl⟩
          rw [← hS25]
          have okS25 : Ok s EL D S25 := by rw [hS25]; exact (rl_ok ok hp)
          refine WP.nil ?_
          refine Out.next ?_
          refine WPc.seq ?_
          rw [← hS25] at hfb
          have hp1 : (S25 ((S z).p)).p ∈ D := Is.mem (Ok.p okS25 hp) hfb.p
          have hg1 : (S25 ((S25 ((S z).p)).p)).p ∈ D := Is.mem (Ok.p okS25 hp1) hfb.g
          refine WPc.region ?_
          refine WP.val rfl rfl rfl (Val.move rfl rfl) ?_
          refine WP.val rfl rfl rfl (Val.nilCheck rfl rfl) ?_
          refine WP.val rfl rfl rfl (Val.fieldAddr (j := 6) rfl Ty.fo177_4 rfl rfl) ?_
          refine WP.val rfl rfl rfl (Val.load (v := .pointer (some ⟨(S25 ((S z).p)).p, 0, none⟩)) rfl Ty.sc168 rfl (fun w h => sto_p (h.at 2 rfl) hp rfl)) ?_
          refine WP.val rfl rfl rfl (Val.nilCheck rfl rfl) ?_
          refine WP.val rfl rfl rfl (Val.fieldAddr (j := 7) rfl Ty.fo177_5 rfl rfl) ?_
          refine WP.perm pl2 ?_
          refine WP.eff0 rfl rfl (Eff.storeK (f := fun i => (S25 i).cells) (f' := fun i => (setC S25 ((S25 ((S z).p)).p) 0 i).cells) rfl Ty.sc175 rfl rfl rfl hp1 (show 7 < 8 by decide) (by unfold setC; rw [upd_same]; rfl) (by unfold setC; exact cells_other)) ?_
          rintro _ _ rfl
          show WP _ _ _ _ _ _ _ (Sto (setC S25 ((S25 ((S z).p)).p) 0) D :: Blk tb [.pointer (some ⟨(rl s n S root ((S z).p)).2, 0, none⟩), .int .i64 (cnt), .pointer (some ⟨s, 0, none⟩)] 180 :: Ens EL :: Blk s ZC 177 :: F)
          obtain ⟨S26, hS26⟩ : ∃ S26, S26 = setC S25 ((S25 ((S z).p)).p) 0 := ⟨_, rfl⟩
          rw [← hS26]
          have okS26 : Ok s EL D S26 := by rw [hS26]; exact (okS25.setC)
          have k27 : (S26 ((S z).p)).p = (S25 ((S z).p)).p := (by rw [hS26]; exact (setC_p _ _ _ _).trans rfl)
          have k28 : (S26 ((S25 ((S z).p)).p)).p = (S25 ((S25 ((S z).p)).p)).p := (by rw [hS26]; exact (setC_p _ _ _ _).trans rfl)
          have k29 : (S26 ((S25 ((S25 ((S z).p)).p)).p)).p = (S25 ((S25 ((S25 ((S z).p)).p)).p)).p := (by rw [hS26]; exact (setC_p _ _ _ _).trans rfl)
          have k30 : (S26 ((S25 ((S z).p)).p)).c = 0 := by rw [hS26]; exact setC_same _ _ _
          refine WP.nil ?_
          refine Out.next ?_
          refine WPc.seq ?_
          refine WPc.region ?_
          refine WP.val rfl rfl rfl (Val.move rfl rfl) ?_
          refine WP.val rfl rfl rfl (Val.nilCheck rfl rfl) ?_
          refine WP.val rfl rfl rfl (Val.fieldAddr (j := 6) rfl Ty.fo177_4 rfl rfl) ?_
          refine WP.val rfl rfl rfl (Val.load (v := .pointer (some ⟨(S25 ((S z).p)).p, 0, none⟩)) rfl Ty.sc168 rfl (fun w h => sto_p (h.at 0 rfl) hp k27)) ?_
          refine WP.val rfl rfl rfl (Val.nilCheck rfl rfl) ?_
          refine WP.val rfl rfl rfl (Val.fieldAddr (j := 6) rfl Ty.fo177_4 rfl rfl) ?_
          refine WP.val rfl rfl rfl (Val.load (v := .pointer (some ⟨(S25 ((S25 ((S z).p)).p)).p, 0, none⟩)) rfl Ty.sc168 rfl (fun w h => sto_p (h.at 0 rfl) hp1 k28)) ?_
          refine WP.val rfl rfl rfl (Val.nilCheck rfl rfl) ?_
          refine WP.val rfl rfl rfl (Val.fieldAddr (j := 7) rfl Ty.fo177_5 rfl rfl) ?_
          refine WP.eff0 rfl rfl (Eff.storeK (f := fun i => (S26 i).cells) (f' := fun i => (setC S26 ((S25 ((S25 ((S z).p)).p)).p) 1 i).cells) rfl Ty.sc175 rfl rfl rfl hg1 (show 7 < 8 by decide) (by unfold setC; rw [upd_same]; rfl) (by unfold setC; exact cells_other)) ?_
          rintro _ _ rfl
          show WP _ _ _ _ _ _ _ (Sto (setC S26 ((S25 ((S25 ((S z).p)).p)).p) 1) D :: Blk tb [.pointer (some ⟨(rl s n S root ((S z).p)).2, 0, none⟩), .int .i64 (cnt), .pointer (some ⟨s, 0, none⟩)] 180 :: Ens EL :: Blk s ZC 177 :: F)
          obtain ⟨S31, hS31⟩ : ∃ S31, S31 = setC S26 ((S25 ((S25 ((S z).p)).p)).p) 1 := ⟨_, rfl⟩
          rw [← hS31]
          have okS31 : Ok s EL D S31 := by rw [hS31]; exact (okS26.setC)
          have k32 : (S31 ((S z).p)).p = (S25 ((S z).p)).p := (by rw [hS31]; exact (setC_p _ _ _ _).trans k27)
          have k33 : (S31 ((S25 ((S z).p)).p)).p = (S25 ((S25 ((S z).p)).p)).p := (by rw [hS31]; exact (setC_p _ _ _ _).trans k28)
          have k34 : (S31 ((S25 ((S25 ((S z).p)).p)).p)).p = (S25 ((S25 ((S25 ((S z).p)).p)).p)).p := (by rw [hS31]; exact (setC_p _ _ _ _).trans k29)
          have k35 : (S31 ((S25 ((S25 ((S z).p)).p)).p)).c = 1 := by rw [hS31]; exact setC_same _ _ _
          refine WP.nil ?_
          refine Out.next ?_
          refine WPc.region ?_
          refine WP.val rfl rfl rfl (Val.move rfl rfl) ?_
          refine WP.val rfl rfl rfl (Val.move rfl rfl) ?_
          refine WP.val rfl rfl rfl (Val.nilCheck rfl rfl) ?_
          refine WP.val rfl rfl rfl (Val.fieldAddr (j := 6) rfl Ty.fo177_4 rfl rfl) ?_
          refine WP.val rfl rfl rfl (Val.load (v := .pointer (some ⟨(S25 ((S z).p)).p, 0, none⟩)) rfl Ty.sc168 rfl (fun w h => sto_p (h.at 0 rfl) hp k32)) ?_
          refine WP.val rfl rfl rfl (Val.nilCheck rfl rfl) ?_
          refine WP.val rfl rfl rfl (Val.fieldAddr (j := 6) rfl Ty.fo177_4 rfl rfl) ?_
          refine WP.val rfl rfl rfl (Val.load (v := .pointer (some ⟨(S25 ((S25 ((S z).p)).p)).p, 0, none⟩)) rfl Ty.sc168 rfl (fun w h => sto_p (h.at 0 rfl) hp1 k33)) ?_
          refine WP.perm pl3 ?_
          refine WP.perm pl1 ?_
          refine WP.perm pl3 ?_
          refine WP.perm pl3 ?_
          refine WP.eff rfl rfl rfl (Eff.call rfl rfl Try.call161 (rr_does EL t0 hE s D ZC tb ((rl s n S root ((S z).p)).2) cnt S31 okS31 (rl_root ok hp hroot) ((S25 ((S25 ((S z).p)).p)).p) n hg1 (fun h0 => by have h1 := hfb.ok; unfold fx3 at h1; rw [← hS26, ← hS31] at h1; exact h1 h0))) ?_
          rintro _ _ ⟨_, rfl, rfl⟩
          show WP _ _ _ _ _ _ _ (Blk tb [.pointer (some ⟨(rr s n S31 ((rl s n S root ((S z).p)).2) ((S25 ((S25 ((S z).p)).p)).p)).2, 0, none⟩), .int .i64 (cnt), .pointer (some ⟨s, 0, none⟩)] 180 :: Ens EL :: Sto ((rr s n S31 ((rl s n S root ((S z).p)).2) ((S25 ((S25 ((S z).p)).p)).p)).1) D :: Blk s ZC 177 :: F)
          obtain ⟨S36, hS36⟩ : ∃ S36, S36 = (rr s n S31 ((rl s n S root ((S z).p)).2) ((S25 ((S25 ((S z).p)).p)).p)).1 := ⟨_, rfl⟩
          rw [← hS36]
          have okS36 : Ok s EL D S36 := by rw [hS36]; exact (rr_ok okS31 hg1)
          refine WP.nil ?_
          refine Out.block ?_
          have hstep : fxs s n S root z = _ := (fxs_l hside).trans (fxl_b hu)
          rw [fxQl_y hin, fxZl_y hin] at hstep
          unfold fxBl fx3 at hstep
          rw [← hS25, ← hS26, ← hS31, ← hS36] at hstep
          rw [fx_yes hred, hstep] at hfx
          rw [hstep] at hfo
          refine Out.again ⟨S36, (rr s n S31 ((rl s n S root ((S z).p)).2) ((S25 ((S25 ((S z).p)).p)).p)).2, (S z).p, k⟩ ?_ ?_ ?_ ?_
          · exact ⟨hfx, okS36, hp, (rr_root okS31 hg1 (rl_root ok hp hroot)), hfo⟩
          · show k < k + 1; omega
          · exact (Sub.cons rfl (Sub.cons rfl Sub.nil))
          · exact (fun _ h => h)
        · skip
          have h4 : ¬ (z = (S ((S z).p)).r) := h4
          refine WPc.skip ?_
          refine Out.next ?_
          refine WPc.seq ?_
          have hin : ¬ z = (S ((S z).p)).r := by assumption
          rw [fxQl_n hin, fxZl_n hin] at hfb
          have hp1 : (S z).p ∈ D := Is.mem (Ok.p ok hz) hfb.p
          have hg1 : (S ((S z).p)).p ∈ D := Is.mem (Ok.p ok hp1) hfb.g
          refine WPc.region ?_
          refine WP.val rfl rfl rfl (Val.move rfl rfl) ?_
          refine WP.val rfl rfl rfl (Val.nilCheck rfl rfl) ?_
          refine WP.val rfl rfl rfl (Val.fieldAddr (j := 6) rfl Ty.fo177_4 rfl rfl) ?_
          refine WP.val rfl rfl rfl (Val.load (v := .pointer (some ⟨(S z).p, 0, none⟩)) rfl Ty.sc168 rfl (fun w h => sto_p (h.at 0 rfl) hz rfl)) ?_
          refine WP.val rfl rfl rfl (Val.nilCheck rfl rfl) ?_
          refine WP.val rfl rfl rfl (Val.fieldAddr (j := 7) rfl Ty.fo177_5 rfl rfl) ?_
          refine WP.eff0 rfl rfl (Eff.storeK (f := fun i => (S i).cells) (f' := fun i => (setC S ((S z).p) 0 i).cells) rfl Ty.sc175 rfl rfl rfl hp1 (show 7 < 8 by decide) (by unfold setC; rw [upd_same]; rfl) (by unfold setC; exact cells_other)) ?_
          rintro _ _ rfl
          show WP _ _ _ _ _ _ _ (Sto (setC S ((S z).p) 0) D :: Blk s ZC 177 :: Blk tb [.pointer (some ⟨root, 0, none⟩), .int .i64 (cnt), .pointer (some ⟨s, 0, none⟩)] 180 :: Ens EL :: F)
          obtain ⟨S37, hS37⟩ : ∃ S37, S37 = setC S ((S z).p) 0 := ⟨_, rfl⟩
          rw [← hS37]
          have okS37 : Ok s EL D S37 := by rw [hS37]; exact (ok.setC)
          have k38 : (S37 z).p = (S z).p := (by rw [hS37]; exact (setC_p _ _ _ _).trans rfl)
          have k39 : (S37 ((S z).p)).p = (S ((S z).p)).p := (by rw [hS37]; exact (setC_p _ _ _ _).trans rfl)
          have k40 : (S37 ((S ((S z).p)).p)).l = (S ((S ((S z).p)).p)).l := (by rw [hS37]; exact (setC_l _ _ _ _).trans rfl)
          have k41 : (S37 ((S ((S z).p)).p)).r = (S ((S ((S z).p)).p)).r := (by rw [hS37]; exact (setC_r _ _ _ _).trans rfl)
          have k42 : (S37 ((S z).p)).l = (S ((S z).p)).l := (by rw [hS37]; exact (setC_l _ _ _ _).trans rfl)
          have k43 : (S37 ((S z).p)).r = (S ((S z).p)).r := (by rw [hS37]; exact (setC_r _ _ _ _).trans rfl)
          have k44 : (S37 ((S ((S z).p)).p)).p = (S ((S ((S z).p)).p)).p := (by rw [hS37]; exact (setC_p _ _ _ _).trans rfl)
          have k45 : (S37 ((S z).p)).c = 0 := by rw [hS37]; exact setC_same _ _ _
          refine WP.nil ?_
          refine Out.next ?_
          refine WPc.seq ?_
          refine WPc.region ?_
          refine WP.val rfl rfl rfl (Val.move rfl rfl) ?_
          refine WP.val rfl rfl rfl (Val.nilCheck rfl rfl) ?_
          refine WP.val rfl rfl rfl (Val.fieldAddr (j := 6) rfl Ty.fo177_4 rfl rfl) ?_
          refine WP.val rfl rfl rfl (Val.load (v := .pointer (some ⟨(S z).p, 0, none⟩)) rfl Ty.sc168 rfl (fun w h => sto_p (h.at 0 rfl) hz k38)) ?_
          refine WP.val rfl rfl rfl (Val.nilCheck rfl rfl) ?_
          refine WP.val rfl rfl rfl (Val.fieldAddr (j := 6) rfl Ty.fo177_4 rfl rfl) ?_
          refine WP.val rfl rfl rfl (Val.load (v := .pointer (some ⟨(S ((S z).p)).p, 0, none⟩)) rfl Ty.sc168 rfl (fun w h => sto_p (h.at 0 rfl) hp1 k39)) ?_
          refine WP.val rfl rfl rfl (Val.nilCheck rfl rfl) ?_
          refine WP.val rfl rfl rfl (Val.fieldAddr (j := 7) rfl Ty.fo177_5 rfl rfl) ?_
          refine WP.eff0 rfl rfl (Eff.storeK (f := fun i => (S37 i).cells) (f' := fun i => (setC S37 ((S ((S z).p)).p) 1 i).cells) rfl Ty.sc175 rfl rfl rfl hg1 (show 7 < 8 by decide) (by unfold setC; rw [upd_same]; rfl) (by unfold setC; exact cells_other)) ?_
          rintro _ _ rfl
          show WP _ _ _ _ _ _ _ (Sto (setC S37 ((S ((S z).p)).p) 1) D :: Blk s ZC 177 :: Blk tb [.pointer (some ⟨root, 0, none⟩), .int .i64 (cnt), .pointer (some ⟨s, 0, none⟩)] 180 :: Ens EL :: F)
          obtain ⟨S46, hS46⟩ : ∃ S46, S46 = setC S37 ((S ((S z).p)).p) 1 := ⟨_, rfl⟩
          rw [← hS46]
          have okS46 : Ok s EL D S46 := by rw [hS46]; exact (okS37.setC)
          have k47 : (S46 z).p = (S z).p := (by rw [hS46]; exact (setC_p _ _ _ _).trans k38)
          have k48 : (S46 ((S z).p)).p = (S ((S z).p)).p := (by rw [hS46]; exact (setC_p _ _ _ _).trans k39)
          have k49 : (S46 ((S ((S z).p)).p)).l = (S ((S ((S z).p)).p)).l := (by rw [hS46]; exact (setC_l _ _ _ _).trans k40)
          have k50 : (S46 ((S ((S z).p)).p)).r = (S ((S ((S z).p)).p)).r := (by rw [hS46]; exact (setC_r _ _ _ _).trans k41)
          have k51 : (S46 ((S z).p)).l = (S ((S z).p)).l := (by rw [hS46]; exact (setC_l _ _ _ _).trans k42)
          have k52 : (S46 ((S z).p)).r = (S ((S z).p)).r := (by rw [hS46]; exact (setC_r _ _ _ _).trans k43)
          have k53 : (S46 ((S ((S z).p)).p)).p = (S ((S ((S z).p)).p)).p := (by rw [hS46]; exact (setC_p _ _ _ _).trans k44)
          have k54 : (S46 ((S ((S z).p)).p)).c = 1 := by rw [hS46]; exact setC_same _ _ _
          refine WP.nil ?_
          refine Out.next ?_
          refine WPc.region ?_
          refine WP.val rfl rfl rfl (Val.move rfl rfl) ?_
          refine WP.val rfl rfl rfl (Val.move rfl rfl) ?_
          refine WP.val rfl rfl rfl (Val.nilCheck rfl rfl) ?_
          refine WP.val rfl rfl rfl (Val.fieldAddr (j := 6) rfl Ty.fo177_4 rfl rfl) ?_
          refine WP.val rfl rfl rfl (Val.load (v := .pointer (some ⟨(S z).p, 0, none⟩)) rfl Ty.sc168 rfl (fun w h => sto_p (h.at 0 rfl) hz k47)) ?_
          refine WP.val rfl rfl rfl (Val.nilCheck rfl rfl) ?_
          refine WP.val rfl rfl rfl (Val.fieldAddr (j := 6) rfl Ty.fo177_4 rfl rfl) ?_
          refine WP.val rfl rfl rfl (Val.load (v := .pointer (some ⟨(S ((S z).p)).p, 0, none⟩)) rfl Ty.sc168 rfl (fun w h => sto_p (h.at 0 rfl) hp1 k48)) ?_
          refine WP.perm pl1 ?_
          refine WP.perm pl1 ?_
          refine WP.perm pl3 ?_
          refine WP.perm pl3 ?_
          refine WP.eff rfl rfl rfl (Eff.call rfl rfl Try.call161 (rr_does EL t0 hE s D ZC tb root cnt S46 okS46 hroot ((S ((S z).p)).p) n hg1 (fun h0 => by have h1 := hfb.ok; unfold fx3 at h1; rw [← hS37, ← hS46] at h1; exact h1 h0))) ?_
          rintro _ _ ⟨_, rfl, rfl⟩
          show WP _ _ _ _ _ _ _ (Blk tb [.pointer (some ⟨(rr s n S46 root ((S ((S z).p)).p)).2, 0, none⟩), .int .i64 (cnt), .pointer (some ⟨s, 0, none⟩)] 180 :: Ens EL :: Sto ((rr s n S46 root ((S ((S z).p)).p)).1) D :: Blk s ZC 177 :: F)
          obtain ⟨S55, hS55⟩ : ∃ S55, S55 = (rr s n S46 root ((S ((S z).p)).p)).1 := ⟨_, rfl⟩
          rw [← hS55]
          have okS55 : Ok s EL D S55 := by rw [hS55]; exact (rr_ok okS46 hg1)
          refine WP.nil ?_
          refine Out.block ?_
          have hstep : fxs s n S root z = _ := (fxs_l hside).trans (fxl_b hu)
          rw [fxQl_n hin, fxZl_n hin] at hstep
          unfold fxBl fx3 at hstep
          dsimp only at hstep
          rw [← hS37, ← hS46, ← hS55] at hstep
          rw [fx_yes hred, hstep] at hfx
          rw [hstep] at hfo
          refine Out.again ⟨S55, (rr s n S46 root ((S ((S z).p)).p)).2, z, k⟩ ?_ ?_ ?_ ?_
          · exact ⟨hfx, okS55, hz, (rr_root okS46 hg1 hroot), hfo⟩
          · show k < k + 1; omega
          · exact (Sub.cons rfl (Sub.cons rfl Sub.nil))
          · exact (fun _ h => h)
    · skip
      have h2 : ¬ ((S z).p = (S ((S ((S z).p)).p)).l) := h2
      refine WPc.seq ?_
      have hside : ¬ (S z).p = (S ((S ((S z).p)).p)).l := by assumption
      have hf := hfr hside
      refine WPc.region ?_
      refine WP.val rfl rfl rfl (Val.move rfl rfl) ?_
      refine WP.val rfl rfl rfl (Val.nilCheck rfl rfl) ?_
      refine WP.val rfl rfl rfl (Val.fieldAddr (j := 6) rfl Ty.fo177_4 rfl rfl) ?_
      refine WP.val rfl rfl rfl (Val.load (v := .pointer (some ⟨(S z).p, 0, none⟩)) rfl Ty.sc168 rfl (fun w h => sto_p (h.at 0 rfl) hz rfl)) ?_
      refine WP.val rfl rfl rfl (Val.nilCheck rfl rfl) ?_
      refine WP.val rfl rfl rfl (Val.fieldAddr (j := 6) rfl Ty.fo177_4 rfl rfl) ?_
      refine WP.val rfl rfl rfl (Val.load (v := .pointer (some ⟨(S ((S z).p)).p, 0, none⟩)) rfl Ty.sc168 rfl (fun w h => sto_p (h.at 0 rfl) hp rfl)) ?_
      refine WP.val rfl rfl rfl (Val.nilCheck rfl rfl) ?_
      refine WP.val rfl rfl rfl (Val.fieldAddr (j := 4) rfl Ty.fo177_2 rfl rfl) ?_
      refine WP.val rfl rfl rfl (Val.load (v := .pointer (some ⟨(S ((S ((S z).p)).p)).l, 0, none⟩)) rfl Ty.sc168 rfl (fun w h => sto_l (h.at 0 rfl) hgD rfl)) ?_
      refine WP.val rfl rfl rfl (Val.assign rfl rfl) ?_
      refine WP.nil ?_
      refine Out.next ?_
      refine WPc.seq ?_
      refine WPc.region ?_
      refine WP.val rfl rfl rfl (Val.move rfl rfl) ?_
      refine WP.val rfl rfl rfl (Val.move rfl rfl) ?_
      refine WP.val rfl rfl rfl (Val.nilCheck rfl rfl) ?_
      refine WP.val rfl rfl rfl (Val.fieldAddr (j := 2) rfl Ty.fo180_2 rfl rfl) ?_
      refine WP.val rfl rfl rfl (Val.load rfl Ty.sc168 rfl (fun w h => h.cell 2 rfl rfl)) ?_
      refine WP.perm pl1 ?_
      refine WP.perm pl1 ?_
      refine WP.eff rfl rfl rfl (Eff.call rfl rfl Try.call148 (color_does EL s D ZC S ok ((S ((S ((S z).p)).p)).l) (Ok.l ok hgD))) ?_
      rintro _ _ ⟨_, ⟨rfl, rfl⟩, rfl⟩
      show WP _ _ _ _ _ _ _ (Sto S D :: Blk s ZC 177 :: Blk tb [.pointer (some ⟨root, 0, none⟩), .int .i64 (cnt), .pointer (some ⟨s, 0, none⟩)] 180 :: Ens EL :: F)
      refine WP.val rfl rfl rfl (Val.eql rfl rfl rfl) ?_
      refine WP.nil ?_
      refine Out.next ?_
      refine WPc.ifP rfl (fun h5 => ?_) (fun h5 => ?_)
      · skip
        have h5 : ((colr s S ((S ((S ((S z).p)).p)).l)) = (1 : Int)) := h5
        refine WPc.seq ?_
        have hu : colr s S (S ((S ((S z).p)).p)).l = 1 := by assumption
        have huD : (S ((S ((S z).p)).p)).l ∈ D := Is.mem (Ok.l ok hgD) (colr_ne hu)
        refine WPc.region ?_
        refine WP.val rfl rfl rfl (Val.move rfl rfl) ?_
        refine WP.val rfl rfl rfl (Val.nilCheck rfl rfl) ?_
        refine WP.val rfl rfl rfl (Val.fieldAddr (j := 7) rfl Ty.fo177_5 rfl rfl) ?_
        refine WP.eff0 rfl rfl (Eff.storeK (f := fun i => (S i).cells) (f' := fun i => (setC S ((S ((S ((S z).p)).p)).l) 0 i).cells) rfl Ty.sc175 rfl rfl rfl huD (show 7 < 8 by decide) (by unfold setC; rw [upd_same]; rfl) (by unfold setC; exact cells_other)) ?_
        rintro _ _ rfl
        show WP _ _ _ _ _ _ _ (Sto (setC S ((S ((S ((S z).p)).p)).l) 0) D :: Blk s ZC 177 :: Blk tb [.pointer (some ⟨root, 0, none⟩), .int .i64 (cnt), .pointer (some ⟨s, 0, none⟩)] 180 :: Ens EL :: F)
        obtain ⟨S56, hS56⟩ : ∃ S56, S56 = setC S ((S ((S ((S z).p)).p)).l) 0 := ⟨_, rfl⟩
        rw [← hS56]
        have okS56 : Ok s EL D S56 := by rw [hS56]; exact (ok.setC)
        have k57 : (S56 z).p = (S z).p := (by rw [hS56]; exact (setC_p _ _ _ _).trans rfl)
        have k58 : (S56 ((S z).p)).p = (S ((S z).p)).p := (by rw [hS56]; exact (setC_p _ _ _ _).trans rfl)
        have k59 : (S56 ((S ((S z).p)).p)).l = (S ((S ((S z).p)).p)).l := (by rw [hS56]; exact (setC_l _ _ _ _).trans rfl)
        have k60 : (S56 ((S ((S z).p)).p)).r = (S ((S ((S z).p)).p)).r := (by rw [hS56]; exact (setC_r _ _ _ _).trans rfl)
        have k61 : (S56 ((S z).p)).l = (S ((S z).p)).l := (by rw [hS56]; exact (setC_l _ _ _ _).trans rfl)
        have k62 : (S56 ((S z).p)).r = (S ((S z).p)).r := (by rw [hS56]; exact (setC_r _ _ _ _).trans rfl)
        have k63 : (S56 ((S ((S ((S z).p)).p)).l)).c = 0 := by rw [hS56]; exact setC_same _ _ _
        refine WP.nil ?_
        refine Out.next ?_
        refine WPc.seq ?_
        refine WPc.region ?_
        refine WP.val rfl rfl rfl (Val.move rfl rfl) ?_
        refine WP.val rfl rfl rfl (Val.nilCheck rfl rfl) ?_
        refine WP.val rfl rfl rfl (Val.fieldAddr (j := 6) rfl Ty.fo177_4 rfl rfl) ?_
        refine WP.val rfl rfl rfl (Val.load (v := .pointer (some ⟨(S z).p, 0, none⟩)) rfl Ty.sc168 rfl (fun w h => sto_p (h.at 0 rfl) hz k57)) ?_
        refine WP.val rfl rfl rfl (Val.nilCheck rfl rfl) ?_
        refine WP.val rfl rfl rfl (Val.fieldAddr (j := 7) rfl Ty.fo177_5 rfl rfl) ?_
        refine WP.eff0 rfl rfl (Eff.storeK (f := fun i => (S56 i).cells) (f' := fun i => (setC S56 ((S z).p) 0 i).cells) rfl Ty.sc175 rfl rfl rfl hp (show 7 < 8 by decide) (by unfold setC; rw [upd_same]; rfl) (by unfold setC; exact cells_other)) ?_
        rintro _ _ rfl
        show WP _ _ _ _ _ _ _ (Sto (setC S56 ((S z).p) 0) D :: Blk s ZC 177 :: Blk tb [.pointer (some ⟨root, 0, none⟩), .int .i64 (cnt), .pointer (some ⟨s, 0, none⟩)] 180 :: Ens EL :: F)
        obtain ⟨S64, hS64⟩ : ∃ S64, S64 = setC S56 ((S z).p) 0 := ⟨_, rfl⟩
        rw [← hS64]
        have okS64 : Ok s EL D S64 := by rw [hS64]; exact (okS56.setC)
        have k65 : (S64 z).p = (S z).p := (by rw [hS64]; exact (setC_p _ _ _ _).trans k57)
        have k66 : (S64 ((S z).p)).p = (S ((S z).p)).p := (by rw [hS64]; exact (setC_p _ _ _ _).trans k58)
        have k67 : (S64 ((S ((S z).p)).p)).l = (S ((S ((S z).p)).p)).l := (by rw [hS64]; exact (setC_l _ _ _ _).trans k59)
        have k68 : (S64 ((S ((S z).p)).p)).r = (S ((S ((S z).p)).p)).r := (by rw [hS64]; exact (setC_r _ _ _ _).trans k60)
        have k69 : (S64 ((S z).p)).l = (S ((S z).p)).l := (by rw [hS64]; exact (setC_l _ _ _ _).trans k61)
        have k70 : (S64 ((S z).p)).r = (S ((S z).p)).r := (by rw [hS64]; exact (setC_r _ _ _ _).trans k62)
        have k71 : (S64 ((S z).p)).c = 0 := by rw [hS64]; exact setC_same _ _ _
        refine WP.nil ?_
        refine Out.next ?_
        refine WPc.seq ?_
        refine WPc.region ?_
        refine WP.val rfl rfl rfl (Val.move rfl rfl) ?_
        refine WP.val rfl rfl rfl (Val.nilCheck rfl rfl) ?_
        refine WP.val rfl rfl rfl (Val.fieldAddr (j := 6) rfl Ty.fo177_4 rfl rfl) ?_
        refine WP.val rfl rfl rfl (Val.load (v := .pointer (some ⟨(S z).p, 0, none⟩)) rfl Ty.sc168 rfl (fun w h => sto_p (h.at 0 rfl) hz k65)) ?_
        refine WP.val rfl rfl rfl (Val.nilCheck rfl rfl) ?_
        refine WP.val rfl rfl rfl (Val.fieldAddr (j := 6) rfl Ty.fo177_4 rfl rfl) ?_
        refine WP.val rfl rfl rfl (Val.load (v := .pointer (some ⟨(S ((S z).p)).p, 0, none⟩)) rfl Ty.sc168 rfl (fun w h => sto_p (h.at 0 rfl) hp k66)) ?_
        refine WP.val rfl rfl rfl (Val.nilCheck rfl rfl) ?_
        refine WP.val rfl rfl rfl (Val.fieldAddr (j := 7) rfl Ty.fo177_5 rfl rfl) ?_
        refine WP.eff0 rfl rfl (Eff.storeK (f := fun i => (S64 i).cells) (f' := fun i => (setC S64 ((S ((S z).p)).p) 1 i).cells) rfl Ty.sc175 rfl rfl rfl hgD (show 7 < 8 by decide) (by unfold setC; rw [upd_same]; rfl) (by unfold setC; exact cells_other)) ?_
        rintro _ _ rfl
        show WP _ _ _ _ _ _ _ (Sto (setC S64 ((S ((S z).p)).p) 1) D :: Blk s ZC 177 :: Blk tb [.pointer (some ⟨root, 0, none⟩), .int .i64 (cnt), .pointer (some ⟨s, 0, none⟩)] 180 :: Ens EL :: F)
        obtain ⟨S72, hS72⟩ : ∃ S72, S72 = setC S64 ((S ((S z).p)).p) 1 := ⟨_, rfl⟩
        rw [← hS72]
        have okS72 : Ok s EL D S72 := by rw [hS72]; exact (okS64.setC)
        have k73 : (S72 z).p = (S z).p := (by rw [hS72]; exact (setC_p _ _ _ _).trans k65)
        have k74 : (S72 ((S z).p)).p = (S ((S z).p)).p := (by rw [hS72]; exact (setC_p _ _ _ _).trans k66)
        have k75 : (S72 ((S ((S z).p)).p)).l = (S ((S ((S z).p)).p)).l := (by rw [hS72]; exact (setC_l _ _ _ _).trans k67)
        have k76 : (S72 ((S ((S z).p)).p)).r = (S ((S ((S z).p)).p)).r := (by rw [hS72]; exact (setC_r _ _ _ _).trans k68)
        have k77 : (S72 ((S z).p)).l = (S ((S z).p)).l := (by rw [hS72]; exact (setC_l _ _ _ _).trans k69)
        have k78 : (S72 ((S z).p)).r = (S ((S z).p)).r := (by rw [hS72]; exact (setC_r _ _ _ _).trans k70)
        have k79 : (S72 ((S ((S z).p)).p)).c = 1 := by rw [hS72]; exact setC_same _ _ _
        refine WP.nil ?_
        refine Out.next ?_
        refine WPc.region ?_
        refine WP.val rfl rfl rfl (Val.move rfl rfl) ?_
        refine WP.val rfl rfl rfl (Val.nilCheck rfl rfl) ?_
        refine WP.val rfl rfl rfl (Val.fieldAddr (j := 6) rfl Ty.fo177_4 rfl rfl) ?_
        refine WP.val rfl rfl rfl (Val.load (v := .pointer (some ⟨(S z).p, 0, none⟩)) rfl Ty.sc168 rfl (fun w h => sto_p (h.at 0 rfl) hz k73)) ?_
        refine WP.val rfl rfl rfl (Val.nilCheck rfl rfl) ?_
        refine WP.val rfl rfl rfl (Val.fieldAddr (j := 6) rfl Ty.fo177_4 rfl rfl) ?_
        refine WP.val rfl rfl rfl (Val.load (v := .pointer (some ⟨(S ((S z).p)).p, 0, none⟩)) rfl Ty.sc168 rfl (fun w h => sto_p (h.at 0 rfl) hp k74)) ?_
        refine WP.val rfl rfl rfl (Val.assign rfl rfl) ?_
        refine WP.nil ?_
        refine Out.block ?_
        have hstep : fxs s n S root z = _ := (fxs_r hside).trans (fxr_c hu)
        unfold fxCr at hstep
        rw [← hS56, ← hS64, ← hS72] at hstep
        rw [fx_yes hred, hstep] at hfx
        rw [hstep] at hfo
        refine Out.perm pl1 ?_
        refine Out.perm pl1 ?_
        refine Out.perm pl3 ?_
        refine Out.perm pl3 ?_
        refine Out.again ⟨S72, root, (S ((S z).p)).p, k⟩ ?_ ?_ ?_ ?_
        · exact ⟨hfx, okS72, hgD, hroot, hfo⟩
        · show k < k + 1; omega
        · exact (Sub.cons rfl (Sub.cons rfl Sub.nil))
        · exact (fun _ h => h)
      · skip
        have h5 : ¬ ((colr s S ((S ((S ((S z).p)).p)).l)) = (1 : Int)) := h5
        refine WPc.seq ?_
        refine WPc.seq ?_
        have hu : ¬ colr s S (S ((S ((S z).p)).p)).l = 1 := by assumption
        have hfb := hf.b hu
        refine WPc.region ?_
        refine WP.val rfl rfl rfl (Val.move rfl rfl) ?_
        refine WP.val rfl rfl rfl (Val.move rfl rfl) ?_
        refine WP.val rfl rfl rfl (Val.nilCheck rfl rfl) ?_
        refine WP.val rfl rfl rfl (Val.fieldAddr (j := 6) rfl Ty.fo177_4 rfl rfl) ?_
        refine WP.val rfl rfl rfl (Val.load (v := .pointer (some ⟨(S z).p, 0, none⟩)) rfl Ty.sc168 rfl (fun w h => sto_p (h.at 0 rfl) hz rfl)) ?_
        refine WP.val rfl rfl rfl (Val.nilCheck rfl rfl) ?_
        refine WP.val rfl rfl rfl (Val.fieldAddr (j := 4) rfl Ty.fo177_2 rfl rfl) ?_
        refine WP.val rfl rfl rfl (Val.load (v := .pointer (some ⟨(S ((S z).p)).l, 0, none⟩)) rfl Ty.sc168 rfl (fun w h => sto_l (h.at 0 rfl) hp rfl)) ?_
        refine WP.val rfl rfl rfl (Val.eqP (T1 := 177) (T2 := 177) rfl pn168 rfl rfl rfl rfl (fun w h => whole (h.at 0 rfl) (h.at 1 rfl) (.inr hz)) (fun w h => whole (h.at 0 rfl) (h.at 1 rfl) (Ok.l ok hp))) ?_
        refine WP.nil ?_
        refine Out.next ?_
        refine WPc.ifP rfl (fun h6 => ?_) (fun h6 => ?_)
        · skip
          have h6 : (z = (S ((S z).p)).l) := h6
          refine WPc.seq ?_
          have hin : z = (S ((S z).p)).l := by assumption
          rw [fxQr_y hin, fxZr_y hin] at hfb
          refine WPc.region ?_
          refine WP.val rfl rfl rfl (Val.move rfl rfl) ?_
          refine WP.val rfl rfl rfl (Val.nilCheck rfl rfl) ?_
          refine WP.val rfl rfl rfl (Val.fieldAddr (j := 6) rfl Ty.fo177_4 rfl rfl) ?_
          refine WP.val rfl rfl rfl (Val.load (v := .pointer (some ⟨(S z).p, 0, none⟩)) rfl Ty.sc168 rfl (fun w h => sto_p (h.at 0 rfl) hz rfl)) ?_
          refine WP.val rfl rfl rfl (Val.assign rfl rfl) ?_
          refine WP.nil ?_
          refine Out.next ?_
          refine WPc.region ?_
          refine WP.val rfl rfl rfl (Val.move rfl rfl) ?_
          refine WP.val rfl rfl rfl (Val.move rfl rfl) ?_
          refine WP.perm pl1 ?_
          refine WP.perm pl1 ?_
          refine WP.perm pl3 ?_
          refine WP.perm pl3 ?_
          refine WP.eff rfl rfl rfl (Eff.call rfl rfl Try.call161 (rr_does EL t0 hE s D ZC tb root cnt S ok hroot ((S z).p) n hp (fun h0 => hf.rot hu hin h0))) ?_
          rintro _ _ ⟨_, rfl, rfl⟩
          show WP _ _ _ _ _ _ _ (Blk tb [.pointer (some ⟨(rr s n S root ((S z).p)).2, 0, none⟩), .int .i64 (cnt), .pointer (some ⟨s, 0, none⟩)] 180 :: Ens EL :: Sto ((rr s n S root ((S z).p)).1) D :: Blk s ZC 177 :: F)
          obtain ⟨S80, hS80⟩ : ∃ S80, S80 = (rr s n S root ((S z).p)).1 := ⟨_, rfl⟩
          rw [← hS80]
          have okS80 : Ok s EL D S80 := by rw [hS80]; exact (rr_ok ok hp)
          refine WP.nil ?_
          refine Out.next ?_
          refine WPc.seq ?_
          rw [← hS80] at hfb
          have hp1 : (S80 ((S z).p)).p ∈ D := Is.mem (Ok.p okS80 hp) hfb.p
          have hg1 : (S80 ((S80 ((S z).p)).p)).p ∈ D := Is.mem (Ok.p okS80 hp1) hfb.g
          refine WPc.region ?_
          refine WP.val rfl rfl rfl (Val.move rfl rfl) ?_
          refine WP.val rfl rfl rfl (Val.nilCheck rfl rfl) ?_
          refine WP.val rfl rfl rfl (Val.fieldAddr (j := 6) rfl Ty.fo177_4 rfl rfl) ?_
          refine WP.val rfl rfl rfl (Val.load (v := .pointer (some ⟨(S80 ((S z).p)).p, 0, none⟩)) rfl Ty.sc168 rfl (fun w h => sto_p (h.at 2 rfl) hp rfl)) ?_
          refine WP.val rfl rfl rfl (Val.nilCheck rfl rfl) ?_
          refine WP.val rfl rfl rfl (Val.fieldAddr (j := 7) rfl Ty.fo177_5 rfl rfl) ?_
          refine WP.perm pl2 ?_
          refine WP.eff0 rfl rfl (Eff.storeK (f := fun i => (S80 i).cells) (f' := fun i => (setC S80 ((S80 ((S z).p)).p) 0 i).cells) rfl Ty.sc175 rfl rfl rfl hp1 (show 7 < 8 by decide) (by unfold setC; rw [upd_same]; rfl) (by unfold setC; exact cells_other)) ?_
          rintro _ _ rfl
          show WP _ _ _ _ _ _ _ (Sto (setC S80 ((S80 ((S z).p)).p) 0) D :: Blk tb [.pointer (some ⟨(rr s n S root ((S z).p)).2, 0, none⟩), .int .i64 (cnt), .pointer (some ⟨s, 0, none⟩)] 180 :: Ens EL :: Blk s ZC 177 :: F)
          obtain ⟨S81, hS81⟩ : ∃ S81, S81 = setC S80 ((S80 ((S z).p)).p) 0 := ⟨_, rfl⟩
          rw [← hS81]
          have okS81 : Ok s EL D S81 := by rw [hS81]; exact (okS80.setC)
          have k82 : (S81 ((S z).p)).p = (S80 ((S z).p)).p := (by rw [hS81]; exact (setC_p _ _ _ _).trans rfl)
          have k83 : (S81 ((S80 ((S z).p)).p)).p = (S80 ((S80 ((S z).p)).p)).p := (by rw [hS81]; exact (setC_p _ _ _ _).trans rfl)
          have k84 : (S81 ((S80 ((S80 ((S z).p)).p)).p)).p = (S80 ((S80 ((S80 ((S z).p)).p)).p)).p := (by rw [hS81]; exact (setC_p _ _ _ _).trans rfl)
          have k85 : (S81 ((S80 ((S z).p)).p)).c = 0 := by rw [hS81]; exact setC_same _ _ _
          refine WP.nil ?_
          refine Out.next ?_
          refine WPc.seq ?_
          refine WPc.region ?_
          refine WP.val rfl rfl rfl (Val.move rfl rfl) ?_
          refine WP.val rfl rfl rfl (Val.nilCheck rfl rfl) ?_
          refine WP.val rfl rfl rfl (Val.fieldAddr (j := 6) rfl Ty.fo177_4 rfl rfl) ?_
          refine WP.val rfl rfl rfl (Val.load (v := .pointer (some ⟨(S80 ((S z).p)).p, 0, none⟩)) rfl Ty.sc168 rfl (fun w h => sto_p (h.at 0 rfl) hp k82)) ?_
          refine WP.val rfl rfl rfl (Val.nilCheck rfl rfl) ?_
          refine WP.val rfl rfl rfl (Val.fieldAddr (j := 6) rfl Ty.fo177_4 rfl rfl) ?_
          refine WP.val rfl rfl rfl (Val.load (v := .pointer (some ⟨(S80 ((S80 ((S z).p)).p)).p, 0, none⟩)) rfl Ty.sc168 rfl (fun w h => sto_p (h.at 0 rfl) hp1 k83)) ?_
          refine WP.val rfl rfl rfl (Val.nilCheck rfl rfl) ?_
          refine WP.val rfl rfl rfl (Val.fieldAddr (j := 7) rfl Ty.fo177_5 rfl rfl) ?_
          refine WP.eff0 rfl rfl (Eff.storeK (f := fun i => (S81 i).cells) (f' := fun i => (setC S81 ((S80 ((S80 ((S z).p)).p)).p) 1 i).cells) rfl Ty.sc175 rfl rfl rfl hg1 (show 7 < 8 by decide) (by unfold setC; rw [upd_same]; rfl) (by unfold setC; exact cells_other)) ?_
          rintro _ _ rfl
          show WP _ _ _ _ _ _ _ (Sto (setC S81 ((S80 ((S80 ((S z).p)).p)).p) 1) D :: Blk tb [.pointer (some ⟨(rr s n S root ((S z).p)).2, 0, none⟩), .int .i64 (cnt), .pointer (some ⟨s, 0, none⟩)] 180 :: Ens EL :: Blk s ZC 177 :: F)
          obtain ⟨S86, hS86⟩ : ∃ S86, S86 = setC S81 ((S80 ((S80 ((S z).p)).p)).p) 1 := ⟨_, rfl⟩
          rw [← hS86]
          have okS86 : Ok s EL D S86 := by rw [hS86]; exact (okS81.setC)
          have k87 : (S86 ((S z).p)).p = (S80 ((S z).p)).p := (by rw [hS86]; exact (setC_p _ _ _ _).trans k82)
          have k88 : (S86 ((S80 ((S z).p)).p)).p = (S80 ((S80 ((S z).p)).p)).p := (by rw [hS86]; exact (setC_p _ _ _ _).trans k83)
          have k89 : (S86 ((S80 ((S80 ((S z).p)).p)).p)).p = (S80 ((S80 ((S80 ((S z).p)).p)).p)).p := (by rw [hS86]; exact (setC_p _ _ _ _).trans k84)
          have k90 : (S86 ((S80 ((S80 ((S z).p)).p)).p)).c = 1 := by rw [hS86]; exact setC_same _ _ _
          refine WP.nil ?_
          refine Out.next ?_
          refine WPc.region ?_
          refine WP.val rfl rfl rfl (Val.move rfl rfl) ?_
          refine WP.val rfl rfl rfl (Val.move rfl rfl) ?_
          refine WP.val rfl rfl rfl (Val.nilCheck rfl rfl) ?_
          refine WP.val rfl rfl rfl (Val.fieldAddr (j := 6) rfl Ty.fo177_4 rfl rfl) ?_
          refine WP.val rfl rfl rfl (Val.load (v := .pointer (some ⟨(S80 ((S z).p)).p, 0, none⟩)) rfl Ty.sc168 rfl (fun w h => sto_p (h.at 0 rfl) hp k87)) ?_
          refine WP.val rfl rfl rfl (Val.nilCheck rfl rfl) ?_
          refine WP.val rfl rfl rfl (Val.fieldAddr (j := 6) rfl Ty.fo177_4 rfl rfl) ?_
          refine WP.val rfl rfl rfl (Val.load (v := .pointer (some ⟨(S80 ((S80 ((S z).p)).p)).p, 0, none⟩)) rfl Ty.sc168 rfl (fun w h => sto_p (h.at 0 rfl) hp1 k88)) ?_
          refine WP.perm pl3 ?_
          refine WP.perm pl1 ?_
          refine WP.perm pl3 ?_
          refine WP.perm pl3 ?_
          refine WP.eff rfl rfl rfl (Eff.call rfl rfl Try.call160 (rl_does EL t0 hE s D ZC tb ((rr s n S root ((S z).p)).2) cnt S86 okS86 (rr_root ok hp hroot) ((S80 ((S80 ((S z).p)).p)).p) n hg1 (fun h0 => by have h1 := hfb.ok; unfold fx3 at h1; rw [← hS81, ← hS86] at h1; exact h1 h0))) ?_
          rintro _ _ ⟨_, rfl, rfl⟩
          show WP _ _ _ _ _ _ _ (Blk tb [.pointer (some ⟨(rl s n S86 ((rr s n S root ((S z).p)).2) ((S80 ((S80 ((S z).p)).p)).p)).2, 0, none⟩), .int .i64 (cnt), .pointer (some ⟨s, 0, none⟩)] 180 :: Ens EL :: Sto ((rl s n S86 ((rr s n S root ((S z).p)).2) ((S80 ((S80 ((S z).p)).p)).p)).1) D :: Blk s ZC 177 :: F)
          obtain ⟨S91, hS91⟩ : ∃ S91, S91 = (rl s n S86 ((rr s n S root ((S z).p)).2) ((S80 ((S80 ((S z).p)).p)).p)).1 := ⟨_, rfl⟩
          rw [← hS91]
          have okS91 : Ok s EL D S91 := by rw [hS91]; exact (rl_ok okS86 hg1)
          refine WP.nil ?_
          refine Out.block ?_
          have hstep : fxs s n S root z = _ := (fxs_r hside).trans (fxr_b hu)
          rw [fxQr_y hin, fxZr_y hin] at hstep
          unfold fxBr fx3 at hstep
          rw [← hS80, ← hS81, ← hS86, ← hS91] at hstep
          rw [fx_yes hred, hstep] at hfx
          rw [hstep] at hfo
          refine Out.again ⟨S91, (rl s n S86 ((rr s n S root ((S z).p)).2) ((S80 ((S80 ((S z).p)).p)).p)).2, (S z).p, k⟩ ?_ ?_ ?_ ?_
          · exact ⟨hfx, okS91, hp, (rl_root okS86 hg1 (rr_root ok hp hroot)), hfo⟩
          · show k < k + 1; omega
          · exact (Sub.cons rfl (Sub.cons rfl Sub.nil))
          · exact (fun _ h => h)
        · skip
          have h6 : ¬ (z = (S ((S z).p)).l) := h6
          refine WPc.skip ?_
          refine Out.next ?_
          refine WPc.seq ?_
          have hin : ¬ z = (S ((S z).p)).l := by assumption
          rw [fxQr_n hin, fxZr_n hin] at hfb
          have hp1 : (S z).p ∈ D := Is.mem (Ok.p ok hz) hfb.p
          have hg1 : (S ((S z).p)).p ∈ D := Is.mem (Ok.p ok hp1) hfb.g
          refine WPc.region ?_
          refine WP.val rfl rfl rfl (Val.move rfl rfl) ?_
          refine WP.val rfl rfl rfl (Val.nilCheck rfl rfl) ?_
          refine WP.val rfl rfl rfl (Val.fieldAddr (j := 6) rfl Ty.fo177_4 rfl rfl) ?_
          refine WP.val rfl rfl rfl (Val.load (v := .pointer (some ⟨(S z).p, 0, none⟩)) rfl Ty.sc168 rfl (fun w h => sto_p (h.at 0 rfl) hz rfl)) ?_
          refine WP.val rfl rfl rfl (Val.nilCheck rfl rfl) ?_
          refine WP.val rfl rfl rfl (Val.fieldAddr (j := 7) rfl Ty.fo177_5 rfl rfl) ?_
          refine WP.eff0 rfl rfl (Eff.storeK (f := fun i => (S i).cells) (f' := fun i => (setC S ((S z).p) 0 i).cells) rfl Ty.sc175 rfl rfl rfl hp1 (show 7 < 8 by decide) (by unfold setC; rw [upd_same]; rfl) (by unfold setC; exact cells_other)) ?_
          rintro _ _ rfl
          show WP _ _ _ _ _ _ _ (Sto (setC S ((S z).p) 0) D :: Blk s ZC 177 :: Blk tb [.pointer (some ⟨root, 0, none⟩), .int .i64 (cnt), .pointer (some ⟨s, 0, none⟩)] 180 :: Ens EL :: F)
          obtain ⟨S92, hS92⟩ : ∃ S92, S92 = setC S ((S z).p) 0 := ⟨_, rfl⟩
          rw [← hS92]
          have okS92 : Ok s EL D S92 := by rw [hS92]; exact (ok.setC)
          have k93 : (S92 z).p = (S z).p := (by rw [hS92]; exact (setC_p _ _ _ _).trans rfl)
          have k94 : (S92 ((S z).p)).p = (S ((S z).p)).p := (by rw [hS92]; exact (setC_p _ _ _ _).trans rfl)
          have k95 : (S92 ((S ((S z).p)).p)).l = (S ((S ((S z).p)).p)).l := (by rw [hS92]; exact (setC_l _ _ _ _).trans rfl)
          have k96 : (S92 ((S ((S z).p)).p)).r = (S ((S ((S z).p)).p)).r := (by rw [hS92]; exact (setC_r _ _ _ _).trans rfl)
          have k97 : (S92 ((S z).p)).l = (S ((S z).p)).l := (by rw [hS92]; exact (setC_l _ _ _ _).trans rfl)
          have k98 : (S92 ((S z).p)).r = (S ((S z).p)).r := (by rw [hS92]; exact (setC_r _ _ _ _).trans rfl)
          have k99 : (S92 ((S ((S z).p)).p)).p = (S ((S ((S z).p)).p)).p := (by rw [hS92]; exact (setC_p _ _ _ _).trans rfl)
          have k100 : (S92 ((S z).p)).c = 0 := by rw [hS92]; exact setC_same _ _ _
          refine WP.nil ?_
          refine Out.next ?_
          refine WPc.seq ?_
          refine WPc.region ?_
          refine WP.val rfl rfl rfl (Val.move rfl rfl) ?_
          refine WP.val rfl rfl rfl (Val.nilCheck rfl rfl) ?_
          refine WP.val rfl rfl rfl (Val.fieldAddr (j := 6) rfl Ty.fo177_4 rfl rfl) ?_
          refine WP.val rfl rfl rfl (Val.load (v := .pointer (some ⟨(S z).p, 0, none⟩)) rfl Ty.sc168 rfl (fun w h => sto_p (h.at 0 rfl) hz k93)) ?_
          refine WP.val rfl rfl rfl (Val.nilCheck rfl rfl) ?_
          refine WP.val rfl rfl rfl (Val.fieldAddr (j := 6) rfl Ty.fo177_4 rfl rfl) ?_
          refine WP.val rfl rfl rfl (Val.load (v := .pointer (some ⟨(S ((S z).p)).p, 0, none⟩)) rfl Ty.sc168 rfl (fun w h => sto_p (h.at 0 rfl) hp1 k94)) ?_
          refine WP.val rfl rfl rfl (Val.nilCheck rfl rfl) ?_
          refine WP.val rfl rfl rfl (Val.fieldAddr (j := 7) rfl Ty.fo177_5 rfl rfl) ?_
          refine WP.eff0 rfl rfl (Eff.storeK (f := fun i => (S92 i).cells) (f' := fun i => (setC S92 ((S ((S z).p)).p) 1 i).cells) rfl Ty.sc175 rfl rfl rfl hg1 (show 7 < 8 by decide) (by unfold setC; rw [upd_same]; rfl) (by unfold setC; exact cells_other)) ?_
          rintro _ _ rfl
          show WP _ _ _ _ _ _ _ (Sto (setC S92 ((S ((S z).p)).p) 1) D :: Blk s ZC 177 :: Blk tb [.pointer (some ⟨root, 0, none⟩), .int .i64 (cnt), .pointer (some ⟨s, 0, none⟩)] 180 :: Ens EL :: F)
          obtain ⟨S101, hS101⟩ : ∃ S101, S101 = setC S92 ((S ((S z).p)).p) 1 := ⟨_, rfl⟩
          rw [← hS101]
          have okS101 : Ok s EL D S101 := by rw [hS101]; exact (okS92.setC)
          have k102 : (S101 z).p = (S z).p := (by rw [hS101]; exact (setC_p _ _ _ _).trans k93)
          have k103 : (S101 ((S z).p)).p = (S ((S z).p)).p := (by rw [hS101]; exact (setC_p _ _ _ _).trans k94)
          have k104 : (S101 ((S ((S z).p)).p)).l = (S ((S ((S z).p)).p)).l := (by rw [hS101]; exact (setC_l _ _ _ _).trans k95)
          have k105 : (S101 ((S ((S z).p)).p)).r = (S ((S ((S z).p)).p)).r := (by rw [hS101]; exact (setC_r _ _ _ _).trans k96)
          have k106 : (S101 ((S z).p)).l = (S ((S z).p)).l := (by rw [hS101]; exact (setC_l _ _ _ _).trans k97)
          have k107 : (S101 ((S z).p)).r = (S ((S z).p)).r := (by rw [hS101]; exact (setC_r _ _ _ _).trans k98)
          have k108 : (S101 ((S ((S z).p)).p)).p = (S ((S ((S z).p)).p)).p := (by rw [hS101]; exact (setC_p _ _ _ _).trans k99)
          have k109 : (S101 ((S ((S z).p)).p)).c = 1 := by rw [hS101]; exact setC_same _ _ _
          refine WP.nil ?_
          refine Out.next ?_
          refine WPc.region ?_
          refine WP.val rfl rfl rfl (Val.move rfl rfl) ?_
          refine WP.val rfl rfl rfl (Val.move rfl rfl) ?_
          refine WP.val rfl rfl rfl (Val.nilCheck rfl rfl) ?_
          refine WP.val rfl rfl rfl (Val.fieldAddr (j := 6) rfl Ty.fo177_4 rfl rfl) ?_
          refine WP.val rfl rfl rfl (Val.load (v := .pointer (some ⟨(S z).p, 0, none⟩)) rfl Ty.sc168 rfl (fun w h => sto_p (h.at 0 rfl) hz k102)) ?_
          refine WP.val rfl rfl rfl (Val.nilCheck rfl rfl) ?_
          refine WP.val rfl rfl rfl (Val.fieldAddr (j := 6) rfl Ty.fo177_4 rfl rfl) ?_
          refine WP.val rfl rfl rfl (Val.load (v := .pointer (some ⟨(S ((S z).p)).p, 0, none⟩)) rfl Ty.sc168 rfl (fun w h => sto_p (h.at 0 rfl) hp1 k103)) ?_
          refine WP.perm pl1 ?_
          refine WP.perm pl1 ?_
          refine WP.perm pl3 ?_
          refine WP.perm pl3 ?_
          refine WP.eff rfl rfl rfl (Eff.call rfl rfl Try.call160 (rl_does EL t0 hE s D ZC tb root cnt S101 okS101 hroot ((S ((S z).p)).p) n hg1 (fun h0 => by have h1 := hfb.ok; unfold fx3 at h1; rw [← hS92, ← hS101] at h1; exact h1 h0))) ?_
          rintro _ _ ⟨_, rfl, rfl⟩
          show WP _ _ _ _ _ _ _ (Blk tb [.pointer (some ⟨(rl s n S101 root ((S ((S z).p)).p)).2, 0, none⟩), .int .i64 (cnt), .pointer (some ⟨s, 0, none⟩)] 180 :: Ens EL :: Sto ((rl s n S101 root ((S ((S z).p)).p)).1) D :: Blk s ZC 177 :: F)
          obtain ⟨S110, hS110⟩ : ∃ S110, S110 = (rl s n S101 root ((S ((S z).p)).p)).1 := ⟨_, rfl⟩
          rw [← hS110]
          have okS110 : Ok s EL D S110 := by rw [hS110]; exact (rl_ok okS101 hg1)
          refine WP.nil ?_
          refine Out.block ?_
          have hstep : fxs s n S root z = _ := (fxs_r hside).trans (fxr_b hu)
          rw [fxQr_n hin, fxZr_n hin] at hstep
          unfold fxBr fx3 at hstep
          dsimp only at hstep
          rw [← hS92, ← hS101, ← hS110] at hstep
          rw [fx_yes hred, hstep] at hfx
          rw [hstep] at hfo
          refine Out.again ⟨S110, (rl s n S101 root ((S ((S z).p)).p)).2, z, k⟩ ?_ ?_ ?_ ?_
          · exact ⟨hfx, okS110, hz, (rl_root okS101 hg1 hroot), hfo⟩
          · show k < k + 1; omega
          · exact (Sub.cons rfl (Sub.cons rfl Sub.nil))
          · exact (fun _ h => h)
  · skip
    have h1 : ¬ ((colr s S ((S z).p)) = (1 : Int)) := h1
    refine WPc.exit ?_
    refine Out.then_exit ?_
    refine Out.then_exit ?_
    refine Out.block_exit ?_
    refine Out.next ?_
    have hfin : fx s n k0 S0 root0 z0 = (S, root) := by rw [← hfx]; exact fx_no (by assumption)
    rw [hfin] at hlast
    have hrD : root ∈ D := hlast
    refine WPc.region ?_
    refine WP.val rfl rfl rfl (Val.move rfl rfl) ?_
    refine WP.val rfl rfl rfl (Val.nilCheck rfl rfl) ?_
    refine WP.val rfl rfl rfl (Val.fieldAddr (j := 0) rfl Ty.fo180_0 rfl rfl) ?_
    refine WP.val rfl rfl rfl (Val.load rfl Ty.sc168 rfl (fun w h => h.cell 2 rfl rfl)) ?_
    refine WP.val rfl rfl rfl (Val.nilCheck rfl rfl) ?_
    refine WP.val rfl rfl rfl (Val.fieldAddr (j := 7) rfl Ty.fo177_5 rfl rfl) ?_
    refine WP.eff0 rfl rfl (Eff.storeK (f := fun i => (S i).cells) (f' := fun i => (setC S root 0 i).cells) rfl Ty.sc175 rfl rfl rfl hrD (show 7 < 8 by decide) (by unfold setC; rw [upd_same]; rfl) (by unfold setC; exact cells_other)) ?_
    rintro _ _ rfl
    show WP _ _ _ _ _ _ _ (Sto (setC S root 0) D :: Blk s ZC 177 :: Blk tb [.pointer (some ⟨root, 0, none⟩), .int .i64 (cnt), .pointer (some ⟨s, 0, none⟩)] 180 :: Ens EL :: F)
    obtain ⟨S111, hS111⟩ : ∃ S111, S111 = setC S root 0 := ⟨_, rfl⟩
    rw [← hS111]
    have okS111 : Ok s EL D S111 := by rw [hS111]; exact (ok.setC)
    have k112 : (S111 z).p = (S z).p := (by rw [hS111]; exact (setC_p _ _ _ _).trans rfl)
    have k113 : (S111 root).c = 0 := by rw [hS111]; exact setC_same _ _ _
    refine WP.nil ?_
    refine Out.perm pl1 ?_
    refine Out.perm pl1 ?_
    refine Out.perm pl3 ?_
    refine Out.perm pl3 ?_
    exact Out.end0 (L' := _) Try.results152 rfl (fun w h => by rw [hfin]; subst hS111; exact h)

end Go.Proofs.Ytbomnihiapjmpaa.Th

namespace Go.Proofs.Ytbomnihiapjmpaa.TrP
open Go.RowKit Go.Lib Go.Proofs.Ytbomnihiapjmpaa Go.Proofs.Ytbomnihiapjmpaa.Sl
set_option linter.unusedVariables false
set_option linter.unusedSimpArgs false
set_option linter.unusedSectionVars false
/-- the way an insert goes -/
def goK (zb ze xb xe : Ky) : Prop := klt zb xb ∨ (zb = xb ∧ klt ze xe)
instance (zb ze xb xe : Ky) : Decidable (goK zb ze xb xe) := by unfold goK; exact inferInstance
def goL (S : St) (z x : Nat) : Prop := goK (S z).it.b.k (S z).it.e.k (S x).it.b.k (S x).it.e.k
instance (S : St) (z x : Nat) : Decidable (goL S z x) := by unfold goL; exact inferInstance
theorem goK_1 {zb ze xb xe : Ky} (h : kcmp zb xb < 0) : goK zb ze xb xe := .inl (kcmp_lt.1 h)
theorem goK_2 {zb ze xb xe : Ky} (h : kcmp zb xb = 0) (h2 : kcmp ze xe < 0) : goK zb ze xb xe := .inr ⟨kcmp_eq.1 h, kcmp_lt.1 h2⟩
theorem goK_3 {zb ze xb xe : Ky} (h : kcmp zb xb = 0) (h2 : ¬ kcmp ze xe < 0) : ¬ goK zb ze xb xe := fun g => by
  rcases g with g | ⟨-, g⟩
  · rw [kcmp_eq.1 h] at g; exact klt_irrefl _ g
  · exact h2 (kcmp_lt.2 g)
theorem goK_4 {zb ze xb xe : Ky} (h : ¬ kcmp zb xb < 0) (h2 : ¬ kcmp zb xb = 0) : ¬ goK zb ze xb xe := fun g => by
  rcases g with g | ⟨g, -⟩
  · exact h (kcmp_lt.2 g)
  · exact h2 (kcmp_eq.2 g)
def des (s : Nat) (S : St) (z : Nat) : Nat → Nat → Nat → Nat
  | 0, _, y => y
  | k + 1, x, y => if x = s then y else des s S z k (if goL S z x then (S x).l else (S x).r) x
def DDep (s : Nat) (S : St) (z : Nat) : Nat → Nat → Prop
  | 0, x => x = s
  | k + 1, x => x = s ∨ DDep s S z k (if goL S z x then (S x).l else (S x).r)
theorem DDep.succ {s z k x : Nat} {S : St} (h : DDep s S z k x) (hx : x ≠ s) : ∃ m, k = m + 1 ∧ DDep s S z m (if goL S z x then (S x).l else (S x).r) := by
  cases k with
  | zero => exact absurd h hx
  | succ k => exact ⟨k, rfl, h.resolve_left hx⟩
theorem des_s {s z k y : Nat} {S : St} : des s S z k s y = y := by
  cases k with
  | zero => rfl
  | succ k => unfold des; rw [if_pos rfl]
theorem des_x {s z k x y : Nat} {S : St} (hx : x ≠ s) : des s S z (k + 1) x y = des s S z k (if goL S z x then (S x).l else (S x).r) x := by
  conv => lhs; unfold des
  rw [if_neg hx]
/-- z hung below y -/
def hang (s n : Nat) (S : St) (root z y : Nat) : St × Nat :=
  if y = s then (setP S z y, z) else (um s n (if goL S z y then setL (setP S z y) y z else setR (setP S z y) y z) y, root)
theorem hang_s {s n root z y : Nat} {S : St} (h : y = s) : hang s n S root z y = (setP S z y, z) := if_pos h
theorem hang_l {s n root z y : Nat} {S : St} (h : ¬ y = s) (h2 : goL S z y) : hang s n S root z y = (um s n (setL (setP S z y) y z) y, root) := by
  unfold hang; rw [if_neg h]; simp only [if_pos h2]
theorem hang_r {s n root z y : Nat} {S : St} (h : ¬ y = s) (h2 : ¬ goL S z y) : hang s n S root z y = (um s n (setR (setP S z y) y z) y, root) := by
  unfold hang; rw [if_neg h]; simp only [if_neg h2]
def newn (eb ee : En) (v : TypeId × Value) (s : Nat) : NR := ⟨⟨eb, ee, v.1, v.2⟩, ee, s, s, s, 1⟩
/-- z put into the tree -/
def insS (s n k : Nat) (S : St) (root : Nat) (eb ee : En) (v : TypeId × Value) (z : Nat) : St × Nat := hang s n (upd S z (newn eb ee v s)) root z (des s (upd S z (newn eb ee v s)) z k root s)
def insF (s n k : Nat) (S : St) (root : Nat) (eb ee : En) (v : TypeId × Value) (z : Nat) : St × Nat := fx s n k (setC (insS s n k S root eb ee v z).1 z 1) (insS s n k S root eb ee v z).2 z
structure InsOk (s n k : Nat) (D : List Nat) (S : St) (root : Nat) (eb ee : En) (v : TypeId × Value) (z : Nat) : Prop where
  dd : DDep s (upd S z (newn eb ee v s)) z k root
  dl : ∀ y, y = des s (upd S z (newn eb ee v s)) z k root s → ¬ y = s → Dep s (setP (upd S z (newn eb ee v s)) z y) n y
  fx : FxOk s n k (setC (insS s n k S root eb ee v z).1 z 1) (insS s n k S root eb ee v z).2 z
  last : (insF s n k S root eb ee v z).2 ∈ z :: D
theorem Is.cons {s i z : Nat} {D : List Nat} (h : Is s D i) : Is s (z :: D) i := h.imp id (List.mem_cons_of_mem _)
theorem Ok.new {s z : Nat} {EL : List En} {D : List Nat} {S : St} {eb ee : En} {v : TypeId × Value} (h : Ok s EL D S) (hb : eb ∈ EL) (he : ee ∈ EL) : Ok s EL (z :: D) (TrP.upd S z (newn eb ee v s)) := by
  have hm : ∀ {i}, i ∈ z :: D → i ≠ z → i ∈ D := fun hi hne => (List.mem_cons.1 hi).resolve_left hne
  constructor <;> intro i hi <;> by_cases e : i = z
  · subst e; rw [upd_same]; exact .inl rfl
  · rw [upd_other _ _ e]; exact (h.l (hm hi e)).cons
  · subst e; rw [upd_same]; exact .inl rfl
  · rw [upd_other _ _ e]; exact (h.r (hm hi e)).cons
  · subst e; rw [upd_same]; exact .inl rfl
  · rw [upd_other _ _ e]; exact (h.p (hm hi e)).cons
  · subst e; rw [upd_same]; exact hb
  · rw [upd_other _ _ e]; exact h.b (hm hi e)
  · subst e; rw [upd_same]; exact he
  · rw [upd_other _ _ e]; exact h.e (hm hi e)
  · subst e; rw [upd_same]; exact he
  · rw [upd_other _ _ e]; exact h.m (hm hi e)
end Go.Proofs.Ytbomnihiapjmpaa.TrP

namespace Go.Proofs.Ytbomnihiapjmpaa.Ti
open Go.RowKit Go.Proofs.Ytbomnihiapjmpaa Go.Proofs.Ytbomnihiapjmpaa.Sl Go.Proofs.Ytbomnihiapjmpaa.TrP Go.Proofs.Ytbomnihiapjmpaa.Tc Go.Proofs.Ytbomnihiapjmpaa.Td Go.Proofs.Ytbomnihiapjmpaa.Te Go.Proofs.Ytbomnihiapjmpaa.Tf Go.Proofs.Ytbomnihiapjmpaa.Tg Go.Proofs.Ytbomnihiapjmpaa.Th
set_option linter.unusedVariables false
set_option linter.unusedSimpArgs false
set_option linter.unusedSectionVars false


theorem sto_new {W w : World} {L : List HProp} {S : St} {D : List Nat} {z : Nat} {x : NR} (h : Sat W (Blk z x.cells 177 :: Sto S D :: L) w) : Sat W (Sto (upd S z x) (z :: D) :: L) w := by
  have hn := h.kNot
  refine Sat.kConsMk (R := fun i => Blk i (upd S z x i).cells 177) ?_
  have e1 : (upd S z x z).cells = x.cells := by rw [upd_same]
  have e2 : Kds (fun i => Blk i (S i).cells 177) D = Kds (fun i => Blk i (upd S z x i).cells 177) D := kds_congr (f := fun i => (S i).cells) (f' := fun i => (upd S z x i).cells) (fun j hj => congrArg NR.cells (upd_other S x (fun e => hn (e.subst (motive := fun i => i ∈ D) hj))))
  show Sat W (Blk z (upd S z x z).cells 177 :: Kds (fun i => Blk i (upd S z x i).cells 177) D :: L) w
  rw [e1, ← e2]
  exact h
set_option maxRecDepth 100000 in
set_option maxHeartbeats 2000000 in
theorem create_does (s tb root : Nat) (cnt : Int) (eb ee : En) (v : TypeId × Value) : Does Try.prog 151 [.pointer (some ⟨tb, 0, none⟩), .agg #[.iface eb.t (eb.u), .iface ee.t (ee.u)], .iface v.1 (v.2)] [Blk tb [.pointer (some ⟨root, 0, none⟩), .int .i64 (cnt), .pointer (some ⟨s, 0, none⟩)] 180] (fun u L => ∃ z, u = .pointer (some ⟨z, 0, none⟩) ∧ L = [Blk tb [.pointer (some ⟨root, 0, none⟩), .int .i64 cnt, .pointer (some ⟨s, 0, none⟩)] 180, Blk z (newn eb ee v s).cells 177]) := by
  refine Does.enter 26 Try.func151 rfl rfl rfl fun W F => ?_
  show WPc _ _ _ _ _ [(0, .pointer (some ⟨tb, 0, none⟩)), (1, .agg #[.iface eb.t (eb.u), .iface ee.t (ee.u)]), (2, .iface v.1 (v.2))] (Blk tb [.pointer (some ⟨root, 0, none⟩), .int .i64 (cnt), .pointer (some ⟨s, 0, none⟩)] 180 :: F)
  refine WPc.seq ?_
  refine WPc.region ?_
  refine WP.eff rfl rfl rfl (Eff.box (C := [.iface eb.t (eb.u), .iface ee.t (ee.u)]) rfl rfl rfl) ?_
  rintro _ _ ⟨b1, rfl, rfl⟩
  refine WP.val rfl rfl rfl (Val.assign rfl rfl) ?_
  refine WP.nil ?_
  refine Out.next ?_
  refine WPc.seq ?_
  refine WPD.start (Sat W (Blk b1 [.iface eb.t (eb.u), .iface ee.t (ee.u)] 172 :: Blk tb [.pointer (some ⟨root, 0, none⟩), .int .i64 (cnt), .pointer (some ⟨s, 0, none⟩)] 180 :: F)) Ty.mixed ?_
  refine WPD.take 0 rfl rfl rfl rfl (by kernel_rfl) (by kernel_rfl) (by kernel_rfl) (by kernel_rfl) (fun _ _ _ h => h) (by kernel_rfl) (fun _ h => h) (Val.loadAgg (cs := [.iface eb.t (eb.u), .iface ee.t (ee.u)]) rfl Ty.ag172 rfl rfl (fun w h => h.range 0 rfl rfl)) ?_
  refine WPD.takeM 1 rfl rfl rfl rfl (by kernel_rfl) (by kernel_rfl) (by kernel_rfl) (by kernel_rfl) (fun _ _ _ h => h) (fun _ h => h) (Val.move rfl rfl) ?_
  refine WPD.takeM 2 rfl rfl rfl rfl (by kernel_rfl) (by kernel_rfl) (by kernel_rfl) (by kernel_rfl) (fun _ _ _ h => h) (fun _ h => h) (Val.mk (cs := [.iface eb.t (eb.u), .iface ee.t (ee.u), .iface v.1 (v.2)]) rfl rfl (fun _ => by kernel_rfl)) ?_
  refine WPD.takeM 3 rfl rfl rfl rfl (by kernel_rfl) (by kernel_rfl) (by kernel_rfl) (by kernel_rfl) (fun _ _ _ h => h) (fun _ h => h) (Val.fieldAddr (j := 1) rfl Ty.fo172_1 rfl rfl) ?_
  refine WPD.take 4 rfl rfl rfl rfl (by kernel_rfl) (by kernel_rfl) (by kernel_rfl) (by kernel_rfl) (fun _ _ _ h => h) (by kernel_rfl) (fun _ h => h) (Val.load rfl Ty.sc170 rfl (fun w h => h.cell 0 rfl rfl)) ?_
  refine WPD.takeM 5 rfl rfl rfl rfl (by kernel_rfl) (by kernel_rfl) (by kernel_rfl) (by kernel_rfl) (fun _ _ _ h => h) (fun _ h => h) (Val.move rfl rfl) ?_
  refine WPD.takeM 6 rfl rfl rfl rfl (by kernel_rfl) (by kernel_rfl) (by kernel_rfl) (by kernel_rfl) (fun _ _ _ h => h) (fun _ h => h) (Val.nilCheck rfl rfl) ?_
  refine WPD.takeM 7 rfl rfl rfl rfl (by kernel_rfl) (by kernel_rfl) (by kernel_rfl) (by kernel_rfl) (fun _ _ _ h => h) (fun _ h => h) (Val.fieldAddr (j := 2) rfl Ty.fo180_2 rfl rfl) ?_
  refine WPD.take 8 rfl rfl rfl rfl (by kernel_rfl) (by kernel_rfl) (by kernel_rfl) (by kernel_rfl) (fun _ _ _ h => h) (by kernel_rfl) (fun _ h => h) (Val.load rfl Ty.sc168 rfl (fun w h => h.cell 1 rfl rfl)) ?_
  refine WPD.takeM 9 rfl rfl rfl rfl (by kernel_rfl) (by kernel_rfl) (by kernel_rfl) (by kernel_rfl) (fun _ _ _ h => h) (fun _ h => h) (Val.move rfl rfl) ?_
  refine WPD.takeM 10 rfl rfl rfl rfl (by kernel_rfl) (by kernel_rfl) (by kernel_rfl) (by kernel_rfl) (fun _ _ _ h => h) (fun _ h => h) (Val.nilCheck rfl rfl) ?_
  refine WPD.takeM 11 rfl rfl rfl rfl (by kernel_rfl) (by kernel_rfl) (by kernel_rfl) (by kernel_rfl) (fun _ _ _ h => h) (fun _ h => h) (Val.fieldAddr (j := 2) rfl Ty.fo180_2 rfl rfl) ?_
  refine WPD.take 12 rfl rfl rfl rfl (by kernel_rfl) (by kernel_rfl) (by kernel_rfl) (by kernel_rfl) (fun _ _ _ h => h) (by kernel_rfl) (fun _ h => h) (Val.load rfl Ty.sc168 rfl (fun w h => h.cell 1 rfl rfl)) ?_
  refine WPD.takeM 13 rfl rfl rfl rfl (by kernel_rfl) (by kernel_rfl) (by kernel_rfl) (by kernel_rfl) (fun _ _ _ h => h) (fun _ h => h) (Val.move rfl rfl) ?_
  refine WPD.takeM 14 rfl rfl rfl rfl (by kernel_rfl) (by kernel_rfl) (by kernel_rfl) (by kernel_rfl) (fun _ _ _ h => h) (fun _ h => h) (Val.nilCheck rfl rfl) ?_
  refine WPD.takeM 15 rfl rfl rfl rfl (by kernel_rfl) (by kernel_rfl) (by kernel_rfl) (by kernel_rfl) (fun _ _ _ h => h) (fun _ h => h) (Val.fieldAddr (j := 2) rfl Ty.fo180_2 rfl rfl) ?_
  refine WPD.take 16 rfl rfl rfl rfl (by kernel_rfl) (by kernel_rfl) (by kernel_rfl) (by kernel_rfl) (fun _ _ _ h => h) (by kernel_rfl) (fun _ h => h) (Val.load rfl Ty.sc168 rfl (fun w h => h.cell 1 rfl rfl)) ?_
  refine WPD.takeM 17 rfl rfl rfl rfl (by kernel_rfl) (by kernel_rfl) (by kernel_rfl) (by kernel_rfl) (fun _ _ _ h => h) (fun _ h => h) (Val.mk (cs := [.iface eb.t (eb.u), .iface ee.t (ee.u), .iface v.1 (v.2), .iface ee.t (ee.u), .pointer (some ⟨s, 0, none⟩), .pointer (some ⟨s, 0, none⟩), .pointer (some ⟨s, 0, none⟩), .int .i64 1]) rfl rfl (fun _ => by kernel_rfl)) ?_
  refine WPD.stepC 18 (by kernel_rfl) rfl rfl rfl rfl (by kernel_rfl) (Eff.box (C := [.iface eb.t (eb.u), .iface ee.t (ee.u), .iface v.1 (v.2), .iface ee.t (ee.u), .pointer (some ⟨s, 0, none⟩), .pointer (some ⟨s, 0, none⟩), .pointer (some ⟨s, 0, none⟩), .int .i64 1]) rfl rfl rfl) ?_
  rintro _ _ ⟨b2, rfl, rfl⟩
  refine ⟨(Sat W (Blk b2 [.iface eb.t (eb.u), .iface ee.t (ee.u), .iface v.1 (v.2), .iface ee.t (ee.u), .pointer (some ⟨s, 0, none⟩), .pointer (some ⟨s, 0, none⟩), .pointer (some ⟨s, 0, none⟩), .int .i64 1] 177 :: Blk b1 [.iface eb.t (eb.u), .iface ee.t (ee.u)] 172 :: Blk tb [.pointer (some ⟨root, 0, none⟩), .int .i64 (cnt), .pointer (some ⟨s, 0, none⟩)] 180 :: F)), (fun _ h => h), ?_⟩
  refine WPD.takeM 19 rfl rfl rfl rfl (by kernel_rfl) (by kernel_rfl) (by kernel_rfl) (by kernel_rfl) (fun _ _ _ h => h) (fun _ h => h) (Val.assign rfl rfl) ?_
  refine WPD.done (by kernel_rfl) ?_
  refine Out.next ?_
  refine WPc.ret ?_
  refine Out.perm pl1 ?_
  refine Out.drop ?_
  refine Out.perm pl1 ?_
  exact Out.ret1 (L' := _) Try.results151 rfl ⟨b2, rfl, rfl⟩ (fun _ h => h)

end Go.Proofs.Ytbomnihiapjmpaa.Ti

