import Derived.Test.YtbomnihiapjmpaaMpc
import Derived.Test.YtbomnihiapjmpaaMpb
import Derived.Test.YtbomnihiapjmpaaMpa
namespace Go.Proofs.Ytbomnihiapjmpaa.Tl
open Go.RowKit Go.Proofs.Ytbomnihiapjmpaa Go.Proofs.Ytbomnihiapjmpaa.Sl Go.Proofs.Ytbomnihiapjmpaa.TrP Go.Proofs.Ytbomnihiapjmpaa.Tc Go.Proofs.Ytbomnihiapjmpaa.Td Go.Proofs.Ytbomnihiapjmpaa.Te Go.Proofs.Ytbomnihiapjmpaa.Tf Go.Proofs.Ytbomnihiapjmpaa.Tg Go.Proofs.Ytbomnihiapjmpaa.Th Go.Proofs.Ytbomnihiapjmpaa.Ti Go.Proofs.Ytbomnihiapjmpaa.Tk
set_option linter.unusedVariables false
set_option linter.unusedSimpArgs false
set_option linter.unusedSectionVars false


/-- the nodes that are gone to, in order -/
def vl (ib ie : Ky) : T → List Nat
  | .leaf => []
  | .node i l x _ r => if icmp ib ie x.b.k x.e.k < 0 then vl ib ie l
    else if 0 < icmp ib ie x.b.k x.e.k then (if icmp x.b.k (kmo (kmo x.e.k l.mx) r.mx) ib ie = 0 then vl ib ie l ++ vl ib ie r else [])
    else vl ib ie l ++ i :: vl ib ie r
def vfold {σ : Type} (step : σ → Nat → σ × Bool) : List Nat → σ → σ × Bool
  | [], q => (q, true)
  | i :: l, q => if (step q i).2 then vfold step l (step q i).1 else ((step q i).1, false)
theorem vfold_app {σ : Type} {step : σ → Nat → σ × Bool} : ∀ (l m : List Nat) (q : σ), vfold step (l ++ m) q = if (vfold step l q).2 then vfold step m (vfold step l q).1 else ((vfold step l q).1, false)
  | [], m, q => by simp [vfold]
  | i :: l, m, q => by
    simp only [List.cons_append, vfold]
    split
    · rename_i h; rw [vfold_app l m]
    · rename_i h; simp
theorem vl_n {ib ie : Ky} {i : Nat} {l r : T} {x : It} {c : Bool} (h : icmp ib ie x.b.k x.e.k < 0) : vl ib ie (.node i l x c r) = vl ib ie l := by
  conv => lhs; unfold vl
  rw [if_pos h]
theorem vl_p {ib ie : Ky} {i : Nat} {l r : T} {x : It} {c : Bool} (h : ¬ icmp ib ie x.b.k x.e.k < 0) (h2 : 0 < icmp ib ie x.b.k x.e.k) (h3 : icmp x.b.k (kmo (kmo x.e.k l.mx) r.mx) ib ie = 0) : vl ib ie (.node i l x c r) = vl ib ie l ++ vl ib ie r := by
  conv => lhs; unfold vl
  rw [if_neg h, if_pos h2, if_pos h3]
theorem vl_0 {ib ie : Ky} {i : Nat} {l r : T} {x : It} {c : Bool} (h : ¬ icmp ib ie x.b.k x.e.k < 0) (h2 : 0 < icmp ib ie x.b.k x.e.k) (h3 : ¬ icmp x.b.k (kmo (kmo x.e.k l.mx) r.mx) ib ie = 0) : vl ib ie (.node i l x c r) = [] := by
  conv => lhs; unfold vl
  rw [if_neg h, if_pos h2, if_neg h3]
theorem vl_z {ib ie : Ky} {i : Nat} {l r : T} {x : It} {c : Bool} (h : ¬ icmp ib ie x.b.k x.e.k < 0) (h2 : ¬ 0 < icmp ib ie x.b.k x.e.k) : vl ib ie (.node i l x c r) = vl ib ie l ++ i :: vl ib ie r := by
  conv => lhs; unfold vl
  rw [if_neg h, if_neg h2]
structure Pre {σ : Type} (step : σ → Nat → σ × Bool) (pre : Nat → σ → Prop) : Prop where
  step : ∀ {m q i}, pre (m + 1) q → pre m (step q i).1
theorem Pre.fold {σ : Type} {step : σ → Nat → σ × Bool} {pre : Nat → σ → Prop} (h : Pre step pre) : ∀ {l : List Nat} {m : Nat} {q : σ}, pre (l.length + m) q → (vfold step l q).2 = true → pre m (vfold step l q).1
  | [], m, q, hp, _ => by simpa [vfold] using hp
  | i :: l, m, q, hp, h2 => by
    simp only [vfold] at h2 ⊢
    split at h2
    · rename_i hs
      rw [if_pos hs]
      exact Pre.fold h (h.step (by rw [show l.length + m + 1 = (i :: l).length + m from by simp; omega]; exact hp)) h2
    · cases h2
set_option maxRecDepth 100000 in
set_option maxHeartbeats 2000000 in
theorem visit_leaf (A : HProp) (EL : List En) (t0 : TypeId) (hE : ∀ e ∈ EL, e.t = t0) (s : Nat) (D : List Nat) (ZC : List Value) (S : St) (ok : Ok s EL D S) (ivb vb : Nat) (ib ie : En) (hib : ib ∈ EL) (hie : ie ∈ EL) (hA0 : ∀ w, Holds A w → w.cell? ⟨ivb, 0, none⟩ = some (.iface ib.t ib.u)) (hA1 : ∀ w, Holds A w → w.cell? ⟨ivb, 1, none⟩ = some (.iface ie.t ie.u)) (σ : Type) (R : σ → HProp) (step : σ → Nat → σ × Bool) (pre : Nat → σ → Prop) (hpre : Pre step pre) (q : σ) : Does Try.prog 157 [.pointer (some ⟨s, 0, none⟩), .pointer (some ⟨ivb, 0, none⟩), .pointer (some ⟨s, 0, none⟩), .func (.func 158) #[] #[.pointer (some ⟨vb, 0, none⟩)]] [A, Ens EL, Sto S D, Blk s ZC 177, R q] (fun v L => v = .bool (vfold step [] q).2 ∧ L = [A, Ens EL, Sto S D, Blk s ZC 177, R (vfold step [] q).1]) := by
  refine Does.enter 97 Try.func157 rfl rfl rfl fun W F => ?_
  show WPc _ _ _ _ _ [(0, .pointer (some ⟨s, 0, none⟩)), (1, .pointer (some ⟨ivb, 0, none⟩)), (2, .pointer (some ⟨s, 0, none⟩)), (3, .func (.func 158) #[] #[.pointer (some ⟨vb, 0, none⟩)])] (A :: Ens EL :: Sto S D :: Blk s ZC 177 :: R q :: F)
  refine WPc.seq ?_
  refine WPc.region ?_
  refine WP.val rfl rfl rfl (Val.assign rfl rfl) ?_
  refine WP.nil ?_
  refine Out.next ?_
  refine WPc.seq ?_
  refine WPc.seq ?_
  refine WPc.region ?_
  refine WP.val rfl rfl rfl (Val.move rfl rfl) ?_
  refine WP.val rfl rfl rfl (Val.move rfl rfl) ?_
  refine WP.val rfl rfl rfl (Val.eqSame rfl pe168 rfl rfl) ?_
  refine WP.nil ?_
  refine Out.next ?_
  refine WPc.condT rfl rfl ?_
  refine WPc.seq ?_
  refine WPc.region ?_
  refine WP.val rfl rfl rfl (Val.assign rfl rfl) ?_
  refine WP.nil ?_
  refine Out.next ?_
  refine WPc.ret ?_
  refine Out.then_ret ?_
  exact Out.ret1 (L' := _) Try.results157 rfl ⟨rfl, rfl⟩ (fun _ h => h)
set_option maxRecDepth 100000 in
set_option maxHeartbeats 2000000 in
theorem visit_node (A : HProp) (EL : List En) (t0 : TypeId) (hE : ∀ e ∈ EL, e.t = t0) (s : Nat) (D : List Nat) (ZC : List Value) (S : St) (ok : Ok s EL D S) (ivb vb : Nat) (ib ie : En) (hib : ib ∈ EL) (hie : ie ∈ EL) (hA0 : ∀ w, Holds A w → w.cell? ⟨ivb, 0, none⟩ = some (.iface ib.t ib.u)) (hA1 : ∀ w, Holds A w → w.cell? ⟨ivb, 1, none⟩ = some (.iface ie.t ie.u)) (σ : Type) (R : σ → HProp) (step : σ → Nat → σ × Bool) (pre : Nat → σ → Prop) (hpre : Pre step pre) (x : Nat) (hx : x ∈ D) (hxs : x ≠ s) (l r : T) (c : Bool) (hm : (S x).m.k = kmo (kmo (S x).it.e.k l.mx) r.mx) (hv : ∀ i ∈ D, ∀ m q, pre (m + 1) q → Does Try.prog 158 [.pointer (some ⟨i, 0, none⟩), .pointer (some ⟨vb, 0, none⟩)] [A, Ens EL, Sto S D, Blk s ZC 177, R q] (fun v L => v = .bool (step q i).2 ∧ L = [A, Ens EL, Sto S D, Blk s ZC 177, R (step q i).1])) (ihl : ∀ m q, pre ((vl ib.k ie.k l).length + m) q → Does Try.prog 157 [.pointer (some ⟨(S x).l, 0, none⟩), .pointer (some ⟨ivb, 0, none⟩), .pointer (some ⟨s, 0, none⟩), .func (.func 158) #[] #[.pointer (some ⟨vb, 0, none⟩)]] [A, Ens EL, Sto S D, Blk s ZC 177, R q] (fun v L => v = .bool (vfold step (vl ib.k ie.k l) q).2 ∧ L = [A, Ens EL, Sto S D, Blk s ZC 177, R (vfold step (vl ib.k ie.k l) q).1])) (ihr : ∀ m q, pre ((vl ib.k ie.k r).length + m) q → Does Try.prog 157 [.pointer (some ⟨(S x).r, 0, none⟩), .pointer (some ⟨ivb, 0, none⟩), .pointer (some ⟨s, 0, none⟩), .func (.func 158) #[] #[.pointer (some ⟨vb, 0, none⟩)]] [A, Ens EL, Sto S D, Blk s ZC 177, R q] (fun v L => v = .bool (vfold step (vl ib.k ie.k r) q).2 ∧ L = [A, Ens EL, Sto S D, Blk s ZC 177, R (vfold step (vl ib.k ie.k r) q).1])) (m : Nat) (q : σ) (hp : pre ((vl ib.k ie.k (.node x l (S x).it c r)).length + m) q) : Does Try.prog 157 [.pointer (some ⟨x, 0, none⟩), .pointer (some ⟨ivb, 0, none⟩), .pointer (some ⟨s, 0, none⟩), .func (.func 158) #[] #[.pointer (some ⟨vb, 0, none⟩)]] [A, Ens EL, Sto S D, Blk s ZC 177, R q] (fun v L => v = .bool (vfold step (vl ib.k ie.k (.node x l (S x).it c r)) q).2 ∧ L = [A, Ens EL, Sto S D, Blk s ZC 177, R (vfold step (vl ib.k ie.k (.node x l (S x).it c r)) q).1]) := by
  refine Does.enter 97 Try.func157 rfl rfl rfl fun W F => ?_
  show WPc _ _ _ _ _ [(0, .pointer (some ⟨x, 0, none⟩)), (1, .pointer (some ⟨ivb, 0, none⟩)), (2, .pointer (some ⟨s, 0, none⟩)), (3, .func (.func 158) #[] #[.pointer (some ⟨vb, 0, none⟩)])] (A :: Ens EL :: Sto S D :: Blk s ZC 177 :: R q :: F)
  refine WPc.seq ?_
  refine WPc.region ?_
  refine WP.val rfl rfl rfl (Val.assign rfl rfl) ?_
  refine WP.nil ?_
  refine Out.next ?_
  refine WPc.seq ?_
  refine WPc.seq ?_
  refine WPc.region ?_
  refine WP.val rfl rfl rfl (Val.move rfl rfl) ?_
  refine WP.val rfl rfl rfl (Val.move rfl rfl) ?_
  refine WP.val rfl rfl rfl (Val.eqP (T1 := 177) (T2 := 177) rfl pn168 rfl rfl rfl rfl (fun w h => whole (h.at 2 rfl) (h.at 3 rfl) (.inr hx)) (fun w h => whole (h.at 2 rfl) (h.at 3 rfl) (.inl rfl))) ?_
  refine WP.nil ?_
  refine Out.next ?_
  refine WPc.ifP rfl (fun h1 => ?_) (fun h1 => ?_)
  · skip
    have h1 : (x = s) := h1
    exact absurd (by assumption) hxs
  · skip
    have h1 : ¬ (x = s) := h1
    refine WPc.skip ?_
    refine Out.next ?_
    refine WPc.seq ?_
    refine WPc.region ?_
    refine WP.val rfl rfl rfl (Val.move rfl rfl) ?_
    refine WP.val rfl rfl rfl (Val.move rfl rfl) ?_
    refine WP.val rfl rfl rfl (Val.nilCheck rfl rfl) ?_
    refine WP.val rfl rfl rfl (Val.fieldAddr (j := 0) rfl Ty.fo177_0 rfl rfl) ?_
    refine WP.val rfl rfl rfl (Val.fieldAddr (j := 0) rfl Ty.fo174_0 rfl rfl) ?_
    refine WP.val rfl rfl rfl (Val.iface rfl rfl Ty.ni279) ?_
    refine WP.perm pl1 ?_
    refine WP.perm pl2 ?_
    refine WP.perm pl2 ?_
    refine WP.eff rfl rfl rfl (Eff.call rfl rfl Try.call153 (icmp_does A (Sto S D) EL t0 hE ivb x ib ie (S x).it.b (S x).it.e hib hie (Ok.b ok hx) (Ok.e ok hx) hA0 hA1 (fun w h => sto_b h hx rfl) (fun w h => sto_e h hx rfl))) ?_
    rintro _ _ ⟨_, ⟨rfl, rfl⟩, rfl⟩
    show WP _ _ _ _ _ _ _ (A :: Sto S D :: Ens EL :: Blk s ZC 177 :: R q :: F)
    refine WP.val rfl rfl rfl (Val.assign rfl rfl) ?_
    refine WP.nil ?_
    refine Out.next ?_
    refine WPc.seq ?_
    refine WPc.block ?_
    refine WPc.seq ?_
    refine WPc.region ?_
    refine WP.val rfl rfl rfl (Val.move rfl rfl) ?_
    refine WP.val rfl rfl rfl (Val.lss rfl rfl rfl) ?_
    refine WP.val rfl rfl rfl (Val.assign rfl rfl) ?_
    refine WP.nil ?_
    refine Out.next ?_
    refine WPc.ifP rfl (fun h2 => ?_) (fun h2 => ?_)
    · skip
      have h2 : ((icmp ib.k ie.k ((S x).it.b).k ((S x).it.e).k) < (0 : Int)) := h2
      refine WPc.seq ?_
      have hp0 : pre ((vl ib.k ie.k l).length + m) q := by
        have e0 : (vl ib.k ie.k (.node x l (S x).it c r)).length + m = (vl ib.k ie.k l).length + m := by rw [vl_n (by assumption)]; (try simp only [List.length_append, List.length_cons]); (try omega)
        rw [← e0]; exact hp
      refine WPc.region ?_
      refine WP.val rfl rfl rfl (Val.move rfl rfl) ?_
      refine WP.val rfl rfl rfl (Val.nilCheck rfl rfl) ?_
      refine WP.val rfl rfl rfl (Val.fieldAddr (j := 4) rfl Ty.fo177_2 rfl rfl) ?_
      refine WP.val rfl rfl rfl (Val.load (v := .pointer (some ⟨(S x).l, 0, none⟩)) rfl Ty.sc168 rfl (fun w h => sto_l (h.at 1 rfl) hx rfl)) ?_
      refine WP.val rfl rfl rfl (Val.move rfl rfl) ?_
      refine WP.val rfl rfl rfl (Val.move rfl rfl) ?_
      refine WP.val rfl rfl rfl (Val.move rfl rfl) ?_
      refine WP.perm pl4 ?_
      refine WP.perm pl4 ?_
      refine WP.perm pl3 ?_
      refine WP.perm pl4 ?_
      refine WP.perm pl4 ?_
      refine WP.eff rfl rfl rfl (Eff.call rfl rfl Try.call157 (ihl m q hp0)) ?_
      rintro _ _ ⟨_, ⟨rfl, rfl⟩, rfl⟩
      show WP _ _ _ _ _ _ _ (A :: Ens EL :: Sto S D :: Blk s ZC 177 :: R ((vfold step (vl ib.k ie.k l) q).1) :: F)
      refine WP.val rfl rfl rfl (Val.not rfl rfl) ?_
      refine WP.nil ?_
      refine Out.next ?_
      refine WPc.cond rfl (fun h3 => ?_) (fun h3 => ?_)
      · skip
        have h3 : (!((vfold step (vl ib.k ie.k l) q).2)) = true := h3
        refine WPc.seq ?_
        refine WPc.region ?_
        refine WP.val rfl rfl rfl (Val.assign rfl rfl) ?_
        refine WP.nil ?_
        refine Out.next ?_
        refine WPc.ret ?_
        refine Out.block_ret ?_
        refine Out.then_ret ?_
        have hvl : vl ib.k ie.k (.node x l (S x).it c r) = _ := vl_n (by assumption)
        have hvf : vfold step (vl ib.k ie.k (.node x l (S x).it c r)) q = ((vfold step (vl ib.k ie.k l) q).1, false) := by rw [hvl]; simp_all [vfold_app, vfold, Prod.ext_iff]
        exact Out.ret1 (L' := [A, Ens EL, Sto S D, Blk s ZC 177, R ((vfold step (vl ib.k ie.k l) q).1)]) Try.results157 rfl ⟨by rw [hvf], by rw [hvf]⟩ (fun _ h => h)
      · skip
        have h3 : (!((vfold step (vl ib.k ie.k l) q).2)) = false := h3
        refine WPc.skip ?_
        refine Out.block ?_
        refine Out.next ?_
        refine WPc.seq ?_
        refine WPc.region ?_
        refine WP.val rfl rfl rfl (Val.assign rfl rfl) ?_
        refine WP.nil ?_
        refine Out.next ?_
        refine WPc.ret ?_
        have hvl : vl ib.k ie.k (.node x l (S x).it c r) = _ := vl_n (by assumption)
        have hvf : vfold step (vl ib.k ie.k (.node x l (S x).it c r)) q = ((vfold step (vl ib.k ie.k l) q).1, true) := by rw [hvl]; simp_all [vfold_app, vfold, Prod.ext_iff]
        exact Out.ret1 (L' := [A, Ens EL, Sto S D, Blk s ZC 177, R ((vfold step (vl ib.k ie.k l) q).1)]) Try.results157 rfl ⟨by rw [hvf], by rw [hvf]⟩ (fun _ h => h)
    · skip
      have h2 : ¬ ((icmp ib.k ie.k ((S x).it.b).k ((S x).it.e).k) < (0 : Int)) := h2
      refine WPc.seq ?_
      refine WPc.region ?_
      refine WP.val rfl rfl rfl (Val.move rfl rfl) ?_
      refine WP.val rfl rfl rfl (Val.gtr rfl rfl rfl) ?_
      refine WP.val rfl rfl rfl (Val.assign rfl rfl) ?_
      refine WP.nil ?_
      refine Out.next ?_
      refine WPc.ifP rfl (fun h4 => ?_) (fun h4 => ?_)
      · skip
        have h4 : ((0 : Int) < (icmp ib.k ie.k ((S x).it.b).k ((S x).it.e).k)) := h4
        refine WPc.seq ?_
        refine WPD.start (Sat W [Sto S D]) Ty.mixed ?_
        refine WPD.takeM 0 rfl rfl rfl rfl (by kernel_rfl) (by kernel_rfl) (by kernel_rfl) (by kernel_rfl) (fun _ _ _ h => h) (fun w h => ((h.perm pl1)).dropEnd (L := [_])) (Val.move rfl rfl) ?_
        refine WPD.takeM 1 rfl rfl rfl rfl (by kernel_rfl) (by kernel_rfl) (by kernel_rfl) (by kernel_rfl) (fun _ _ _ h => h) (fun w h => ((h.perm pl1)).dropEnd (L := [_])) (Val.nilCheck rfl rfl) ?_
        refine WPD.takeM 2 rfl rfl rfl rfl (by kernel_rfl) (by kernel_rfl) (by kernel_rfl) (by kernel_rfl) (fun _ _ _ h => h) (fun w h => ((h.perm pl1)).dropEnd (L := [_])) (Val.fieldAddr (j := 0) rfl Ty.fo177_0 rfl rfl) ?_
        refine WPD.takeM 3 rfl rfl rfl rfl (by kernel_rfl) (by kernel_rfl) (by kernel_rfl) (by kernel_rfl) (fun _ _ _ h => h) (fun w h => ((h.perm pl1)).dropEnd (L := [_])) (Val.fieldAddr (j := 0) rfl Ty.fo174_0 rfl rfl) ?_
        refine WPD.takeM 4 rfl rfl rfl rfl (by kernel_rfl) (by kernel_rfl) (by kernel_rfl) (by kernel_rfl) (fun _ _ _ h => h) (fun w h => ((h.perm pl1)).dropEnd (L := [_])) (Val.fieldAddr (j := 0) rfl Ty.fo172_0 rfl rfl) ?_
        refine WPD.take 5 rfl rfl rfl rfl (by kernel_rfl) (by kernel_rfl) (by kernel_rfl) (by kernel_rfl) (fun _ _ _ h => h) (by kernel_rfl) (fun w h => ((h.perm pl1)).dropEnd (L := [_])) (Val.load (v := .iface ((S x).it.b).t (((S x).it.b).u)) rfl Ty.sc170 rfl (fun w h => sto_b (h.at 0 rfl) hx rfl)) ?_
        refine WPD.takeM 6 rfl rfl rfl rfl (by kernel_rfl) (by kernel_rfl) (by kernel_rfl) (by kernel_rfl) (fun _ _ _ h => h) (fun w h => ((h.perm pl1)).dropEnd (L := [_])) (Val.move rfl rfl) ?_
        refine WPD.takeM 7 rfl rfl rfl rfl (by kernel_rfl) (by kernel_rfl) (by kernel_rfl) (by kernel_rfl) (fun _ _ _ h => h) (fun w h => ((h.perm pl1)).dropEnd (L := [_])) (Val.nilCheck rfl rfl) ?_
        refine WPD.takeM 8 rfl rfl rfl rfl (by kernel_rfl) (by kernel_rfl) (by kernel_rfl) (by kernel_rfl) (fun _ _ _ h => h) (fun w h => ((h.perm pl1)).dropEnd (L := [_])) (Val.fieldAddr (j := 3) rfl Ty.fo177_1 rfl rfl) ?_
        refine WPD.take 9 rfl rfl rfl rfl (by kernel_rfl) (by kernel_rfl) (by kernel_rfl) (by kernel_rfl) (fun _ _ _ h => h) (by kernel_rfl) (fun w h => ((h.perm pl1)).dropEnd (L := [_])) (Val.load (v := .iface ((S x).m).t (((S x).m).u)) rfl Ty.sc170 rfl (fun w h => sto_m (h.at 0 rfl) hx rfl)) ?_
        refine WPD.takeM 10 rfl rfl rfl rfl (by kernel_rfl) (by kernel_rfl) (by kernel_rfl) (by kernel_rfl) (fun _ _ _ h => h) (fun w h => ((h.perm pl1)).dropEnd (L := [_])) (Val.mk (cs := [.iface ((S x).it.b).t (((S x).it.b).u), .iface ((S x).m).t (((S x).m).u)]) rfl rfl (fun _ => by kernel_rfl)) ?_
        refine WPD.step 11 (by kernel_rfl) rfl rfl rfl rfl (Eff.alloc rfl Ty.z172) ?_
        rintro _ _ ⟨b1, rfl, rfl⟩
        refine ⟨(fun w h => ((h.perm pl2)).dropEnd (L := [_])), ?_⟩
        refine WPD.stepC0 12 (by kernel_rfl) rfl rfl rfl (by kernel_rfl) (Eff.storeAgg (cs := [.iface ((S x).it.b).t (((S x).it.b).u), .iface ((S x).m).t (((S x).m).u)]) (C' := [.iface ((S x).it.b).t (((S x).it.b).u), .iface ((S x).m).t (((S x).m).u)]) rfl Ty.ag172 rfl rfl rfl rfl (by simp) rfl) ?_
        rintro _ _ rfl
        refine ⟨(Sat W (Blk b1 [.iface ((S x).it.b).t (((S x).it.b).u), .iface ((S x).m).t (((S x).m).u)] 172 :: A :: Sto S D :: Ens EL :: Blk s ZC 177 :: R q :: F)), (fun _ h => h), ?_⟩
        refine WPD.done (by kernel_rfl) ?_
        refine Out.next ?_
        refine WPc.seq ?_
        refine WPc.region ?_
        refine WP.val rfl rfl rfl (Val.move rfl rfl) ?_
        refine WP.val rfl rfl rfl (Val.iface rfl rfl Ty.ni279) ?_
        refine WP.perm pl3 ?_
        refine WP.perm pl2 ?_
        refine WP.perm pl2 ?_
        refine WP.eff rfl rfl rfl (Eff.call rfl rfl Try.call153 (icmp_does (Blk b1 [.iface ((S x).it.b).t (((S x).it.b).u), .iface ((S x).m).t (((S x).m).u)] 172) A EL t0 hE b1 ivb ((S x).it.b) ((S x).m) ib ie (Ok.b ok hx) (Ok.m ok hx) hib hie (fun w h => h.cell 0) (fun w h => h.cell 1) hA0 hA1)) ?_
        rintro _ _ ⟨_, ⟨rfl, rfl⟩, rfl⟩
        show WP _ _ _ _ _ _ _ (Blk b1 [.iface ((S x).it.b).t (((S x).it.b).u), .iface ((S x).m).t (((S x).m).u)] 172 :: A :: Ens EL :: Sto S D :: Blk s ZC 177 :: R q :: F)
        refine WP.val rfl rfl rfl (Val.eql rfl rfl rfl) ?_
        refine WP.nil ?_
        refine Out.next ?_
        refine WPc.ifP rfl (fun h5 => ?_) (fun h5 => ?_)
        · skip
          have h5 : ((icmp ((S x).it.b).k ((S x).m).k ib.k ie.k) = (0 : Int)) := h5
          refine WPc.seq ?_
          have hp0 : pre ((vl ib.k ie.k l).length + ((vl ib.k ie.k r).length + m)) q := by
            have e0 : (vl ib.k ie.k (.node x l (S x).it c r)).length + m = (vl ib.k ie.k l).length + ((vl ib.k ie.k r).length + m) := by rw [vl_p (by assumption) (by assumption) (by rw [← hm]; assumption)]; (try simp only [List.length_append, List.length_cons]); (try omega)
            rw [← e0]; exact hp
          refine WPc.region ?_
          refine WP.val rfl rfl rfl (Val.move rfl rfl) ?_
          refine WP.val rfl rfl rfl (Val.nilCheck rfl rfl) ?_
          refine WP.val rfl rfl rfl (Val.fieldAddr (j := 4) rfl Ty.fo177_2 rfl rfl) ?_
          refine WP.val rfl rfl rfl (Val.load (v := .pointer (some ⟨(S x).l, 0, none⟩)) rfl Ty.sc168 rfl (fun w h => sto_l (h.at 3 rfl) hx rfl)) ?_
          refine WP.val rfl rfl rfl (Val.move rfl rfl) ?_
          refine WP.val rfl rfl rfl (Val.move rfl rfl) ?_
          refine WP.val rfl rfl rfl (Val.move rfl rfl) ?_
          refine WP.perm pl5 ?_
          refine WP.perm pl5 ?_
          refine WP.perm pl5 ?_
          refine WP.perm pl5 ?_
          refine WP.perm pl5 ?_
          refine WP.eff rfl rfl rfl (Eff.call rfl rfl Try.call157 (ihl ((vl ib.k ie.k r).length + m) q hp0)) ?_
          rintro _ _ ⟨_, ⟨rfl, rfl⟩, rfl⟩
          show WP _ _ _ _ _ _ _ (A :: Ens EL :: Sto S D :: Blk s ZC 177 :: R ((vfold step (vl ib.k ie.k l) q).1) :: Blk b1 [.iface ((S x).it.b).t (((S x).it.b).u), .iface ((S x).m).t (((S x).m).u)] 172 :: F)
          refine WP.val rfl rfl rfl (Val.not rfl rfl) ?_
          refine WP.val rfl rfl rfl (Val.move rfl rfl) ?_
          refine WP.splitB 86 rfl (fun h6 => ?_) (fun h6 => ?_)
          · skip
            refine WP.skip rfl rfl rfl rfl rfl rfl rfl ?_
            refine WP.skip rfl rfl rfl rfl rfl rfl rfl ?_
            refine WP.skip rfl rfl rfl rfl rfl rfl rfl ?_
            refine WP.skip rfl rfl rfl rfl rfl rfl rfl ?_
            refine WP.skip rfl rfl rfl rfl rfl rfl rfl ?_
            refine WP.skip rfl rfl rfl rfl rfl rfl rfl ?_
            refine WP.skip rfl rfl rfl rfl rfl rfl rfl ?_
            refine WP.skip rfl rfl rfl rfl rfl rfl rfl ?_
            refine WP.skip rfl rfl rfl rfl rfl rfl rfl ?_
            refine WP.val rfl rfl rfl (Val.pickT rfl rfl rfl) ?_
            refine WP.nil ?_
            refine Out.next ?_
            refine WPc.condT rfl rfl ?_
            refine WPc.seq ?_
            refine WPc.region ?_
            refine WP.val rfl rfl rfl (Val.assign rfl rfl) ?_
            refine WP.nil ?_
            refine Out.next ?_
            refine WPc.ret ?_
            refine Out.block_ret ?_
            refine Out.then_ret ?_
            have hvl : vl ib.k ie.k (.node x l (S x).it c r) = _ := vl_p (by assumption) (by assumption) (by rw [← hm]; assumption)
            have hvf : vfold step (vl ib.k ie.k (.node x l (S x).it c r)) q = ((vfold step (vl ib.k ie.k l) q).1, false) := by rw [hvl]; simp_all [vfold_app, vfold, Prod.ext_iff]
            refine Out.perm pl5 ?_
            refine Out.drop ?_
            exact Out.ret1 (L' := [A, Ens EL, Sto S D, Blk s ZC 177, R ((vfold step (vl ib.k ie.k l) q).1)]) Try.results157 rfl ⟨by rw [hvf], by rw [hvf]⟩ (fun _ h => h)
          · skip
            refine WP.valG rfl rfl rfl rfl rfl rfl rfl (Val.move rfl rfl) ?_
            refine WP.valG rfl rfl rfl rfl rfl rfl rfl (Val.nilCheck rfl rfl) ?_
            refine WP.valG rfl rfl rfl rfl rfl rfl rfl (Val.fieldAddr (j := 5) rfl Ty.fo177_3 rfl rfl) ?_
            refine WP.valG rfl rfl rfl rfl rfl rfl rfl (Val.load (v := .pointer (some ⟨(S x).r, 0, none⟩)) rfl Ty.sc168 rfl (fun w h => sto_r (h.at 2 rfl) hx rfl)) ?_
            refine WP.valG rfl rfl rfl rfl rfl rfl rfl (Val.move rfl rfl) ?_
            refine WP.valG rfl rfl rfl rfl rfl rfl rfl (Val.move rfl rfl) ?_
            refine WP.valG rfl rfl rfl rfl rfl rfl rfl (Val.move rfl rfl) ?_
            refine WP.perm pl4 ?_
            refine WP.perm pl4 ?_
            refine WP.perm pl4 ?_
            refine WP.perm pl4 ?_
            refine WP.perm pl4 ?_
            refine WP.effG rfl rfl rfl rfl rfl rfl rfl (Eff.call rfl rfl Try.call157 (ihr m ((vfold step (vl ib.k ie.k l) q).1) (hpre.fold hp0 (by have h0 := ‹(!(vfold step (vl ib.k ie.k l) q).2) = false›; simpa using h0)))) ?_
            rintro _ _ ⟨_, ⟨rfl, rfl⟩, rfl⟩
            show WP _ _ _ _ _ _ _ (A :: Ens EL :: Sto S D :: Blk s ZC 177 :: R ((vfold step (vl ib.k ie.k r) ((vfold step (vl ib.k ie.k l) q).1)).1) :: Blk b1 [.iface ((S x).it.b).t (((S x).it.b).u), .iface ((S x).m).t (((S x).m).u)] 172 :: F)
            refine WP.valG rfl rfl rfl rfl rfl rfl rfl (Val.not rfl rfl) ?_
            refine WP.val rfl rfl rfl (Val.pickF rfl rfl rfl) ?_
            refine WP.nil ?_
            refine Out.next ?_
            refine WPc.cond rfl (fun h7 => ?_) (fun h7 => ?_)
            · skip
              have h7 : (!((vfold step (vl ib.k ie.k r) ((vfold step (vl ib.k ie.k l) q).1)).2)) = true := h7
              refine WPc.seq ?_
              refine WPc.region ?_
              refine WP.val rfl rfl rfl (Val.assign rfl rfl) ?_
              refine WP.nil ?_
              refine Out.next ?_
              refine WPc.ret ?_
              refine Out.block_ret ?_
              refine Out.then_ret ?_
              have hvl : vl ib.k ie.k (.node x l (S x).it c r) = _ := vl_p (by assumption) (by assumption) (by rw [← hm]; assumption)
              have hvf : vfold step (vl ib.k ie.k (.node x l (S x).it c r)) q = ((vfold step (vl ib.k ie.k r) ((vfold step (vl ib.k ie.k l) q).1)).1, false) := by rw [hvl]; simp_all [vfold_app, vfold, Prod.ext_iff]
              refine Out.perm pl5 ?_
              refine Out.drop ?_
              exact Out.ret1 (L' := [A, Ens EL, Sto S D, Blk s ZC 177, R ((vfold step (vl ib.k ie.k r) ((vfold step (vl ib.k ie.k l) q).1)).1)]) Try.results157 rfl ⟨by rw [hvf], by rw [hvf]⟩ (fun _ h => h)
            · skip
              have h7 : (!((vfold step (vl ib.k ie.k r) ((vfold step (vl ib.k ie.k l) q).1)).2)) = false := h7
              refine WPc.skip ?_
              refine Out.block ?_
              refine Out.next ?_
              refine WPc.seq ?_
              refine WPc.region ?_
              refine WP.val rfl rfl rfl (Val.assign rfl rfl) ?_
              refine WP.nil ?_
              refine Out.next ?_
              refine WPc.ret ?_
              have hvl : vl ib.k ie.k (.node x l (S x).it c r) = _ := vl_p (by assumption) (by assumption) (by rw [← hm]; assumption)
              have hvf : vfold step (vl ib.k ie.k (.node x l (S x).it c r)) q = ((vfold step (vl ib.k ie.k r) ((vfold step (vl ib.k ie.k l) q).1)).1, true) := by rw [hvl]; simp_all [vfold_app, vfold, Prod.ext_iff]
              refine Out.perm pl5 ?_
              refine Out.drop ?_
              exact Out.ret1 (L' := [A, Ens EL, Sto S D, Blk s ZC 177, R ((vfold step (vl ib.k ie.k r) ((vfold step (vl ib.k ie.k l) q).1)).1)]) Try.results157 rfl ⟨by rw [hvf], by rw [hvf]⟩ (fun _ h => h)
        · skip
          have h5 : ¬ ((icmp ((S x).it.b).k ((S x).m).k ib.k ie.k) = (0 : Int)) := h5
          refine WPc.skip ?_
          refine Out.block ?_
          refine Out.next ?_
          refine WPc.seq ?_
          refine WPc.region ?_
          refine WP.val rfl rfl rfl (Val.assign rfl rfl) ?_
          refine WP.nil ?_
          refine Out.next ?_
          refine WPc.ret ?_
          have hvl : vl ib.k ie.k (.node x l (S x).it c r) = _ := vl_0 (by assumption) (by assumption) (by rw [← hm]; assumption)
          have hvf : vfold step (vl ib.k ie.k (.node x l (S x).it c r)) q = (q, true) := by rw [hvl]; simp_all [vfold_app, vfold, Prod.ext_iff]
          refine Out.drop ?_
          exact Out.ret1 (L' := [A, Ens EL, Sto S D, Blk s ZC 177, R q]) Try.results157 rfl ⟨by rw [hvf], by rw [hvf]⟩ (fun _ h => h)
      · skip
        have h4 : ¬ ((0 : Int) < (icmp ib.k ie.k ((S x).it.b).k ((S x).it.e).k)) := h4
        refine WPc.seq ?_
        have hp0 : pre ((vl ib.k ie.k l).length + ((vl ib.k ie.k r).length + m + 1)) q := by
          have e0 : (vl ib.k ie.k (.node x l (S x).it c r)).length + m = (vl ib.k ie.k l).length + ((vl ib.k ie.k r).length + m + 1) := by rw [vl_z (by assumption) (by assumption)]; (try simp only [List.length_append, List.length_cons]); (try omega)
          rw [← e0]; exact hp
        refine WPc.region ?_
        refine WP.val rfl rfl rfl (Val.move rfl rfl) ?_
        refine WP.val rfl rfl rfl (Val.nilCheck rfl rfl) ?_
        refine WP.val rfl rfl rfl (Val.fieldAddr (j := 4) rfl Ty.fo177_2 rfl rfl) ?_
        refine WP.val rfl rfl rfl (Val.load (v := .pointer (some ⟨(S x).l, 0, none⟩)) rfl Ty.sc168 rfl (fun w h => sto_l (h.at 1 rfl) hx rfl)) ?_
        refine WP.val rfl rfl rfl (Val.move rfl rfl) ?_
        refine WP.val rfl rfl rfl (Val.move rfl rfl) ?_
        refine WP.val rfl rfl rfl (Val.move rfl rfl) ?_
        refine WP.perm pl4 ?_
        refine WP.perm pl4 ?_
        refine WP.perm pl3 ?_
        refine WP.perm pl4 ?_
        refine WP.perm pl4 ?_
        refine WP.eff rfl rfl rfl (Eff.call rfl rfl Try.call157 (ihl ((vl ib.k ie.k r).length + m + 1) q hp0)) ?_
        rintro _ _ ⟨_, ⟨rfl, rfl⟩, rfl⟩
        show WP _ _ _ _ _ _ _ (A :: Ens EL :: Sto S D :: Blk s ZC 177 :: R ((vfold step (vl ib.k ie.k l) q).1) :: F)
        refine WP.val rfl rfl rfl (Val.not rfl rfl) ?_
        refine WP.val rfl rfl rfl (Val.move rfl rfl) ?_
        refine WP.splitB 30 rfl (fun h8 => ?_) (fun h8 => ?_)
        · skip
          refine WP.skip rfl rfl rfl rfl rfl rfl rfl ?_
          refine WP.skip rfl rfl rfl rfl rfl rfl rfl ?_
          refine WP.skip rfl rfl rfl rfl rfl rfl rfl ?_
          refine WP.skip rfl rfl rfl rfl rfl rfl rfl ?_
          refine WP.val rfl rfl rfl (Val.pickT rfl rfl rfl) ?_
          refine WP.val rfl rfl rfl (Val.move rfl rfl) ?_
          refine WP.skip rfl rfl rfl rfl rfl rfl rfl ?_
          refine WP.skip rfl rfl rfl rfl rfl rfl rfl ?_
          refine WP.skip rfl rfl rfl rfl rfl rfl rfl ?_
          refine WP.skip rfl rfl rfl rfl rfl rfl rfl ?_
          refine WP.skip rfl rfl rfl rfl rfl rfl rfl ?_
          refine WP.skip rfl rfl rfl rfl rfl rfl rfl ?_
          refine WP.skip rfl rfl rfl rfl rfl rfl rfl ?_
          refine WP.skip rfl rfl rfl rfl rfl rfl rfl ?_
          refine WP.skip rfl rfl rfl rfl rfl rfl rfl ?_
          refine WP.val rfl rfl rfl (Val.pickT rfl rfl rfl) ?_
          refine WP.nil ?_
          refine Out.next ?_
          refine WPc.condT rfl rfl ?_
          refine WPc.seq ?_
          refine WPc.region ?_
          refine WP.val rfl rfl rfl (Val.assign rfl rfl) ?_
          refine WP.nil ?_
          refine Out.next ?_
          refine WPc.ret ?_
          refine Out.block_ret ?_
          refine Out.then_ret ?_
          have hvl : vl ib.k ie.k (.node x l (S x).it c r) = _ := vl_z (by assumption) (by assumption)
          have hvf : vfold step (vl ib.k ie.k (.node x l (S x).it c r)) q = ((vfold step (vl ib.k ie.k l) q).1, false) := by rw [hvl]; simp_all [vfold_app, vfold, Prod.ext_iff]
          exact Out.ret1 (L' := [A, Ens EL, Sto S D, Blk s ZC 177, R ((vfold step (vl ib.k ie.k l) q).1)]) Try.results157 rfl ⟨by rw [hvf], by rw [hvf]⟩ (fun _ h => h)
        · skip
          refine WP.valG rfl rfl rfl rfl rfl rfl rfl (Val.move rfl rfl) ?_
          refine WP.valG rfl rfl rfl rfl rfl rfl rfl (Val.move rfl rfl) ?_
          refine WP.perm pl4 ?_
          refine WP.perm pl4 ?_
          refine WP.perm pl4 ?_
          refine WP.perm pl4 ?_
          refine WP.perm pl4 ?_
          refine WP.effG rfl rfl rfl rfl rfl rfl rfl (Eff.callF (args' := [.pointer (some ⟨x, 0, none⟩), .pointer (some ⟨vb, 0, none⟩)]) rfl rfl rfl rfl Try.call158 (hv x hx ((vl ib.k ie.k r).length + m) ((vfold step (vl ib.k ie.k l) q).1) (hpre.fold hp0 (by have h0 := ‹(!(vfold step (vl ib.k ie.k l) q).2) = false›; simpa using h0)))) ?_
          rintro _ _ ⟨_, ⟨rfl, rfl⟩, rfl⟩
          show WP _ _ _ _ _ _ _ (A :: Ens EL :: Sto S D :: Blk s ZC 177 :: R ((step ((vfold step (vl ib.k ie.k l) q).1) x).1) :: F)
          refine WP.valG rfl rfl rfl rfl rfl rfl rfl (Val.not rfl rfl) ?_
          refine WP.val rfl rfl rfl (Val.pickF rfl rfl rfl) ?_
          refine WP.val rfl rfl rfl (Val.move rfl rfl) ?_
          refine WP.splitB 36 rfl (fun h9 => ?_) (fun h9 => ?_)
          · skip
            refine WP.skip rfl rfl rfl rfl rfl rfl rfl ?_
            refine WP.skip rfl rfl rfl rfl rfl rfl rfl ?_
            refine WP.skip rfl rfl rfl rfl rfl rfl rfl ?_
            refine WP.skip rfl rfl rfl rfl rfl rfl rfl ?_
            refine WP.skip rfl rfl rfl rfl rfl rfl rfl ?_
            refine WP.skip rfl rfl rfl rfl rfl rfl rfl ?_
            refine WP.skip rfl rfl rfl rfl rfl rfl rfl ?_
            refine WP.skip rfl rfl rfl rfl rfl rfl rfl ?_
            refine WP.skip rfl rfl rfl rfl rfl rfl rfl ?_
            refine WP.val rfl rfl rfl (Val.pickT rfl rfl rfl) ?_
            refine WP.nil ?_
            refine Out.next ?_
            refine WPc.condT rfl rfl ?_
            refine WPc.seq ?_
            refine WPc.region ?_
            refine WP.val rfl rfl rfl (Val.assign rfl rfl) ?_
            refine WP.nil ?_
            refine Out.next ?_
            refine WPc.ret ?_
            refine Out.block_ret ?_
            refine Out.then_ret ?_
            have hvl : vl ib.k ie.k (.node x l (S x).it c r) = _ := vl_z (by assumption) (by assumption)
            have hvf : vfold step (vl ib.k ie.k (.node x l (S x).it c r)) q = ((step ((vfold step (vl ib.k ie.k l) q).1) x).1, false) := by rw [hvl]; simp_all [vfold_app, vfold, Prod.ext_iff]
            exact Out.ret1 (L' := [A, Ens EL, Sto S D, Blk s ZC 177, R ((step ((vfold step (vl ib.k ie.k l) q).1) x).1)]) Try.results157 rfl ⟨by rw [hvf], by rw [hvf]⟩ (fun _ h => h)
          · skip
            refine WP.valG rfl rfl rfl rfl rfl rfl rfl (Val.move rfl rfl) ?_
            refine WP.valG rfl rfl rfl rfl rfl rfl rfl (Val.nilCheck rfl rfl) ?_
            refine WP.valG rfl rfl rfl rfl rfl rfl rfl (Val.fieldAddr (j := 5) rfl Ty.fo177_3 rfl rfl) ?_
            refine WP.valG rfl rfl rfl rfl rfl rfl rfl (Val.load (v := .pointer (some ⟨(S x).r, 0, none⟩)) rfl Ty.sc168 rfl (fun w h => sto_r (h.at 2 rfl) hx rfl)) ?_
            refine WP.valG rfl rfl rfl rfl rfl rfl rfl (Val.move rfl rfl) ?_
            refine WP.valG rfl rfl rfl rfl rfl rfl rfl (Val.move rfl rfl) ?_
            refine WP.valG rfl rfl rfl rfl rfl rfl rfl (Val.move rfl rfl) ?_
            refine WP.perm pl4 ?_
            refine WP.perm pl4 ?_
            refine WP.perm pl4 ?_
            refine WP.perm pl4 ?_
            refine WP.perm pl4 ?_
            refine WP.effG rfl rfl rfl rfl rfl rfl rfl (Eff.call rfl rfl Try.call157 (ihr m ((step ((vfold step (vl ib.k ie.k l) q).1) x).1) (hpre.step (hpre.fold hp0 (by have h0 := ‹(!(vfold step (vl ib.k ie.k l) q).2) = false›; simpa using h0))))) ?_
            rintro _ _ ⟨_, ⟨rfl, rfl⟩, rfl⟩
            show WP _ _ _ _ _ _ _ (A :: Ens EL :: Sto S D :: Blk s ZC 177 :: R ((vfold step (vl ib.k ie.k r) ((step ((vfold step (vl ib.k ie.k l) q).1) x).1)).1) :: F)
            refine WP.valG rfl rfl rfl rfl rfl rfl rfl (Val.not rfl rfl) ?_
            refine WP.val rfl rfl rfl (Val.pickF rfl rfl rfl) ?_
            refine WP.nil ?_
            refine Out.next ?_
            refine WPc.cond rfl (fun h10 => ?_) (fun h10 => ?_)
            · skip
              have h10 : (!((vfold step (vl ib.k ie.k r) ((step ((vfold step (vl ib.k ie.k l) q).1) x).1)).2)) = true := h10
              refine WPc.seq ?_
              refine WPc.region ?_
              refine WP.val rfl rfl rfl (Val.assign rfl rfl) ?_
              refine WP.nil ?_
              refine Out.next ?_
              refine WPc.ret ?_
              refine Out.block_ret ?_
              refine Out.then_ret ?_
              have hvl : vl ib.k ie.k (.node x l (S x).it c r) = _ := vl_z (by assumption) (by assumption)
              have hvf : vfold step (vl ib.k ie.k (.node x l (S x).it c r)) q = ((vfold step (vl ib.k ie.k r) ((step ((vfold step (vl ib.k ie.k l) q).1) x).1)).1, false) := by rw [hvl]; simp_all [vfold_app, vfold, Prod.ext_iff]
              exact Out.ret1 (L' := [A, Ens EL, Sto S D, Blk s ZC 177, R ((vfold step (vl ib.k ie.k r) ((step ((vfold step (vl ib.k ie.k l) q).1) x).1)).1)]) Try.results157 rfl ⟨by rw [hvf], by rw [hvf]⟩ (fun _ h => h)
            · skip
              have h10 : (!((vfold step (vl ib.k ie.k r) ((step ((vfold step (vl ib.k ie.k l) q).1) x).1)).2)) = false := h10
              refine WPc.skip ?_
              refine Out.block ?_
              refine Out.next ?_
              refine WPc.seq ?_
              refine WPc.region ?_
              refine WP.val rfl rfl rfl (Val.assign rfl rfl) ?_
              refine WP.nil ?_
              refine Out.next ?_
              refine WPc.ret ?_
              have hvl : vl ib.k ie.k (.node x l (S x).it c r) = _ := vl_z (by assumption) (by assumption)
              have hvf : vfold step (vl ib.k ie.k (.node x l (S x).it c r)) q = ((vfold step (vl ib.k ie.k r) ((step ((vfold step (vl ib.k ie.k l) q).1) x).1)).1, true) := by rw [hvl]; simp_all [vfold_app, vfold, Prod.ext_iff]
              exact Out.ret1 (L' := [A, Ens EL, Sto S D, Blk s ZC 177, R ((vfold step (vl ib.k ie.k r) ((step ((vfold step (vl ib.k ie.k l) q).1) x).1)).1)]) Try.results157 rfl ⟨by rw [hvf], by rw [hvf]⟩ (fun _ h => h)

end Go.Proofs.Ytbomnihiapjmpaa.Tl

namespace Go.Proofs.Ytbomnihiapjmpaa.Tm
open Go.RowKit Go.Proofs.Ytbomnihiapjmpaa Go.Proofs.Ytbomnihiapjmpaa.Sl Go.Proofs.Ytbomnihiapjmpaa.TrP Go.Proofs.Ytbomnihiapjmpaa.Tc Go.Proofs.Ytbomnihiapjmpaa.Td Go.Proofs.Ytbomnihiapjmpaa.Te Go.Proofs.Ytbomnihiapjmpaa.Tf Go.Proofs.Ytbomnihiapjmpaa.Tg Go.Proofs.Ytbomnihiapjmpaa.Th Go.Proofs.Ytbomnihiapjmpaa.Ti Go.Proofs.Ytbomnihiapjmpaa.Tk Go.Proofs.Ytbomnihiapjmpaa.Tl
set_option linter.unusedVariables false
set_option linter.unusedSimpArgs false
set_option linter.unusedSectionVars false


theorem Does.sep2 {P : Program} {f : FuncId} {args : List Value} {X Y : HProp} {L : List HProp} {b : Bool} {M : List HProp} (h : Does P f args (X :: Y :: L) (fun v N => v = .bool b ∧ N = X :: Y :: M)) : Does P f args (Sep [X, Y] :: L) (fun v N => v = .bool b ∧ N = Sep [X, Y] :: M) := fun W F w hs => by
  refine (h W F w (by exact hs.sep)).mono ?_
  rintro e w' ⟨v, L', h1, ⟨h2, h3⟩, h4⟩
  subst h3
  exact ⟨v, Sep [X, Y] :: M, h1, ⟨h2, rfl⟩, Sat.sep_mk (M := [X, Y]) h4⟩
theorem visit_does (A : HProp) (EL : List En) (t0 : TypeId) (hE : ∀ e ∈ EL, e.t = t0) (s : Nat) (D : List Nat) (ZC : List Value) (S : St) (ok : Ok s EL D S) (ivb vb : Nat) (ib ie : En) (hib : ib ∈ EL) (hie : ie ∈ EL) (hA0 : ∀ w, Holds A w → w.cell? ⟨ivb, 0, none⟩ = some (.iface ib.t ib.u)) (hA1 : ∀ w, Holds A w → w.cell? ⟨ivb, 1, none⟩ = some (.iface ie.t ie.u)) (σ : Type) (R : σ → HProp) (step : σ → Nat → σ × Bool) (pre : Nat → σ → Prop) (hpre : Pre step pre)
    (hv : ∀ i ∈ D, ∀ m q, pre (m + 1) q → Does Try.prog 158 [.pointer (some ⟨i, 0, none⟩), .pointer (some ⟨vb, 0, none⟩)] [A, Ens EL, Sto S D, Blk s ZC 177, R q] (fun v L => v = .bool (step q i).2 ∧ L = [A, Ens EL, Sto S D, Blk s ZC 177, R (step q i).1])) :
    ∀ (t : T) (x p : Nat), RM s S t x p → (∀ j ∈ t.ids, j ∈ D) → ∀ m q, pre ((vl ib.k ie.k t).length + m) q → Does Try.prog 157 [.pointer (some ⟨x, 0, none⟩), .pointer (some ⟨ivb, 0, none⟩), .pointer (some ⟨s, 0, none⟩), .func (.func 158) #[] #[.pointer (some ⟨vb, 0, none⟩)]] [A, Ens EL, Sto S D, Blk s ZC 177, R q] (fun v L => v = .bool (vfold step (vl ib.k ie.k t) q).2 ∧ L = [A, Ens EL, Sto S D, Blk s ZC 177, R (vfold step (vl ib.k ie.k t) q).1])
  | .leaf, x, p, h, _, m, q, hp => by
    obtain rfl : x = s := h
    exact visit_leaf A EL t0 hE x D ZC S ok ivb vb ib ie hib hie hA0 hA1 σ R step pre hpre q
  | .node i l it c r, x, p, h, hD, m, q, hp => by
    obtain ⟨rfl, h2, rfl, h4, h5, h6, h7, h8⟩ := h
    exact visit_node A EL t0 hE s D ZC S ok ivb vb ib ie hib hie hA0 hA1 σ R step pre hpre x (hD x List.mem_cons_self) h2 l r c h6 hv
      (visit_does A EL t0 hE s D ZC S ok ivb vb ib ie hib hie hA0 hA1 σ R step pre hpre hv l _ _ h7 (fun j hj => hD j (List.mem_cons_of_mem _ (List.mem_append_left _ hj))))
      (visit_does A EL t0 hE s D ZC S ok ivb vb ib ie hib hie hA0 hA1 σ R step pre hpre hv r _ _ h8 (fun j hj => hD j (List.mem_cons_of_mem _ (List.mem_append_right _ hj)))) m q hp
set_option maxRecDepth 100000 in
set_option maxHeartbeats 2000000 in
theorem visit1_does (EL : List En) (t0 : TypeId) (hE : ∀ e ∈ EL, e.t = t0) (s : Nat) (D : List Nat) (ZC : List Value) (S : St) (ok : Ok s EL D S) (ivb vb : Nat) (ib ie : En) (σ : Type) (R : σ → HProp) (step : σ → Nat → σ × Bool) (pre : Nat → σ → Prop) (hpre : Pre step pre) (g : FuncId) (caps : List Value) (hg : ∀ (ar : Array Value) (w : World), (callFunc g ar).run Try.prog w = .ok (.enter g ar) w) (hw : ∀ i ∈ D, ∀ m q, pre (m + 1) q → Does Try.prog g (.pointer (some ⟨i, 0, none⟩) :: caps) [Ens EL, Sto S D, Blk s ZC 177, R q] (fun v L => v = .bool (step q i).2 ∧ L = [Ens EL, Sto S D, Blk s ZC 177, R (step q i).1])) (i : Nat) (hi : i ∈ D) (m : Nat) (q : σ) (hp : pre (m + 1) q) : Does Try.prog 158 [.pointer (some ⟨i, 0, none⟩), .pointer (some ⟨vb, 0, none⟩)] [Blk ivb [.iface ib.t (ib.u), .iface ie.t (ie.u)] 172, Blk vb [Value.func (.func g) #[] caps.toArray] 282, Ens EL, Sto S D, Blk s ZC 177, R q] (fun v L => v = .bool (step q i).2 ∧ L = [Blk ivb [.iface ib.t ib.u, .iface ie.t ie.u] 172, Blk vb [Value.func (.func g) #[] caps.toArray] 282, Ens EL, Sto S D, Blk s ZC 177, R (step q i).1]) := by
  refine Does.enter 9 Try.func158 rfl rfl rfl fun W F => ?_
  show WPc _ _ _ _ _ [(0, .pointer (some ⟨i, 0, none⟩)), (1, .pointer (some ⟨vb, 0, none⟩))] (Blk ivb [.iface ib.t (ib.u), .iface ie.t (ie.u)] 172 :: Blk vb [Value.func (.func g) #[] caps.toArray] 282 :: Ens EL :: Sto S D :: Blk s ZC 177 :: R q :: F)
  refine WPc.seq ?_
  refine WPc.region ?_
  refine WP.val rfl rfl rfl (Val.assign rfl rfl) ?_
  refine WP.nil ?_
  refine Out.next ?_
  refine WPc.seq ?_
  refine WPD.start (Sat W (Blk ivb [.iface ib.t (ib.u), .iface ie.t (ie.u)] 172 :: Blk vb [Value.func (.func g) #[] caps.toArray] 282 :: Ens EL :: Sto S D :: Blk s ZC 177 :: R q :: F)) Ty.mixed ?_
  refine WPD.take 0 rfl rfl rfl rfl (by kernel_rfl) (by kernel_rfl) (by kernel_rfl) (by kernel_rfl) (fun _ _ _ h => h) (by kernel_rfl) (fun _ h => h) (Val.load rfl Ty.sc282 rfl (fun w h => h.cell 1 rfl rfl)) ?_
  refine WPD.takeM 1 rfl rfl rfl rfl (by kernel_rfl) (by kernel_rfl) (by kernel_rfl) (by kernel_rfl) (fun _ _ _ h => h) (fun _ h => h) (Val.move rfl rfl) ?_
  refine WPD.takeM 2 rfl rfl rfl rfl (by kernel_rfl) (by kernel_rfl) (by kernel_rfl) (by kernel_rfl) (fun _ _ _ h => h) (fun _ h => h) (Val.nilCheck rfl rfl) ?_
  refine WPD.takeM 3 rfl rfl rfl rfl (by kernel_rfl) (by kernel_rfl) (by kernel_rfl) (by kernel_rfl) (fun _ _ _ h => h) (fun _ h => h) (Val.fieldAddr (j := 0) rfl Ty.fo177_0 rfl rfl) ?_
  refine WPD.perm pl5 ?_
  refine WPD.perm pl5 ?_
  refine WPD.perm pl5 ?_
  refine WPD.perm pl5 ?_
  refine WPD.stepC 4 (by kernel_rfl) rfl rfl rfl rfl (by kernel_rfl) (Eff.callF (f := g) (first := #[]) (caps := caps.toArray) (args' := .pointer (some ⟨i, 0, none⟩) :: caps) rfl rfl rfl (by simp) hg (hw i hi m q hp)) ?_
  rintro _ _ ⟨_, ⟨rfl, rfl⟩, rfl⟩
  refine ⟨(Sat W (Ens EL :: Sto S D :: Blk s ZC 177 :: R (step q i).1 :: Blk ivb [.iface ib.t (ib.u), .iface ie.t (ie.u)] 172 :: Blk vb [Value.func (.func g) #[] caps.toArray] 282 :: F)), (fun _ h => h), ?_⟩
  show WPD _ _ _ _ _ _ _ _ _ (Ens EL :: Sto S D :: Blk s ZC 177 :: R (step q i).1 :: Blk ivb [.iface ib.t (ib.u), .iface ie.t (ie.u)] 172 :: Blk vb [Value.func (.func g) #[] caps.toArray] 282 :: F)
  refine WPD.takeM 5 rfl rfl rfl rfl (by kernel_rfl) (by kernel_rfl) (by kernel_rfl) (by kernel_rfl) (fun _ _ _ h => h) (fun _ h => h) (Val.assign rfl rfl) ?_
  refine WPD.done (by kernel_rfl) ?_
  refine Out.next ?_
  refine WPc.ret ?_
  refine Out.perm pl3 ?_
  refine Out.perm pl3 ?_
  refine Out.perm pl3 ?_
  refine Out.perm pl3 ?_
  refine Out.perm pl5 ?_
  refine Out.perm pl5 ?_
  exact Out.ret1 (L' := _) Try.results158 rfl ⟨rfl, rfl⟩ (fun _ h => h)

theorem Holds.sepHead {X : HProp} {L : List HProp} {w : World} (h : Holds (Sep (X :: L)) w) : Holds X w := by
  obtain ⟨r, s, hlt, s1, s2, h1, h2, hd, hA, hL⟩ := h
  exact ⟨r, s1, fun b hb => hlt b (hb.imp id (h1 b)), hA⟩
set_option maxRecDepth 100000 in
set_option maxHeartbeats 2000000 in
theorem Visit_does (EL : List En) (t0 : TypeId) (hE : ∀ e ∈ EL, e.t = t0) (s : Nat) (D : List Nat) (ZC : List Value) (tb root : Nat) (cnt : Int) (S : St) (ok : Ok s EL D S) (hroot : Is s D root) (T0 : T) (hT : RM s S T0 root s) (hTD : ∀ j ∈ T0.ids, j ∈ D) (ib ie : En) (hib : ib ∈ EL) (hie : ie ∈ EL) (σ : Type) (R : σ → HProp) (step : σ → Nat → σ × Bool) (pre : Nat → σ → Prop) (hpre : Pre step pre) (g : FuncId) (caps : List Value) (hg : ∀ (ar : Array Value) (w : World), (callFunc g ar).run Try.prog w = .ok (.enter g ar) w) (hw : ∀ i ∈ D, ∀ m q, pre (m + 1) q → Does Try.prog g (.pointer (some ⟨i, 0, none⟩) :: caps) [Ens EL, Sto S D, Blk s ZC 177, R q] (fun v L => v = .bool (step q i).2 ∧ L = [Ens EL, Sto S D, Blk s ZC 177, R (step q i).1])) (q : σ) (hp : pre ((vl ib.k ie.k T0).length + 0) q) : Does Try.prog 144 [.pointer (some ⟨tb, 0, none⟩), .agg #[.iface ib.t (ib.u), .iface ie.t (ie.u)], Value.func (.func g) #[] caps.toArray] [Blk tb [.pointer (some ⟨root, 0, none⟩), .int .i64 (cnt), .pointer (some ⟨s, 0, none⟩)] 180, Ens EL, Sto S D, Blk s ZC 177, R q] (fun _ L => L = [Blk tb [.pointer (some ⟨root, 0, none⟩), .int .i64 cnt, .pointer (some ⟨s, 0, none⟩)] 180, Ens EL, Sto S D, Blk s ZC 177, R (vfold step (vl ib.k ie.k T0) q).1]) := by
  refine Does.enter 16 Try.func144 rfl rfl rfl fun W F => ?_
  show WPc _ _ _ _ _ [(0, .pointer (some ⟨tb, 0, none⟩)), (1, .agg #[.iface ib.t (ib.u), .iface ie.t (ie.u)]), (2, Value.func (.func g) #[] caps.toArray)] (Blk tb [.pointer (some ⟨root, 0, none⟩), .int .i64 (cnt), .pointer (some ⟨s, 0, none⟩)] 180 :: Ens EL :: Sto S D :: Blk s ZC 177 :: R q :: F)
  refine WPc.seq ?_
  refine WPc.region ?_
  refine WP.eff rfl rfl rfl (Eff.box (C := [.iface ib.t (ib.u), .iface ie.t (ie.u)]) rfl rfl rfl) ?_
  rintro _ _ ⟨b1, rfl, rfl⟩
  refine WP.eff rfl rfl rfl (Eff.box (C := [Value.func (.func g) #[] caps.toArray]) rfl rfl rfl) ?_
  rintro _ _ ⟨b2, rfl, rfl⟩
  refine WP.nil ?_
  refine Out.next ?_
  refine WPD.start (Sat W (Blk b2 [Value.func (.func g) #[] caps.toArray] 282 :: Blk b1 [.iface ib.t (ib.u), .iface ie.t (ie.u)] 172 :: Blk tb [.pointer (some ⟨root, 0, none⟩), .int .i64 (cnt), .pointer (some ⟨s, 0, none⟩)] 180 :: Ens EL :: Sto S D :: Blk s ZC 177 :: R q :: F)) Ty.mixed ?_
  refine WPD.takeM 0 rfl rfl rfl rfl (by kernel_rfl) (by kernel_rfl) (by kernel_rfl) (by kernel_rfl) (fun _ _ _ h => h) (fun _ h => h) (Val.move rfl rfl) ?_
  refine WPD.takeM 1 rfl rfl rfl rfl (by kernel_rfl) (by kernel_rfl) (by kernel_rfl) (by kernel_rfl) (fun _ _ _ h => h) (fun _ h => h) (Val.nilCheck rfl rfl) ?_
  refine WPD.takeM 2 rfl rfl rfl rfl (by kernel_rfl) (by kernel_rfl) (by kernel_rfl) (by kernel_rfl) (fun _ _ _ h => h) (fun _ h => h) (Val.fieldAddr (j := 0) rfl Ty.fo180_0 rfl rfl) ?_
  refine WPD.take 3 rfl rfl rfl rfl (by kernel_rfl) (by kernel_rfl) (by kernel_rfl) (by kernel_rfl) (fun _ _ _ h => h) (by kernel_rfl) (fun _ h => h) (Val.load rfl Ty.sc168 rfl (fun w h => h.cell 2 rfl rfl)) ?_
  refine WPD.takeM 4 rfl rfl rfl rfl (by kernel_rfl) (by kernel_rfl) (by kernel_rfl) (by kernel_rfl) (fun _ _ _ h => h) (fun _ h => h) (Val.move rfl rfl) ?_
  refine WPD.takeM 5 rfl rfl rfl rfl (by kernel_rfl) (by kernel_rfl) (by kernel_rfl) (by kernel_rfl) (fun _ _ _ h => h) (fun _ h => h) (Val.nilCheck rfl rfl) ?_
  refine WPD.takeM 6 rfl rfl rfl rfl (by kernel_rfl) (by kernel_rfl) (by kernel_rfl) (by kernel_rfl) (fun _ _ _ h => h) (fun _ h => h) (Val.fieldAddr (j := 2) rfl Ty.fo180_2 rfl rfl) ?_
  refine WPD.take 7 rfl rfl rfl rfl (by kernel_rfl) (by kernel_rfl) (by kernel_rfl) (by kernel_rfl) (fun _ _ _ h => h) (by kernel_rfl) (fun _ h => h) (Val.load rfl Ty.sc168 rfl (fun w h => h.cell 2 rfl rfl)) ?_
  refine WPD.take 8 rfl rfl rfl rfl (by kernel_rfl) (by kernel_rfl) (by kernel_rfl) (by kernel_rfl) (fun _ _ _ h => h) (by kernel_rfl) (fun _ h => h) (Val.mkFunc rfl rfl rfl) ?_
  refine WPD.perm pl1 ?_
  refine WPD.conv (fun w h => Sat.sep_mk (M := [_, _]) h) ?_
  show WPD _ _ _ _ _ _ _ _ _ (Sep [Blk b1 [.iface ib.t ib.u, .iface ie.t ie.u] 172, Blk b2 [Value.func (.func g) #[] caps.toArray] 282] :: Blk tb [.pointer (some ⟨root, 0, none⟩), .int .i64 (cnt), .pointer (some ⟨s, 0, none⟩)] 180 :: Ens EL :: Sto S D :: Blk s ZC 177 :: R q :: F)
  have hv := fun (i : Nat) (hi : i ∈ D) (m : Nat) (q : σ) (hp : pre (m + 1) q) => Does.sep2 (visit1_does EL t0 hE s D ZC S ok b1 b2 ib ie σ R step pre hpre g caps hg hw i hi m q hp)
  refine WPD.perm pl5 ?_
  refine WPD.perm pl5 ?_
  refine WPD.perm pl5 ?_
  refine WPD.perm pl5 ?_
  refine WPD.perm pl4 ?_
  refine WPD.stepC 9 (by kernel_rfl) rfl rfl rfl rfl (by kernel_rfl) (Eff.call rfl rfl Try.call157 (visit_does (Sep [Blk b1 [.iface ib.t ib.u, .iface ie.t ie.u] 172, Blk b2 [Value.func (.func g) #[] caps.toArray] 282]) EL t0 hE s D ZC S ok b1 b2 ib ie hib hie (fun w h => (Holds.sepHead h).cell 0) (fun w h => (Holds.sepHead h).cell 1) σ R step pre hpre hv T0 root s hT hTD 0 q hp)) ?_
  rintro _ _ ⟨_, ⟨rfl, rfl⟩, rfl⟩
  refine ⟨(Sat W (Sep [Blk b1 [.iface ib.t ib.u, .iface ie.t ie.u] 172, Blk b2 [Value.func (.func g) #[] caps.toArray] 282] :: Ens EL :: Sto S D :: Blk s ZC 177 :: R (vfold step (vl ib.k ie.k T0) q).1 :: Blk tb [.pointer (some ⟨root, 0, none⟩), .int .i64 (cnt), .pointer (some ⟨s, 0, none⟩)] 180 :: F)), (fun _ h => h), ?_⟩
  show WPD _ _ _ _ _ _ _ _ _ (Sep [Blk b1 [.iface ib.t ib.u, .iface ie.t ie.u] 172, Blk b2 [Value.func (.func g) #[] caps.toArray] 282] :: Ens EL :: Sto S D :: Blk s ZC 177 :: R (vfold step (vl ib.k ie.k T0) q).1 :: Blk tb [.pointer (some ⟨root, 0, none⟩), .int .i64 (cnt), .pointer (some ⟨s, 0, none⟩)] 180 :: F)
  refine WPD.done (by kernel_rfl) ?_
  refine Out.drop ?_
  refine Out.perm pl3 ?_
  refine Out.perm pl3 ?_
  refine Out.perm pl3 ?_
  refine Out.perm pl3 ?_
  refine Out.perm pl4 ?_
  exact Out.end0 (L' := _) Try.results144 rfl (fun _ h => h)

end Go.Proofs.Ytbomnihiapjmpaa.Tm

namespace Go.Proofs.Ytbomnihiapjmpaa.Tn
open Go.RowKit Go.Proofs.Ytbomnihiapjmpaa Go.Proofs.Ytbomnihiapjmpaa.Sl Go.Proofs.Ytbomnihiapjmpaa.TrP Go.Proofs.Ytbomnihiapjmpaa.Tc Go.Proofs.Ytbomnihiapjmpaa.Td Go.Proofs.Ytbomnihiapjmpaa.Te Go.Proofs.Ytbomnihiapjmpaa.Tf Go.Proofs.Ytbomnihiapjmpaa.Tg Go.Proofs.Ytbomnihiapjmpaa.Th Go.Proofs.Ytbomnihiapjmpaa.Ti Go.Proofs.Ytbomnihiapjmpaa.Tk Go.Proofs.Ytbomnihiapjmpaa.Tl Go.Proofs.Ytbomnihiapjmpaa.Tm
set_option linter.unusedVariables false
set_option linter.unusedSimpArgs false
set_option linter.unusedSectionVars false


def OwnL (rb : Nat) (q : List Nat) : HProp := Ex fun sv : Value => Sep [Blk rb [sv] 188, Own 182 1 sv q.length (q.map ptv)]
set_option maxRecDepth 100000 in
set_option maxHeartbeats 2000000 in
theorem stab1_raw (rb i : Nat) (q : List Nat) (hq : q.length ≤ 1000000) (sv : Value) : Does Try.prog 155 [.pointer (some ⟨i, 0, none⟩), .pointer (some ⟨rb, 0, none⟩)] [Blk rb [sv] 188, Own 182 1 sv q.length (q.map ptv)] (fun v L => v = .bool true ∧ ∃ sv2, L = [Blk rb [sv2] 188, Own 182 1 sv2 (q ++ [i]).length ((q ++ [i]).map ptv)]) := by
  refine Does.enter 8 Try.func155 rfl rfl rfl fun W F => ?_
  show WPc _ _ _ _ _ [(0, .pointer (some ⟨i, 0, none⟩)), (1, .pointer (some ⟨rb, 0, none⟩))] (Blk rb [sv] 188 :: Own 182 1 sv q.length (q.map ptv) :: F)
  refine WPc.seq ?_
  refine WPc.region ?_
  refine WP.val rfl rfl rfl (Val.assign rfl rfl) ?_
  refine WP.nil ?_
  refine Out.next ?_
  refine WPc.seq ?_
  refine WPc.region ?_
  refine WP.val rfl rfl rfl (Val.load rfl Ty.sc188 rfl (fun w h => h.cell 0 rfl rfl)) ?_
  refine WP.val rfl rfl rfl (Val.move rfl rfl) ?_
  refine WP.eff rfl rfl rfl (Eff.mkSlice (C := [.pointer (some ⟨i, 0, none⟩)]) rfl Ty.sl188 rfl (fun _ => by kernel_rfl)) ?_
  rintro _ _ ⟨b1, rfl, rfl⟩
  refine WP.perm pl2 ?_
  refine WP.eff rfl rfl rfl (Eff.append (m := 1) (n0 := q.length) (news := [.pointer (some ⟨i, 0, none⟩)]) rfl Ty.sl188 Ty.z182 rfl rfl rfl (.slice Ty.sl188 rfl rfl (fun w h => cells_range (h.range 1 rfl rfl))) (by omega) (by omega)) ?_
  rintro v2 _ ⟨onev2, rfl⟩
  refine WP.perm pl2 ?_
  refine WP.eff0 rfl rfl (Eff.store rfl Ty.sc188 rfl rfl onev2 (by simp) st0) ?_
  rintro _ _ rfl
  refine WP.nil ?_
  refine Out.next ?_
  refine WPc.seq ?_
  refine WPc.region ?_
  refine WP.val rfl rfl rfl (Val.assign rfl rfl) ?_
  refine WP.nil ?_
  refine Out.next ?_
  refine WPc.ret ?_
  refine Out.perm pl2 ?_
  refine Out.drop ?_
  exact Out.ret1 (L' := _) Try.results155 rfl ⟨rfl, v2, rfl⟩ (fun w h => by simpa [ptv, List.map_append] using h)
set_option maxRecDepth 100000 in
set_option maxHeartbeats 2000000 in
theorem new_does  : Does Try.prog 65 [] [] (fun v L => ∃ tb s, v = .iface 178 (.pointer (some ⟨tb, 0, none⟩)) ∧ L = [Blk tb [.pointer (some ⟨s, 0, none⟩), .int .i64 0, .pointer (some ⟨s, 0, none⟩)] 180, Blk s [.nilIface, .nilIface, .nilIface, .nilIface, .pointer none, .pointer none, .pointer none, .int .i64 0] 177]) := by
  refine Does.enter 10 Try.func65 rfl rfl rfl fun W F => ?_
  show WPc _ _ _ _ _ [] (F)
  refine WPc.seq ?_
  refine WPc.region ?_
  refine WP.val rfl rfl rfl (Val.assign rfl rfl) ?_
  refine WP.nil ?_
  refine Out.next ?_
  refine WPc.seq ?_
  refine WPc.region ?_
  refine WP.val rfl rfl rfl (Val.mk (cs := [.nilIface, .nilIface, .nilIface]) rfl rfl (fun _ => by kernel_rfl)) ?_
  refine WP.val rfl rfl rfl (Val.mk (cs := [.nilIface, .nilIface, .nilIface, .nilIface, .pointer none, .pointer none, .pointer none, .int .i64 0]) rfl rfl (fun _ => by kernel_rfl)) ?_
  refine WP.eff rfl rfl rfl (Eff.box (C := [.nilIface, .nilIface, .nilIface, .nilIface, .pointer none, .pointer none, .pointer none, .int .i64 0]) rfl rfl rfl) ?_
  rintro _ F ⟨b1, rfl, rfl⟩
  refine WP.val rfl rfl rfl (Val.assign rfl rfl) ?_
  refine WP.nil ?_
  refine Out.next ?_
  refine WPc.seq ?_
  refine WPc.region ?_
  refine WP.val rfl rfl rfl (Val.move rfl rfl) ?_
  refine WP.val rfl rfl rfl (Val.move rfl rfl) ?_
  refine WP.val rfl rfl rfl (Val.mk (cs := [.pointer (some ⟨b1, 0, none⟩), .int .i64 0, .pointer (some ⟨b1, 0, none⟩)]) rfl rfl (fun _ => by kernel_rfl)) ?_
  refine WP.eff rfl rfl rfl (Eff.box (C := [.pointer (some ⟨b1, 0, none⟩), .int .i64 0, .pointer (some ⟨b1, 0, none⟩)]) rfl rfl rfl) ?_
  rintro _ _ ⟨b2, rfl, rfl⟩
  refine WP.val rfl rfl rfl (Val.iface rfl rfl Ty.ni178) ?_
  refine WP.val rfl rfl rfl (Val.assign rfl rfl) ?_
  refine WP.nil ?_
  refine Out.next ?_
  refine WPc.ret ?_
  exact Out.ret1 (L' := _) Try.results65 rfl ⟨b2, b1, rfl, rfl⟩ (fun _ h => h)
set_option maxRecDepth 100000 in
set_option maxHeartbeats 2000000 in
theorem len_does (tb root s : Nat) (cnt : Int) : Does Try.prog 140 [.pointer (some ⟨tb, 0, none⟩)] [Blk tb [.pointer (some ⟨root, 0, none⟩), .int .i64 (cnt), .pointer (some ⟨s, 0, none⟩)] 180] (fun v L => v = .int .i64 cnt ∧ L = [Blk tb [.pointer (some ⟨root, 0, none⟩), .int .i64 cnt, .pointer (some ⟨s, 0, none⟩)] 180]) := by
  refine Does.enter 7 Try.func140 rfl rfl rfl fun W F => ?_
  show WPc _ _ _ _ _ [(0, .pointer (some ⟨tb, 0, none⟩))] (Blk tb [.pointer (some ⟨root, 0, none⟩), .int .i64 (cnt), .pointer (some ⟨s, 0, none⟩)] 180 :: F)
  refine WPc.seq ?_
  refine WPc.region ?_
  refine WP.val rfl rfl rfl (Val.assign rfl rfl) ?_
  refine WP.nil ?_
  refine Out.next ?_
  refine WPc.seq ?_
  refine WPc.region ?_
  refine WP.val rfl rfl rfl (Val.move rfl rfl) ?_
  refine WP.val rfl rfl rfl (Val.nilCheck rfl rfl) ?_
  refine WP.val rfl rfl rfl (Val.fieldAddr (j := 1) rfl Ty.fo180_1 rfl rfl) ?_
  refine WP.val rfl rfl rfl (Val.load rfl Ty.sc3 rfl (fun w h => h.cell 0 rfl rfl)) ?_
  refine WP.val rfl rfl rfl (Val.assign rfl rfl) ?_
  refine WP.nil ?_
  refine Out.next ?_
  refine WPc.ret ?_
  exact Out.ret1 (L' := _) Try.results140 rfl ⟨rfl, rfl⟩ (fun _ h => h)

end Go.Proofs.Ytbomnihiapjmpaa.Tn

namespace Go.Proofs.Ytbomnihiapjmpaa.To
open Go.RowKit Go.Proofs.Ytbomnihiapjmpaa Go.Proofs.Ytbomnihiapjmpaa.Sl Go.Proofs.Ytbomnihiapjmpaa.TrP Go.Proofs.Ytbomnihiapjmpaa.Tc Go.Proofs.Ytbomnihiapjmpaa.Td Go.Proofs.Ytbomnihiapjmpaa.Te Go.Proofs.Ytbomnihiapjmpaa.Tf Go.Proofs.Ytbomnihiapjmpaa.Tg Go.Proofs.Ytbomnihiapjmpaa.Th Go.Proofs.Ytbomnihiapjmpaa.Ti Go.Proofs.Ytbomnihiapjmpaa.Tk Go.Proofs.Ytbomnihiapjmpaa.Tl Go.Proofs.Ytbomnihiapjmpaa.Tm Go.Proofs.Ytbomnihiapjmpaa.Tn
set_option linter.unusedVariables false
set_option linter.unusedSimpArgs false
set_option linter.unusedSectionVars false


def stepA (q : List Nat) (i : Nat) : List Nat × Bool := (q ++ [i], true)
def preA (m : Nat) (q : List Nat) : Prop := q.length + m ≤ 1000000
theorem hpreA : Pre stepA preA := ⟨fun {m q i} h => by unfold preA at *; simp only [stepA, List.length_append, List.length_singleton]; omega⟩
theorem vfoldA : ∀ (l q : List Nat), vfold stepA l q = (q ++ l, true)
  | [], q => by simp [vfold]
  | i :: l, q => by
    simp only [vfold, stepA, if_true]
    rw [vfoldA l]
    simp
theorem stab_start {W w : World} {L : List HProp} {rb : Nat} (h : Sat W (Blk rb [.slice none 0 0] 188 :: L) w) : Sat W (OwnL rb [] :: L) w :=
  Sat.ex_mk (Value.slice none 0 0) (Sat.sep_mk (M := [_, _]) ((Sat.ownNil h).perm pl1))
theorem stab_end {W w : World} {L : List HProp} {rb : Nat} {l : List Nat} (h : Sat W (OwnL rb (vfold stepA l []).1 :: L) w) : ∃ sv, Sat W (Blk rb [sv] 188 :: Own 182 1 sv l.length (l.map ptv) :: L) w := by
  rw [vfoldA, List.nil_append] at h
  obtain ⟨sv, h⟩ := h.ex
  exact ⟨sv, h.sep⟩
theorem stab1_does (EL : List En) (s : Nat) (D : List Nat) (ZC : List Value) (S : St) (rb : Nat) : ∀ i ∈ D, ∀ m q, preA (m + 1) q → Does Try.prog 155 (.pointer (some ⟨i, 0, none⟩) :: [.pointer (some ⟨rb, 0, none⟩)]) [Ens EL, Sto S D, Blk s ZC 177, OwnL rb q] (fun v L => v = .bool (stepA q i).2 ∧ L = [Ens EL, Sto S D, Blk s ZC 177, OwnL rb (stepA q i).1]) :=
  fun i hi m q hp W F w hs => by
    obtain ⟨sv, h⟩ := (Sat.perm (M := OwnL rb q :: Ens EL :: Sto S D :: Blk s ZC 177 :: F) hs pl3).ex
    refine (stab1_raw rb i q (by unfold preA at hp; omega) sv W (Ens EL :: Sto S D :: Blk s ZC 177 :: F) w h.sep).mono ?_
    rintro e w' ⟨v, L', h1, ⟨h2, sv2, rfl⟩, h4⟩
    exact ⟨v, _, h1, ⟨h2, rfl⟩, (Sat.ex_mk (f := fun sv : Value => Sep [Blk rb [sv] 188, Own 182 1 sv (q ++ [i]).length ((q ++ [i]).map ptv)]) sv2 (Sat.sep_mk (M := [_, _]) h4)).perm pl3.symm⟩
set_option maxRecDepth 100000 in
set_option maxHeartbeats 2000000 in
theorem stab_does (EL : List En) (t0 : TypeId) (hE : ∀ e ∈ EL, e.t = t0) (s : Nat) (D : List Nat) (ZC : List Value) (tb root : Nat) (cnt : Int) (S : St) (ok : Ok s EL D S) (hroot : Is s D root) (T0 : T) (hT : RM s S T0 root s) (hTD : ∀ j ∈ T0.ids, j ∈ D) (ib ie : En) (hib : ib ∈ EL) (hie : ie ∈ EL) (hleaf : cnt = 0 → T0 = .leaf) (hlen : (vl ib.k ie.k T0).length ≤ 1000000) : Does Try.prog 142 [.pointer (some ⟨tb, 0, none⟩), .agg #[.iface ib.t (ib.u), .iface ie.t (ie.u)]] [Blk tb [.pointer (some ⟨root, 0, none⟩), .int .i64 (cnt), .pointer (some ⟨s, 0, none⟩)] 180, Ens EL, Sto S D, Blk s ZC 177] (fun v L => ∃ sv, v = sv ∧ L = [Blk tb [.pointer (some ⟨root, 0, none⟩), .int .i64 cnt, .pointer (some ⟨s, 0, none⟩)] 180, Ens EL, Sto S D, Blk s ZC 177, Own 182 1 sv (vl ib.k ie.k T0).length ((vl ib.k ie.k T0).map ptv)]) := by
  refine Does.enter 17 Try.func142 rfl rfl rfl fun W F => ?_
  show WPc _ _ _ _ _ [(0, .pointer (some ⟨tb, 0, none⟩)), (1, .agg #[.iface ib.t (ib.u), .iface ie.t (ie.u)])] (Blk tb [.pointer (some ⟨root, 0, none⟩), .int .i64 (cnt), .pointer (some ⟨s, 0, none⟩)] 180 :: Ens EL :: Sto S D :: Blk s ZC 177 :: F)
  refine WPc.seq ?_
  refine WPc.region ?_
  refine WP.eff rfl rfl rfl (Eff.box (C := [.iface ib.t (ib.u), .iface ie.t (ie.u)]) rfl rfl rfl) ?_
  rintro _ _ ⟨b1, rfl, rfl⟩
  refine WP.eff rfl rfl rfl (Eff.alloc rfl Ty.z188) ?_
  rintro _ _ ⟨b2, rfl, rfl⟩
  refine WP.nil ?_
  refine Out.next ?_
  refine WPc.seq ?_
  refine WPc.seq ?_
  refine WPc.region ?_
  refine WP.val rfl rfl rfl (Val.move rfl rfl) ?_
  refine WP.val rfl rfl rfl (Val.nilCheck rfl rfl) ?_
  refine WP.val rfl rfl rfl (Val.fieldAddr (j := 1) rfl Ty.fo180_1 rfl rfl) ?_
  refine WP.val rfl rfl rfl (Val.load rfl Ty.sc3 rfl (fun w h => h.cell 2 rfl rfl)) ?_
  refine WP.val rfl rfl rfl (Val.eql rfl rfl rfl) ?_
  refine WP.nil ?_
  refine Out.next ?_
  refine WPc.ifP rfl (fun h1 => ?_) (fun h1 => ?_)
  · skip
    have h1 : (cnt = (0 : Int)) := h1
    refine WPc.seq ?_
    refine WPc.region ?_
    refine WP.eff0 rfl rfl (Eff.store rfl Ty.sc188 rfl rfl rfl (by simp) st0) ?_
    rintro _ _ rfl
    refine WP.nil ?_
    refine Out.next ?_
    refine WPc.ret ?_
    refine Out.then_ret ?_
    have hnil : vl ib.k ie.k T0 = [] := by rw [hleaf (by assumption)]; rfl
    refine Out.perm pl1 ?_
    refine Out.drop ?_
    exact Out.retRun (L' := [Blk tb [.pointer (some ⟨root, 0, none⟩), .int .i64 cnt, .pointer (some ⟨s, 0, none⟩)] 180, Ens EL, Sto S D, Blk s ZC 177, Own 182 1 (.slice none 0 0) (vl ib.k ie.k T0).length ((vl ib.k ie.k T0).map ptv)]) (results_cell1 Try.results142 Ty.sc188 rfl (fun w h => h.cell 0 rfl rfl)) ⟨.slice none 0 0, rfl, rfl⟩ (fun w h => by rw [hnil]; exact (Sat.ownNil h.drop).perm pl4.symm)
  · skip
    have h1 : ¬ (cnt = (0 : Int)) := h1
    refine WPc.skip ?_
    refine Out.next ?_
    refine WPc.seq ?_
    refine WPc.region ?_
    refine WP.val rfl rfl rfl (Val.mkFunc rfl rfl rfl) ?_
    refine WP.val rfl rfl rfl (Val.assign rfl rfl) ?_
    refine WP.nil ?_
    refine Out.next ?_
    refine WPc.seq ?_
    refine WPc.region ?_
    refine WP.val rfl rfl rfl (Val.move rfl rfl) ?_
    refine WP.val rfl rfl rfl (Val.loadAgg (cs := [.iface ib.t (ib.u), .iface ie.t (ie.u)]) rfl Ty.ag172 rfl rfl (fun w h => h.range 1 rfl rfl)) ?_
    refine WP.val rfl rfl rfl (Val.move rfl rfl) ?_
    refine WP.conv (fun w h => stab_start h) ?_
    show WP _ _ _ _ _ _ _ (OwnL b2 [] :: Blk b1 [.iface ib.t (ib.u), .iface ie.t (ie.u)] 172 :: Blk tb [.pointer (some ⟨root, 0, none⟩), .int .i64 (cnt), .pointer (some ⟨s, 0, none⟩)] 180 :: Ens EL :: Sto S D :: Blk s ZC 177 :: F)
    refine WP.perm pl5 ?_
    refine WP.perm pl5 ?_
    refine WP.perm pl5 ?_
    refine WP.perm pl5 ?_
    refine WP.eff rfl rfl rfl (Eff.call rfl rfl Try.call144 (Visit_does EL t0 hE s D ZC tb root cnt S ok hroot T0 hT hTD ib ie hib hie (List Nat) (OwnL b2) stepA preA hpreA 155 [.pointer (some ⟨b2, 0, none⟩)] Try.call155 (stab1_does EL s D ZC S b2) [] (by unfold preA; simpa using hlen))) ?_
    rintro _ _ ⟨_, rfl, rfl⟩
    show WP _ _ _ _ _ _ _ (Blk tb [.pointer (some ⟨root, 0, none⟩), .int .i64 (cnt), .pointer (some ⟨s, 0, none⟩)] 180 :: Ens EL :: Sto S D :: Blk s ZC 177 :: OwnL b2 (vfold stepA (vl ib.k ie.k T0) []).1 :: Blk b1 [.iface ib.t (ib.u), .iface ie.t (ie.u)] 172 :: F)
    refine WP.perm pl4 ?_
    refine WP.open (fun w h => stab_end h) ?_
    rintro sv
    show WP _ _ _ _ _ _ _ (Blk b2 [sv] 188 :: Own 182 1 sv ((vl ib.k ie.k T0).length) ((vl ib.k ie.k T0).map ptv) :: Blk tb [.pointer (some ⟨root, 0, none⟩), .int .i64 (cnt), .pointer (some ⟨s, 0, none⟩)] 180 :: Ens EL :: Sto S D :: Blk s ZC 177 :: Blk b1 [.iface ib.t (ib.u), .iface ie.t (ie.u)] 172 :: F)
    refine WP.fact (fun w h => own_slice (h.perm pl1)) (fun hsl => ?_)
    have hsv : sv.oneCell' = true := by obtain ⟨_, _, rfl⟩ := hsl; rfl
    refine WP.nil ?_
    refine Out.next ?_
    refine WPc.seq ?_
    refine WPc.region ?_
    refine WP.val rfl rfl rfl (Val.load rfl Ty.sc188 rfl (fun w h => h.cell 0 rfl rfl)) ?_
    refine WP.eff0 rfl rfl (Eff.store rfl Ty.sc188 rfl rfl hsv (by simp) st0) ?_
    rintro _ _ rfl
    refine WP.nil ?_
    refine Out.next ?_
    refine WPc.ret ?_
    refine Out.perm pl6 ?_
    refine Out.drop ?_
    refine Out.perm pl1 ?_
    refine Out.perm pl5 ?_
    refine Out.perm pl5 ?_
    refine Out.perm pl5 ?_
    refine Out.perm pl5 ?_
    refine Out.perm pl5 ?_
    exact Out.retRun (L' := [Blk tb [.pointer (some ⟨root, 0, none⟩), .int .i64 cnt, .pointer (some ⟨s, 0, none⟩)] 180, Ens EL, Sto S D, Blk s ZC 177, Own 182 1 sv (vl ib.k ie.k T0).length ((vl ib.k ie.k T0).map ptv)]) (results_cell1 Try.results142 Ty.sc188 rfl (fun w h => h.cell 0 rfl rfl)) ⟨_, rfl, rfl⟩ (fun w h => h.drop)

end Go.Proofs.Ytbomnihiapjmpaa.To

namespace Go.Proofs.Ytbomnihiapjmpaa.Tp
open Go.RowKit Go.Proofs.Ytbomnihiapjmpaa Go.Proofs.Ytbomnihiapjmpaa.Sl Go.Proofs.Ytbomnihiapjmpaa.TrP Go.Proofs.Ytbomnihiapjmpaa.Tc Go.Proofs.Ytbomnihiapjmpaa.Td
set_option linter.unusedVariables false
set_option linter.unusedSimpArgs false
set_option linter.unusedSectionVars false


set_option maxRecDepth 100000 in
set_option maxHeartbeats 2000000 in
theorem sai_does (x y : ByteArray) : Does Try.prog 102 [.string x, .string y] [] (fun v L => v = .agg #[.iface 130 (.string x), .iface 130 (.string y)] ∧ L = []) := by
  refine Does.enter 10 Try.func102 rfl rfl rfl fun W F => ?_
  show WPc _ _ _ _ _ [(0, .string x), (1, .string y)] (F)
  refine WPc.seq ?_
  refine WPc.region ?_
  refine WP.eff rfl rfl rfl (Eff.alloc rfl Ty.z172) ?_
  rintro _ F ⟨b1, rfl, rfl⟩
  refine WP.nil ?_
  refine Out.next ?_
  refine WPc.seq ?_
  have hz0 : (⟨#[0]⟩ : ByteArray).size = 1 := rfl
  refine WPc.region ?_
  refine WP.val rfl rfl rfl (Val.move rfl rfl) ?_
  refine WP.val rfl rfl rfl (Val.iface rfl rfl Ty.ni130) ?_
  refine WP.val rfl rfl rfl (Val.move rfl rfl) ?_
  refine WP.val rfl rfl rfl (Val.iface rfl rfl Ty.ni130) ?_
  refine WP.val rfl rfl rfl (Val.mk (cs := [.iface 130 (.string x), .iface 130 (.string y)]) rfl rfl (fun _ => by kernel_rfl)) ?_
  refine WP.eff0 rfl rfl (Eff.storeAgg (cs := [.iface 130 (.string x), .iface 130 (.string y)]) (C' := [.iface 130 (.string x), .iface 130 (.string y)]) rfl Ty.ag172 rfl rfl rfl rfl (by simp) rfl) ?_
  rintro _ _ rfl
  refine WP.nil ?_
  refine Out.next ?_
  refine WPc.ret ?_
  exact Out.retRun (L' := []) (results_cell (cs := [.iface 130 (.string x), .iface 130 (.string y)]) Try.results102 Ty.ag172 rfl rfl (fun w h => h.range 0 rfl rfl)) ⟨rfl, rfl⟩ (fun w h => h.drop)
set_option maxRecDepth 100000 in
set_option maxHeartbeats 2000000 in
theorem sap_does (x : ByteArray) (hx : x.size ≤ 2147483647) : Does Try.prog 103 [.string x] [] (fun v L => v = .agg #[.iface 130 (.string x), .iface 130 (.string (x ++ ⟨#[0]⟩))] ∧ L = []) := by
  refine Does.enter 7 Try.func103 rfl rfl rfl fun W F => ?_
  show WPc _ _ _ _ _ [(0, .string x)] (F)
  refine WPc.seq ?_
  refine WPc.region ?_
  refine WP.eff rfl rfl rfl (Eff.alloc rfl Ty.z172) ?_
  rintro _ F ⟨b1, rfl, rfl⟩
  refine WP.nil ?_
  refine Out.next ?_
  refine WPc.seq ?_
  have hz0 : (⟨#[0]⟩ : ByteArray).size = 1 := rfl
  refine WPc.region ?_
  refine WP.val rfl rfl rfl (Val.move rfl rfl) ?_
  refine WP.val rfl rfl rfl (Val.move rfl rfl) ?_
  refine WP.val rfl rfl rfl (Val.addS rfl rfl rfl (by omega)) ?_
  refine WP.eff rfl rfl rfl (Eff.call rfl rfl Try.call102 (sai_does x (x ++ ⟨#[0]⟩))) ?_
  rintro _ _ ⟨_, ⟨rfl, rfl⟩, rfl⟩
  show WP _ _ _ _ _ _ _ (Blk b1 [.nilIface, .nilIface] 172 :: F)
  refine WP.eff0 rfl rfl (Eff.storeAgg (cs := [.iface 130 (.string x), .iface 130 (.string (x ++ ⟨#[0]⟩))]) (C' := [.iface 130 (.string x), .iface 130 (.string (x ++ ⟨#[0]⟩))]) rfl Ty.ag172 rfl rfl rfl rfl (by simp) rfl) ?_
  rintro _ _ rfl
  refine WP.nil ?_
  refine Out.next ?_
  refine WPc.ret ?_
  exact Out.retRun (L' := []) (results_cell (cs := [.iface 130 (.string x), .iface 130 (.string (x ++ ⟨#[0]⟩))]) Try.results103 Ty.ag172 rfl rfl (fun w h => h.range 0 rfl rfl)) ⟨rfl, rfl⟩ (fun w h => h.drop)
set_option maxRecDepth 100000 in
set_option maxHeartbeats 2000000 in
theorem bai_does (x y : Value) : Does Try.prog 104 [x, y] [] (fun v L => v = .agg #[.iface 132 (x), .iface 132 (y)] ∧ L = []) := by
  refine Does.enter 10 Try.func104 rfl rfl rfl fun W F => ?_
  show WPc _ _ _ _ _ [(0, x), (1, y)] (F)
  refine WPc.seq ?_
  refine WPc.region ?_
  refine WP.eff rfl rfl rfl (Eff.alloc rfl Ty.z172) ?_
  rintro _ F ⟨b1, rfl, rfl⟩
  refine WP.nil ?_
  refine Out.next ?_
  refine WPc.seq ?_
  have hz0 : (⟨#[0]⟩ : ByteArray).size = 1 := rfl
  refine WPc.region ?_
  refine WP.val rfl rfl rfl (Val.move rfl rfl) ?_
  refine WP.val rfl rfl rfl (Val.iface rfl rfl Ty.ni132) ?_
  refine WP.val rfl rfl rfl (Val.move rfl rfl) ?_
  refine WP.val rfl rfl rfl (Val.iface rfl rfl Ty.ni132) ?_
  refine WP.val rfl rfl rfl (Val.mk (cs := [.iface 132 (x), .iface 132 (y)]) rfl rfl (fun _ => by kernel_rfl)) ?_
  refine WP.eff0 rfl rfl (Eff.storeAgg (cs := [.iface 132 (x), .iface 132 (y)]) (C' := [.iface 132 (x), .iface 132 (y)]) rfl Ty.ag172 rfl rfl rfl rfl (by simp) rfl) ?_
  rintro _ _ rfl
  refine WP.nil ?_
  refine Out.next ?_
  refine WPc.ret ?_
  exact Out.retRun (L' := []) (results_cell (cs := [.iface 132 (x), .iface 132 (y)]) Try.results104 Ty.ag172 rfl rfl (fun w h => h.range 0 rfl rfl)) ⟨rfl, rfl⟩ (fun w h => h.drop)
set_option maxRecDepth 100000 in
set_option maxHeartbeats 2000000 in
theorem ii_does (x y : Int) : Does Try.prog 108 [.int .i64 (x), .int .i64 (y)] [] (fun v L => v = .agg #[.iface 133 (.int .i64 x), .iface 133 (.int .i64 y)] ∧ L = []) := by
  refine Does.enter 10 Try.func108 rfl rfl rfl fun W F => ?_
  show WPc _ _ _ _ _ [(0, .int .i64 (x)), (1, .int .i64 (y))] (F)
  refine WPc.seq ?_
  refine WPc.region ?_
  refine WP.eff rfl rfl rfl (Eff.alloc rfl Ty.z172) ?_
  rintro _ F ⟨b1, rfl, rfl⟩
  refine WP.nil ?_
  refine Out.next ?_
  refine WPc.seq ?_
  have hz0 : (⟨#[0]⟩ : ByteArray).size = 1 := rfl
  refine WPc.region ?_
  refine WP.val rfl rfl rfl (Val.move rfl rfl) ?_
  refine WP.val rfl rfl rfl (Val.iface rfl rfl Ty.ni133) ?_
  refine WP.val rfl rfl rfl (Val.move rfl rfl) ?_
  refine WP.val rfl rfl rfl (Val.iface rfl rfl Ty.ni133) ?_
  refine WP.val rfl rfl rfl (Val.mk (cs := [.iface 133 (.int .i64 (x)), .iface 133 (.int .i64 (y))]) rfl rfl (fun _ => by kernel_rfl)) ?_
  refine WP.eff0 rfl rfl (Eff.storeAgg (cs := [.iface 133 (.int .i64 (x)), .iface 133 (.int .i64 (y))]) (C' := [.iface 133 (.int .i64 (x)), .iface 133 (.int .i64 (y))]) rfl Ty.ag172 rfl rfl rfl rfl (by simp) rfl) ?_
  rintro _ _ rfl
  refine WP.nil ?_
  refine Out.next ?_
  refine WPc.ret ?_
  exact Out.retRun (L' := []) (results_cell (cs := [.iface 133 (.int .i64 (x)), .iface 133 (.int .i64 (y))]) Try.results108 Ty.ag172 rfl rfl (fun w h => h.range 0 rfl rfl)) ⟨rfl, rfl⟩ (fun w h => h.drop)
set_option maxRecDepth 100000 in
set_option maxHeartbeats 2000000 in
theorem ip_does (x : Int) (hx : -4611686018427387904 ≤ x ∧ x ≤ 4611686018427387904) : Does Try.prog 107 [.int .i64 (x)] [] (fun v L => v = .agg #[.iface 133 (.int .i64 x), .iface 133 (.int .i64 (x + 1))] ∧ L = []) := by
  refine Does.enter 9 Try.func107 rfl rfl rfl fun W F => ?_
  show WPc _ _ _ _ _ [(0, .int .i64 (x))] (F)
  refine WPc.seq ?_
  refine WPc.region ?_
  refine WP.eff rfl rfl rfl (Eff.alloc rfl Ty.z172) ?_
  rintro _ F ⟨b1, rfl, rfl⟩
  refine WP.nil ?_
  refine Out.next ?_
  refine WPc.seq ?_
  have hz0 : (⟨#[0]⟩ : ByteArray).size = 1 := rfl
  refine WPc.region ?_
  refine WP.val rfl rfl rfl (Val.move rfl rfl) ?_
  refine WP.val rfl rfl rfl (Val.iface rfl rfl Ty.ni133) ?_
  refine WP.val rfl rfl rfl (Val.move rfl rfl) ?_
  refine WP.val rfl rfl rfl (Val.add (z := x + (1 : Int)) rfl rfl rfl (w64 (by omega) (by omega))) ?_
  refine WP.val rfl rfl rfl (Val.iface rfl rfl Ty.ni133) ?_
  refine WP.val rfl rfl rfl (Val.mk (cs := [.iface 133 (.int .i64 (x)), .iface 133 (.int .i64 (x + (1 : Int)))]) rfl rfl (fun _ => by kernel_rfl)) ?_
  refine WP.eff0 rfl rfl (Eff.storeAgg (cs := [.iface 133 (.int .i64 (x)), .iface 133 (.int .i64 (x + (1 : Int)))]) (C' := [.iface 133 (.int .i64 (x)), .iface 133 (.int .i64 (x + (1 : Int)))]) rfl Ty.ag172 rfl rfl rfl rfl (by simp) rfl) ?_
  rintro _ _ rfl
  refine WP.nil ?_
  refine Out.next ?_
  refine WPc.ret ?_
  exact Out.retRun (L' := []) (results_cell (cs := [.iface 133 (.int .i64 (x)), .iface 133 (.int .i64 (x + (1 : Int)))]) Try.results107 Ty.ag172 rfl rfl (fun w h => h.range 0 rfl rfl)) ⟨rfl, rfl⟩ (fun w h => h.drop)
set_option maxRecDepth 100000 in
set_option maxHeartbeats 2000000 in
theorem si_does (x y : ByteArray) : Does Try.prog 110 [.string x, .string y] [] (fun v L => v = .agg #[.iface 134 (.string x), .iface 134 (.string y)] ∧ L = []) := by
  refine Does.enter 10 Try.func110 rfl rfl rfl fun W F => ?_
  show WPc _ _ _ _ _ [(0, .string x), (1, .string y)] (F)
  refine WPc.seq ?_
  refine WPc.region ?_
  refine WP.eff rfl rfl rfl (Eff.alloc rfl Ty.z172) ?_
  rintro _ F ⟨b1, rfl, rfl⟩
  refine WP.nil ?_
  refine Out.next ?_
  refine WPc.seq ?_
  have hz0 : (⟨#[0]⟩ : ByteArray).size = 1 := rfl
  refine WPc.region ?_
  refine WP.val rfl rfl rfl (Val.move rfl rfl) ?_
  refine WP.val rfl rfl rfl (Val.iface rfl rfl Ty.ni134) ?_
  refine WP.val rfl rfl rfl (Val.move rfl rfl) ?_
  refine WP.val rfl rfl rfl (Val.iface rfl rfl Ty.ni134) ?_
  refine WP.val rfl rfl rfl (Val.mk (cs := [.iface 134 (.string x), .iface 134 (.string y)]) rfl rfl (fun _ => by kernel_rfl)) ?_
  refine WP.eff0 rfl rfl (Eff.storeAgg (cs := [.iface 134 (.string x), .iface 134 (.string y)]) (C' := [.iface 134 (.string x), .iface 134 (.string y)]) rfl Ty.ag172 rfl rfl rfl rfl (by simp) rfl) ?_
  rintro _ _ rfl
  refine WP.nil ?_
  refine Out.next ?_
  refine WPc.ret ?_
  exact Out.retRun (L' := []) (results_cell (cs := [.iface 134 (.string x), .iface 134 (.string y)]) Try.results110 Ty.ag172 rfl rfl (fun w h => h.range 0 rfl rfl)) ⟨rfl, rfl⟩ (fun w h => h.drop)
set_option maxRecDepth 100000 in
set_option maxHeartbeats 2000000 in
theorem sp_does (x : ByteArray) (hx : x.size ≤ 2147483647) : Does Try.prog 109 [.string x] [] (fun v L => v = .agg #[.iface 134 (.string x), .iface 134 (.string (x ++ ⟨#[0]⟩))] ∧ L = []) := by
  refine Does.enter 9 Try.func109 rfl rfl rfl fun W F => ?_
  show WPc _ _ _ _ _ [(0, .string x)] (F)
  refine WPc.seq ?_
  refine WPc.region ?_
  refine WP.eff rfl rfl rfl (Eff.alloc rfl Ty.z172) ?_
  rintro _ F ⟨b1, rfl, rfl⟩
  refine WP.nil ?_
  refine Out.next ?_
  refine WPc.seq ?_
  have hz0 : (⟨#[0]⟩ : ByteArray).size = 1 := rfl
  refine WPc.region ?_
  refine WP.val rfl rfl rfl (Val.move rfl rfl) ?_
  refine WP.val rfl rfl rfl (Val.iface rfl rfl Ty.ni134) ?_
  refine WP.val rfl rfl rfl (Val.move rfl rfl) ?_
  refine WP.val rfl rfl rfl (Val.addS rfl rfl rfl (by omega)) ?_
  refine WP.val rfl rfl rfl (Val.iface rfl rfl Ty.ni134) ?_
  refine WP.val rfl rfl rfl (Val.mk (cs := [.iface 134 (.string x), .iface 134 (.string (x ++ ⟨#[0]⟩))]) rfl rfl (fun _ => by kernel_rfl)) ?_
  refine WP.eff0 rfl rfl (Eff.storeAgg (cs := [.iface 134 (.string x), .iface 134 (.string (x ++ ⟨#[0]⟩))]) (C' := [.iface 134 (.string x), .iface 134 (.string (x ++ ⟨#[0]⟩))]) rfl Ty.ag172 rfl rfl rfl rfl (by simp) rfl) ?_
  rintro _ _ rfl
  refine WP.nil ?_
  refine Out.next ?_
  refine WPc.ret ?_
  exact Out.retRun (L' := []) (results_cell (cs := [.iface 134 (.string x), .iface 134 (.string (x ++ ⟨#[0]⟩))]) Try.results109 Ty.ag172 rfl rfl (fun w h => h.range 0 rfl rfl)) ⟨rfl, rfl⟩ (fun w h => h.drop)

end Go.Proofs.Ytbomnihiapjmpaa.Tp

namespace Go.Proofs.Ytbomnihiapjmpaa.Tq
open Go.RowKit Go.Proofs.Ytbomnihiapjmpaa Go.Proofs.Ytbomnihiapjmpaa.Sl Go.Proofs.Ytbomnihiapjmpaa.TrP Go.Proofs.Ytbomnihiapjmpaa.Tc Go.Proofs.Ytbomnihiapjmpaa.Td Go.Proofs.Ytbomnihiapjmpaa.Tp
set_option linter.unusedVariables false
set_option linter.unusedSimpArgs false
set_option linter.unusedSectionVars false


theorem bc0_take (x : ByteArray) : ((List.replicate (x.size + 1) [Value.int .u8 0]).flatten).take 0 ++ byteCells x ++ ((List.replicate (x.size + 1) [Value.int .u8 0]).flatten).drop (0 + x.size) = byteCells x ++ [.int .u8 0] := by
  have e : ∀ n : Nat, (List.replicate n [Value.int .u8 0]).flatten = List.replicate n (Value.int .u8 0) := fun n => by
    induction n with
    | zero => rfl
    | succ n ih => rw [List.replicate_succ, List.flatten_cons, ih]; rfl
  rw [e]
  simp
theorem bc0_set (x : ByteArray) : (byteCells x ++ [Value.int .u8 0]).set x.size (.int .u8 0) = byteCells x ++ [.int .u8 0] := by
  have h : x.size = (byteCells x).length := (byteCells_length x).symm
  rw [h, List.set_append_right _ _ (Nat.le_refl _)]
  simp
set_option maxRecDepth 100000 in
set_option maxHeartbeats 2000000 in
theorem bap_does (b0 c0 : Nat) (sp : List Value) (x : ByteArray) (hx : x.size ≤ 2147483647) (hc : x.size ≤ c0) : Does Try.prog 105 [.slice (some ⟨b0, 0, none⟩) x.size c0] [Blk b0 (byteCells x ++ sp) 5] (fun v L => ∃ b, v = .agg #[.iface 132 (.slice (some ⟨b0, 0, none⟩) x.size c0), .iface 132 (.slice (some ⟨b, 0, none⟩) (x.size + 1) (x.size + 1))] ∧ L = [Blk b0 (byteCells x ++ sp) 5, Blk b (byteCells x ++ [.int .u8 0]) 5]) := by
  refine Does.enter 18 Try.func105 rfl rfl rfl fun W F => ?_
  show WPc _ _ _ _ _ [(0, .slice (some ⟨b0, 0, none⟩) x.size c0)] (Blk b0 (byteCells x ++ sp) 5 :: F)
  refine WPc.seq ?_
  refine WPc.region ?_
  refine WP.eff rfl rfl rfl (Eff.alloc rfl Ty.z172) ?_
  rintro _ _ ⟨b1, rfl, rfl⟩
  refine WP.nil ?_
  refine Out.next ?_
  refine WPc.seq ?_
  refine WPc.region ?_
  refine WP.val rfl rfl rfl (Val.move rfl rfl) ?_
  refine WP.val rfl rfl rfl (Val.len rfl Ty.sl110 rfl) ?_
  refine WP.val rfl rfl rfl (Val.add (z := ((x.size + 1 : Nat) : Int)) rfl rfl rfl ((w64 (by omega) (by omega)).trans (by omega))) ?_
  refine WP.eff rfl rfl rfl (Eff.makeSlice (m := x.size + 1) (c := x.size + 1) (z := [.int .u8 0]) rfl Ty.sl110 Ty.z5 rfl rfl rfl rfl rfl (by omega) (by omega) (by omega)) ?_
  rintro _ _ ⟨b2, rfl, rfl⟩
  refine WP.val rfl rfl rfl (Val.assign rfl rfl) ?_
  refine WP.nil ?_
  refine Out.next ?_
  refine WPc.seq ?_
  refine WPc.region ?_
  refine WP.val rfl rfl rfl (Val.move rfl rfl) ?_
  refine WP.val rfl rfl rfl (Val.move rfl rfl) ?_
  refine WP.eff rfl rfl rfl (Eff.copySl (cs := byteCells x) (C' := byteCells x ++ [Value.int .u8 0]) rfl Ty.sl110 rfl rfl (fun w h => (h.at 2 rfl).cell_range (by simp)) (byteCells_length x) (by omega) (byt_one _) (by simp) (bc0_take x)) ?_
  rintro _ _ ⟨rfl, rfl⟩
  refine WP.nil ?_
  refine Out.next ?_
  refine WPc.seq ?_
  refine WPc.region ?_
  refine WP.val rfl rfl rfl (Val.move rfl rfl) ?_
  refine WP.val rfl rfl rfl (Val.move rfl rfl) ?_
  refine WP.val rfl rfl rfl (Val.len rfl Ty.sl110 rfl) ?_
  refine WP.val rfl rfl rfl (Val.indexAddr (j := x.size) (q := x.size) rfl Ty.sl110 rfl rfl (by omega) (by omega) (by omega)) ?_
  refine WP.eff0 rfl rfl (Eff.store (C' := byteCells x ++ [Value.int .u8 0]) rfl Ty.sc5 rfl rfl rfl (by simp [byteCells_length]) (bc0_set x)) ?_
  rintro _ _ rfl
  refine WP.nil ?_
  refine Out.next ?_
  refine WPc.seq ?_
  refine WPc.region ?_
  refine WP.val rfl rfl rfl (Val.move rfl rfl) ?_
  refine WP.val rfl rfl rfl (Val.move rfl rfl) ?_
  refine WP.eff rfl rfl rfl (Eff.call rfl rfl Try.call104 (bai_does (.slice (some ⟨b0, 0, none⟩) x.size c0) (.slice (some ⟨b2, 0, none⟩) (x.size + 1) (x.size + 1)))) ?_
  rintro _ _ ⟨_, ⟨rfl, rfl⟩, rfl⟩
  show WP _ _ _ _ _ _ _ (Blk b2 (byteCells x ++ [Value.int .u8 0]) 5 :: Blk b1 [.nilIface, .nilIface] 172 :: Blk b0 (byteCells x ++ sp) 5 :: F)
  refine WP.perm pl1 ?_
  refine WP.eff0 rfl rfl (Eff.storeAgg (cs := [.iface 132 (.slice (some ⟨b0, 0, none⟩) x.size c0), .iface 132 (.slice (some ⟨b2, 0, none⟩) (x.size + 1) (x.size + 1))]) (C' := [.iface 132 (.slice (some ⟨b0, 0, none⟩) x.size c0), .iface 132 (.slice (some ⟨b2, 0, none⟩) (x.size + 1) (x.size + 1))]) rfl Ty.ag172 rfl rfl rfl rfl (by simp) rfl) ?_
  rintro _ _ rfl
  refine WP.nil ?_
  refine Out.next ?_
  refine WPc.ret ?_
  refine Out.perm pl1 ?_
  refine Out.perm pl2 ?_
  refine Out.perm pl2 ?_
  exact Out.retRun (L' := [Blk b0 (byteCells x ++ sp) 5, Blk b2 (byteCells x ++ [Value.int .u8 0]) 5]) (results_cell (cs := [.iface 132 (.slice (some ⟨b0, 0, none⟩) x.size c0), .iface 132 (.slice (some ⟨b2, 0, none⟩) (x.size + 1) (x.size + 1))]) Try.results105 Ty.ag172 rfl rfl (fun w h => h.range 0 rfl rfl)) ⟨b2, rfl, rfl⟩ (fun w h => h.drop)

end Go.Proofs.Ytbomnihiapjmpaa.Tq

namespace Go.Proofs.Ytbomnihiapjmpaa.Tb
open Go.RowKit Go.Proofs.Ytbomnihiapjmpaa Go.Proofs.Ytbomnihiapjmpaa.Sl Go.Proofs.Ytbomnihiapjmpaa.TrP Go.Proofs.Ytbomnihiapjmpaa.Ta
set_option linter.unusedVariables false
set_option linter.unusedSimpArgs false
set_option linter.unusedSectionVars false


/-- what an end of some kind stands for -/
def ke (k : Int) (s : ByteArray) (n : Int) : Ky := if k = 1 ∨ k = 2 then ka s else if k = 3 then ki n else ks s
theorem ke1 {k : Int} (h : k = 1) (s : ByteArray) (n : Int) : ke k s n = ka s := by unfold ke; rw [if_pos (.inl h)]
theorem ke2 {k : Int} (h : k = 2) (s : ByteArray) (n : Int) : ke k s n = ka s := by unfold ke; rw [if_pos (.inr h)]
theorem ke3 {k : Int} (h : k = 3) (s : ByteArray) (n : Int) : ke k s n = ki n := by unfold ke; rw [if_neg (by omega), if_pos h]
theorem ke0 {k : Int} (h1 : ¬ k = 1) (h2 : ¬ k = 2) (h3 : ¬ k = 3) (s : ByteArray) (n : Int) : ke k s n = ks s := by unfold ke; rw [if_neg (by omega), if_neg h3]
theorem toList_size (x : ByteArray) : x.toList.length = x.size := by rw [ByteArray.toList_eq]; exact Array.length_toList
theorem seq_nil (x : ByteArray) : seq x ⟨#[]⟩ = decide (x.size = 0) := by
  unfold seq
  rw [ByteArray.toList_eq, ByteArray.toList_eq]
  have e : x.data.toList.length = x.size := Array.length_toList
  cases h : x.data.toList with
  | nil => rw [h] at e; simp at e; simp [← e]
  | cons a l => rw [h] at e; simp at e; rw [decide_eq_false (by omega)]; rfl
set_option maxRecDepth 100000 in
set_option maxHeartbeats 2000000 in
theorem ends_does (k : Int) (s t : ByteArray) (m n : Int) (hm : -2305843009213693952 ≤ m ∧ m ≤ 2305843009213693952) (hn : -2305843009213693952 ≤ n ∧ n ≤ 2305843009213693952) : Does Try.prog 36 [.int .i64 (k), .string s, .string t, .int .i64 (m), .int .i64 (n)] [] (fun v L => v = .int .i64 (kcmp (ke k s m) (ke k t n)) ∧ L = []) := by
  refine Does.enter 36 Try.func36 rfl rfl rfl fun W F => ?_
  show WPc _ _ _ _ _ [(0, .int .i64 (k)), (1, .string s), (2, .string t), (3, .int .i64 (m)), (4, .int .i64 (n))] (F)
  refine WPc.seq ?_
  refine WPc.region ?_
  refine WP.val rfl rfl rfl (Val.assign rfl rfl) ?_
  refine WP.nil ?_
  refine Out.next ?_
  refine WPc.seq ?_
  refine WPc.seq ?_
  refine WPc.region ?_
  refine WP.val rfl rfl rfl (Val.move rfl rfl) ?_
  refine WP.nil ?_
  refine Out.next ?_
  refine WPc.block ?_
  refine WPc.seq ?_
  refine WPc.region ?_
  refine WP.val rfl rfl rfl (Val.eql rfl rfl rfl) ?_
  refine WP.val rfl rfl rfl (Val.assign rfl rfl) ?_
  refine WP.nil ?_
  refine Out.next ?_
  refine WPc.ifP rfl (fun h1 => ?_) (fun h1 => ?_)
  · skip
    have h1 : (k = (1 : Int)) := h1
    refine WPc.seq ?_
    refine WPc.region ?_
    refine WP.val rfl rfl rfl (Val.move rfl rfl) ?_
    refine WP.val rfl rfl rfl (Val.move rfl rfl) ?_
    refine WP.val rfl rfl rfl (Val.iface rfl rfl Ty.ni130) ?_
    refine WP.eff rfl rfl rfl (Eff.call rfl rfl Try.call74 (cmpa_spec s t)) ?_
    rintro _ F ⟨_, ⟨rfl, rfl⟩, rfl⟩
    show WP _ _ _ _ _ _ _ (F)
    refine WP.val rfl rfl rfl (Val.assign rfl rfl) ?_
    refine WP.nil ?_
    refine Out.next ?_
    refine WPc.ret ?_
    refine Out.block_ret ?_
    refine Out.then_ret ?_
    exact Out.ret1 (L' := []) Try.results36 rfl ⟨congrArg (Value.int .i64) (show kcmp (ka s) (ka t) = kcmp (ke k s m) (ke k t n) by rw [ke1 (by assumption), ke1 (by assumption)]), rfl⟩ (fun _ h => h)
  · skip
    have h1 : ¬ (k = (1 : Int)) := h1
    refine WPc.seq ?_
    refine WPc.region ?_
    refine WP.val rfl rfl rfl (Val.eql rfl rfl rfl) ?_
    refine WP.val rfl rfl rfl (Val.assign rfl rfl) ?_
    refine WP.nil ?_
    refine Out.next ?_
    refine WPc.ifP rfl (fun h2 => ?_) (fun h2 => ?_)
    · skip
      have h2 : (k = (2 : Int)) := h2
      refine WPc.seq ?_
      refine WPc.region ?_
      refine WP.val rfl rfl rfl (Val.move rfl rfl) ?_
      refine WP.eff rfl rfl rfl (Eff.bytes rfl Ty.st9 Ty.by132 rfl) ?_
      rintro _ F ⟨b1, capb1, spb1, rfl, hcb1, hsb1, rfl⟩
      refine WP.val rfl rfl rfl (Val.move rfl rfl) ?_
      refine WP.eff rfl rfl rfl (Eff.bytes rfl Ty.st9 Ty.by132 rfl) ?_
      rintro _ _ ⟨b2, capb2, spb2, rfl, hcb2, hsb2, rfl⟩
      refine WP.val rfl rfl rfl (Val.iface rfl rfl Ty.ni132) ?_
      refine WP.perm pl1 ?_
      refine WP.conv (fun w h => Sat.bytsStr h (by omega)) ?_
      show WP _ _ _ _ _ _ _ (Byts (.slice (some ⟨b1, 0, none⟩) ((s).size) capb1) s.data.toList :: Blk b2 (byteCells t ++ spb2) 5 :: F)
      refine WP.perm pl1 ?_
      refine WP.conv (fun w h => Sat.bytsStr h (by omega)) ?_
      show WP _ _ _ _ _ _ _ (Byts (.slice (some ⟨b2, 0, none⟩) ((t).size) capb2) t.data.toList :: Byts (.slice (some ⟨b1, 0, none⟩) ((s).size) capb1) s.data.toList :: F)
      refine WP.perm pl1 ?_
      refine WP.eff rfl rfl rfl (Eff.call rfl rfl Try.call75 (cmpb_spec (.slice (some ⟨b1, 0, none⟩) ((s).size) capb1) (.slice (some ⟨b2, 0, none⟩) ((t).size) capb2) s.data.toList t.data.toList)) ?_
      rintro _ _ ⟨_, ⟨rfl, rfl⟩, rfl⟩
      show WP _ _ _ _ _ _ _ (Byts (.slice (some ⟨b1, 0, none⟩) ((s).size) capb1) s.data.toList :: Byts (.slice (some ⟨b2, 0, none⟩) ((t).size) capb2) t.data.toList :: F)
      refine WP.val rfl rfl rfl (Val.assign rfl rfl) ?_
      refine WP.nil ?_
      refine Out.next ?_
      refine WPc.ret ?_
      refine Out.block_ret ?_
      refine Out.then_ret ?_
      refine Out.drop ?_
      refine Out.drop ?_
      exact Out.ret1 (L' := []) Try.results36 rfl ⟨congrArg (Value.int .i64) (show kcmp (kb s.data.toList) (kb t.data.toList) = kcmp (ke k s m) (ke k t n) by rw [ka_kb, ka_kb, ke2 (by assumption), ke2 (by assumption)]), rfl⟩ (fun _ h => h)
    · skip
      have h2 : ¬ (k = (2 : Int)) := h2
      refine WPc.seq ?_
      refine WPc.region ?_
      refine WP.val rfl rfl rfl (Val.eql rfl rfl rfl) ?_
      refine WP.val rfl rfl rfl (Val.assign rfl rfl) ?_
      refine WP.nil ?_
      refine Out.next ?_
      refine WPc.ifP rfl (fun h3 => ?_) (fun h3 => ?_)
      · skip
        have h3 : (k = (3 : Int)) := h3
        refine WPc.seq ?_
        refine WPc.region ?_
        refine WP.val rfl rfl rfl (Val.move rfl rfl) ?_
        refine WP.val rfl rfl rfl (Val.move rfl rfl) ?_
        refine WP.val rfl rfl rfl (Val.iface rfl rfl Ty.ni133) ?_
        refine WP.eff rfl rfl rfl (Eff.call rfl rfl Try.call76 (cmpi_spec m n hm hn)) ?_
        rintro _ F ⟨_, ⟨rfl, rfl⟩, rfl⟩
        show WP _ _ _ _ _ _ _ (F)
        refine WP.val rfl rfl rfl (Val.assign rfl rfl) ?_
        refine WP.nil ?_
        refine Out.next ?_
        refine WPc.ret ?_
        refine Out.block_ret ?_
        refine Out.then_ret ?_
        exact Out.ret1 (L' := []) Try.results36 rfl ⟨congrArg (Value.int .i64) (show kcmp (ki m) (ki n) = kcmp (ke k s m) (ke k t n) by rw [ke3 (by assumption), ke3 (by assumption)]), rfl⟩ (fun _ h => h)
      · skip
        have h3 : ¬ (k = (3 : Int)) := h3
        refine WPc.skip ?_
        refine Out.block ?_
        refine Out.next ?_
        refine WPc.seq ?_
        refine WPc.region ?_
        refine WP.val rfl rfl rfl (Val.move rfl rfl) ?_
        refine WP.val rfl rfl rfl (Val.move rfl rfl) ?_
        refine WP.val rfl rfl rfl (Val.iface rfl rfl Ty.ni134) ?_
        refine WP.eff rfl rfl rfl (Eff.call rfl rfl Try.call77 (cmps_spec s t)) ?_
        rintro _ F ⟨_, ⟨rfl, rfl⟩, rfl⟩
        show WP _ _ _ _ _ _ _ (F)
        refine WP.val rfl rfl rfl (Val.assign rfl rfl) ?_
        refine WP.nil ?_
        refine Out.next ?_
        refine WPc.ret ?_
        exact Out.ret1 (L' := []) Try.results36 rfl ⟨congrArg (Value.int .i64) (show kcmp (ks s) (ks t) = kcmp (ke k s m) (ke k t n) by rw [ke0 (by assumption) (by assumption) (by assumption), ke0 (by assumption) (by assumption) (by assumption)]), rfl⟩ (fun _ h => h)

theorem sends_eq (k : Int) (s t : ByteArray) (m n : Int) : kcmp (ke k s m) (ke k t n) = if k = 3 then (if m < n then -1 else if n < m then 1 else 0) else
    if (k = 1 ∨ k = 2) ∧ decide (s.size = 0) ≠ decide (t.size = 0) then (if t.size = 0 then -1 else 1) else if Op.bytesLess s.toList t.toList = true then -1 else if Op.bytesLess t.toList s.toList = true then 1 else 0 := by
  by_cases h3 : k = 3
  · rw [ke3 h3, ke3 h3, ki_cmp, if_pos h3]
    have e1 : (m - n < 0) ↔ m < n := by omega
    have e2 : (0 < m - n) ↔ n < m := by omega
    simp only [e1, e2]
  · rw [if_neg h3]
    by_cases h1 : k = 1 ∨ k = 2
    · have e : ∀ x : ByteArray, ∀ z, ke k x z = ka x := fun x z => h1.elim (fun h => ke1 h x z) (fun h => ke2 h x z)
      rw [e, e, ka_cmp]
      have hn : ∀ x : ByteArray, x.size = 0 → x.toList = [] := fun x hx => List.eq_nil_of_length_eq_zero (by rw [toList_size]; exact hx)
      by_cases hs : s.size = 0 <;> by_cases ht : t.size = 0
      · simp [hs, ht, hn s hs, hn t ht, Op.bytesLess]
      · simp [hs, ht, h1]
      · simp [hs, ht, h1]
      · simp [hs, ht, h1]
    · rw [ke0 (fun e => h1 (.inl e)) (fun e => h1 (.inr e)) h3, ke0 (fun e => h1 (.inl e)) (fun e => h1 (.inr e)) h3, ks_cmp]
      conv => rhs; rw [if_neg (fun e => h1 e.1)]
set_option maxRecDepth 100000 in
set_option maxHeartbeats 2000000 in
theorem sends_does (k : Int) (s t : ByteArray) (m n : Int) (hk : 0 ≤ k ∧ k ≤ 3) : Does Try.prog 37 [.int .i64 (k), .string s, .string t, .int .i64 (m), .int .i64 (n)] [] (fun v L => v = .int .i64 (kcmp (ke k s m) (ke k t n)) ∧ L = []) := by
  refine Does.enter 46 Try.func37 rfl rfl rfl fun W F => ?_
  show WPc _ _ _ _ _ [(0, .int .i64 (k)), (1, .string s), (2, .string t), (3, .int .i64 (m)), (4, .int .i64 (n))] (F)
  refine WPc.seq ?_
  refine WPc.region ?_
  refine WP.val rfl rfl rfl (Val.assign rfl rfl) ?_
  refine WP.nil ?_
  refine Out.next ?_
  refine WPc.seq ?_
  refine WPc.region ?_
  refine WP.val rfl rfl rfl (Val.move rfl rfl) ?_
  refine WP.val rfl rfl rfl (Val.move rfl rfl) ?_
  refine WP.val rfl rfl rfl (Val.lssS rfl rfl rfl) ?_
  refine WP.val rfl rfl rfl (Val.move rfl rfl) ?_
  refine WP.val rfl rfl rfl (Val.move rfl rfl) ?_
  refine WP.val rfl rfl rfl (Val.gtrS rfl rfl rfl) ?_
  refine WP.val rfl rfl rfl (Val.assign rfl rfl) ?_
  refine WP.val rfl rfl rfl (Val.assign rfl rfl) ?_
  refine WP.nil ?_
  refine Out.next ?_
  refine WPc.seq ?_
  refine WPc.block ?_
  refine WPc.seq ?_
  refine WPc.region ?_
  refine WP.val rfl rfl rfl (Val.move rfl rfl) ?_
  refine WP.val rfl rfl rfl (Val.eql rfl rfl rfl) ?_
  refine WP.val rfl rfl rfl (Val.assign rfl rfl) ?_
  refine WP.nil ?_
  refine Out.next ?_
  refine WPc.ifP rfl (fun h1 => ?_) (fun h1 => ?_)
  · skip
    have h1 : (k = (3 : Int)) := h1
    refine WPc.region ?_
    refine WP.val rfl rfl rfl (Val.move rfl rfl) ?_
    refine WP.val rfl rfl rfl (Val.move rfl rfl) ?_
    refine WP.val rfl rfl rfl (Val.lss rfl rfl rfl) ?_
    refine WP.val rfl rfl rfl (Val.move rfl rfl) ?_
    refine WP.val rfl rfl rfl (Val.move rfl rfl) ?_
    refine WP.val rfl rfl rfl (Val.gtr rfl rfl rfl) ?_
    refine WP.val rfl rfl rfl (Val.assign rfl rfl) ?_
    refine WP.val rfl rfl rfl (Val.assign rfl rfl) ?_
    refine WP.nil ?_
    refine Out.block ?_
    refine Out.next ?_
    refine WPc.seq ?_
    refine WPc.block ?_
    refine WPc.seq ?_
    refine WPc.region ?_
    refine WP.val rfl rfl rfl (Val.move rfl rfl) ?_
    refine WP.val rfl rfl rfl (Val.assign rfl rfl) ?_
    refine WP.nil ?_
    refine Out.next ?_
    refine WPc.ifP rfl (fun h2 => ?_) (fun h2 => ?_)
    · skip
      have h2 : (m < n) := h2
      refine WPc.seq ?_
      refine WPc.region ?_
      refine WP.val rfl rfl rfl (Val.assign rfl rfl) ?_
      refine WP.nil ?_
      refine Out.next ?_
      refine WPc.ret ?_
      refine Out.block_ret ?_
      refine Out.then_ret ?_
      exact Out.ret1 (L' := []) Try.results37 rfl ⟨congrArg (Value.int .i64) (show (-1 : Int) = kcmp (ke k s m) (ke k t n) by rw [sends_eq]; first | (rw [if_pos (by assumption)]; first | rw [if_pos (by omega)] | rw [if_neg (by omega), if_pos (by omega)] | rw [if_neg (by omega), if_neg (by omega)]) | (simp_all [seq_nil]; done) | (simp_all [seq_nil]; omega)), rfl⟩ (fun _ h => h)
    · skip
      have h2 : ¬ (m < n) := h2
      refine WPc.seq ?_
      refine WPc.region ?_
      refine WP.val rfl rfl rfl (Val.move rfl rfl) ?_
      refine WP.val rfl rfl rfl (Val.assign rfl rfl) ?_
      refine WP.nil ?_
      refine Out.next ?_
      refine WPc.ifP rfl (fun h3 => ?_) (fun h3 => ?_)
      · skip
        have h3 : (n < m) := h3
        refine WPc.seq ?_
        refine WPc.region ?_
        refine WP.val rfl rfl rfl (Val.assign rfl rfl) ?_
        refine WP.nil ?_
        refine Out.next ?_
        refine WPc.ret ?_
        refine Out.block_ret ?_
        refine Out.then_ret ?_
        exact Out.ret1 (L' := []) Try.results37 rfl ⟨congrArg (Value.int .i64) (show (1 : Int) = kcmp (ke k s m) (ke k t n) by rw [sends_eq]; first | (rw [if_pos (by assumption)]; first | rw [if_pos (by omega)] | rw [if_neg (by omega), if_pos (by omega)] | rw [if_neg (by omega), if_neg (by omega)]) | (simp_all [seq_nil]; done) | (simp_all [seq_nil]; omega)), rfl⟩ (fun _ h => h)
      · skip
        have h3 : ¬ (n < m) := h3
        refine WPc.skip ?_
        refine Out.block ?_
        refine Out.next ?_
        refine WPc.seq ?_
        refine WPc.region ?_
        refine WP.val rfl rfl rfl (Val.assign rfl rfl) ?_
        refine WP.nil ?_
        refine Out.next ?_
        refine WPc.ret ?_
        exact Out.ret1 (L' := []) Try.results37 rfl ⟨congrArg (Value.int .i64) (show (0 : Int) = kcmp (ke k s m) (ke k t n) by rw [sends_eq]; first | (rw [if_pos (by assumption)]; first | rw [if_pos (by omega)] | rw [if_neg (by omega), if_pos (by omega)] | rw [if_neg (by omega), if_neg (by omega)]) | (simp_all [seq_nil]; done) | (simp_all [seq_nil]; omega)), rfl⟩ (fun _ h => h)
  · skip
    have h1 : ¬ (k = (3 : Int)) := h1
    refine WPc.seq ?_
    refine WPc.region ?_
    refine WP.val rfl rfl rfl (Val.move rfl rfl) ?_
    refine WP.val rfl rfl rfl (Val.neq rfl rfl rfl) ?_
    refine WP.val rfl rfl rfl (Val.move rfl rfl) ?_
    refine WP.split 31 rfl (fun h4 => ?_) (fun h4 => ?_)
    · skip
      have h4 : (k ≠ (0 : Int)) := h4
      refine WP.valG rfl rfl rfl rfl rfl rfl rfl (Val.move rfl rfl) ?_
      refine WP.valG rfl rfl rfl rfl rfl rfl rfl (Val.eqlS rfl rfl rfl) ?_
      refine WP.valG rfl rfl rfl rfl rfl rfl rfl (Val.move rfl rfl) ?_
      refine WP.valG rfl rfl rfl rfl rfl rfl rfl (Val.eqlS rfl rfl rfl) ?_
      refine WP.valG rfl rfl rfl rfl rfl rfl rfl (Val.neqB rfl Ty2.bo4 rfl rfl) ?_
      refine WP.val rfl rfl rfl (Val.pickT rfl rfl rfl) ?_
      refine WP.val rfl rfl rfl (Val.assign rfl rfl) ?_
      refine WP.nil ?_
      refine Out.next ?_
      refine WPc.cond rfl (fun h5 => ?_) (fun h5 => ?_)
      · skip
        have h5 : (!((seq s (⟨#[]⟩)) == (seq t (⟨#[]⟩)))) = true := h5
        refine WPc.region ?_
        refine WP.val rfl rfl rfl (Val.move rfl rfl) ?_
        refine WP.val rfl rfl rfl (Val.eqlS rfl rfl rfl) ?_
        refine WP.val rfl rfl rfl (Val.move rfl rfl) ?_
        refine WP.val rfl rfl rfl (Val.eqlS rfl rfl rfl) ?_
        refine WP.val rfl rfl rfl (Val.assign rfl rfl) ?_
        refine WP.val rfl rfl rfl (Val.assign rfl rfl) ?_
        refine WP.nil ?_
        refine Out.block ?_
        refine Out.next ?_
        refine WPc.seq ?_
        refine WPc.block ?_
        refine WPc.seq ?_
        refine WPc.region ?_
        refine WP.val rfl rfl rfl (Val.move rfl rfl) ?_
        refine WP.val rfl rfl rfl (Val.assign rfl rfl) ?_
        refine WP.nil ?_
        refine Out.next ?_
        refine WPc.cond rfl (fun h6 => ?_) (fun h6 => ?_)
        · skip
          have h6 : (seq t (⟨#[]⟩)) = true := h6
          refine WPc.seq ?_
          refine WPc.region ?_
          refine WP.val rfl rfl rfl (Val.assign rfl rfl) ?_
          refine WP.nil ?_
          refine Out.next ?_
          refine WPc.ret ?_
          refine Out.block_ret ?_
          refine Out.then_ret ?_
          exact Out.ret1 (L' := []) Try.results37 rfl ⟨congrArg (Value.int .i64) (show (-1 : Int) = kcmp (ke k s m) (ke k t n) by rw [sends_eq]; first | (rw [if_pos (by assumption)]; first | rw [if_pos (by omega)] | rw [if_neg (by omega), if_pos (by omega)] | rw [if_neg (by omega), if_neg (by omega)]) | (simp_all [seq_nil]; done) | (simp_all [seq_nil]; omega)), rfl⟩ (fun _ h => h)
        · skip
          have h6 : (seq t (⟨#[]⟩)) = false := h6
          refine WPc.seq ?_
          refine WPc.region ?_
          refine WP.val rfl rfl rfl (Val.move rfl rfl) ?_
          refine WP.val rfl rfl rfl (Val.assign rfl rfl) ?_
          refine WP.nil ?_
          refine Out.next ?_
          refine WPc.cond rfl (fun h7 => ?_) (fun h7 => ?_)
          · skip
            have h7 : (seq s (⟨#[]⟩)) = true := h7
            refine WPc.seq ?_
            refine WPc.region ?_
            refine WP.val rfl rfl rfl (Val.assign rfl rfl) ?_
            refine WP.nil ?_
            refine Out.next ?_
            refine WPc.ret ?_
            refine Out.block_ret ?_
            refine Out.then_ret ?_
            exact Out.ret1 (L' := []) Try.results37 rfl ⟨congrArg (Value.int .i64) (show (1 : Int) = kcmp (ke k s m) (ke k t n) by rw [sends_eq]; first | (rw [if_pos (by assumption)]; first | rw [if_pos (by omega)] | rw [if_neg (by omega), if_pos (by omega)] | rw [if_neg (by omega), if_neg (by omega)]) | (simp_all [seq_nil]; done) | (simp_all [seq_nil]; omega)), rfl⟩ (fun _ h => h)
          · skip
            have h7 : (seq s (⟨#[]⟩)) = false := h7
            refine WPc.skip ?_
            refine Out.block ?_
            refine Out.next ?_
            refine WPc.seq ?_
            refine WPc.region ?_
            refine WP.val rfl rfl rfl (Val.assign rfl rfl) ?_
            refine WP.nil ?_
            refine Out.next ?_
            refine WPc.ret ?_
            exact Out.ret1 (L' := []) Try.results37 rfl ⟨congrArg (Value.int .i64) (show (0 : Int) = kcmp (ke k s m) (ke k t n) by rw [sends_eq]; first | (rw [if_pos (by assumption)]; first | rw [if_pos (by omega)] | rw [if_neg (by omega), if_pos (by omega)] | rw [if_neg (by omega), if_neg (by omega)]) | (simp_all [seq_nil]; done) | (simp_all [seq_nil]; omega)), rfl⟩ (fun _ h => h)
      · skip
        have h5 : (!((seq s (⟨#[]⟩)) == (seq t (⟨#[]⟩)))) = false := h5
        refine WPc.skip ?_
        refine Out.block ?_
        refine Out.next ?_
        refine WPc.seq ?_
        refine WPc.block ?_
        refine WPc.seq ?_
        refine WPc.region ?_
        refine WP.val rfl rfl rfl (Val.move rfl rfl) ?_
        refine WP.val rfl rfl rfl (Val.assign rfl rfl) ?_
        refine WP.nil ?_
        refine Out.next ?_
        refine WPc.cond rfl (fun h8 => ?_) (fun h8 => ?_)
        · skip
          have h8 : (Op.bytesLess (s).toList (t).toList) = true := h8
          refine WPc.seq ?_
          refine WPc.region ?_
          refine WP.val rfl rfl rfl (Val.assign rfl rfl) ?_
          refine WP.nil ?_
          refine Out.next ?_
          refine WPc.ret ?_
          refine Out.block_ret ?_
          refine Out.then_ret ?_
          exact Out.ret1 (L' := []) Try.results37 rfl ⟨congrArg (Value.int .i64) (show (-1 : Int) = kcmp (ke k s m) (ke k t n) by rw [sends_eq]; first | (rw [if_pos (by assumption)]; first | rw [if_pos (by omega)] | rw [if_neg (by omega), if_pos (by omega)] | rw [if_neg (by omega), if_neg (by omega)]) | (simp_all [seq_nil]; done) | (simp_all [seq_nil]; omega)), rfl⟩ (fun _ h => h)
        · skip
          have h8 : (Op.bytesLess (s).toList (t).toList) = false := h8
          refine WPc.seq ?_
          refine WPc.region ?_
          refine WP.val rfl rfl rfl (Val.move rfl rfl) ?_
          refine WP.val rfl rfl rfl (Val.assign rfl rfl) ?_
          refine WP.nil ?_
          refine Out.next ?_
          refine WPc.cond rfl (fun h9 => ?_) (fun h9 => ?_)
          · skip
            have h9 : (Op.bytesLess (t).toList (s).toList) = true := h9
            refine WPc.seq ?_
            refine WPc.region ?_
            refine WP.val rfl rfl rfl (Val.assign rfl rfl) ?_
            refine WP.nil ?_
            refine Out.next ?_
            refine WPc.ret ?_
            refine Out.block_ret ?_
            refine Out.then_ret ?_
            exact Out.ret1 (L' := []) Try.results37 rfl ⟨congrArg (Value.int .i64) (show (1 : Int) = kcmp (ke k s m) (ke k t n) by rw [sends_eq]; first | (rw [if_pos (by assumption)]; first | rw [if_pos (by omega)] | rw [if_neg (by omega), if_pos (by omega)] | rw [if_neg (by omega), if_neg (by omega)]) | (simp_all [seq_nil]; done) | (simp_all [seq_nil]; omega)), rfl⟩ (fun _ h => h)
          · skip
            have h9 : (Op.bytesLess (t).toList (s).toList) = false := h9
            refine WPc.skip ?_
            refine Out.block ?_
            refine Out.next ?_
            refine WPc.seq ?_
            refine WPc.region ?_
            refine WP.val rfl rfl rfl (Val.assign rfl rfl) ?_
            refine WP.nil ?_
            refine Out.next ?_
            refine WPc.ret ?_
            exact Out.ret1 (L' := []) Try.results37 rfl ⟨congrArg (Value.int .i64) (show (0 : Int) = kcmp (ke k s m) (ke k t n) by rw [sends_eq]; first | (rw [if_pos (by assumption)]; first | rw [if_pos (by omega)] | rw [if_neg (by omega), if_pos (by omega)] | rw [if_neg (by omega), if_neg (by omega)]) | (simp_all [seq_nil]; done) | (simp_all [seq_nil]; omega)), rfl⟩ (fun _ h => h)
    · skip
      have h4 : ¬ (k ≠ (0 : Int)) := h4
      refine WP.skip rfl rfl rfl rfl rfl rfl rfl ?_
      refine WP.skip rfl rfl rfl rfl rfl rfl rfl ?_
      refine WP.skip rfl rfl rfl rfl rfl rfl rfl ?_
      refine WP.skip rfl rfl rfl rfl rfl rfl rfl ?_
      refine WP.skip rfl rfl rfl rfl rfl rfl rfl ?_
      refine WP.val rfl rfl rfl (Val.pickF rfl rfl rfl) ?_
      refine WP.val rfl rfl rfl (Val.assign rfl rfl) ?_
      refine WP.nil ?_
      refine Out.next ?_
      refine WPc.condF rfl rfl ?_
      refine WPc.skip ?_
      refine Out.block ?_
      refine Out.next ?_
      refine WPc.seq ?_
      refine WPc.block ?_
      refine WPc.seq ?_
      refine WPc.region ?_
      refine WP.val rfl rfl rfl (Val.move rfl rfl) ?_
      refine WP.val rfl rfl rfl (Val.assign rfl rfl) ?_
      refine WP.nil ?_
      refine Out.next ?_
      refine WPc.cond rfl (fun h10 => ?_) (fun h10 => ?_)
      · skip
        have h10 : (Op.bytesLess (s).toList (t).toList) = true := h10
        refine WPc.seq ?_
        refine WPc.region ?_
        refine WP.val rfl rfl rfl (Val.assign rfl rfl) ?_
        refine WP.nil ?_
        refine Out.next ?_
        refine WPc.ret ?_
        refine Out.block_ret ?_
        refine Out.then_ret ?_
        exact Out.ret1 (L' := []) Try.results37 rfl ⟨congrArg (Value.int .i64) (show (-1 : Int) = kcmp (ke k s m) (ke k t n) by rw [sends_eq]; first | (rw [if_pos (by assumption)]; first | rw [if_pos (by omega)] | rw [if_neg (by omega), if_pos (by omega)] | rw [if_neg (by omega), if_neg (by omega)]) | (simp_all [seq_nil]; done) | (simp_all [seq_nil]; omega)), rfl⟩ (fun _ h => h)
      · skip
        have h10 : (Op.bytesLess (s).toList (t).toList) = false := h10
        refine WPc.seq ?_
        refine WPc.region ?_
        refine WP.val rfl rfl rfl (Val.move rfl rfl) ?_
        refine WP.val rfl rfl rfl (Val.assign rfl rfl) ?_
        refine WP.nil ?_
        refine Out.next ?_
        refine WPc.cond rfl (fun h11 => ?_) (fun h11 => ?_)
        · skip
          have h11 : (Op.bytesLess (t).toList (s).toList) = true := h11
          refine WPc.seq ?_
          refine WPc.region ?_
          refine WP.val rfl rfl rfl (Val.assign rfl rfl) ?_
          refine WP.nil ?_
          refine Out.next ?_
          refine WPc.ret ?_
          refine Out.block_ret ?_
          refine Out.then_ret ?_
          exact Out.ret1 (L' := []) Try.results37 rfl ⟨congrArg (Value.int .i64) (show (1 : Int) = kcmp (ke k s m) (ke k t n) by rw [sends_eq]; first | (rw [if_pos (by assumption)]; first | rw [if_pos (by omega)] | rw [if_neg (by omega), if_pos (by omega)] | rw [if_neg (by omega), if_neg (by omega)]) | (simp_all [seq_nil]; done) | (simp_all [seq_nil]; omega)), rfl⟩ (fun _ h => h)
        · skip
          have h11 : (Op.bytesLess (t).toList (s).toList) = false := h11
          refine WPc.skip ?_
          refine Out.block ?_
          refine Out.next ?_
          refine WPc.seq ?_
          refine WPc.region ?_
          refine WP.val rfl rfl rfl (Val.assign rfl rfl) ?_
          refine WP.nil ?_
          refine Out.next ?_
          refine WPc.ret ?_
          exact Out.ret1 (L' := []) Try.results37 rfl ⟨congrArg (Value.int .i64) (show (0 : Int) = kcmp (ke k s m) (ke k t n) by rw [sends_eq]; first | (rw [if_pos (by assumption)]; first | rw [if_pos (by omega)] | rw [if_neg (by omega), if_pos (by omega)] | rw [if_neg (by omega), if_neg (by omega)]) | (simp_all [seq_nil]; done) | (simp_all [seq_nil]; omega)), rfl⟩ (fun _ h => h)

end Go.Proofs.Ytbomnihiapjmpaa.Tb

namespace Go.Proofs.Ytbomnihiapjmpaa.Tr
open Go.RowKit Go.Proofs.Ytbomnihiapjmpaa Go.Proofs.Ytbomnihiapjmpaa.Sl Go.Proofs.Ytbomnihiapjmpaa.TrP Go.Proofs.Ytbomnihiapjmpaa.Tb Go.Proofs.Ytbomnihiapjmpaa.Tc Go.Proofs.Ytbomnihiapjmpaa.Td Go.Proofs.Ytbomnihiapjmpaa.Tp Go.Proofs.Ytbomnihiapjmpaa.Tq
set_option linter.unusedVariables false
set_option linter.unusedSimpArgs false
set_option linter.unusedSectionVars false


structure Sp where
  key : ByteArray
  fin : ByteArray
  one : Bool
  lo : Int
  hi : Int
def kt (k : Int) : TypeId := if k = 1 then 130 else if k = 2 then 132 else if k = 3 then 133 else 134
theorem kt1 {k : Int} (h : k = 1) : kt k = 130 := by unfold kt; rw [if_pos h]
theorem kt2 {k : Int} (h1 : ¬ k = 1) (h : k = 2) : kt k = 132 := by unfold kt; rw [if_neg h1, if_pos h]
theorem kt3 {k : Int} (h1 : ¬ k = 1) (h2 : ¬ k = 2) (h : k = 3) : kt k = 133 := by unfold kt; rw [if_neg h1, if_neg h2, if_pos h]
theorem kt0 {k : Int} (h1 : ¬ k = 1) (h2 : ¬ k = 2) (h : ¬ k = 3) : kt k = 134 := by unfold kt; rw [if_neg h1, if_neg h2, if_neg h]
/-- where a span ends -/
def Sp.end (x : Sp) : ByteArray := if x.one then x.key ++ (⟨#[0]⟩ : ByteArray) else x.fin
def kB (k : Int) (x : Sp) : Ky := ke k x.key x.lo
def kE (k : Int) (x : Sp) : Ky := ke k x.end x.hi
theorem enp_a {W w : World} {L : List HProp} (x : ByteArray) (h : Sat W L w) : Sat W (Enp ⟨ka x, 130, .string x⟩ :: L) w := Sat.ex_mk (EV.a x) (Sat.pure_mk ⟨rfl, rfl, rfl⟩ h)
theorem enp_s {W w : World} {L : List HProp} (x : ByteArray) (h : Sat W L w) : Sat W (Enp ⟨ks x, 134, .string x⟩ :: L) w := Sat.ex_mk (EV.s x) (Sat.pure_mk ⟨rfl, rfl, rfl⟩ h)
theorem enp_i {W w : World} {L : List HProp} (n : Int) (hn : -2305843009213693952 ≤ n ∧ n ≤ 2305843009213693952) (h : Sat W L w) : Sat W (Enp ⟨ki n, 133, .int .i64 n⟩ :: L) w := Sat.ex_mk (EV.i n) (Sat.pure_mk ⟨rfl, rfl, rfl, hn⟩ h)
theorem enp_b {W w : World} {L : List HProp} {b c : Nat} {sp : List Value} {T : TypeId} (x : ByteArray) (hc : x.size ≤ c) (h : Sat W (Blk b (byteCells x ++ sp) T :: L) w) : Sat W (Enp ⟨ka x, 132, .slice (some ⟨b, 0, none⟩) x.size c⟩ :: L) w :=
  Sat.ex_mk (EV.b x.data.toList) (Sat.sep_mk (M := [_, _]) (Sat.pure_mk ⟨(ka_kb x).symm, rfl⟩ (h.bytsStr hc)))
theorem bc0_app (x : ByteArray) : byteCells x ++ [Value.int .u8 0] = byteCells (x ++ (⟨#[0]⟩ : ByteArray)) := by
  simp [byteCells]
set_option maxRecDepth 100000 in
set_option maxHeartbeats 2000000 in
theorem spanIn_does (k : Int) (x : Sp) (hkey : x.key.size ≤ 2147483647) (hfin : x.fin.size ≤ 2147483647) (hk3 : k = 3 → x.one = false ∧ (-2305843009213693952 ≤ x.lo ∧ x.lo ≤ 2305843009213693952) ∧ (-2305843009213693952 ≤ x.hi ∧ x.hi ≤ 2305843009213693952)) : Does Try.prog 94 [.int .i64 (k), .agg #[.string x.key, .string x.fin, .bool (x.one), .int .i64 (x.lo), .int .i64 (x.hi)]] [] (fun v L => ∃ eb ee : En, v = .agg #[.iface eb.t eb.u, .iface ee.t ee.u] ∧ eb.t = kt k ∧ ee.t = kt k ∧ eb.k = kB k x ∧ ee.k = kE k x ∧ L = [Enp eb, Enp ee]) := by
  refine Does.enter 68 Try.func94 rfl rfl rfl fun W F => ?_
  show WPc _ _ _ _ _ [(0, .int .i64 (k)), (1, .agg #[.string x.key, .string x.fin, .bool (x.one), .int .i64 (x.lo), .int .i64 (x.hi)])] (F)
  refine WPc.seq ?_
  refine WPc.region ?_
  refine WP.eff rfl rfl rfl (Eff.box (C := [.string x.key, .string x.fin, .bool (x.one), .int .i64 (x.lo), .int .i64 (x.hi)]) rfl rfl rfl) ?_
  rintro _ F ⟨b1, rfl, rfl⟩
  refine WP.eff rfl rfl rfl (Eff.alloc rfl Ty.z172) ?_
  rintro _ _ ⟨b2, rfl, rfl⟩
  refine WP.nil ?_
  refine Out.next ?_
  refine WPc.seq ?_
  refine WPc.seq ?_
  refine WPc.region ?_
  refine WP.val rfl rfl rfl (Val.move rfl rfl) ?_
  refine WP.nil ?_
  refine Out.next ?_
  refine WPc.block ?_
  refine WPc.seq ?_
  refine WPc.region ?_
  refine WP.val rfl rfl rfl (Val.eql rfl rfl rfl) ?_
  refine WP.val rfl rfl rfl (Val.assign rfl rfl) ?_
  refine WP.nil ?_
  refine Out.next ?_
  refine WPc.ifP rfl (fun h1 => ?_) (fun h1 => ?_)
  · skip
    have h1 : (k = (1 : Int)) := h1
    refine WPc.seq ?_
    refine WPc.seq ?_
    refine WPc.region ?_
    refine WP.val rfl rfl rfl (Val.fieldAddr (j := 0) rfl Ty.fo56_0 rfl rfl) ?_
    refine WP.val rfl rfl rfl (Val.fieldAddr (j := 2) rfl Ty.fo54_2 rfl rfl) ?_
    refine WP.val rfl rfl rfl (Val.load rfl Ty.sc4 rfl (fun w h => h.cell 1 rfl rfl)) ?_
    refine WP.nil ?_
    refine Out.next ?_
    refine WPc.cond rfl (fun h2 => ?_) (fun h2 => ?_)
    · skip
      have h2 : (x.one) = true := h2
      refine WPc.seq ?_
      refine WPc.region ?_
      refine WP.val rfl rfl rfl (Val.fieldAddr (j := 0) rfl Ty.fo56_0 rfl rfl) ?_
      refine WP.val rfl rfl rfl (Val.fieldAddr (j := 0) rfl Ty.fo54_0 rfl rfl) ?_
      refine WP.val rfl rfl rfl (Val.load rfl Ty.sc9 rfl (fun w h => h.cell 1 rfl rfl)) ?_
      refine WP.eff rfl rfl rfl (Eff.call rfl rfl Try.call103 (sap_does x.key hkey)) ?_
      rintro _ _ ⟨_, ⟨rfl, rfl⟩, rfl⟩
      show WP _ _ _ _ _ _ _ (Blk b2 [.nilIface, .nilIface] 172 :: Blk b1 [.string x.key, .string x.fin, .bool (x.one), .int .i64 (x.lo), .int .i64 (x.hi)] 56 :: F)
      refine WP.eff0 rfl rfl (Eff.storeAgg (cs := [.iface 130 (.string x.key), .iface 130 (.string (x.key ++ (⟨#[0]⟩ : ByteArray)))]) (C' := [.iface 130 (.string x.key), .iface 130 (.string (x.key ++ (⟨#[0]⟩ : ByteArray)))]) rfl Ty.ag172 rfl rfl rfl rfl (by simp) rfl) ?_
      rintro _ _ rfl
      refine WP.nil ?_
      refine Out.next ?_
      refine WPc.ret ?_
      refine Out.then_ret ?_
      refine Out.block_ret ?_
      refine Out.then_ret ?_
      have hkt := kt1 (by assumption)
      have hkb : kB k x = ka x.key := ke1 (by assumption) _ _
      have hend : x.end = x.key ++ (⟨#[0]⟩ : ByteArray) := by unfold Sp.end; simp_all
      have hke : kE k x = ka (x.key ++ (⟨#[0]⟩ : ByteArray)) := by unfold kE; rw [hend]; exact ke1 (by assumption) _ _
      refine Out.perm pl1 ?_
      refine Out.drop ?_
      exact Out.retRun (L' := [Enp ⟨ka x.key, 130, .string x.key⟩, Enp ⟨ka (x.key ++ (⟨#[0]⟩ : ByteArray)), 130, .string (x.key ++ (⟨#[0]⟩ : ByteArray))⟩]) (results_cell (cs := [.iface 130 (.string x.key), .iface 130 (.string (x.key ++ (⟨#[0]⟩ : ByteArray)))]) Try.results94 Ty.ag172 rfl rfl (fun w h => h.range 0 rfl rfl)) ⟨⟨ka x.key, 130, .string x.key⟩, ⟨ka (x.key ++ (⟨#[0]⟩ : ByteArray)), 130, .string (x.key ++ (⟨#[0]⟩ : ByteArray))⟩, rfl, hkt.symm, hkt.symm, hkb.symm, hke.symm, rfl⟩ (fun w h => enp_a x.key (enp_a (x.key ++ (⟨#[0]⟩ : ByteArray)) h.drop))
    · skip
      have h2 : (x.one) = false := h2
      refine WPc.skip ?_
      refine Out.next ?_
      refine WPc.seq ?_
      refine WPc.region ?_
      refine WP.val rfl rfl rfl (Val.fieldAddr (j := 0) rfl Ty.fo56_0 rfl rfl) ?_
      refine WP.val rfl rfl rfl (Val.fieldAddr (j := 0) rfl Ty.fo54_0 rfl rfl) ?_
      refine WP.val rfl rfl rfl (Val.load rfl Ty.sc9 rfl (fun w h => h.cell 1 rfl rfl)) ?_
      refine WP.val rfl rfl rfl (Val.fieldAddr (j := 0) rfl Ty.fo56_0 rfl rfl) ?_
      refine WP.val rfl rfl rfl (Val.fieldAddr (j := 1) rfl Ty.fo54_1 rfl rfl) ?_
      refine WP.val rfl rfl rfl (Val.load rfl Ty.sc9 rfl (fun w h => h.cell 1 rfl rfl)) ?_
      refine WP.eff rfl rfl rfl (Eff.call rfl rfl Try.call102 (sai_does (x.key) (x.fin))) ?_
      rintro _ _ ⟨_, ⟨rfl, rfl⟩, rfl⟩
      show WP _ _ _ _ _ _ _ (Blk b2 [.nilIface, .nilIface] 172 :: Blk b1 [.string x.key, .string x.fin, .bool (x.one), .int .i64 (x.lo), .int .i64 (x.hi)] 56 :: F)
      refine WP.eff0 rfl rfl (Eff.storeAgg (cs := [.iface 130 (.string x.key), .iface 130 (.string x.fin)]) (C' := [.iface 130 (.string x.key), .iface 130 (.string x.fin)]) rfl Ty.ag172 rfl rfl rfl rfl (by simp) rfl) ?_
      rintro _ _ rfl
      refine WP.nil ?_
      refine Out.next ?_
      refine WPc.ret ?_
      refine Out.block_ret ?_
      refine Out.then_ret ?_
      have hkt := kt1 (by assumption)
      have hkb : kB k x = ka x.key := ke1 (by assumption) _ _
      have hend : x.end = x.fin := by unfold Sp.end; simp_all
      have hke : kE k x = ka (x.fin) := by unfold kE; rw [hend]; exact ke1 (by assumption) _ _
      refine Out.perm pl1 ?_
      refine Out.drop ?_
      exact Out.retRun (L' := [Enp ⟨ka x.key, 130, .string x.key⟩, Enp ⟨ka (x.fin), 130, .string (x.fin)⟩]) (results_cell (cs := [.iface 130 (.string x.key), .iface 130 (.string x.fin)]) Try.results94 Ty.ag172 rfl rfl (fun w h => h.range 0 rfl rfl)) ⟨⟨ka x.key, 130, .string x.key⟩, ⟨ka (x.fin), 130, .string (x.fin)⟩, rfl, hkt.symm, hkt.symm, hkb.symm, hke.symm, rfl⟩ (fun w h => enp_a x.key (enp_a (x.fin) h.drop))
  · skip
    have h1 : ¬ (k = (1 : Int)) := h1
    refine WPc.seq ?_
    refine WPc.region ?_
    refine WP.val rfl rfl rfl (Val.eql rfl rfl rfl) ?_
    refine WP.val rfl rfl rfl (Val.assign rfl rfl) ?_
    refine WP.nil ?_
    refine Out.next ?_
    refine WPc.ifP rfl (fun h3 => ?_) (fun h3 => ?_)
    · skip
      have h3 : (k = (2 : Int)) := h3
      refine WPc.seq ?_
      refine WPc.seq ?_
      refine WPc.region ?_
      refine WP.val rfl rfl rfl (Val.fieldAddr (j := 0) rfl Ty.fo56_0 rfl rfl) ?_
      refine WP.val rfl rfl rfl (Val.fieldAddr (j := 2) rfl Ty.fo54_2 rfl rfl) ?_
      refine WP.val rfl rfl rfl (Val.load rfl Ty.sc4 rfl (fun w h => h.cell 1 rfl rfl)) ?_
      refine WP.nil ?_
      refine Out.next ?_
      refine WPc.cond rfl (fun h4 => ?_) (fun h4 => ?_)
      · skip
        have h4 : (x.one) = true := h4
        refine WPc.seq ?_
        refine WPc.region ?_
        refine WP.val rfl rfl rfl (Val.fieldAddr (j := 0) rfl Ty.fo56_0 rfl rfl) ?_
        refine WP.val rfl rfl rfl (Val.fieldAddr (j := 0) rfl Ty.fo54_0 rfl rfl) ?_
        refine WP.val rfl rfl rfl (Val.load rfl Ty.sc9 rfl (fun w h => h.cell 1 rfl rfl)) ?_
        refine WP.eff rfl rfl rfl (Eff.bytes rfl Ty.st9 Ty.by110 rfl) ?_
        rintro _ _ ⟨b3, capb3, spb3, rfl, hcb3, hsb3, rfl⟩
        refine WP.eff rfl rfl rfl (Eff.call rfl rfl Try.call105 (bap_does b3 capb3 spb3 x.key hkey hcb3)) ?_
        rintro _ _ ⟨_, ⟨g4, rfl, rfl⟩, rfl⟩
        show WP _ _ _ _ _ _ _ (Blk b3 (byteCells x.key ++ spb3) 5 :: Blk g4 (byteCells x.key ++ [Value.int .u8 0]) 5 :: Blk b2 [.nilIface, .nilIface] 172 :: Blk b1 [.string x.key, .string x.fin, .bool (x.one), .int .i64 (x.lo), .int .i64 (x.hi)] 56 :: F)
        refine WP.perm pl2 ?_
        refine WP.eff0 rfl rfl (Eff.storeAgg (cs := [.iface 132 (.slice (some ⟨b3, 0, none⟩) ((x.key).size) capb3), .iface 132 (.slice (some ⟨g4, 0, none⟩) ((x.key.size + 1)) ((x.key.size + 1)))]) (C' := [.iface 132 (.slice (some ⟨b3, 0, none⟩) ((x.key).size) capb3), .iface 132 (.slice (some ⟨g4, 0, none⟩) ((x.key.size + 1)) ((x.key.size + 1)))]) rfl Ty.ag172 rfl rfl rfl rfl (by simp) rfl) ?_
        rintro _ _ rfl
        refine WP.nil ?_
        refine Out.next ?_
        refine WPc.ret ?_
        refine Out.then_ret ?_
        refine Out.block_ret ?_
        refine Out.then_ret ?_
        have hkt := kt2 (by assumption) (by assumption)
        have hkb : kB k x = ka x.key := ke2 (by assumption) _ _
        have hend : x.end = x.key ++ (⟨#[0]⟩ : ByteArray) := by unfold Sp.end; simp_all
        have hke : kE k x = ka (x.key ++ (⟨#[0]⟩ : ByteArray)) := by unfold kE; rw [hend]; exact ke2 (by assumption) _ _
        refine Out.perm pl3 ?_
        refine Out.drop ?_
        refine Out.perm pl1 ?_
        refine Out.perm pl2 ?_
        refine Out.perm pl2 ?_
        exact Out.retRun (L' := [Enp ⟨ka x.key, 132, .slice (some ⟨b3, 0, none⟩) x.key.size capb3⟩, Enp ⟨ka (x.key ++ (⟨#[0]⟩ : ByteArray)), 132, .slice (some ⟨g4, 0, none⟩) (x.key ++ (⟨#[0]⟩ : ByteArray)).size (x.key.size + 1)⟩]) (results_cell (cs := [.iface 132 (.slice (some ⟨b3, 0, none⟩) ((x.key).size) capb3), .iface 132 (.slice (some ⟨g4, 0, none⟩) ((x.key.size + 1)) ((x.key.size + 1)))]) Try.results94 Ty.ag172 rfl rfl (fun w h => h.range 0 rfl rfl)) ⟨⟨ka x.key, 132, .slice (some ⟨b3, 0, none⟩) x.key.size capb3⟩, ⟨ka (x.key ++ (⟨#[0]⟩ : ByteArray)), 132, .slice (some ⟨g4, 0, none⟩) (x.key ++ (⟨#[0]⟩ : ByteArray)).size (x.key.size + 1)⟩, by simp [ByteArray.size_append]; rfl, hkt.symm, hkt.symm, hkb.symm, hke.symm, rfl⟩ (fun w h => enp_b x.key hcb3 ((enp_b (sp := []) (x.key ++ (⟨#[0]⟩ : ByteArray)) (Nat.le_of_eq (by rw [ByteArray.size_append]; rfl)) (by have h := h.drop; rw [bc0_app] at h; rw [List.append_nil]; exact h)).perm pl1))
      · skip
        have h4 : (x.one) = false := h4
        refine WPc.skip ?_
        refine Out.next ?_
        refine WPc.seq ?_
        refine WPc.region ?_
        refine WP.val rfl rfl rfl (Val.fieldAddr (j := 0) rfl Ty.fo56_0 rfl rfl) ?_
        refine WP.val rfl rfl rfl (Val.fieldAddr (j := 0) rfl Ty.fo54_0 rfl rfl) ?_
        refine WP.val rfl rfl rfl (Val.load rfl Ty.sc9 rfl (fun w h => h.cell 1 rfl rfl)) ?_
        refine WP.eff rfl rfl rfl (Eff.bytes rfl Ty.st9 Ty.by110 rfl) ?_
        rintro _ _ ⟨b5, capb5, spb5, rfl, hcb5, hsb5, rfl⟩
        refine WP.val rfl rfl rfl (Val.fieldAddr (j := 0) rfl Ty.fo56_0 rfl rfl) ?_
        refine WP.val rfl rfl rfl (Val.fieldAddr (j := 1) rfl Ty.fo54_1 rfl rfl) ?_
        refine WP.val rfl rfl rfl (Val.load rfl Ty.sc9 rfl (fun w h => h.cell 2 rfl rfl)) ?_
        refine WP.eff rfl rfl rfl (Eff.bytes rfl Ty.st9 Ty.by110 rfl) ?_
        rintro _ _ ⟨b6, capb6, spb6, rfl, hcb6, hsb6, rfl⟩
        refine WP.eff rfl rfl rfl (Eff.call rfl rfl Try.call104 (bai_does (.slice (some ⟨b5, 0, none⟩) ((x.key).size) capb5) (.slice (some ⟨b6, 0, none⟩) ((x.fin).size) capb6))) ?_
        rintro _ _ ⟨_, ⟨rfl, rfl⟩, rfl⟩
        show WP _ _ _ _ _ _ _ (Blk b6 (byteCells x.fin ++ spb6) 5 :: Blk b5 (byteCells x.key ++ spb5) 5 :: Blk b2 [.nilIface, .nilIface] 172 :: Blk b1 [.string x.key, .string x.fin, .bool (x.one), .int .i64 (x.lo), .int .i64 (x.hi)] 56 :: F)
        refine WP.perm pl2 ?_
        refine WP.eff0 rfl rfl (Eff.storeAgg (cs := [.iface 132 (.slice (some ⟨b5, 0, none⟩) ((x.key).size) capb5), .iface 132 (.slice (some ⟨b6, 0, none⟩) ((x.fin).size) capb6)]) (C' := [.iface 132 (.slice (some ⟨b5, 0, none⟩) ((x.key).size) capb5), .iface 132 (.slice (some ⟨b6, 0, none⟩) ((x.fin).size) capb6)]) rfl Ty.ag172 rfl rfl rfl rfl (by simp) rfl) ?_
        rintro _ _ rfl
        refine WP.nil ?_
        refine Out.next ?_
        refine WPc.ret ?_
        refine Out.block_ret ?_
        refine Out.then_ret ?_
        have hkt := kt2 (by assumption) (by assumption)
        have hkb : kB k x = ka x.key := ke2 (by assumption) _ _
        have hend : x.end = x.fin := by unfold Sp.end; simp_all
        have hke : kE k x = ka (x.fin) := by unfold kE; rw [hend]; exact ke2 (by assumption) _ _
        refine Out.perm pl3 ?_
        refine Out.drop ?_
        exact Out.retRun (L' := [Enp ⟨ka x.key, 132, .slice (some ⟨b5, 0, none⟩) x.key.size capb5⟩, Enp ⟨ka (x.fin), 132, .slice (some ⟨b6, 0, none⟩) (x.fin).size capb6⟩]) (results_cell (cs := [.iface 132 (.slice (some ⟨b5, 0, none⟩) ((x.key).size) capb5), .iface 132 (.slice (some ⟨b6, 0, none⟩) ((x.fin).size) capb6)]) Try.results94 Ty.ag172 rfl rfl (fun w h => h.range 0 rfl rfl)) ⟨⟨ka x.key, 132, .slice (some ⟨b5, 0, none⟩) x.key.size capb5⟩, ⟨ka (x.fin), 132, .slice (some ⟨b6, 0, none⟩) (x.fin).size capb6⟩, rfl, hkt.symm, hkt.symm, hkb.symm, hke.symm, rfl⟩ (fun w h => enp_b x.key hcb5 ((enp_b x.fin hcb6 h.drop).perm pl1))
    · skip
      have h3 : ¬ (k = (2 : Int)) := h3
      refine WPc.seq ?_
      refine WPc.region ?_
      refine WP.val rfl rfl rfl (Val.eql rfl rfl rfl) ?_
      refine WP.val rfl rfl rfl (Val.assign rfl rfl) ?_
      refine WP.nil ?_
      refine Out.next ?_
      refine WPc.ifP rfl (fun h5 => ?_) (fun h5 => ?_)
      · skip
        have h5 : (k = (3 : Int)) := h5
        refine WPc.seq ?_
        refine WPc.seq ?_
        refine WPc.region ?_
        refine WP.val rfl rfl rfl (Val.fieldAddr (j := 0) rfl Ty.fo56_0 rfl rfl) ?_
        refine WP.val rfl rfl rfl (Val.fieldAddr (j := 2) rfl Ty.fo54_2 rfl rfl) ?_
        refine WP.val rfl rfl rfl (Val.load rfl Ty.sc4 rfl (fun w h => h.cell 1 rfl rfl)) ?_
        refine WP.nil ?_
        refine Out.next ?_
        refine WPc.cond rfl (fun h6 => ?_) (fun h6 => ?_)
        · skip
          have h6 : (x.one) = true := h6
          exfalso; have h0 := (hk3 (by assumption)).1; simp_all
        · skip
          have h6 : (x.one) = false := h6
          refine WPc.skip ?_
          refine Out.next ?_
          refine WPc.seq ?_
          refine WPc.region ?_
          refine WP.val rfl rfl rfl (Val.fieldAddr (j := 3) rfl Ty.fo56_1 rfl rfl) ?_
          refine WP.val rfl rfl rfl (Val.load rfl Ty.sc2 rfl (fun w h => h.cell 1 rfl rfl)) ?_
          refine WP.val rfl rfl rfl (Val.fieldAddr (j := 4) rfl Ty.fo56_2 rfl rfl) ?_
          refine WP.val rfl rfl rfl (Val.load rfl Ty.sc2 rfl (fun w h => h.cell 1 rfl rfl)) ?_
          refine WP.eff rfl rfl rfl (Eff.call rfl rfl Try.call108 (ii_does (x.lo) (x.hi))) ?_
          rintro _ _ ⟨_, ⟨rfl, rfl⟩, rfl⟩
          show WP _ _ _ _ _ _ _ (Blk b2 [.nilIface, .nilIface] 172 :: Blk b1 [.string x.key, .string x.fin, .bool (x.one), .int .i64 (x.lo), .int .i64 (x.hi)] 56 :: F)
          refine WP.eff0 rfl rfl (Eff.storeAgg (cs := [.iface 133 (.int .i64 (x.lo)), .iface 133 (.int .i64 (x.hi))]) (C' := [.iface 133 (.int .i64 (x.lo)), .iface 133 (.int .i64 (x.hi))]) rfl Ty.ag172 rfl rfl rfl rfl (by simp) rfl) ?_
          rintro _ _ rfl
          refine WP.nil ?_
          refine Out.next ?_
          refine WPc.ret ?_
          refine Out.block_ret ?_
          refine Out.then_ret ?_
          have hkt := kt3 (by assumption) (by assumption) (by assumption)
          have hkb : kB k x = ki x.lo := ke3 (by assumption) _ _
          have hke : kE k x = ki x.hi := ke3 (by assumption) _ _
          refine Out.perm pl1 ?_
          refine Out.drop ?_
          exact Out.retRun (L' := [Enp ⟨ki x.lo, 133, .int .i64 x.lo⟩, Enp ⟨ki x.hi, 133, .int .i64 x.hi⟩]) (results_cell (cs := [.iface 133 (.int .i64 (x.lo)), .iface 133 (.int .i64 (x.hi))]) Try.results94 Ty.ag172 rfl rfl (fun w h => h.range 0 rfl rfl)) ⟨⟨ki x.lo, 133, .int .i64 x.lo⟩, ⟨ki x.hi, 133, .int .i64 x.hi⟩, rfl, hkt.symm, hkt.symm, hkb.symm, hke.symm, rfl⟩ (fun w h => enp_i x.lo (hk3 (by assumption)).2.1 (enp_i x.hi (hk3 (by assumption)).2.2 h.drop))
      · skip
        have h5 : ¬ (k = (3 : Int)) := h5
        refine WPc.skip ?_
        refine Out.block ?_
        refine Out.next ?_
        refine WPc.seq ?_
        refine WPc.seq ?_
        refine WPc.region ?_
        refine WP.val rfl rfl rfl (Val.fieldAddr (j := 0) rfl Ty.fo56_0 rfl rfl) ?_
        refine WP.val rfl rfl rfl (Val.fieldAddr (j := 2) rfl Ty.fo54_2 rfl rfl) ?_
        refine WP.val rfl rfl rfl (Val.load rfl Ty.sc4 rfl (fun w h => h.cell 1 rfl rfl)) ?_
        refine WP.nil ?_
        refine Out.next ?_
        refine WPc.cond rfl (fun h7 => ?_) (fun h7 => ?_)
        · skip
          have h7 : (x.one) = true := h7
          refine WPc.seq ?_
          refine WPc.region ?_
          refine WP.val rfl rfl rfl (Val.fieldAddr (j := 0) rfl Ty.fo56_0 rfl rfl) ?_
          refine WP.val rfl rfl rfl (Val.fieldAddr (j := 0) rfl Ty.fo54_0 rfl rfl) ?_
          refine WP.val rfl rfl rfl (Val.load rfl Ty.sc9 rfl (fun w h => h.cell 1 rfl rfl)) ?_
          refine WP.eff rfl rfl rfl (Eff.call rfl rfl Try.call109 (sp_does x.key hkey)) ?_
          rintro _ _ ⟨_, ⟨rfl, rfl⟩, rfl⟩
          show WP _ _ _ _ _ _ _ (Blk b2 [.nilIface, .nilIface] 172 :: Blk b1 [.string x.key, .string x.fin, .bool (x.one), .int .i64 (x.lo), .int .i64 (x.hi)] 56 :: F)
          refine WP.eff0 rfl rfl (Eff.storeAgg (cs := [.iface 134 (.string x.key), .iface 134 (.string (x.key ++ (⟨#[0]⟩ : ByteArray)))]) (C' := [.iface 134 (.string x.key), .iface 134 (.string (x.key ++ (⟨#[0]⟩ : ByteArray)))]) rfl Ty.ag172 rfl rfl rfl rfl (by simp) rfl) ?_
          rintro _ _ rfl
          refine WP.nil ?_
          refine Out.next ?_
          refine WPc.ret ?_
          refine Out.then_ret ?_
          have hkt := kt0 (by assumption) (by assumption) (by assumption)
          have hkb : kB k x = ks x.key := ke0 (by assumption) (by assumption) (by assumption) _ _
          have hend : x.end = x.key ++ (⟨#[0]⟩ : ByteArray) := by unfold Sp.end; simp_all
          have hke : kE k x = ks (x.key ++ (⟨#[0]⟩ : ByteArray)) := by unfold kE; rw [hend]; exact ke0 (by assumption) (by assumption) (by assumption) _ _
          refine Out.perm pl1 ?_
          refine Out.drop ?_
          exact Out.retRun (L' := [Enp ⟨ks x.key, 134, .string x.key⟩, Enp ⟨ks (x.key ++ (⟨#[0]⟩ : ByteArray)), 134, .string (x.key ++ (⟨#[0]⟩ : ByteArray))⟩]) (results_cell (cs := [.iface 134 (.string x.key), .iface 134 (.string (x.key ++ (⟨#[0]⟩ : ByteArray)))]) Try.results94 Ty.ag172 rfl rfl (fun w h => h.range 0 rfl rfl)) ⟨⟨ks x.key, 134, .string x.key⟩, ⟨ks (x.key ++ (⟨#[0]⟩ : ByteArray)), 134, .string (x.key ++ (⟨#[0]⟩ : ByteArray))⟩, rfl, hkt.symm, hkt.symm, hkb.symm, hke.symm, rfl⟩ (fun w h => enp_s x.key (enp_s (x.key ++ (⟨#[0]⟩ : ByteArray)) h.drop))
        · skip
          have h7 : (x.one) = false := h7
          refine WPc.skip ?_
          refine Out.next ?_
          refine WPc.seq ?_
          refine WPc.region ?_
          refine WP.val rfl rfl rfl (Val.fieldAddr (j := 0) rfl Ty.fo56_0 rfl rfl) ?_
          refine WP.val rfl rfl rfl (Val.fieldAddr (j := 0) rfl Ty.fo54_0 rfl rfl) ?_
          refine WP.val rfl rfl rfl (Val.load rfl Ty.sc9 rfl (fun w h => h.cell 1 rfl rfl)) ?_
          refine WP.val rfl rfl rfl (Val.fieldAddr (j := 0) rfl Ty.fo56_0 rfl rfl) ?_
          refine WP.val rfl rfl rfl (Val.fieldAddr (j := 1) rfl Ty.fo54_1 rfl rfl) ?_
          refine WP.val rfl rfl rfl (Val.load rfl Ty.sc9 rfl (fun w h => h.cell 1 rfl rfl)) ?_
          refine WP.eff rfl rfl rfl (Eff.call rfl rfl Try.call110 (si_does (x.key) (x.fin))) ?_
          rintro _ _ ⟨_, ⟨rfl, rfl⟩, rfl⟩
          show WP _ _ _ _ _ _ _ (Blk b2 [.nilIface, .nilIface] 172 :: Blk b1 [.string x.key, .string x.fin, .bool (x.one), .int .i64 (x.lo), .int .i64 (x.hi)] 56 :: F)
          refine WP.eff0 rfl rfl (Eff.storeAgg (cs := [.iface 134 (.string x.key), .iface 134 (.string x.fin)]) (C' := [.iface 134 (.string x.key), .iface 134 (.string x.fin)]) rfl Ty.ag172 rfl rfl rfl rfl (by simp) rfl) ?_
          rintro _ _ rfl
          refine WP.nil ?_
          refine Out.next ?_
          refine WPc.ret ?_
          have hkt := kt0 (by assumption) (by assumption) (by assumption)
          have hkb : kB k x = ks x.key := ke0 (by assumption) (by assumption) (by assumption) _ _
          have hend : x.end = x.fin := by unfold Sp.end; simp_all
          have hke : kE k x = ks (x.fin) := by unfold kE; rw [hend]; exact ke0 (by assumption) (by assumption) (by assumption) _ _
          refine Out.perm pl1 ?_
          refine Out.drop ?_
          exact Out.retRun (L' := [Enp ⟨ks x.key, 134, .string x.key⟩, Enp ⟨ks (x.fin), 134, .string (x.fin)⟩]) (results_cell (cs := [.iface 134 (.string x.key), .iface 134 (.string x.fin)]) Try.results94 Ty.ag172 rfl rfl (fun w h => h.range 0 rfl rfl)) ⟨⟨ks x.key, 134, .string x.key⟩, ⟨ks (x.fin), 134, .string (x.fin)⟩, rfl, hkt.symm, hkt.symm, hkb.symm, hke.symm, rfl⟩ (fun w h => enp_s x.key (enp_s (x.fin) h.drop))

end Go.Proofs.Ytbomnihiapjmpaa.Tr

namespace Go.Proofs.Ytbomnihiapjmpaa.Ts
open Go.RowKit Go.Proofs.Ytbomnihiapjmpaa Go.Proofs.Ytbomnihiapjmpaa.Sl Go.Proofs.Ytbomnihiapjmpaa.TrP Go.Proofs.Ytbomnihiapjmpaa.Tc Go.Proofs.Ytbomnihiapjmpaa.Td Go.Proofs.Ytbomnihiapjmpaa.Te Go.Proofs.Ytbomnihiapjmpaa.Tf Go.Proofs.Ytbomnihiapjmpaa.Tg Go.Proofs.Ytbomnihiapjmpaa.Th Go.Proofs.Ytbomnihiapjmpaa.Ti Go.Proofs.Ytbomnihiapjmpaa.Tk
set_option linter.unusedVariables false
set_option linter.unusedSimpArgs false
set_option linter.unusedSectionVars false


/-- the node of an interval -/
def fnd (ib ie : Ky) : T → Option Nat
  | .leaf => none
  | .node i l x _ r => if ib = x.b.k ∧ ie = x.e.k then some i else if goK ib ie x.b.k x.e.k then fnd ib ie l else fnd ib ie r
theorem fnd_y {ib ie : Ky} {i : Nat} {l r : T} {x : It} {c : Bool} (h : kcmp ib x.b.k = 0) (h2 : kcmp ie x.e.k = 0) : fnd ib ie (.node i l x c r) = some i := by
  unfold fnd
  rw [if_pos ⟨kcmp_eq.1 h, kcmp_eq.1 h2⟩]
theorem fnd_l {ib ie : Ky} {i : Nat} {l r : T} {x : It} {c : Bool} (h : ¬ (kcmp ib x.b.k = 0 ∧ kcmp ie x.e.k = 0)) (h2 : goK ib ie x.b.k x.e.k) : fnd ib ie (.node i l x c r) = fnd ib ie l := by
  conv => lhs; unfold fnd
  rw [if_neg (fun e => h ⟨kcmp_eq.2 e.1, kcmp_eq.2 e.2⟩), if_pos h2]
theorem fnd_r {ib ie : Ky} {i : Nat} {l r : T} {x : It} {c : Bool} (h : ¬ (kcmp ib x.b.k = 0 ∧ kcmp ie x.e.k = 0)) (h2 : ¬ goK ib ie x.b.k x.e.k) : fnd ib ie (.node i l x c r) = fnd ib ie r := by
  conv => lhs; unfold fnd
  rw [if_neg (fun e => h ⟨kcmp_eq.2 e.1, kcmp_eq.2 e.2⟩), if_neg h2]
set_option maxRecDepth 100000 in
set_option maxHeartbeats 2000000 in
theorem find_does (EL : List En) (t0 : TypeId) (hE : ∀ e ∈ EL, e.t = t0) (s : Nat) (D : List Nat) (ZC : List Value) (tb root : Nat) (cnt : Int) (S : St) (ok : Ok s EL D S) (hroot : Is s D root) (T0 : T) (hT : RM s S T0 root s) (ib ie : En) (hib : ib ∈ EL) (hie : ie ∈ EL) : Does Try.prog 146 [.pointer (some ⟨tb, 0, none⟩), .agg #[.iface ib.t (ib.u), .iface ie.t (ie.u)]] [Blk tb [.pointer (some ⟨root, 0, none⟩), .int .i64 (cnt), .pointer (some ⟨s, 0, none⟩)] 180, Ens EL, Sto S D, Blk s ZC 177] (fun v L => v = .pointer (some ⟨(fnd ib.k ie.k T0).getD s, 0, none⟩) ∧ L = [Blk tb [.pointer (some ⟨root, 0, none⟩), .int .i64 cnt, .pointer (some ⟨s, 0, none⟩)] 180, Ens EL, Sto S D, Blk s ZC 177]) := by
  refine Does.enter 70 Try.func146 rfl rfl rfl fun W F => ?_
  show WPc _ _ _ _ _ [(0, .pointer (some ⟨tb, 0, none⟩)), (1, .agg #[.iface ib.t (ib.u), .iface ie.t (ie.u)])] (Blk tb [.pointer (some ⟨root, 0, none⟩), .int .i64 (cnt), .pointer (some ⟨s, 0, none⟩)] 180 :: Ens EL :: Sto S D :: Blk s ZC 177 :: F)
  refine WPc.seq ?_
  refine WPc.region ?_
  refine WP.eff rfl rfl rfl (Eff.box (C := [.iface ib.t (ib.u), .iface ie.t (ie.u)]) rfl rfl rfl) ?_
  rintro _ _ ⟨b1, rfl, rfl⟩
  refine WP.val rfl rfl rfl (Val.assign rfl rfl) ?_
  refine WP.nil ?_
  refine Out.next ?_
  refine WPc.seq ?_
  refine WPc.region ?_
  refine WP.val rfl rfl rfl (Val.move rfl rfl) ?_
  refine WP.val rfl rfl rfl (Val.nilCheck rfl rfl) ?_
  refine WP.val rfl rfl rfl (Val.fieldAddr (j := 0) rfl Ty.fo180_0 rfl rfl) ?_
  refine WP.val rfl rfl rfl (Val.load rfl Ty.sc168 rfl (fun w h => h.cell 1 rfl rfl)) ?_
  refine WP.val rfl rfl rfl (Val.assign rfl rfl) ?_
  refine WP.nil ?_
  refine Out.next ?_
  refine WPc.seq ?_
  refine WPc.block ?_
  refine WPc.loop (ι := T × Nat) (fun ⟨t, x⟩ => (∃ p, RM s S t x p) ∧ fnd ib.k ie.k t = fnd ib.k ie.k T0 ∧ Is s D x) (fun ⟨t, x⟩ => [(0, .pointer (some ⟨tb, 0, none⟩)), (3, .pointer (some ⟨b1, 0, none⟩)), (5, .pointer (some ⟨x, 0, none⟩))]) (fun ⟨t, x⟩ => Blk b1 [.iface ib.t (ib.u), .iface ie.t (ie.u)] 172 :: Blk tb [.pointer (some ⟨root, 0, none⟩), .int .i64 (cnt), .pointer (some ⟨s, 0, none⟩)] 180 :: Ens EL :: Sto S D :: Blk s ZC 177 :: F) (fun ⟨t, x⟩ => t.depth) ⟨T0, root⟩ ⟨⟨s, hT⟩, rfl, hroot⟩ ((Sub.cons rfl (Sub.cons rfl (Sub.cons rfl Sub.nil)))) (fun _ h => h) ?_
  rintro ⟨t, x⟩ hI
  show WPc _ _ _ _ _ [(0, .pointer (some ⟨tb, 0, none⟩)), (3, .pointer (some ⟨b1, 0, none⟩)), (5, .pointer (some ⟨x, 0, none⟩))] (Blk b1 [.iface ib.t (ib.u), .iface ie.t (ie.u)] 172 :: Blk tb [.pointer (some ⟨root, 0, none⟩), .int .i64 (cnt), .pointer (some ⟨s, 0, none⟩)] 180 :: Ens EL :: Sto S D :: Blk s ZC 177 :: F)
  obtain ⟨⟨p, hrm⟩, hsec, hx⟩ := hI
  refine WPc.seq ?_
  refine WPc.seq ?_
  refine WPc.region ?_
  refine WP.val rfl rfl rfl (Val.move rfl rfl) ?_
  refine WP.val rfl rfl rfl (Val.move rfl rfl) ?_
  refine WP.val rfl rfl rfl (Val.nilCheck rfl rfl) ?_
  refine WP.val rfl rfl rfl (Val.fieldAddr (j := 2) rfl Ty.fo180_2 rfl rfl) ?_
  refine WP.val rfl rfl rfl (Val.load rfl Ty.sc168 rfl (fun w h => h.cell 1 rfl rfl)) ?_
  refine WP.val rfl rfl rfl (Val.neqP (T1 := 177) (T2 := 177) rfl pn168 rfl rfl rfl rfl (fun w h => whole (h.at 3 rfl) (h.at 4 rfl) hx) (fun w h => whole (h.at 3 rfl) (h.at 4 rfl) (.inl rfl))) ?_
  refine WP.nil ?_
  refine Out.next ?_
  refine WPc.ifP rfl (fun h1 => ?_) (fun h1 => ?_)
  · skip
    have h1 : (x ≠ s) := h1
    refine WPc.skip ?_
    refine Out.next ?_
    refine WPc.block ?_
    refine WPc.seq ?_
    have hxs : x ≠ s := by assumption
    obtain ⟨l, it, c, r, rfl, hit, hl, hr⟩ := RM_node hrm hxs
    have hxD : x ∈ D := hx.mem hxs
    refine WPD.start (Sat W (Blk b1 [.iface ib.t (ib.u), .iface ie.t (ie.u)] 172 :: Blk tb [.pointer (some ⟨root, 0, none⟩), .int .i64 (cnt), .pointer (some ⟨s, 0, none⟩)] 180 :: Ens EL :: Sto S D :: Blk s ZC 177 :: F)) Ty.mixed ?_
    refine WPD.takeM 0 rfl rfl rfl rfl (by kernel_rfl) (by kernel_rfl) (by kernel_rfl) (by kernel_rfl) (fun _ _ _ h => h) (fun _ h => h) (Val.fieldAddr (j := 0) rfl Ty.fo172_0 rfl rfl) ?_
    refine WPD.take 1 rfl rfl rfl rfl (by kernel_rfl) (by kernel_rfl) (by kernel_rfl) (by kernel_rfl) (fun _ _ _ h => h) (by kernel_rfl) (fun _ h => h) (Val.load rfl Ty.sc170 rfl (fun w h => h.cell 0 rfl rfl)) ?_
    refine WPD.takeM 2 rfl rfl rfl rfl (by kernel_rfl) (by kernel_rfl) (by kernel_rfl) (by kernel_rfl) (fun _ _ _ h => h) (fun _ h => h) (Val.move rfl rfl) ?_
    refine WPD.takeM 3 rfl rfl rfl rfl (by kernel_rfl) (by kernel_rfl) (by kernel_rfl) (by kernel_rfl) (fun _ _ _ h => h) (fun _ h => h) (Val.nilCheck rfl rfl) ?_
    refine WPD.takeM 4 rfl rfl rfl rfl (by kernel_rfl) (by kernel_rfl) (by kernel_rfl) (by kernel_rfl) (fun _ _ _ h => h) (fun _ h => h) (Val.fieldAddr (j := 0) rfl Ty.fo177_0 rfl rfl) ?_
    refine WPD.takeM 5 rfl rfl rfl rfl (by kernel_rfl) (by kernel_rfl) (by kernel_rfl) (by kernel_rfl) (fun _ _ _ h => h) (fun _ h => h) (Val.fieldAddr (j := 0) rfl Ty.fo174_0 rfl rfl) ?_
    refine WPD.takeM 6 rfl rfl rfl rfl (by kernel_rfl) (by kernel_rfl) (by kernel_rfl) (by kernel_rfl) (fun _ _ _ h => h) (fun _ h => h) (Val.fieldAddr (j := 0) rfl Ty.fo172_0 rfl rfl) ?_
    refine WPD.take 7 rfl rfl rfl rfl (by kernel_rfl) (by kernel_rfl) (by kernel_rfl) (by kernel_rfl) (fun _ _ _ h => h) (by kernel_rfl) (fun _ h => h) (Val.load (v := .iface ((S x).it.b).t (((S x).it.b).u)) rfl Ty.sc170 rfl (fun w h => sto_b (h.at 3 rfl) hxD rfl)) ?_
    refine WPD.takeM 8 rfl rfl rfl rfl (by kernel_rfl) (by kernel_rfl) (by kernel_rfl) (by kernel_rfl) (fun _ _ _ h => h) (fun _ h => h) (Val.nilCheckI rfl rfl) ?_
    refine WPD.takeM 9 rfl rfl rfl rfl (by kernel_rfl) (by kernel_rfl) (by kernel_rfl) (by kernel_rfl) (fun _ _ _ h => h) (fun _ h => h) (Val.move rfl rfl) ?_
    refine WPD.perm pl2 ?_
    refine WPD.stepC 10 (by kernel_rfl) rfl rfl rfl rfl (by kernel_rfl) (Eff.cmp (a := ib) (b := (S x).it.b) rfl rfl rfl hib (Ok.b ok hxD) ((hE _ hib).trans (hE _ (Ok.b ok hxD)).symm)) ?_
    rintro _ _ ⟨rfl, rfl⟩
    refine ⟨(Sat W (Ens EL :: Blk b1 [.iface ib.t (ib.u), .iface ie.t (ie.u)] 172 :: Blk tb [.pointer (some ⟨root, 0, none⟩), .int .i64 (cnt), .pointer (some ⟨s, 0, none⟩)] 180 :: Sto S D :: Blk s ZC 177 :: F)), (fun _ h => h), ?_⟩
    refine WPD.takeM 11 rfl rfl rfl rfl (by kernel_rfl) (by kernel_rfl) (by kernel_rfl) (by kernel_rfl) (fun _ _ _ h => h) (fun _ h => h) (Val.assign rfl rfl) ?_
    refine WPD.done (by kernel_rfl) ?_
    refine Out.next ?_
    refine WPc.seq ?_
    refine WPD.start (Sat W (Ens EL :: Blk b1 [.iface ib.t (ib.u), .iface ie.t (ie.u)] 172 :: Blk tb [.pointer (some ⟨root, 0, none⟩), .int .i64 (cnt), .pointer (some ⟨s, 0, none⟩)] 180 :: Sto S D :: Blk s ZC 177 :: F)) Ty.mixed ?_
    refine WPD.takeM 0 rfl rfl rfl rfl (by kernel_rfl) (by kernel_rfl) (by kernel_rfl) (by kernel_rfl) (fun _ _ _ h => h) (fun _ h => h) (Val.fieldAddr (j := 1) rfl Ty.fo172_1 rfl rfl) ?_
    refine WPD.take 1 rfl rfl rfl rfl (by kernel_rfl) (by kernel_rfl) (by kernel_rfl) (by kernel_rfl) (fun _ _ _ h => h) (by kernel_rfl) (fun _ h => h) (Val.load rfl Ty.sc170 rfl (fun w h => h.cell 1 rfl rfl)) ?_
    refine WPD.takeM 2 rfl rfl rfl rfl (by kernel_rfl) (by kernel_rfl) (by kernel_rfl) (by kernel_rfl) (fun _ _ _ h => h) (fun _ h => h) (Val.move rfl rfl) ?_
    refine WPD.takeM 3 rfl rfl rfl rfl (by kernel_rfl) (by kernel_rfl) (by kernel_rfl) (by kernel_rfl) (fun _ _ _ h => h) (fun _ h => h) (Val.nilCheck rfl rfl) ?_
    refine WPD.takeM 4 rfl rfl rfl rfl (by kernel_rfl) (by kernel_rfl) (by kernel_rfl) (by kernel_rfl) (fun _ _ _ h => h) (fun _ h => h) (Val.fieldAddr (j := 0) rfl Ty.fo177_0 rfl rfl) ?_
    refine WPD.takeM 5 rfl rfl rfl rfl (by kernel_rfl) (by kernel_rfl) (by kernel_rfl) (by kernel_rfl) (fun _ _ _ h => h) (fun _ h => h) (Val.fieldAddr (j := 0) rfl Ty.fo174_0 rfl rfl) ?_
    refine WPD.takeM 6 rfl rfl rfl rfl (by kernel_rfl) (by kernel_rfl) (by kernel_rfl) (by kernel_rfl) (fun _ _ _ h => h) (fun _ h => h) (Val.fieldAddr (j := 1) rfl Ty.fo172_1 rfl rfl) ?_
    refine WPD.take 7 rfl rfl rfl rfl (by kernel_rfl) (by kernel_rfl) (by kernel_rfl) (by kernel_rfl) (fun _ _ _ h => h) (by kernel_rfl) (fun _ h => h) (Val.load (v := .iface ((S x).it.e).t (((S x).it.e).u)) rfl Ty.sc170 rfl (fun w h => sto_e (h.at 3 rfl) hxD rfl)) ?_
    refine WPD.takeM 8 rfl rfl rfl rfl (by kernel_rfl) (by kernel_rfl) (by kernel_rfl) (by kernel_rfl) (fun _ _ _ h => h) (fun _ h => h) (Val.nilCheckI rfl rfl) ?_
    refine WPD.takeM 9 rfl rfl rfl rfl (by kernel_rfl) (by kernel_rfl) (by kernel_rfl) (by kernel_rfl) (fun _ _ _ h => h) (fun _ h => h) (Val.move rfl rfl) ?_
    refine WPD.stepC 10 (by kernel_rfl) rfl rfl rfl rfl (by kernel_rfl) (Eff.cmp (a := ie) (b := (S x).it.e) rfl rfl rfl hie (Ok.e ok hxD) ((hE _ hie).trans (hE _ (Ok.e ok hxD)).symm)) ?_
    rintro _ _ ⟨rfl, rfl⟩
    refine ⟨(Sat W (Ens EL :: Blk b1 [.iface ib.t (ib.u), .iface ie.t (ie.u)] 172 :: Blk tb [.pointer (some ⟨root, 0, none⟩), .int .i64 (cnt), .pointer (some ⟨s, 0, none⟩)] 180 :: Sto S D :: Blk s ZC 177 :: F)), (fun _ h => h), ?_⟩
    refine WPD.takeM 11 rfl rfl rfl rfl (by kernel_rfl) (by kernel_rfl) (by kernel_rfl) (by kernel_rfl) (fun _ _ _ h => h) (fun _ h => h) (Val.assign rfl rfl) ?_
    refine WPD.done (by kernel_rfl) ?_
    refine Out.next ?_
    refine WPc.seq ?_
    refine WPc.seq ?_
    refine WPc.region ?_
    refine WP.val rfl rfl rfl (Val.move rfl rfl) ?_
    refine WP.val rfl rfl rfl (Val.eql rfl rfl rfl) ?_
    refine WP.val rfl rfl rfl (Val.move rfl rfl) ?_
    refine WP.split 42 rfl (fun h2 => ?_) (fun h2 => ?_)
    · skip
      have h2 : ((kcmp ib.k ((S x).it.b).k) = (0 : Int)) := h2
      refine WP.valG rfl rfl rfl rfl rfl rfl rfl (Val.move rfl rfl) ?_
      refine WP.valG rfl rfl rfl rfl rfl rfl rfl (Val.eql rfl rfl rfl) ?_
      refine WP.val rfl rfl rfl (Val.pickT rfl rfl rfl) ?_
      refine WP.nil ?_
      refine Out.next ?_
      refine WPc.ifP rfl (fun h3 => ?_) (fun h3 => ?_)
      · skip
        have h3 : ((kcmp ie.k ((S x).it.e).k) = (0 : Int)) := h3
        refine WPc.seq ?_
        refine WPc.region ?_
        refine WP.val rfl rfl rfl (Val.move rfl rfl) ?_
        refine WP.val rfl rfl rfl (Val.assign rfl rfl) ?_
        refine WP.nil ?_
        refine Out.next ?_
        refine WPc.ret ?_
        refine Out.then_ret ?_
        refine Out.block_ret ?_
        refine Out.then_ret ?_
        refine Out.block_ret ?_
        refine Out.then_ret ?_
        have hres : (fnd ib.k ie.k T0).getD s = x := by rw [← hsec, fnd_y (by rw [← hit]; first | assumption | omega) (by rw [← hit]; first | assumption | omega)]; rfl
        refine Out.perm pl1 ?_
        refine Out.drop ?_
        refine Out.perm pl3 ?_
        refine Out.perm pl3 ?_
        refine Out.perm pl2 ?_
        refine Out.perm pl3 ?_
        exact Out.ret1 (L' := _) Try.results146 rfl ⟨by rw [hres], rfl⟩ (fun _ h => h)
      · skip
        have h3 : ¬ ((kcmp ie.k ((S x).it.e).k) = (0 : Int)) := h3
        refine WPc.skip ?_
        refine Out.next ?_
        refine WPc.seq ?_
        have hne : ¬ (kcmp ib.k it.b.k = 0 ∧ kcmp ie.k it.e.k = 0) := by rw [← hit]; omega
        refine WPc.region ?_
        refine WP.val rfl rfl rfl (Val.move rfl rfl) ?_
        refine WP.val rfl rfl rfl (Val.lss rfl rfl rfl) ?_
        refine WP.nil ?_
        refine Out.next ?_
        refine WPc.ifP rfl (fun h4 => ?_) (fun h4 => ?_)
        · skip
          have h4 : ((kcmp ib.k ((S x).it.b).k) < (0 : Int)) := h4
          have hgo : goK ib.k ie.k it.b.k it.e.k := by rw [← hit]; exact goK_1 (by assumption)
          refine WPc.region ?_
          refine WP.val rfl rfl rfl (Val.move rfl rfl) ?_
          refine WP.val rfl rfl rfl (Val.nilCheck rfl rfl) ?_
          refine WP.val rfl rfl rfl (Val.fieldAddr (j := 4) rfl Ty.fo177_2 rfl rfl) ?_
          refine WP.val rfl rfl rfl (Val.load (v := .pointer (some ⟨(S x).l, 0, none⟩)) rfl Ty.sc168 rfl (fun w h => sto_l (h.at 3 rfl) hxD rfl)) ?_
          refine WP.val rfl rfl rfl (Val.assign rfl rfl) ?_
          refine WP.nil ?_
          refine Out.block ?_
          have hs2 : fnd ib.k ie.k l = fnd ib.k ie.k T0 := by rw [← hsec, fnd_l hne hgo]
          refine Out.perm pl4 ?_
          refine Out.perm pl4 ?_
          refine Out.perm pl2 ?_
          refine Out.perm pl4 ?_
          refine Out.perm pl4 ?_
          refine Out.again ⟨l, (S x).l⟩ ?_ ?_ ?_ ?_
          · exact ⟨⟨x, hl⟩, hs2, (Ok.l ok hxD)⟩
          · show T.depth _ < T.depth (.node x l it c r); simp only [T.depth]; omega
          · exact (Sub.cons rfl (Sub.cons rfl (Sub.cons rfl Sub.nil)))
          · exact (fun _ h => h)
        · skip
          have h4 : ¬ ((kcmp ib.k ((S x).it.b).k) < (0 : Int)) := h4
          refine WPc.seq ?_
          refine WPc.region ?_
          refine WP.val rfl rfl rfl (Val.move rfl rfl) ?_
          refine WP.val rfl rfl rfl (Val.eql rfl rfl rfl) ?_
          refine WP.nil ?_
          refine Out.next ?_
          refine WPc.ifP rfl (fun h5 => ?_) (fun h5 => ?_)
          · skip
            have h5 : ((kcmp ib.k ((S x).it.b).k) = (0 : Int)) := h5
            refine WPc.seq ?_
            refine WPc.region ?_
            refine WP.val rfl rfl rfl (Val.move rfl rfl) ?_
            refine WP.val rfl rfl rfl (Val.lss rfl rfl rfl) ?_
            refine WP.nil ?_
            refine Out.next ?_
            refine WPc.ifP rfl (fun h6 => ?_) (fun h6 => ?_)
            · skip
              have h6 : ((kcmp ie.k ((S x).it.e).k) < (0 : Int)) := h6
              have hgo : goK ib.k ie.k it.b.k it.e.k := by rw [← hit]; exact goK_2 (by assumption) (by assumption)
              refine WPc.region ?_
              refine WP.val rfl rfl rfl (Val.move rfl rfl) ?_
              refine WP.val rfl rfl rfl (Val.nilCheck rfl rfl) ?_
              refine WP.val rfl rfl rfl (Val.fieldAddr (j := 4) rfl Ty.fo177_2 rfl rfl) ?_
              refine WP.val rfl rfl rfl (Val.load (v := .pointer (some ⟨(S x).l, 0, none⟩)) rfl Ty.sc168 rfl (fun w h => sto_l (h.at 3 rfl) hxD rfl)) ?_
              refine WP.val rfl rfl rfl (Val.assign rfl rfl) ?_
              refine WP.nil ?_
              refine Out.block ?_
              have hs2 : fnd ib.k ie.k l = fnd ib.k ie.k T0 := by rw [← hsec, fnd_l hne hgo]
              refine Out.perm pl4 ?_
              refine Out.perm pl4 ?_
              refine Out.perm pl2 ?_
              refine Out.perm pl4 ?_
              refine Out.perm pl4 ?_
              refine Out.again ⟨l, (S x).l⟩ ?_ ?_ ?_ ?_
              · exact ⟨⟨x, hl⟩, hs2, (Ok.l ok hxD)⟩
              · show T.depth _ < T.depth (.node x l it c r); simp only [T.depth]; omega
              · exact (Sub.cons rfl (Sub.cons rfl (Sub.cons rfl Sub.nil)))
              · exact (fun _ h => h)
            · skip
              have h6 : ¬ ((kcmp ie.k ((S x).it.e).k) < (0 : Int)) := h6
              have hgo : ¬ goK ib.k ie.k it.b.k it.e.k := by rw [← hit]; exact goK_3 (by assumption) (by assumption)
              refine WPc.region ?_
              refine WP.val rfl rfl rfl (Val.move rfl rfl) ?_
              refine WP.val rfl rfl rfl (Val.nilCheck rfl rfl) ?_
              refine WP.val rfl rfl rfl (Val.fieldAddr (j := 5) rfl Ty.fo177_3 rfl rfl) ?_
              refine WP.val rfl rfl rfl (Val.load (v := .pointer (some ⟨(S x).r, 0, none⟩)) rfl Ty.sc168 rfl (fun w h => sto_r (h.at 3 rfl) hxD rfl)) ?_
              refine WP.val rfl rfl rfl (Val.assign rfl rfl) ?_
              refine WP.nil ?_
              refine Out.block ?_
              have hs2 : fnd ib.k ie.k r = fnd ib.k ie.k T0 := by rw [← hsec, fnd_r hne hgo]
              refine Out.perm pl4 ?_
              refine Out.perm pl4 ?_
              refine Out.perm pl2 ?_
              refine Out.perm pl4 ?_
              refine Out.perm pl4 ?_
              refine Out.again ⟨r, (S x).r⟩ ?_ ?_ ?_ ?_
              · exact ⟨⟨x, hr⟩, hs2, (Ok.r ok hxD)⟩
              · show T.depth _ < T.depth (.node x l it c r); simp only [T.depth]; omega
              · exact (Sub.cons rfl (Sub.cons rfl (Sub.cons rfl Sub.nil)))
              · exact (fun _ h => h)
          · skip
            have h5 : ¬ ((kcmp ib.k ((S x).it.b).k) = (0 : Int)) := h5
            have hgo : ¬ goK ib.k ie.k it.b.k it.e.k := by rw [← hit]; exact goK_4 (by assumption) (by assumption)
            refine WPc.region ?_
            refine WP.val rfl rfl rfl (Val.move rfl rfl) ?_
            refine WP.val rfl rfl rfl (Val.nilCheck rfl rfl) ?_
            refine WP.val rfl rfl rfl (Val.fieldAddr (j := 5) rfl Ty.fo177_3 rfl rfl) ?_
            refine WP.val rfl rfl rfl (Val.load (v := .pointer (some ⟨(S x).r, 0, none⟩)) rfl Ty.sc168 rfl (fun w h => sto_r (h.at 3 rfl) hxD rfl)) ?_
            refine WP.val rfl rfl rfl (Val.assign rfl rfl) ?_
            refine WP.nil ?_
            refine Out.block ?_
            have hs2 : fnd ib.k ie.k r = fnd ib.k ie.k T0 := by rw [← hsec, fnd_r hne hgo]
            refine Out.perm pl4 ?_
            refine Out.perm pl4 ?_
            refine Out.perm pl2 ?_
            refine Out.perm pl4 ?_
            refine Out.perm pl4 ?_
            refine Out.again ⟨r, (S x).r⟩ ?_ ?_ ?_ ?_
            · exact ⟨⟨x, hr⟩, hs2, (Ok.r ok hxD)⟩
            · show T.depth _ < T.depth (.node x l it c r); simp only [T.depth]; omega
            · exact (Sub.cons rfl (Sub.cons rfl (Sub.cons rfl Sub.nil)))
            · exact (fun _ h => h)
    · skip
      have h2 : ¬ ((kcmp ib.k ((S x).it.b).k) = (0 : Int)) := h2
      refine WP.skip rfl rfl rfl rfl rfl rfl rfl ?_
      refine WP.skip rfl rfl rfl rfl rfl rfl rfl ?_
      refine WP.val rfl rfl rfl (Val.pickF rfl rfl rfl) ?_
      refine WP.nil ?_
      refine Out.next ?_
      refine WPc.condF rfl rfl ?_
      refine WPc.skip ?_
      refine Out.next ?_
      refine WPc.seq ?_
      have hne : ¬ (kcmp ib.k it.b.k = 0 ∧ kcmp ie.k it.e.k = 0) := by rw [← hit]; omega
      refine WPc.region ?_
      refine WP.val rfl rfl rfl (Val.move rfl rfl) ?_
      refine WP.val rfl rfl rfl (Val.lss rfl rfl rfl) ?_
      refine WP.nil ?_
      refine Out.next ?_
      refine WPc.ifP rfl (fun h7 => ?_) (fun h7 => ?_)
      · skip
        have h7 : ((kcmp ib.k ((S x).it.b).k) < (0 : Int)) := h7
        have hgo : goK ib.k ie.k it.b.k it.e.k := by rw [← hit]; exact goK_1 (by assumption)
        refine WPc.region ?_
        refine WP.val rfl rfl rfl (Val.move rfl rfl) ?_
        refine WP.val rfl rfl rfl (Val.nilCheck rfl rfl) ?_
        refine WP.val rfl rfl rfl (Val.fieldAddr (j := 4) rfl Ty.fo177_2 rfl rfl) ?_
        refine WP.val rfl rfl rfl (Val.load (v := .pointer (some ⟨(S x).l, 0, none⟩)) rfl Ty.sc168 rfl (fun w h => sto_l (h.at 3 rfl) hxD rfl)) ?_
        refine WP.val rfl rfl rfl (Val.assign rfl rfl) ?_
        refine WP.nil ?_
        refine Out.block ?_
        have hs2 : fnd ib.k ie.k l = fnd ib.k ie.k T0 := by rw [← hsec, fnd_l hne hgo]
        refine Out.perm pl4 ?_
        refine Out.perm pl4 ?_
        refine Out.perm pl2 ?_
        refine Out.perm pl4 ?_
        refine Out.perm pl4 ?_
        refine Out.again ⟨l, (S x).l⟩ ?_ ?_ ?_ ?_
        · exact ⟨⟨x, hl⟩, hs2, (Ok.l ok hxD)⟩
        · show T.depth _ < T.depth (.node x l it c r); simp only [T.depth]; omega
        · exact (Sub.cons rfl (Sub.cons rfl (Sub.cons rfl Sub.nil)))
        · exact (fun _ h => h)
      · skip
        have h7 : ¬ ((kcmp ib.k ((S x).it.b).k) < (0 : Int)) := h7
        refine WPc.seq ?_
        refine WPc.region ?_
        refine WP.val rfl rfl rfl (Val.move rfl rfl) ?_
        refine WP.val rfl rfl rfl (Val.eql rfl rfl rfl) ?_
        refine WP.nil ?_
        refine Out.next ?_
        refine WPc.ifP rfl (fun h8 => ?_) (fun h8 => ?_)
        · skip
          have h8 : ((kcmp ib.k ((S x).it.b).k) = (0 : Int)) := h8
          refine WPc.seq ?_
          refine WPc.region ?_
          refine WP.val rfl rfl rfl (Val.move rfl rfl) ?_
          refine WP.val rfl rfl rfl (Val.lss rfl rfl rfl) ?_
          refine WP.nil ?_
          refine Out.next ?_
          refine WPc.ifP rfl (fun h9 => ?_) (fun h9 => ?_)
          · skip
            have h9 : ((kcmp ie.k ((S x).it.e).k) < (0 : Int)) := h9
            have hgo : goK ib.k ie.k it.b.k it.e.k := by rw [← hit]; exact goK_2 (by assumption) (by assumption)
            refine WPc.region ?_
            refine WP.val rfl rfl rfl (Val.move rfl rfl) ?_
            refine WP.val rfl rfl rfl (Val.nilCheck rfl rfl) ?_
            refine WP.val rfl rfl rfl (Val.fieldAddr (j := 4) rfl Ty.fo177_2 rfl rfl) ?_
            refine WP.val rfl rfl rfl (Val.load (v := .pointer (some ⟨(S x).l, 0, none⟩)) rfl Ty.sc168 rfl (fun w h => sto_l (h.at 3 rfl) hxD rfl)) ?_
            refine WP.val rfl rfl rfl (Val.assign rfl rfl) ?_
            refine WP.nil ?_
            refine Out.block ?_
            have hs2 : fnd ib.k ie.k l = fnd ib.k ie.k T0 := by rw [← hsec, fnd_l hne hgo]
            refine Out.perm pl4 ?_
            refine Out.perm pl4 ?_
            refine Out.perm pl2 ?_
            refine Out.perm pl4 ?_
            refine Out.perm pl4 ?_
            refine Out.again ⟨l, (S x).l⟩ ?_ ?_ ?_ ?_
            · exact ⟨⟨x, hl⟩, hs2, (Ok.l ok hxD)⟩
            · show T.depth _ < T.depth (.node x l it c r); simp only [T.depth]; omega
            · exact (Sub.cons rfl (Sub.cons rfl (Sub.cons rfl Sub.nil)))
            · exact (fun _ h => h)
          · skip
            have h9 : ¬ ((kcmp ie.k ((S x).it.e).k) < (0 : Int)) := h9
            have hgo : ¬ goK ib.k ie.k it.b.k it.e.k := by rw [← hit]; exact goK_3 (by assumption) (by assumption)
            refine WPc.region ?_
            refine WP.val rfl rfl rfl (Val.move rfl rfl) ?_
            refine WP.val rfl rfl rfl (Val.nilCheck rfl rfl) ?_
            refine WP.val rfl rfl rfl (Val.fieldAddr (j := 5) rfl Ty.fo177_3 rfl rfl) ?_
            refine WP.val rfl rfl rfl (Val.load (v := .pointer (some ⟨(S x).r, 0, none⟩)) rfl Ty.sc168 rfl (fun w h => sto_r (h.at 3 rfl) hxD rfl)) ?_
            refine WP.val rfl rfl rfl (Val.assign rfl rfl) ?_
            refine WP.nil ?_
            refine Out.block ?_
            have hs2 : fnd ib.k ie.k r = fnd ib.k ie.k T0 := by rw [← hsec, fnd_r hne hgo]
            refine Out.perm pl4 ?_
            refine Out.perm pl4 ?_
            refine Out.perm pl2 ?_
            refine Out.perm pl4 ?_
            refine Out.perm pl4 ?_
            refine Out.again ⟨r, (S x).r⟩ ?_ ?_ ?_ ?_
            · exact ⟨⟨x, hr⟩, hs2, (Ok.r ok hxD)⟩
            · show T.depth _ < T.depth (.node x l it c r); simp only [T.depth]; omega
            · exact (Sub.cons rfl (Sub.cons rfl (Sub.cons rfl Sub.nil)))
            · exact (fun _ h => h)
        · skip
          have h8 : ¬ ((kcmp ib.k ((S x).it.b).k) = (0 : Int)) := h8
          have hgo : ¬ goK ib.k ie.k it.b.k it.e.k := by rw [← hit]; exact goK_4 (by assumption) (by assumption)
          refine WPc.region ?_
          refine WP.val rfl rfl rfl (Val.move rfl rfl) ?_
          refine WP.val rfl rfl rfl (Val.nilCheck rfl rfl) ?_
          refine WP.val rfl rfl rfl (Val.fieldAddr (j := 5) rfl Ty.fo177_3 rfl rfl) ?_
          refine WP.val rfl rfl rfl (Val.load (v := .pointer (some ⟨(S x).r, 0, none⟩)) rfl Ty.sc168 rfl (fun w h => sto_r (h.at 3 rfl) hxD rfl)) ?_
          refine WP.val rfl rfl rfl (Val.assign rfl rfl) ?_
          refine WP.nil ?_
          refine Out.block ?_
          have hs2 : fnd ib.k ie.k r = fnd ib.k ie.k T0 := by rw [← hsec, fnd_r hne hgo]
          refine Out.perm pl4 ?_
          refine Out.perm pl4 ?_
          refine Out.perm pl2 ?_
          refine Out.perm pl4 ?_
          refine Out.perm pl4 ?_
          refine Out.again ⟨r, (S x).r⟩ ?_ ?_ ?_ ?_
          · exact ⟨⟨x, hr⟩, hs2, (Ok.r ok hxD)⟩
          · show T.depth _ < T.depth (.node x l it c r); simp only [T.depth]; omega
          · exact (Sub.cons rfl (Sub.cons rfl (Sub.cons rfl Sub.nil)))
          · exact (fun _ h => h)
  · skip
    have h1 : ¬ (x ≠ s) := h1
    refine WPc.exit ?_
    refine Out.then_exit ?_
    refine Out.then_exit ?_
    refine Out.block_exit ?_
    refine Out.next ?_
    refine WPc.seq ?_
    refine WPc.region ?_
    refine WP.val rfl rfl rfl (Val.move rfl rfl) ?_
    refine WP.val rfl rfl rfl (Val.assign rfl rfl) ?_
    refine WP.nil ?_
    refine Out.next ?_
    refine WPc.ret ?_
    have hxs : x = s := Decidable.byContradiction (by assumption)
    have hres : (fnd ib.k ie.k T0).getD s = x := by rw [← hsec, RM_leaf hrm hxs, hxs]; rfl
    refine Out.drop ?_
    exact Out.ret1 (L' := _) Try.results146 rfl ⟨by rw [hres], rfl⟩ (fun _ h => h)

end Go.Proofs.Ytbomnihiapjmpaa.Ts

namespace Go.Proofs.Ytbomnihiapjmpaa.Tt
open Go.RowKit Go.Proofs.Ytbomnihiapjmpaa Go.Proofs.Ytbomnihiapjmpaa.Sl Go.Proofs.Ytbomnihiapjmpaa.TrP Go.Proofs.Ytbomnihiapjmpaa.Tc Go.Proofs.Ytbomnihiapjmpaa.Td Go.Proofs.Ytbomnihiapjmpaa.Te Go.Proofs.Ytbomnihiapjmpaa.Tf Go.Proofs.Ytbomnihiapjmpaa.Tg Go.Proofs.Ytbomnihiapjmpaa.Th Go.Proofs.Ytbomnihiapjmpaa.Ti Go.Proofs.Ytbomnihiapjmpaa.Tk Go.Proofs.Ytbomnihiapjmpaa.Ts
set_option linter.unusedVariables false
set_option linter.unusedSimpArgs false
set_option linter.unusedSectionVars false


theorem fnd_ids {ib ie : Ky} : ∀ {t : T} {i : Nat}, fnd ib ie t = some i → i ∈ t.ids
  | .leaf, _, h => by cases h
  | .node j l x c r, i, h => by
    unfold fnd at h
    simp only [T.ids, List.mem_cons, List.mem_append]
    split at h
    · cases h; exact .inl rfl
    · split at h
      · exact .inr (.inl (fnd_ids h))
      · exact .inr (.inr (fnd_ids h))
set_option maxRecDepth 100000 in
set_option maxHeartbeats 2000000 in
theorem Find_none (EL : List En) (t0 : TypeId) (hE : ∀ e ∈ EL, e.t = t0) (s : Nat) (D : List Nat) (ZC : List Value) (tb root : Nat) (cnt : Int) (S : St) (ok : Ok s EL D S) (hroot : Is s D root) (T0 : T) (hT : RM s S T0 root s) (ib ie : En) (hib : ib ∈ EL) (hie : ie ∈ EL) (hf : fnd ib.k ie.k T0 = none) : Does Try.prog 136 [.pointer (some ⟨tb, 0, none⟩), .agg #[.iface ib.t (ib.u), .iface ie.t (ie.u)]] [Blk tb [.pointer (some ⟨root, 0, none⟩), .int .i64 (cnt), .pointer (some ⟨s, 0, none⟩)] 180, Ens EL, Sto S D, Blk s ZC 177] (fun v L => v = .pointer none ∧ L = [Blk tb [.pointer (some ⟨root, 0, none⟩), .int .i64 cnt, .pointer (some ⟨s, 0, none⟩)] 180, Ens EL, Sto S D, Blk s ZC 177]) := by
  refine Does.enter 18 Try.func136 rfl rfl rfl fun W F => ?_
  show WPc _ _ _ _ _ [(0, .pointer (some ⟨tb, 0, none⟩)), (1, .agg #[.iface ib.t (ib.u), .iface ie.t (ie.u)])] (Blk tb [.pointer (some ⟨root, 0, none⟩), .int .i64 (cnt), .pointer (some ⟨s, 0, none⟩)] 180 :: Ens EL :: Sto S D :: Blk s ZC 177 :: F)
  refine WPc.seq ?_
  refine WPc.region ?_
  refine WP.eff rfl rfl rfl (Eff.box (C := [.iface ib.t (ib.u), .iface ie.t (ie.u)]) rfl rfl rfl) ?_
  rintro _ _ ⟨b1, rfl, rfl⟩
  refine WP.val rfl rfl rfl (Val.assign rfl rfl) ?_
  refine WP.nil ?_
  refine Out.next ?_
  refine WPc.seq ?_
  refine WPc.region ?_
  refine WP.val rfl rfl rfl (Val.move rfl rfl) ?_
  refine WP.val rfl rfl rfl (Val.loadAgg (cs := [.iface ib.t (ib.u), .iface ie.t (ie.u)]) rfl Ty.ag172 rfl rfl (fun w h => h.range 0 rfl rfl)) ?_
  refine WP.perm pl4 ?_
  refine WP.perm pl4 ?_
  refine WP.perm pl4 ?_
  refine WP.perm pl4 ?_
  refine WP.eff rfl rfl rfl (Eff.call rfl rfl Try.call146 (by have h := find_does EL t0 hE s D ZC tb root cnt S ok hroot T0 hT ib ie hib hie; rw [hf] at h; exact h)) ?_
  rintro _ _ ⟨_, ⟨rfl, rfl⟩, rfl⟩
  show WP _ _ _ _ _ _ _ (Blk tb [.pointer (some ⟨root, 0, none⟩), .int .i64 (cnt), .pointer (some ⟨s, 0, none⟩)] 180 :: Ens EL :: Sto S D :: Blk s ZC 177 :: Blk b1 [.iface ib.t (ib.u), .iface ie.t (ie.u)] 172 :: F)
  refine WP.val rfl rfl rfl (Val.assign rfl rfl) ?_
  refine WP.nil ?_
  refine Out.next ?_
  refine WPc.seq ?_
  refine WPc.seq ?_
  refine WPc.region ?_
  refine WP.val rfl rfl rfl (Val.move rfl rfl) ?_
  refine WP.val rfl rfl rfl (Val.move rfl rfl) ?_
  refine WP.val rfl rfl rfl (Val.nilCheck rfl rfl) ?_
  refine WP.val rfl rfl rfl (Val.fieldAddr (j := 2) rfl Ty.fo180_2 rfl rfl) ?_
  refine WP.val rfl rfl rfl (Val.load rfl Ty.sc168 rfl (fun w h => h.cell 0 rfl rfl)) ?_
  refine WP.val rfl rfl rfl (Val.eqSame rfl pe168 rfl rfl) ?_
  refine WP.nil ?_
  refine Out.next ?_
  refine WPc.condT rfl rfl ?_
  refine WPc.seq ?_
  refine WPc.region ?_
  refine WP.val rfl rfl rfl (Val.assign rfl rfl) ?_
  refine WP.nil ?_
  refine Out.next ?_
  refine WPc.ret ?_
  refine Out.then_ret ?_
  refine Out.perm pl4 ?_
  refine Out.drop ?_
  exact Out.ret1 (L' := _) Try.results136 rfl ⟨rfl, rfl⟩ (fun _ h => h)
set_option maxRecDepth 100000 in
set_option maxHeartbeats 2000000 in
theorem Find_some (EL : List En) (t0 : TypeId) (hE : ∀ e ∈ EL, e.t = t0) (s : Nat) (D : List Nat) (ZC : List Value) (tb root : Nat) (cnt : Int) (S : St) (ok : Ok s EL D S) (hroot : Is s D root) (T0 : T) (hT : RM s S T0 root s) (ib ie : En) (hib : ib ∈ EL) (hie : ie ∈ EL) (i : Nat) (hf : fnd ib.k ie.k T0 = some i) (his : i ≠ s) (hiD : i ∈ D) : Does Try.prog 136 [.pointer (some ⟨tb, 0, none⟩), .agg #[.iface ib.t (ib.u), .iface ie.t (ie.u)]] [Blk tb [.pointer (some ⟨root, 0, none⟩), .int .i64 (cnt), .pointer (some ⟨s, 0, none⟩)] 180, Ens EL, Sto S D, Blk s ZC 177] (fun v L => v = .pointer (some ⟨i, 0, none⟩) ∧ L = [Blk tb [.pointer (some ⟨root, 0, none⟩), .int .i64 cnt, .pointer (some ⟨s, 0, none⟩)] 180, Ens EL, Sto S D, Blk s ZC 177]) := by
  refine Does.enter 18 Try.func136 rfl rfl rfl fun W F => ?_
  show WPc _ _ _ _ _ [(0, .pointer (some ⟨tb, 0, none⟩)), (1, .agg #[.iface ib.t (ib.u), .iface ie.t (ie.u)])] (Blk tb [.pointer (some ⟨root, 0, none⟩), .int .i64 (cnt), .pointer (some ⟨s, 0, none⟩)] 180 :: Ens EL :: Sto S D :: Blk s ZC 177 :: F)
  refine WPc.seq ?_
  refine WPc.region ?_
  refine WP.eff rfl rfl rfl (Eff.box (C := [.iface ib.t (ib.u), .iface ie.t (ie.u)]) rfl rfl rfl) ?_
  rintro _ _ ⟨b1, rfl, rfl⟩
  refine WP.val rfl rfl rfl (Val.assign rfl rfl) ?_
  refine WP.nil ?_
  refine Out.next ?_
  refine WPc.seq ?_
  refine WPc.region ?_
  refine WP.val rfl rfl rfl (Val.move rfl rfl) ?_
  refine WP.val rfl rfl rfl (Val.loadAgg (cs := [.iface ib.t (ib.u), .iface ie.t (ie.u)]) rfl Ty.ag172 rfl rfl (fun w h => h.range 0 rfl rfl)) ?_
  refine WP.perm pl4 ?_
  refine WP.perm pl4 ?_
  refine WP.perm pl4 ?_
  refine WP.perm pl4 ?_
  refine WP.eff rfl rfl rfl (Eff.call rfl rfl Try.call146 (by have h := find_does EL t0 hE s D ZC tb root cnt S ok hroot T0 hT ib ie hib hie; rw [hf] at h; exact h)) ?_
  rintro _ _ ⟨_, ⟨rfl, rfl⟩, rfl⟩
  show WP _ _ _ _ _ _ _ (Blk tb [.pointer (some ⟨root, 0, none⟩), .int .i64 (cnt), .pointer (some ⟨s, 0, none⟩)] 180 :: Ens EL :: Sto S D :: Blk s ZC 177 :: Blk b1 [.iface ib.t (ib.u), .iface ie.t (ie.u)] 172 :: F)
  refine WP.val rfl rfl rfl (Val.assign rfl rfl) ?_
  refine WP.nil ?_
  refine Out.next ?_
  refine WPc.seq ?_
  refine WPc.seq ?_
  refine WPc.region ?_
  refine WP.val rfl rfl rfl (Val.move rfl rfl) ?_
  refine WP.val rfl rfl rfl (Val.move rfl rfl) ?_
  refine WP.val rfl rfl rfl (Val.nilCheck rfl rfl) ?_
  refine WP.val rfl rfl rfl (Val.fieldAddr (j := 2) rfl Ty.fo180_2 rfl rfl) ?_
  refine WP.val rfl rfl rfl (Val.load rfl Ty.sc168 rfl (fun w h => h.cell 0 rfl rfl)) ?_
  refine WP.val rfl rfl rfl (Val.eqP (T1 := 177) (T2 := 177) rfl pn168 rfl rfl rfl rfl (fun w h => whole (h.at 2 rfl) (h.at 3 rfl) (.inr hiD)) (fun w h => whole (h.at 2 rfl) (h.at 3 rfl) (.inl rfl))) ?_
  refine WP.nil ?_
  refine Out.next ?_
  refine WPc.ifP rfl (fun h1 => ?_) (fun h1 => ?_)
  · skip
    have h1 : (i = s) := h1
    exact absurd (by assumption) his
  · skip
    have h1 : ¬ (i = s) := h1
    refine WPc.skip ?_
    refine Out.next ?_
    refine WPc.seq ?_
    refine WPc.region ?_
    refine WP.val rfl rfl rfl (Val.move rfl rfl) ?_
    refine WP.val rfl rfl rfl (Val.nilCheck rfl rfl) ?_
    refine WP.val rfl rfl rfl (Val.fieldAddr (j := 0) rfl Ty.fo177_0 rfl rfl) ?_
    refine WP.val rfl rfl rfl (Val.assign rfl rfl) ?_
    refine WP.nil ?_
    refine Out.next ?_
    refine WPc.ret ?_
    refine Out.perm pl4 ?_
    refine Out.drop ?_
    exact Out.ret1 (L' := _) Try.results136 rfl ⟨rfl, rfl⟩ (fun _ h => h)

end Go.Proofs.Ytbomnihiapjmpaa.Tt

namespace Go.Proofs.Ytbomnihiapjmpaa.Sl
open Go.RowKit Go.Lib
set_option linter.unusedSectionVars false
set_option linter.unusedVariables false
set_option linter.unusedSimpArgs false
section
variable [Dfs]
variable {P : Program} {W : World} {n : Nat} {l : List (Nat × Value)} {L : List HProp} {o : Oper} {Q : Exit → Act → World → Prop} {G : World → Prop}
/-! type assertions that tell -/
theorem Val.assertY {x : Operand} {xt t : TypeId} {v : Value} (ho : o.op = .typeAssert x xt t true) (ht : (match P.underlying t with | some (.interface _) => false | none => false | _ => true) = true) (hx : ev l x = some (.iface t v)) : Val P n l G o (.tuple #[v, .bool true]) := fun a w hf hs => by
  cases hu : P.underlying t with
  | none => rw [hu] at ht; cases ht
  | some q =>
    rw [hu] at ht
    cases q <;> first | (cases ht; done) | simp [execOp, ho, hf.ev hx, Instr.typeAssert, run_underlying hu, Result.andThen]
theorem Val.assertN {x : Operand} {xt t t2 : TypeId} {v z : Value} (ho : o.op = .typeAssert x xt t true) (ht : (match P.underlying t with | some (.interface _) => false | none => false | _ => true) = true) (hz : ∀ w : World, (zeroValue t).run P w = .ok z w) (hne : (t2 == t) = false) (hx : ev l x = some (.iface t2 v)) : Val P n l G o (.tuple #[z, .bool false]) := fun a w hf hs => by
  cases hu : P.underlying t with
  | none => rw [hu] at ht; cases ht
  | some q =>
    rw [hu] at ht
    have h2 : ¬ t2 = t := by simpa using hne
    cases q <;> first | (cases ht; done) | simp [execOp, ho, hf.ev hx, Instr.typeAssert, run_underlying hu, Result.andThen, h2, hz]
end
end Go.Proofs.Ytbomnihiapjmpaa.Sl

namespace Go.Proofs.Ytbomnihiapjmpaa.Tu
open Go.RowKit Go.Proofs.Ytbomnihiapjmpaa Go.Proofs.Ytbomnihiapjmpaa.Sl Go.Proofs.Ytbomnihiapjmpaa.TrP Go.Proofs.Ytbomnihiapjmpaa.Tc Go.Proofs.Ytbomnihiapjmpaa.Td Go.Proofs.Ytbomnihiapjmpaa.Te Go.Proofs.Ytbomnihiapjmpaa.Tf Go.Proofs.Ytbomnihiapjmpaa.Tg Go.Proofs.Ytbomnihiapjmpaa.Th Go.Proofs.Ytbomnihiapjmpaa.Ti Go.Proofs.Ytbomnihiapjmpaa.Tk Go.Proofs.Ytbomnihiapjmpaa.Ts
set_option linter.unusedVariables false
set_option linter.unusedSimpArgs false
set_option linter.unusedSectionVars false


set_option maxRecDepth 100000 in
set_option maxHeartbeats 2000000 in
theorem so_s (x y : ByteArray) : Does Try.prog 96 [.agg #[.iface 134 (.string x), .iface 134 (.string y)]] [] (fun res L => res = .agg #[.string x, .string y, .bool false, .int .i64 0, .int .i64 0] ∧ L = []) := by
  refine Does.enter 66 Try.func96 rfl rfl rfl fun W F => ?_
  show WPc _ _ _ _ _ [(0, .agg #[.iface 134 (.string x), .iface 134 (.string y)])] (F)
  refine WPc.seq ?_
  refine WPc.region ?_
  refine WP.eff rfl rfl rfl (Eff.box (C := [.iface 134 (.string x), .iface 134 (.string y)]) rfl rfl rfl) ?_
  rintro _ F ⟨b1, rfl, rfl⟩
  refine WP.eff rfl rfl rfl (Eff.alloc rfl Ty.z56) ?_
  rintro _ _ ⟨b2, rfl, rfl⟩
  refine WP.nil ?_
  refine Out.next ?_
  refine WPc.seq ?_
  refine WPc.region ?_
  refine WP.val rfl rfl rfl (Val.mk (cs := [.string (⟨#[]⟩), .string (⟨#[]⟩), .bool false, .int .i64 0, .int .i64 0]) rfl rfl (fun _ => by kernel_rfl)) ?_
  refine WP.eff rfl rfl rfl (Eff.alloc rfl Ty.z56) ?_
  rintro _ _ ⟨b3, rfl, rfl⟩
  refine WP.eff0 rfl rfl (Eff.storeAgg (cs := [.string (⟨#[]⟩), .string (⟨#[]⟩), .bool false, .int .i64 0, .int .i64 0]) (C' := [.string (⟨#[]⟩), .string (⟨#[]⟩), .bool false, .int .i64 0, .int .i64 0]) rfl Ty.ag56 rfl rfl rfl rfl (by simp) rfl) ?_
  rintro _ _ rfl
  refine WP.nil ?_
  refine Out.next ?_
  refine WPc.seq ?_
  refine WPc.seq ?_
  refine WPc.region ?_
  refine WP.val rfl rfl rfl (Val.fieldAddr (j := 0) rfl Ty.fo172_0 rfl rfl) ?_
  refine WP.val rfl rfl rfl (Val.load rfl Ty.sc170 rfl (fun w h => h.cell 2 rfl rfl)) ?_
  refine WP.nil ?_
  refine Out.next ?_
  refine WPc.block ?_
  refine WPc.seq ?_
  refine WPc.region ?_
  refine WP.val rfl rfl rfl (Val.assertY rfl Ty.ni134 rfl) ?_
  refine WP.val rfl rfl rfl (Val.extract rfl rfl rfl) ?_
  refine WP.val rfl rfl rfl (Val.extract rfl rfl rfl) ?_
  refine WP.nil ?_
  refine Out.next ?_
  refine WPc.condT rfl rfl ?_
  refine WPc.seq ?_
  refine WPc.region ?_
  refine WP.val rfl rfl rfl (Val.assign rfl rfl) ?_
  refine WP.nil ?_
  refine Out.next ?_
  refine WPc.region ?_
  refine WP.val rfl rfl rfl (Val.move rfl rfl) ?_
  refine WP.val rfl rfl rfl (Val.fieldAddr (j := 0) rfl Ty.fo56_0 rfl rfl) ?_
  refine WP.val rfl rfl rfl (Val.fieldAddr (j := 0) rfl Ty.fo54_0 rfl rfl) ?_
  refine WP.eff0 rfl rfl (Eff.store rfl Ty.sc9 rfl rfl rfl (by simp) st0) ?_
  rintro _ _ rfl
  refine WP.nil ?_
  refine Out.block ?_
  refine Out.next ?_
  refine WPc.seq ?_
  refine WPc.seq ?_
  refine WPc.region ?_
  refine WP.val rfl rfl rfl (Val.fieldAddr (j := 1) rfl Ty.fo172_1 rfl rfl) ?_
  refine WP.val rfl rfl rfl (Val.load rfl Ty.sc170 rfl (fun w h => h.cell 2 rfl rfl)) ?_
  refine WP.nil ?_
  refine Out.next ?_
  refine WPc.block ?_
  refine WPc.seq ?_
  refine WPc.region ?_
  refine WP.val rfl rfl rfl (Val.assertY rfl Ty.ni134 rfl) ?_
  refine WP.val rfl rfl rfl (Val.extract rfl rfl rfl) ?_
  refine WP.val rfl rfl rfl (Val.extract rfl rfl rfl) ?_
  refine WP.nil ?_
  refine Out.next ?_
  refine WPc.condT rfl rfl ?_
  refine WPc.seq ?_
  refine WPc.region ?_
  refine WP.val rfl rfl rfl (Val.assign rfl rfl) ?_
  refine WP.nil ?_
  refine Out.next ?_
  refine WPc.region ?_
  refine WP.val rfl rfl rfl (Val.move rfl rfl) ?_
  refine WP.val rfl rfl rfl (Val.fieldAddr (j := 0) rfl Ty.fo56_0 rfl rfl) ?_
  refine WP.val rfl rfl rfl (Val.fieldAddr (j := 1) rfl Ty.fo54_1 rfl rfl) ?_
  refine WP.eff0 rfl rfl (Eff.store rfl Ty.sc9 rfl rfl rfl (by simp) st1) ?_
  rintro _ _ rfl
  refine WP.nil ?_
  refine Out.block ?_
  refine Out.next ?_
  refine WPc.seq ?_
  refine WPc.region ?_
  refine WP.val rfl rfl rfl (Val.loadAgg (cs := [.string x, .string y, .bool false, .int .i64 0, .int .i64 0]) rfl Ty.ag56 rfl rfl (fun w h => h.range 0 rfl rfl)) ?_
  refine WP.perm pl1 ?_
  refine WP.eff0 rfl rfl (Eff.storeAgg (cs := [.string x, .string y, .bool false, .int .i64 0, .int .i64 0]) (C' := [.string x, .string y, .bool false, .int .i64 0, .int .i64 0]) rfl Ty.ag56 rfl rfl rfl rfl (by simp) rfl) ?_
  rintro _ _ rfl
  refine WP.nil ?_
  refine Out.next ?_
  refine WPc.ret ?_
  refine Out.perm pl1 ?_
  refine Out.drop ?_
  refine Out.perm pl1 ?_
  refine Out.drop ?_
  exact Out.retRun (L' := []) (results_cell (cs := [.string x, .string y, .bool false, .int .i64 0, .int .i64 0]) Try.results96 Ty.ag56 rfl rfl (fun w h => h.range 0 rfl rfl)) ⟨rfl, rfl⟩ (fun w h => h.drop)
set_option maxRecDepth 100000 in
set_option maxHeartbeats 2000000 in
theorem so_a (x y : ByteArray) : Does Try.prog 96 [.agg #[.iface 130 (.string x), .iface 130 (.string y)]] [] (fun res L => res = .agg #[.string x, .string y, .bool false, .int .i64 0, .int .i64 0] ∧ L = []) := by
  refine Does.enter 66 Try.func96 rfl rfl rfl fun W F => ?_
  show WPc _ _ _ _ _ [(0, .agg #[.iface 130 (.string x), .iface 130 (.string y)])] (F)
  refine WPc.seq ?_
  refine WPc.region ?_
  refine WP.eff rfl rfl rfl (Eff.box (C := [.iface 130 (.string x), .iface 130 (.string y)]) rfl rfl rfl) ?_
  rintro _ F ⟨b1, rfl, rfl⟩
  refine WP.eff rfl rfl rfl (Eff.alloc rfl Ty.z56) ?_
  rintro _ _ ⟨b2, rfl, rfl⟩
  refine WP.nil ?_
  refine Out.next ?_
  refine WPc.seq ?_
  refine WPc.region ?_
  refine WP.val rfl rfl rfl (Val.mk (cs := [.string (⟨#[]⟩), .string (⟨#[]⟩), .bool false, .int .i64 0, .int .i64 0]) rfl rfl (fun _ => by kernel_rfl)) ?_
  refine WP.eff rfl rfl rfl (Eff.alloc rfl Ty.z56) ?_
  rintro _ _ ⟨b3, rfl, rfl⟩
  refine WP.eff0 rfl rfl (Eff.storeAgg (cs := [.string (⟨#[]⟩), .string (⟨#[]⟩), .bool false, .int .i64 0, .int .i64 0]) (C' := [.string (⟨#[]⟩), .string (⟨#[]⟩), .bool false, .int .i64 0, .int .i64 0]) rfl Ty.ag56 rfl rfl rfl rfl (by simp) rfl) ?_
  rintro _ _ rfl
  refine WP.nil ?_
  refine Out.next ?_
  refine WPc.seq ?_
  refine WPc.seq ?_
  refine WPc.region ?_
  refine WP.val rfl rfl rfl (Val.fieldAddr (j := 0) rfl Ty.fo172_0 rfl rfl) ?_
  refine WP.val rfl rfl rfl (Val.load rfl Ty.sc170 rfl (fun w h => h.cell 2 rfl rfl)) ?_
  refine WP.nil ?_
  refine Out.next ?_
  refine WPc.block ?_
  refine WPc.seq ?_
  refine WPc.region ?_
  refine WP.val rfl rfl rfl (Val.assertN (z := .string (⟨#[]⟩)) rfl Ty.ni134 (fun _ => by kernel_rfl) rfl rfl) ?_
  refine WP.val rfl rfl rfl (Val.extract rfl rfl rfl) ?_
  refine WP.val rfl rfl rfl (Val.extract rfl rfl rfl) ?_
  refine WP.nil ?_
  refine Out.next ?_
  refine WPc.condF rfl rfl ?_
  refine WPc.seq ?_
  refine WPc.region ?_
  refine WP.val rfl rfl rfl (Val.assertY rfl Ty.ni130 rfl) ?_
  refine WP.val rfl rfl rfl (Val.extract rfl rfl rfl) ?_
  refine WP.val rfl rfl rfl (Val.extract rfl rfl rfl) ?_
  refine WP.nil ?_
  refine Out.next ?_
  refine WPc.condT rfl rfl ?_
  refine WPc.seq ?_
  refine WPc.region ?_
  refine WP.val rfl rfl rfl (Val.assign rfl rfl) ?_
  refine WP.nil ?_
  refine Out.next ?_
  refine WPc.region ?_
  refine WP.val rfl rfl rfl (Val.move rfl rfl) ?_
  refine WP.val rfl rfl rfl (Val.fieldAddr (j := 0) rfl Ty.fo56_0 rfl rfl) ?_
  refine WP.val rfl rfl rfl (Val.fieldAddr (j := 0) rfl Ty.fo54_0 rfl rfl) ?_
  refine WP.eff0 rfl rfl (Eff.store rfl Ty.sc9 rfl rfl rfl (by simp) st0) ?_
  rintro _ _ rfl
  refine WP.nil ?_
  refine Out.block ?_
  refine Out.next ?_
  refine WPc.seq ?_
  refine WPc.seq ?_
  refine WPc.region ?_
  refine WP.val rfl rfl rfl (Val.fieldAddr (j := 1) rfl Ty.fo172_1 rfl rfl) ?_
  refine WP.val rfl rfl rfl (Val.load rfl Ty.sc170 rfl (fun w h => h.cell 2 rfl rfl)) ?_
  refine WP.nil ?_
  refine Out.next ?_
  refine WPc.block ?_
  refine WPc.seq ?_
  refine WPc.region ?_
  refine WP.val rfl rfl rfl (Val.assertN (z := .string (⟨#[]⟩)) rfl Ty.ni134 (fun _ => by kernel_rfl) rfl rfl) ?_
  refine WP.val rfl rfl rfl (Val.extract rfl rfl rfl) ?_
  refine WP.val rfl rfl rfl (Val.extract rfl rfl rfl) ?_
  refine WP.nil ?_
  refine Out.next ?_
  refine WPc.condF rfl rfl ?_
  refine WPc.seq ?_
  refine WPc.region ?_
  refine WP.val rfl rfl rfl (Val.assertY rfl Ty.ni130 rfl) ?_
  refine WP.val rfl rfl rfl (Val.extract rfl rfl rfl) ?_
  refine WP.val rfl rfl rfl (Val.extract rfl rfl rfl) ?_
  refine WP.nil ?_
  refine Out.next ?_
  refine WPc.condT rfl rfl ?_
  refine WPc.seq ?_
  refine WPc.region ?_
  refine WP.val rfl rfl rfl (Val.assign rfl rfl) ?_
  refine WP.nil ?_
  refine Out.next ?_
  refine WPc.region ?_
  refine WP.val rfl rfl rfl (Val.move rfl rfl) ?_
  refine WP.val rfl rfl rfl (Val.fieldAddr (j := 0) rfl Ty.fo56_0 rfl rfl) ?_
  refine WP.val rfl rfl rfl (Val.fieldAddr (j := 1) rfl Ty.fo54_1 rfl rfl) ?_
  refine WP.eff0 rfl rfl (Eff.store rfl Ty.sc9 rfl rfl rfl (by simp) st1) ?_
  rintro _ _ rfl
  refine WP.nil ?_
  refine Out.block ?_
  refine Out.next ?_
  refine WPc.seq ?_
  refine WPc.region ?_
  refine WP.val rfl rfl rfl (Val.loadAgg (cs := [.string x, .string y, .bool false, .int .i64 0, .int .i64 0]) rfl Ty.ag56 rfl rfl (fun w h => h.range 0 rfl rfl)) ?_
  refine WP.perm pl1 ?_
  refine WP.eff0 rfl rfl (Eff.storeAgg (cs := [.string x, .string y, .bool false, .int .i64 0, .int .i64 0]) (C' := [.string x, .string y, .bool false, .int .i64 0, .int .i64 0]) rfl Ty.ag56 rfl rfl rfl rfl (by simp) rfl) ?_
  rintro _ _ rfl
  refine WP.nil ?_
  refine Out.next ?_
  refine WPc.ret ?_
  refine Out.perm pl1 ?_
  refine Out.drop ?_
  refine Out.perm pl1 ?_
  refine Out.drop ?_
  exact Out.retRun (L' := []) (results_cell (cs := [.string x, .string y, .bool false, .int .i64 0, .int .i64 0]) Try.results96 Ty.ag56 rfl rfl (fun w h => h.range 0 rfl rfl)) ⟨rfl, rfl⟩ (fun w h => h.drop)
set_option maxRecDepth 100000 in
set_option maxHeartbeats 2000000 in
theorem so_i (x y : Int) : Does Try.prog 96 [.agg #[.iface 133 (.int .i64 (x)), .iface 133 (.int .i64 (y))]] [] (fun res L => res = .agg #[.string (⟨#[]⟩), .string (⟨#[]⟩), .bool false, .int .i64 (x), .int .i64 (y)] ∧ L = []) := by
  refine Does.enter 66 Try.func96 rfl rfl rfl fun W F => ?_
  show WPc _ _ _ _ _ [(0, .agg #[.iface 133 (.int .i64 (x)), .iface 133 (.int .i64 (y))])] (F)
  refine WPc.seq ?_
  refine WPc.region ?_
  refine WP.eff rfl rfl rfl (Eff.box (C := [.iface 133 (.int .i64 (x)), .iface 133 (.int .i64 (y))]) rfl rfl rfl) ?_
  rintro _ F ⟨b1, rfl, rfl⟩
  refine WP.eff rfl rfl rfl (Eff.alloc rfl Ty.z56) ?_
  rintro _ _ ⟨b2, rfl, rfl⟩
  refine WP.nil ?_
  refine Out.next ?_
  refine WPc.seq ?_
  refine WPc.region ?_
  refine WP.val rfl rfl rfl (Val.mk (cs := [.string (⟨#[]⟩), .string (⟨#[]⟩), .bool false, .int .i64 0, .int .i64 0]) rfl rfl (fun _ => by kernel_rfl)) ?_
  refine WP.eff rfl rfl rfl (Eff.alloc rfl Ty.z56) ?_
  rintro _ _ ⟨b3, rfl, rfl⟩
  refine WP.eff0 rfl rfl (Eff.storeAgg (cs := [.string (⟨#[]⟩), .string (⟨#[]⟩), .bool false, .int .i64 0, .int .i64 0]) (C' := [.string (⟨#[]⟩), .string (⟨#[]⟩), .bool false, .int .i64 0, .int .i64 0]) rfl Ty.ag56 rfl rfl rfl rfl (by simp) rfl) ?_
  rintro _ _ rfl
  refine WP.nil ?_
  refine Out.next ?_
  refine WPc.seq ?_
  refine WPc.seq ?_
  refine WPc.region ?_
  refine WP.val rfl rfl rfl (Val.fieldAddr (j := 0) rfl Ty.fo172_0 rfl rfl) ?_
  refine WP.val rfl rfl rfl (Val.load rfl Ty.sc170 rfl (fun w h => h.cell 2 rfl rfl)) ?_
  refine WP.nil ?_
  refine Out.next ?_
  refine WPc.block ?_
  refine WPc.seq ?_
  refine WPc.region ?_
  refine WP.val rfl rfl rfl (Val.assertN (z := .string (⟨#[]⟩)) rfl Ty.ni134 (fun _ => by kernel_rfl) rfl rfl) ?_
  refine WP.val rfl rfl rfl (Val.extract rfl rfl rfl) ?_
  refine WP.val rfl rfl rfl (Val.extract rfl rfl rfl) ?_
  refine WP.nil ?_
  refine Out.next ?_
  refine WPc.condF rfl rfl ?_
  refine WPc.seq ?_
  refine WPc.region ?_
  refine WP.val rfl rfl rfl (Val.assertN (z := .string (⟨#[]⟩)) rfl Ty.ni130 (fun _ => by kernel_rfl) rfl rfl) ?_
  refine WP.val rfl rfl rfl (Val.extract rfl rfl rfl) ?_
  refine WP.val rfl rfl rfl (Val.extract rfl rfl rfl) ?_
  refine WP.nil ?_
  refine Out.next ?_
  refine WPc.condF rfl rfl ?_
  refine WPc.seq ?_
  refine WPc.region ?_
  refine WP.val rfl rfl rfl (Val.assertN (z := .slice none 0 0) rfl Ty.ni132 (fun _ => by kernel_rfl) rfl rfl) ?_
  refine WP.val rfl rfl rfl (Val.extract rfl rfl rfl) ?_
  refine WP.val rfl rfl rfl (Val.extract rfl rfl rfl) ?_
  refine WP.nil ?_
  refine Out.next ?_
  refine WPc.condF rfl rfl ?_
  refine WPc.seq ?_
  refine WPc.region ?_
  refine WP.val rfl rfl rfl (Val.assertY rfl Ty.ni133 rfl) ?_
  refine WP.val rfl rfl rfl (Val.extract rfl rfl rfl) ?_
  refine WP.val rfl rfl rfl (Val.extract rfl rfl rfl) ?_
  refine WP.nil ?_
  refine Out.next ?_
  refine WPc.condT rfl rfl ?_
  refine WPc.seq ?_
  refine WPc.region ?_
  refine WP.val rfl rfl rfl (Val.assign rfl rfl) ?_
  refine WP.nil ?_
  refine Out.next ?_
  refine WPc.region ?_
  refine WP.val rfl rfl rfl (Val.move rfl rfl) ?_
  refine WP.val rfl rfl rfl (Val.fieldAddr (j := 3) rfl Ty.fo56_1 rfl rfl) ?_
  refine WP.eff0 rfl rfl (Eff.store rfl Ty.sc2 rfl rfl rfl (by simp) st3) ?_
  rintro _ _ rfl
  refine WP.nil ?_
  refine Out.block ?_
  refine Out.next ?_
  refine WPc.seq ?_
  refine WPc.seq ?_
  refine WPc.region ?_
  refine WP.val rfl rfl rfl (Val.fieldAddr (j := 1) rfl Ty.fo172_1 rfl rfl) ?_
  refine WP.val rfl rfl rfl (Val.load rfl Ty.sc170 rfl (fun w h => h.cell 2 rfl rfl)) ?_
  refine WP.nil ?_
  refine Out.next ?_
  refine WPc.block ?_
  refine WPc.seq ?_
  refine WPc.region ?_
  refine WP.val rfl rfl rfl (Val.assertN (z := .string (⟨#[]⟩)) rfl Ty.ni134 (fun _ => by kernel_rfl) rfl rfl) ?_
  refine WP.val rfl rfl rfl (Val.extract rfl rfl rfl) ?_
  refine WP.val rfl rfl rfl (Val.extract rfl rfl rfl) ?_
  refine WP.nil ?_
  refine Out.next ?_
  refine WPc.condF rfl rfl ?_
  refine WPc.seq ?_
  refine WPc.region ?_
  refine WP.val rfl rfl rfl (Val.assertN (z := .string (⟨#[]⟩)) rfl Ty.ni130 (fun _ => by kernel_rfl) rfl rfl) ?_
  refine WP.val rfl rfl rfl (Val.extract rfl rfl rfl) ?_
  refine WP.val rfl rfl rfl (Val.extract rfl rfl rfl) ?_
  refine WP.nil ?_
  refine Out.next ?_
  refine WPc.condF rfl rfl ?_
  refine WPc.seq ?_
  refine WPc.region ?_
  refine WP.val rfl rfl rfl (Val.assertN (z := .slice none 0 0) rfl Ty.ni132 (fun _ => by kernel_rfl) rfl rfl) ?_
  refine WP.val rfl rfl rfl (Val.extract rfl rfl rfl) ?_
  refine WP.val rfl rfl rfl (Val.extract rfl rfl rfl) ?_
  refine WP.nil ?_
  refine Out.next ?_
  refine WPc.condF rfl rfl ?_
  refine WPc.seq ?_
  refine WPc.region ?_
  refine WP.val rfl rfl rfl (Val.assertY rfl Ty.ni133 rfl) ?_
  refine WP.val rfl rfl rfl (Val.extract rfl rfl rfl) ?_
  refine WP.val rfl rfl rfl (Val.extract rfl rfl rfl) ?_
  refine WP.nil ?_
  refine Out.next ?_
  refine WPc.condT rfl rfl ?_
  refine WPc.seq ?_
  refine WPc.region ?_
  refine WP.val rfl rfl rfl (Val.assign rfl rfl) ?_
  refine WP.nil ?_
  refine Out.next ?_
  refine WPc.region ?_
  refine WP.val rfl rfl rfl (Val.move rfl rfl) ?_
  refine WP.val rfl rfl rfl (Val.fieldAddr (j := 4) rfl Ty.fo56_2 rfl rfl) ?_
  refine WP.eff0 rfl rfl (Eff.store rfl Ty.sc2 rfl rfl rfl (by simp) st4) ?_
  rintro _ _ rfl
  refine WP.nil ?_
  refine Out.block ?_
  refine Out.next ?_
  refine WPc.seq ?_
  refine WPc.region ?_
  refine WP.val rfl rfl rfl (Val.loadAgg (cs := [.string (⟨#[]⟩), .string (⟨#[]⟩), .bool false, .int .i64 (x), .int .i64 (y)]) rfl Ty.ag56 rfl rfl (fun w h => h.range 0 rfl rfl)) ?_
  refine WP.perm pl1 ?_
  refine WP.eff0 rfl rfl (Eff.storeAgg (cs := [.string (⟨#[]⟩), .string (⟨#[]⟩), .bool false, .int .i64 (x), .int .i64 (y)]) (C' := [.string (⟨#[]⟩), .string (⟨#[]⟩), .bool false, .int .i64 (x), .int .i64 (y)]) rfl Ty.ag56 rfl rfl rfl rfl (by simp) rfl) ?_
  rintro _ _ rfl
  refine WP.nil ?_
  refine Out.next ?_
  refine WPc.ret ?_
  refine Out.perm pl1 ?_
  refine Out.drop ?_
  refine Out.perm pl1 ?_
  refine Out.drop ?_
  exact Out.retRun (L' := []) (results_cell (cs := [.string (⟨#[]⟩), .string (⟨#[]⟩), .bool false, .int .i64 (x), .int .i64 (y)]) Try.results96 Ty.ag56 rfl rfl (fun w h => h.range 0 rfl rfl)) ⟨rfl, rfl⟩ (fun w h => h.drop)
set_option maxRecDepth 100000 in
set_option maxHeartbeats 2000000 in
theorem so_b (u v : Value) (x y : List UInt8) : Does Try.prog 96 [.agg #[.iface 132 (u), .iface 132 (v)]] [Byts u x, Byts v y] (fun res L => res = .agg #[.string (⟨x.toArray⟩), .string (⟨y.toArray⟩), .bool false, .int .i64 0, .int .i64 0] ∧ L = [Byts u x, Byts v y]) := by
  refine Does.enter 66 Try.func96 rfl rfl rfl fun W F => ?_
  show WPc _ _ _ _ _ [(0, .agg #[.iface 132 (u), .iface 132 (v)])] (Byts u x :: Byts v y :: F)
  refine WPc.seq ?_
  refine WPc.region ?_
  refine WP.eff rfl rfl rfl (Eff.box (C := [.iface 132 (u), .iface 132 (v)]) rfl rfl rfl) ?_
  rintro _ _ ⟨b1, rfl, rfl⟩
  refine WP.eff rfl rfl rfl (Eff.alloc rfl Ty.z56) ?_
  rintro _ _ ⟨b2, rfl, rfl⟩
  refine WP.nil ?_
  refine Out.next ?_
  refine WPc.seq ?_
  refine WPc.region ?_
  refine WP.val rfl rfl rfl (Val.mk (cs := [.string (⟨#[]⟩), .string (⟨#[]⟩), .bool false, .int .i64 0, .int .i64 0]) rfl rfl (fun _ => by kernel_rfl)) ?_
  refine WP.eff rfl rfl rfl (Eff.alloc rfl Ty.z56) ?_
  rintro _ _ ⟨b3, rfl, rfl⟩
  refine WP.eff0 rfl rfl (Eff.storeAgg (cs := [.string (⟨#[]⟩), .string (⟨#[]⟩), .bool false, .int .i64 0, .int .i64 0]) (C' := [.string (⟨#[]⟩), .string (⟨#[]⟩), .bool false, .int .i64 0, .int .i64 0]) rfl Ty.ag56 rfl rfl rfl rfl (by simp) rfl) ?_
  rintro _ _ rfl
  refine WP.nil ?_
  refine Out.next ?_
  refine WPc.seq ?_
  refine WPc.seq ?_
  refine WPc.region ?_
  refine WP.val rfl rfl rfl (Val.fieldAddr (j := 0) rfl Ty.fo172_0 rfl rfl) ?_
  refine WP.val rfl rfl rfl (Val.load rfl Ty.sc170 rfl (fun w h => h.cell 2 rfl rfl)) ?_
  refine WP.nil ?_
  refine Out.next ?_
  refine WPc.block ?_
  refine WPc.seq ?_
  refine WPc.region ?_
  refine WP.val rfl rfl rfl (Val.assertN (z := .string (⟨#[]⟩)) rfl Ty.ni134 (fun _ => by kernel_rfl) rfl rfl) ?_
  refine WP.val rfl rfl rfl (Val.extract rfl rfl rfl) ?_
  refine WP.val rfl rfl rfl (Val.extract rfl rfl rfl) ?_
  refine WP.nil ?_
  refine Out.next ?_
  refine WPc.condF rfl rfl ?_
  refine WPc.seq ?_
  refine WPc.region ?_
  refine WP.val rfl rfl rfl (Val.assertN (z := .string (⟨#[]⟩)) rfl Ty.ni130 (fun _ => by kernel_rfl) rfl rfl) ?_
  refine WP.val rfl rfl rfl (Val.extract rfl rfl rfl) ?_
  refine WP.val rfl rfl rfl (Val.extract rfl rfl rfl) ?_
  refine WP.nil ?_
  refine Out.next ?_
  refine WPc.condF rfl rfl ?_
  refine WPc.seq ?_
  refine WPc.region ?_
  refine WP.val rfl rfl rfl (Val.assertY rfl Ty.ni132 rfl) ?_
  refine WP.val rfl rfl rfl (Val.extract rfl rfl rfl) ?_
  refine WP.val rfl rfl rfl (Val.extract rfl rfl rfl) ?_
  refine WP.nil ?_
  refine Out.next ?_
  refine WPc.condT rfl rfl ?_
  refine WPc.seq ?_
  refine WPc.region ?_
  refine WP.val rfl rfl rfl (Val.assign rfl rfl) ?_
  refine WP.nil ?_
  refine Out.next ?_
  refine WPc.region ?_
  refine WP.val rfl rfl rfl (Val.move rfl rfl) ?_
  refine WP.val rfl rfl rfl (show Val _ _ _ _ _ (.string (⟨x.toArray⟩)) from Val.str rfl Ty.by132 Ty.st9 rfl (fun w h => h.at 3 rfl)) ?_
  refine WP.val rfl rfl rfl (Val.fieldAddr (j := 0) rfl Ty.fo56_0 rfl rfl) ?_
  refine WP.val rfl rfl rfl (Val.fieldAddr (j := 0) rfl Ty.fo54_0 rfl rfl) ?_
  refine WP.eff0 rfl rfl (Eff.store rfl Ty.sc9 rfl rfl rfl (by simp) st0) ?_
  rintro _ _ rfl
  refine WP.nil ?_
  refine Out.block ?_
  refine Out.next ?_
  refine WPc.seq ?_
  refine WPc.seq ?_
  refine WPc.region ?_
  refine WP.val rfl rfl rfl (Val.fieldAddr (j := 1) rfl Ty.fo172_1 rfl rfl) ?_
  refine WP.val rfl rfl rfl (Val.load rfl Ty.sc170 rfl (fun w h => h.cell 2 rfl rfl)) ?_
  refine WP.nil ?_
  refine Out.next ?_
  refine WPc.block ?_
  refine WPc.seq ?_
  refine WPc.region ?_
  refine WP.val rfl rfl rfl (Val.assertN (z := .string (⟨#[]⟩)) rfl Ty.ni134 (fun _ => by kernel_rfl) rfl rfl) ?_
  refine WP.val rfl rfl rfl (Val.extract rfl rfl rfl) ?_
  refine WP.val rfl rfl rfl (Val.extract rfl rfl rfl) ?_
  refine WP.nil ?_
  refine Out.next ?_
  refine WPc.condF rfl rfl ?_
  refine WPc.seq ?_
  refine WPc.region ?_
  refine WP.val rfl rfl rfl (Val.assertN (z := .string (⟨#[]⟩)) rfl Ty.ni130 (fun _ => by kernel_rfl) rfl rfl) ?_
  refine WP.val rfl rfl rfl (Val.extract rfl rfl rfl) ?_
  refine WP.val rfl rfl rfl (Val.extract rfl rfl rfl) ?_
  refine WP.nil ?_
  refine Out.next ?_
  refine WPc.condF rfl rfl ?_
  refine WPc.seq ?_
  refine WPc.region ?_
  refine WP.val rfl rfl rfl (Val.assertY rfl Ty.ni132 rfl) ?_
  refine WP.val rfl rfl rfl (Val.extract rfl rfl rfl) ?_
  refine WP.val rfl rfl rfl (Val.extract rfl rfl rfl) ?_
  refine WP.nil ?_
  refine Out.next ?_
  refine WPc.condT rfl rfl ?_
  refine WPc.seq ?_
  refine WPc.region ?_
  refine WP.val rfl rfl rfl (Val.assign rfl rfl) ?_
  refine WP.nil ?_
  refine Out.next ?_
  refine WPc.region ?_
  refine WP.val rfl rfl rfl (Val.move rfl rfl) ?_
  refine WP.val rfl rfl rfl (show Val _ _ _ _ _ (.string (⟨y.toArray⟩)) from Val.str rfl Ty.by132 Ty.st9 rfl (fun w h => h.at 4 rfl)) ?_
  refine WP.val rfl rfl rfl (Val.fieldAddr (j := 0) rfl Ty.fo56_0 rfl rfl) ?_
  refine WP.val rfl rfl rfl (Val.fieldAddr (j := 1) rfl Ty.fo54_1 rfl rfl) ?_
  refine WP.eff0 rfl rfl (Eff.store rfl Ty.sc9 rfl rfl rfl (by simp) st1) ?_
  rintro _ _ rfl
  refine WP.nil ?_
  refine Out.block ?_
  refine Out.next ?_
  refine WPc.seq ?_
  refine WPc.region ?_
  refine WP.val rfl rfl rfl (Val.loadAgg (cs := [.string (⟨x.toArray⟩), .string (⟨y.toArray⟩), .bool false, .int .i64 0, .int .i64 0]) rfl Ty.ag56 rfl rfl (fun w h => h.range 0 rfl rfl)) ?_
  refine WP.perm pl1 ?_
  refine WP.eff0 rfl rfl (Eff.storeAgg (cs := [.string (⟨x.toArray⟩), .string (⟨y.toArray⟩), .bool false, .int .i64 0, .int .i64 0]) (C' := [.string (⟨x.toArray⟩), .string (⟨y.toArray⟩), .bool false, .int .i64 0, .int .i64 0]) rfl Ty.ag56 rfl rfl rfl rfl (by simp) rfl) ?_
  rintro _ _ rfl
  refine WP.nil ?_
  refine Out.next ?_
  refine WPc.ret ?_
  refine Out.perm pl1 ?_
  refine Out.drop ?_
  refine Out.perm pl1 ?_
  refine Out.drop ?_
  exact Out.retRun (L' := [Byts u x, Byts v y]) (results_cell (cs := [.string (⟨x.toArray⟩), .string (⟨y.toArray⟩), .bool false, .int .i64 0, .int .i64 0]) Try.results96 Ty.ag56 rfl rfl (fun w h => h.range 0 rfl rfl)) ⟨rfl, rfl⟩ (fun w h => h.drop)

end Go.Proofs.Ytbomnihiapjmpaa.Tu

namespace Go.Proofs.Ytbomnihiapjmpaa.Tv
open Go.RowKit Go.Proofs.Ytbomnihiapjmpaa Go.Proofs.Ytbomnihiapjmpaa.Sl Go.Proofs.Ytbomnihiapjmpaa.TrP Go.Proofs.Ytbomnihiapjmpaa.Ta Go.Proofs.Ytbomnihiapjmpaa.Tc Go.Proofs.Ytbomnihiapjmpaa.Td Go.Proofs.Ytbomnihiapjmpaa.Te Go.Proofs.Ytbomnihiapjmpaa.Tf Go.Proofs.Ytbomnihiapjmpaa.Tg Go.Proofs.Ytbomnihiapjmpaa.Th Go.Proofs.Ytbomnihiapjmpaa.Ti Go.Proofs.Ytbomnihiapjmpaa.Tk Go.Proofs.Ytbomnihiapjmpaa.Ts Go.Proofs.Ytbomnihiapjmpaa.Tu
set_option linter.unusedVariables false
set_option linter.unusedSimpArgs false
set_option linter.unusedSectionVars false


/-- the text of an end -/
def txt (k : Ky) : ByteArray := ⟨(if k.t = 1 then [] else k.l).toArray⟩
theorem ba_list (x : ByteArray) : (⟨x.toList.toArray⟩ : ByteArray) = x := by
  rw [ByteArray.toList_eq]
theorem txt_ka (x : ByteArray) : txt (ka x) = x := by
  unfold txt ka
  by_cases h : x.size = 0
  · rw [if_pos h]
    have e : x.data.toList = [] := List.eq_nil_of_length_eq_zero (by rw [Array.length_toList]; exact h)
    have := ba_list x
    rw [ByteArray.toList_eq, e] at this
    exact this
  · rw [if_neg h]
    exact ba_list x
theorem txt_ks (x : ByteArray) : txt (ks x) = x := ba_list x
theorem txt_kb (l : List UInt8) : txt (kb l) = ⟨l.toArray⟩ := by
  unfold txt kb
  by_cases h : l.length = 0
  · rw [if_pos h, List.eq_nil_of_length_eq_zero h]; rfl
  · rw [if_neg h]; rfl
theorem n_ka (x : ByteArray) : (ka x).n = 0 := by unfold ka; split <;> rfl
theorem n_kb (x : List UInt8) : (kb x).n = 0 := by unfold kb; split <;> rfl
def spo (eb ee : En) : List Value := [.string (txt eb.k), .string (txt ee.k), .bool false, .int .i64 eb.k.n, .int .i64 ee.k.n]
theorem so_does {EL : List En} {eb ee : En} (hb : eb ∈ EL) (he : ee ∈ EL) (ht : eb.t = ee.t) : Does Try.prog 96 [.agg #[.iface eb.t eb.u, .iface ee.t ee.u]] [Ens EL] (fun res L => res = .agg (spo eb ee).toArray ∧ L = [Ens EL]) := fun W F w hs => by
  have hs : Sat W (Enp ee :: Enp eb :: Ens EL :: F) w := ((Sat.allGet hb hs).perm pl1 |>.allGet he |>.perm (List.Perm.cons _ pl1))
  obtain ⟨eb', et', eu'⟩ := eb
  obtain ⟨ek2, et2, eu2⟩ := ee
  dsimp only at ht
  subst ht
  obtain ⟨x2, hs⟩ := hs.ex
  obtain ⟨x1, hs⟩ := (hs.perm pl1).ex
  cases x1 with
  | a s =>
    obtain ⟨rfl, rfl, rfl⟩ := hs.pure
    have hs := hs.drop
    cases x2 with
    | a t =>
      obtain ⟨rfl, -, rfl⟩ := hs.pure
      refine (so_a s t W (Ens EL :: F) w hs.drop).mono ?_
      rintro e w' ⟨v, L', h1, ⟨rfl, rfl⟩, h4⟩
      exact ⟨_, _, h1, ⟨by unfold spo; simp only [txt_ka, n_ka], rfl⟩, h4⟩
    | s t => have h0 := hs.pure.2.1; exact absurd h0 (by simp)
    | i t => have h0 := hs.pure.2.1; exact absurd h0 (by simp)
    | b t => have h0 := hs.sep.pure.2; exact absurd h0 (by simp)
  | s s =>
    obtain ⟨rfl, rfl, rfl⟩ := hs.pure
    have hs := hs.drop
    cases x2 with
    | s t =>
      obtain ⟨rfl, -, rfl⟩ := hs.pure
      refine (so_s s t W (Ens EL :: F) w hs.drop).mono ?_
      rintro e w' ⟨v, L', h1, ⟨rfl, rfl⟩, h4⟩
      exact ⟨_, _, h1, ⟨by unfold spo; simp only [txt_ks]; rfl, rfl⟩, h4⟩
    | a t => have h0 := hs.pure.2.1; exact absurd h0 (by simp)
    | i t => have h0 := hs.pure.2.1; exact absurd h0 (by simp)
    | b t => have h0 := hs.sep.pure.2; exact absurd h0 (by simp)
  | i s =>
    obtain ⟨rfl, rfl, rfl, -⟩ := hs.pure
    have hs := hs.drop
    cases x2 with
    | i t =>
      obtain ⟨rfl, -, rfl, -⟩ := hs.pure
      refine (so_i s t W (Ens EL :: F) w hs.drop).mono ?_
      rintro e w' ⟨v, L', h1, ⟨rfl, rfl⟩, h4⟩
      exact ⟨_, _, h1, ⟨rfl, rfl⟩, h4⟩
    | a t => have h0 := hs.pure.2.1; exact absurd h0 (by simp)
    | s t => have h0 := hs.pure.2.1; exact absurd h0 (by simp)
    | b t => have h0 := hs.sep.pure.2; exact absurd h0 (by simp)
  | b s =>
    have hs : Sat W (Pure (eb' = kb s ∧ et' = 132) :: Byts eu' s :: _) w := hs.sep
    obtain ⟨rfl, rfl⟩ := hs.pure
    have hs := hs.drop.perm pl1
    cases x2 with
    | b t =>
      have hs : Sat W (Pure (ek2 = kb t ∧ (132 : TypeId) = 132) :: Byts eu2 t :: _) w := hs.sep
      obtain ⟨rfl, -⟩ := hs.pure
      refine (so_b eu' eu2 s t W (Ens EL :: F) w (hs.drop.perm pl1)).mono ?_
      rintro e w' ⟨v, L', h1, ⟨rfl, rfl⟩, h4⟩
      exact ⟨_, [Ens EL], h1, ⟨by unfold spo; simp only [txt_kb, n_kb], rfl⟩, Sat.drop (Sat.drop h4)⟩
    | a t => have h0 := hs.pure.2.1; exact absurd h0 (by simp)
    | s t => have h0 := hs.pure.2.1; exact absurd h0 (by simp)
    | i t => have h0 := hs.pure.2.1; exact absurd h0 (by simp)

end Go.Proofs.Ytbomnihiapjmpaa.Tv

namespace Go.Proofs.Ytbomnihiapjmpaa.Tw
open Go.RowKit Go.Proofs.Ytbomnihiapjmpaa Go.Proofs.Ytbomnihiapjmpaa.Sl Go.Proofs.Ytbomnihiapjmpaa.TrP Go.Proofs.Ytbomnihiapjmpaa.Tc Go.Proofs.Ytbomnihiapjmpaa.Td Go.Proofs.Ytbomnihiapjmpaa.Te Go.Proofs.Ytbomnihiapjmpaa.Tf Go.Proofs.Ytbomnihiapjmpaa.Tg Go.Proofs.Ytbomnihiapjmpaa.Th Go.Proofs.Ytbomnihiapjmpaa.Ti Go.Proofs.Ytbomnihiapjmpaa.Tk Go.Proofs.Ytbomnihiapjmpaa.Ts Go.Proofs.Ytbomnihiapjmpaa.Tu Go.Proofs.Ytbomnihiapjmpaa.Tv
set_option linter.unusedVariables false
set_option linter.unusedSimpArgs false
set_option linter.unusedSectionVars false


theorem sto_iv {S : St} {D : List Nat} {x : Nat} {w : World} (h : Holds (Sto S D) w) (hx : x ∈ D) : w.rangeAt x 0 [.iface (S x).it.b.t (S x).it.b.u, .iface (S x).it.e.t (S x).it.e.u] :=
  Holds.cell_range (C := (S x).cells) (T := 177) (h.kds hx) rfl
set_option maxRecDepth 100000 in
set_option maxHeartbeats 2000000 in
theorem rec_does (EL : List En) (t0 : TypeId) (hE : ∀ e ∈ EL, e.t = t0) (s : Nat) (D : List Nat) (S : St) (ok : Ok s EL D S) (i : Nat) (hi : i ∈ D) (n : Int) (hval : (S i).it.v = .iface 3 (.int .i64 n)) (an : Nat) (b : Bool) (cn mo : Int) (lv vv : Value) (m : Nat) (hm : m ≤ 100000) (xs ys : List Value) : Does Try.prog 95 [.pointer (some ⟨i, 0, none⟩), .pointer (some ⟨an, 0, none⟩)] [Blk an [.bool (b), .int .i64 (cn), .int .i64 (mo), lv, vv] 62, Own 56 5 lv m xs, Own 3 1 vv m ys, Ens EL, Sto S D] (fun _ L => ∃ l2 v2, L = [Blk an [.bool b, .int .i64 cn, .int .i64 mo, l2, v2] 62, Own 56 5 l2 (m + 1) (xs ++ spo (S i).it.b (S i).it.e), Own 3 1 v2 (m + 1) (ys ++ [.int .i64 n]), Ens EL, Sto S D]) := by
  refine Does.enter 23 Try.func95 rfl rfl rfl fun W F => ?_
  show WPc _ _ _ _ _ [(0, .pointer (some ⟨i, 0, none⟩)), (1, .pointer (some ⟨an, 0, none⟩))] (Blk an [.bool (b), .int .i64 (cn), .int .i64 (mo), lv, vv] 62 :: Own 56 5 lv m xs :: Own 3 1 vv m ys :: Ens EL :: Sto S D :: F)
  refine WPc.seq ?_
  refine WPD.start (Sat W [Blk an [.bool (b), .int .i64 (cn), .int .i64 (mo), lv, vv] 62, Sto S D]) Ty.mixed ?_
  refine WPD.takeM 0 rfl rfl rfl rfl (by kernel_rfl) (by kernel_rfl) (by kernel_rfl) (by kernel_rfl) (fun _ _ _ h => h) (fun w h => (((h.perm pl4).perm pl1)).dropEnd (L := [_, _])) (Val.fieldAddr (j := 3) rfl Ty.fo62_3 rfl rfl) ?_
  refine WPD.take 1 rfl rfl rfl rfl (by kernel_rfl) (by kernel_rfl) (by kernel_rfl) (by kernel_rfl) (fun _ _ _ h => h) (by kernel_rfl) (fun w h => (((h.perm pl4).perm pl1)).dropEnd (L := [_, _])) (Val.load rfl Ty.sc57 rfl (fun w h => h.cell 0 rfl rfl)) ?_
  refine WPD.takeM 2 rfl rfl rfl rfl (by kernel_rfl) (by kernel_rfl) (by kernel_rfl) (by kernel_rfl) (fun _ _ _ h => h) (fun w h => (((h.perm pl4).perm pl1)).dropEnd (L := [_, _])) (Val.move rfl rfl) ?_
  refine WPD.takeM 3 rfl rfl rfl rfl (by kernel_rfl) (by kernel_rfl) (by kernel_rfl) (by kernel_rfl) (fun _ _ _ h => h) (fun w h => (((h.perm pl4).perm pl1)).dropEnd (L := [_, _])) (Val.nilCheck rfl rfl) ?_
  refine WPD.takeM 4 rfl rfl rfl rfl (by kernel_rfl) (by kernel_rfl) (by kernel_rfl) (by kernel_rfl) (fun _ _ _ h => h) (fun w h => (((h.perm pl4).perm pl1)).dropEnd (L := [_, _])) (Val.fieldAddr (j := 0) rfl Ty.fo174_0 rfl rfl) ?_
  refine WPD.take 5 rfl rfl rfl rfl (by kernel_rfl) (by kernel_rfl) (by kernel_rfl) (by kernel_rfl) (fun _ _ _ h => h) (by kernel_rfl) (fun w h => (((h.perm pl4).perm pl1)).dropEnd (L := [_, _])) (Val.loadAgg (cs := [.iface (S i).it.b.t (S i).it.b.u, .iface (S i).it.e.t (S i).it.e.u]) rfl Ty.ag172 rfl rfl (fun w h => sto_iv (h.at 1 rfl) hi)) ?_
  refine WPD.perm pl3 ?_
  refine WPD.step 6 (by kernel_rfl) rfl rfl rfl rfl (Eff.call rfl rfl Try.call96 (so_does (Ok.b ok hi) (Ok.e ok hi) ((hE _ (Ok.b ok hi)).trans (hE _ (Ok.e ok hi)).symm))) ?_
  rintro _ _ ⟨_, ⟨rfl, rfl⟩, rfl⟩
  refine ⟨(fun w h => (((h.perm pl4).perm pl2)).dropEnd (L := [_, _])), ?_⟩
  show WPD _ _ _ _ _ _ _ _ _ (Ens EL :: Blk an [.bool (b), .int .i64 (cn), .int .i64 (mo), lv, vv] 62 :: Own 56 5 lv m xs :: Own 3 1 vv m ys :: Sto S D :: F)
  refine WPD.step 7 (by kernel_rfl) rfl rfl rfl rfl (Eff.mkSlice (C := [.string (txt (S i).it.b.k), .string (txt (S i).it.e.k), .bool false, .int .i64 ((S i).it.b.k.n), .int .i64 ((S i).it.e.k.n)]) rfl Ty.sl57 rfl (fun _ => by kernel_rfl)) ?_
  rintro _ _ ⟨b1, rfl, rfl⟩
  refine ⟨(fun w h => (((h.perm pl5).perm pl3)).dropEnd (L := [_, _])), ?_⟩
  refine WPD.perm pl3 ?_
  refine WPD.stepC 8 (by kernel_rfl) rfl rfl rfl rfl (by kernel_rfl) (Eff.append (m := 1) (n0 := m) (news := [.string (txt (S i).it.b.k), .string (txt (S i).it.e.k), .bool false, .int .i64 ((S i).it.b.k.n), .int .i64 ((S i).it.e.k.n)]) rfl Ty.sl57 Ty.z56 rfl rfl rfl (.slice Ty.sl57 rfl rfl (fun w h => cells_range (h.range 1 rfl rfl))) (by omega) (by omega)) ?_
  rintro v2 _ ⟨onev2, rfl⟩
  refine ⟨(Sat W (Own 56 5 v2 (m + 1) (xs ++ ([.string (txt (S i).it.b.k), .string (txt (S i).it.e.k), .bool false, .int .i64 ((S i).it.b.k.n), .int .i64 ((S i).it.e.k.n)])) :: Blk b1 [.string (txt (S i).it.b.k), .string (txt (S i).it.e.k), .bool false, .int .i64 ((S i).it.b.k.n), .int .i64 ((S i).it.e.k.n)] 56 :: Ens EL :: Blk an [.bool (b), .int .i64 (cn), .int .i64 (mo), lv, vv] 62 :: Own 3 1 vv m ys :: Sto S D :: F)), (fun _ h => h), ?_⟩
  refine WPD.takeM 9 rfl rfl rfl rfl (by kernel_rfl) (by kernel_rfl) (by kernel_rfl) (by kernel_rfl) (fun _ _ _ h => h) (fun _ h => h) (Val.fieldAddr (j := 3) rfl Ty.fo62_3 rfl rfl) ?_
  refine WPD.perm pl3 ?_
  refine WPD.stepC0 10 (by kernel_rfl) rfl rfl rfl (by kernel_rfl) (Eff.store rfl Ty.sc57 rfl rfl onev2 (by simp) st3) ?_
  rintro _ _ rfl
  refine ⟨(Sat W (Blk an [.bool (b), .int .i64 (cn), .int .i64 (mo), v2, vv] 62 :: Own 56 5 v2 (m + 1) (xs ++ ([.string (txt (S i).it.b.k), .string (txt (S i).it.e.k), .bool false, .int .i64 ((S i).it.b.k.n), .int .i64 ((S i).it.e.k.n)])) :: Blk b1 [.string (txt (S i).it.b.k), .string (txt (S i).it.e.k), .bool false, .int .i64 ((S i).it.b.k.n), .int .i64 ((S i).it.e.k.n)] 56 :: Ens EL :: Own 3 1 vv m ys :: Sto S D :: F)), (fun _ h => h), ?_⟩
  refine WPD.done (by kernel_rfl) ?_
  refine Out.next ?_
  refine WPD.start (Sat W [Blk an [.bool (b), .int .i64 (cn), .int .i64 (mo), v2, vv] 62, Sto S D]) Ty.mixed ?_
  refine WPD.takeM 0 rfl rfl rfl rfl (by kernel_rfl) (by kernel_rfl) (by kernel_rfl) (by kernel_rfl) (fun _ _ _ h => h) (fun w h => (((h.perm pl5).perm pl1)).dropEnd (L := [_, _])) (Val.fieldAddr (j := 4) rfl Ty.fo62_4 rfl rfl) ?_
  refine WPD.take 1 rfl rfl rfl rfl (by kernel_rfl) (by kernel_rfl) (by kernel_rfl) (by kernel_rfl) (fun _ _ _ h => h) (by kernel_rfl) (fun w h => (((h.perm pl5).perm pl1)).dropEnd (L := [_, _])) (Val.load rfl Ty.sc58 rfl (fun w h => h.cell 0 rfl rfl)) ?_
  refine WPD.takeM 2 rfl rfl rfl rfl (by kernel_rfl) (by kernel_rfl) (by kernel_rfl) (by kernel_rfl) (fun _ _ _ h => h) (fun w h => (((h.perm pl5).perm pl1)).dropEnd (L := [_, _])) (Val.move rfl rfl) ?_
  refine WPD.takeM 3 rfl rfl rfl rfl (by kernel_rfl) (by kernel_rfl) (by kernel_rfl) (by kernel_rfl) (fun _ _ _ h => h) (fun w h => (((h.perm pl5).perm pl1)).dropEnd (L := [_, _])) (Val.nilCheck rfl rfl) ?_
  refine WPD.takeM 4 rfl rfl rfl rfl (by kernel_rfl) (by kernel_rfl) (by kernel_rfl) (by kernel_rfl) (fun _ _ _ h => h) (fun w h => (((h.perm pl5).perm pl1)).dropEnd (L := [_, _])) (Val.fieldAddr (j := 2) rfl Ty.fo174_1 rfl rfl) ?_
  refine WPD.take 5 rfl rfl rfl rfl (by kernel_rfl) (by kernel_rfl) (by kernel_rfl) (by kernel_rfl) (fun _ _ _ h => h) (by kernel_rfl) (fun w h => (((h.perm pl5).perm pl1)).dropEnd (L := [_, _])) (Val.load (v := .iface 3 (.int .i64 (n))) rfl Ty.sc20 rfl (fun w h => sto_v (h.at 1 rfl) hi hval)) ?_
  refine WPD.take 6 rfl rfl rfl rfl (by kernel_rfl) (by kernel_rfl) (by kernel_rfl) (by kernel_rfl) (fun _ _ _ h => h) (by kernel_rfl) (fun w h => (((h.perm pl5).perm pl1)).dropEnd (L := [_, _])) (Val.assertC rfl Ty.ni3 rfl) ?_
  refine WPD.step 7 (by kernel_rfl) rfl rfl rfl rfl (Eff.mkSlice (C := [.int .i64 (n)]) rfl Ty.sl58 rfl (fun _ => by kernel_rfl)) ?_
  rintro _ _ ⟨b3, rfl, rfl⟩
  refine ⟨(fun w h => (((h.perm pl6).perm pl2)).dropEnd (L := [_, _])), ?_⟩
  refine WPD.perm pl5 ?_
  refine WPD.stepC 8 (by kernel_rfl) rfl rfl rfl rfl (by kernel_rfl) (Eff.append (m := 1) (n0 := m) (news := [.int .i64 (n)]) rfl Ty.sl58 Ty.z3 rfl rfl rfl (.slice Ty.sl58 rfl rfl (fun w h => cells_range (h.range 1 rfl rfl))) (by omega) (by omega)) ?_
  rintro v4 _ ⟨onev4, rfl⟩
  refine ⟨(Sat W (Own 3 1 v4 (m + 1) (ys ++ ([.int .i64 (n)])) :: Blk b3 [.int .i64 (n)] 3 :: Blk an [.bool (b), .int .i64 (cn), .int .i64 (mo), v2, vv] 62 :: Own 56 5 v2 (m + 1) (xs ++ ([.string (txt (S i).it.b.k), .string (txt (S i).it.e.k), .bool false, .int .i64 ((S i).it.b.k.n), .int .i64 ((S i).it.e.k.n)])) :: Blk b1 [.string (txt (S i).it.b.k), .string (txt (S i).it.e.k), .bool false, .int .i64 ((S i).it.b.k.n), .int .i64 ((S i).it.e.k.n)] 56 :: Ens EL :: Sto S D :: F)), (fun _ h => h), ?_⟩
  refine WPD.takeM 9 rfl rfl rfl rfl (by kernel_rfl) (by kernel_rfl) (by kernel_rfl) (by kernel_rfl) (fun _ _ _ h => h) (fun _ h => h) (Val.fieldAddr (j := 4) rfl Ty.fo62_4 rfl rfl) ?_
  refine WPD.perm pl2 ?_
  refine WPD.stepC0 10 (by kernel_rfl) rfl rfl rfl (by kernel_rfl) (Eff.store rfl Ty.sc58 rfl rfl onev4 (by simp) st4) ?_
  rintro _ _ rfl
  refine ⟨(Sat W (Blk an [.bool (b), .int .i64 (cn), .int .i64 (mo), v2, v4] 62 :: Own 3 1 v4 (m + 1) (ys ++ ([.int .i64 (n)])) :: Blk b3 [.int .i64 (n)] 3 :: Own 56 5 v2 (m + 1) (xs ++ ([.string (txt (S i).it.b.k), .string (txt (S i).it.e.k), .bool false, .int .i64 ((S i).it.b.k.n), .int .i64 ((S i).it.e.k.n)])) :: Blk b1 [.string (txt (S i).it.b.k), .string (txt (S i).it.e.k), .bool false, .int .i64 ((S i).it.b.k.n), .int .i64 ((S i).it.e.k.n)] 56 :: Ens EL :: Sto S D :: F)), (fun _ h => h), ?_⟩
  refine WPD.done (by kernel_rfl) ?_
  refine Out.perm pl2 ?_
  refine Out.drop ?_
  refine Out.perm pl3 ?_
  refine Out.drop ?_
  refine Out.perm pl4 ?_
  refine Out.perm pl4 ?_
  refine Out.perm pl3 ?_
  refine Out.perm pl4 ?_
  refine Out.perm pl4 ?_
  exact Out.end0 (L' := _) Try.results95 ⟨v2, v4, rfl⟩ (fun _ h => h)

end Go.Proofs.Ytbomnihiapjmpaa.Tw

namespace Go.Proofs.Ytbomnihiapjmpaa.Sl
open Go.RowKit Go.Lib
set_option linter.unusedSectionVars false
set_option linter.unusedVariables false
section
variable [Dfs]
variable {P : Program} {W : World} {ops : Array Oper} {Q : Exit → Act → World → Prop} {rest : List Oper} {n : Nat} {l : List (Nat × Value)} {L : List HProp} {o : Oper}
/-! short forms of the rules, for walks that would grow too long -/
theorem WPc.c1 {c : Code} {A B : HProp} (hi : ∀ w, Sat W (A :: L) w → Sat W (B :: L) w) (h : WPc P W c Q n l (B :: L)) : WPc P W c Q n l (A :: L) := h.conv hi
theorem WP.c1 {A B : HProp} (hi : ∀ w, Sat W (A :: L) w → Sat W (B :: L) w) (h : WP P W ops Q rest n l (B :: L)) : WP P W ops Q rest n l (A :: L) := h.conv hi
theorem Out.c1 {e : Exit} {A B : HProp} (hi : ∀ w, Sat W (A :: L) w → Sat W (B :: L) w) (h : Out W Q e n l (B :: L)) : Out W Q e n l (A :: L) := h.conv hi
theorem WPD.c1 {S : World → Prop} {fuel : Nat} {listed : Array Bool} {A B : HProp} (hi : ∀ w, Sat W (A :: L) w → Sat W (B :: L) w) (h : WPD P W ops Q S fuel listed n l (B :: L)) : WPD P W ops Q S fuel listed n l (A :: L) := h.conv hi
theorem WPD.s0 {id : Nat} {ops : Array Oper} (hm : P.follows .mixedOrders = true) (h : WPD P W ops Q (Sat W L) ops.size (Array.replicate ops.size false) n l L) : WPc P W (.region id ops true) Q n l L := WPD.start _ hm h
theorem WPD.tM {S : World → Prop} {fuel : Nat} {listed : Array Bool} {d : Tmp} {v : Value} (i : Nat) (hi : ops[i]? = some o) (hg : o.guard = none) (hd : o.dst = some d) (hlt : Nat.ble (d + 1) n = true)
    (hv : Val P n l (fun _ => True) o v)
    (h : WPD P W ops Q S fuel (listed.setIfInBounds i true) n ((d, v) :: l) L)
    (hns : Region.noSelect ops = true := by kernel_rfl) (hfree : Region.free .any ops listed i = true := by kernel_rfl) (hcl : closedB ops listed = true := by kernel_rfl) (hr : (Region.ready .any ops listed).contains i = true := by kernel_rfl)
    (hQ : ∀ c a w, Q (.panic c) (a.put (some d) v) w → Q (.panic c) a w := by exact fun _ _ _ h => h) (hS : ∀ w, Sat W L w → S w := by exact fun _ h => h) : WPD P W ops Q S (fuel + 1) listed n l L :=
  WPD.takeM i hi hg hd hlt hns hfree hcl hr hQ hS hv h
theorem WPD.tS {S : World → Prop} {fuel : Nat} {listed : Array Bool} {d : Tmp} {v : Value} (i : Nat) (hi : ops[i]? = some o) (hg : o.guard = none) (hd : o.dst = some d) (hlt : Nat.ble (d + 1) n = true)
    (hS : ∀ w, Sat W L w → S w) (hv : Val P n l (fun _ => True) o v)
    (h : WPD P W ops Q S fuel (listed.setIfInBounds i true) n ((d, v) :: l) L)
    (hns : Region.noSelect ops = true := by kernel_rfl) (hfree : Region.free .any ops listed i = true := by kernel_rfl) (hcl : closedB ops listed = true := by kernel_rfl) (hr : (Region.ready .any ops listed).contains i = true := by kernel_rfl)
    (hQ : ∀ c a w, Q (.panic c) (a.put (some d) v) w → Q (.panic c) a w := by exact fun _ _ _ h => h) : WPD P W ops Q S (fuel + 1) listed n l L :=
  WPD.takeM i hi hg hd hlt hns hfree hcl hr hQ hS hv h
theorem WPD.tL {S : World → Prop} {fuel : Nat} {listed : Array Bool} {d : Tmp} {v : Value} (i : Nat) (hi : ops[i]? = some o) (hg : o.guard = none) (hd : o.dst = some d) (hlt : Nat.ble (d + 1) n = true)
    (hS : ∀ w, Sat W L w → S w) (hv : Val P n l S o v)
    (h : WPD P W ops Q S fuel (listed.setIfInBounds i true) n ((d, v) :: l) L)
    (hns : Region.noSelect ops = true := by kernel_rfl) (hfree : Region.free .any ops listed i = true := by kernel_rfl) (hcl : closedB ops listed = true := by kernel_rfl) (hr : (Region.ready .any ops listed).contains i = true := by kernel_rfl)
    (hQ : ∀ c a w, Q (.panic c) (a.put (some d) v) w → Q (.panic c) a w := by exact fun _ _ _ h => h) (hmf : memFree ops i = false := by kernel_rfl) : WPD P W ops Q S (fuel + 1) listed n l L :=
  WPD.take i hi hg hd hlt hns hfree hcl hr hQ hmf hS hv h
theorem WPc.sr {id : Nat} {l0 : List Oper} {y : Code} (h : WP P W l0.toArray (Exit.then (y.wp P Q) Q) l0 n l L) : WPc P W (.seq (.region id l0.toArray false) y) Q n l L := WPc.seq (WPc.region h)
theorem WP.nx {y : Code} (h : WPc P W y Q n l L) : WP P W ops (Exit.then (y.wp P Q) Q) [] n l L := WP.nil (Out.next h)
theorem WP.ns {x y : Code} (h : WPc P W x (Exit.then (y.wp P Q) Q) n l L) : WP P W ops (Exit.then ((Code.seq x y).wp P Q) Q) [] n l L := WP.nil (Out.next (WPc.seq h))
theorem Out.ns {x y : Code} (h : WPc P W x (Exit.then (y.wp P Q) Q) n l L) : Out W (Exit.then ((Code.seq x y).wp P Q) Q) .normal n l L := Out.next (WPc.seq h)
end
end Go.Proofs.Ytbomnihiapjmpaa.Sl

namespace Go.Proofs.Ytbomnihiapjmpaa.Sl
open Go.RowKit Go.Lib
set_option linter.unusedVariables false
/-- a test whose answer is known -/
theorem Val.eqlK {P : Program} {n : Nat} {l : List (Nat × Value)} {G : World → Prop} {o : Oper} {t u : TypeId} {x y : Operand} {k : IntKind} {p q : Int} {b : Bool} (ho : o.op = .binOp .eql t x y u) (hx : ev l x = some (.int k p)) (hy : ev l y = some (.int k q)) (hb : decide (p = q) = b) : Val P n l G o (.bool b) := hb ▸ Val.eql ho hx hy
theorem flatOf_append {α : Type} (cf : α → List Value) (l m : List α) : flatOf cf (l ++ m) = flatOf cf l ++ flatOf cf m := by simp [flatOf]
theorem flatOf_one {α : Type} (cf : α → List Value) (x : α) : flatOf cf [x] = cf x := by simp [flatOf]
theorem results_ct {P : Program} {W : World} {fn : Func} {n : Nat} {l : List (Nat × Value)} {L : List HProp} {t u : Tmp} {ty : TypeId} {v : Value} {b k : Nat} {cs : List Value} (hr : fn.results = #[.cell u ty, .tmp t]) (hv : Sl.look l t = some v) (ht : aggS P ty = some k) (hu : Sl.look l u = some (.pointer (some ⟨b, 0, none⟩))) (hk : cs.length = k)
    (hc : ∀ w, Sat W L w → w.rangeAt b 0 cs) : ∀ a w, Fr n a l → Sat W L w → (results fn a.tmps).run P w = .ok (.tuple #[.agg cs.toArray, v]) w := fun a w hf hs => by
  obtain ⟨d, h1, h2, h3⟩ := aggS_row ht
  have := run_loadVar_mid (P := P) w b 0 ty cs d (hc w hs) h1 h2 (by rw [h3, hk])
  have e := hf.at_ u _ hu
  have e2 := hf.at_ t _ hv
  rw [Array.getD_eq_getD_getElem?] at e e2
  simp [results, hr, e, e2, asAddr, this]
end Go.Proofs.Ytbomnihiapjmpaa.Sl

namespace Go.Proofs.Ytbomnihiapjmpaa.Tx
open Go.RowKit Go.Proofs.Ytbomnihiapjmpaa Go.Proofs.Ytbomnihiapjmpaa.Sl Go.Proofs.Ytbomnihiapjmpaa.TrP Go.Proofs.Ytbomnihiapjmpaa.Tb Go.Proofs.Ytbomnihiapjmpaa.Tc Go.Proofs.Ytbomnihiapjmpaa.Td Go.Proofs.Ytbomnihiapjmpaa.Te Go.Proofs.Ytbomnihiapjmpaa.Tf Go.Proofs.Ytbomnihiapjmpaa.Tg Go.Proofs.Ytbomnihiapjmpaa.Th Go.Proofs.Ytbomnihiapjmpaa.Ti Go.Proofs.Ytbomnihiapjmpaa.Tj Go.Proofs.Ytbomnihiapjmpaa.Tk Go.Proofs.Ytbomnihiapjmpaa.Tr Go.Proofs.Ytbomnihiapjmpaa.Ts Go.Proofs.Ytbomnihiapjmpaa.Tu Go.Proofs.Ytbomnihiapjmpaa.Tv
set_option linter.unusedVariables false
set_option linter.unusedSimpArgs false
set_option linter.unusedSectionVars false


theorem Ok.mono {s : Nat} {EL EL' : List En} {D : List Nat} {S : St} (h : Ok s EL D S) (hl : ∀ e ∈ EL, e ∈ EL') : Ok s EL' D S := ⟨h.l, h.r, h.p, fun hi => hl _ (h.b hi), fun hi => hl _ (h.e hi), fun hi => hl _ (h.m hi)⟩
theorem ens_add {W w : World} {L : List HProp} {EL : List En} {eb ee : En} (h : Sat W (Enp eb :: Enp ee :: Ens EL :: L) w) : Sat W (Ens (eb :: ee :: EL) :: L) w := by
  have h1 : Sat W (Ens (ee :: EL) :: Enp eb :: L) w := Sat.allAdd (f := Enp) (x := ee) Enp.pers (fun y hy => List.mem_cons.1 hy) ((h.perm pl2).perm (by exact pl2))
  exact Sat.allAdd (f := Enp) (x := eb) Enp.pers (fun y hy => List.mem_cons.1 hy) (h1.perm pl1)
set_option maxRecDepth 100000 in
set_option maxHeartbeats 2000000 in
theorem treed_ins (k : Int) (x : Sp) (hkey : x.key.size ≤ 2147483647) (hfin : x.fin.size ≤ 2147483647) (hk3 : k = 3 → x.one = false ∧ (-2305843009213693952 ≤ x.lo ∧ x.lo ≤ 2305843009213693952) ∧ (-2305843009213693952 ≤ x.hi ∧ x.hi ≤ 2305843009213693952)) (val lim : Int) (ov wv : Value) (hov : ov.oneCell' = true) (hwv : wv.oneCell' = true) (EL : List En) (hE : ∀ e ∈ EL, e.t = kt k) (s : Nat) (D : List Nat) (ZC : List Value) (tb root : Nat) (cnt : Int) (hcnt : 0 ≤ cnt ∧ cnt < 4611686018427387904) (S : St) (ok : Ok s EL D S) (hroot : Is s D root) (n k0 : Nat) (hio : ∀ eb ee : En, eb.k = kB k x → ee.k = kE k x → ∀ z, z ∉ D → z ≠ s → InsOk s n k0 D S root eb ee (3, .int .i64 val) z) : Does Try.prog 66 [.iface 178 (.pointer (some ⟨tb, 0, none⟩)), .int .i64 (k), .agg #[.int .i64 1, .string x.key, .string x.fin, .bool (x.one), .int .i64 (x.lo), .int .i64 (x.hi), .int .i64 (val), .int .i64 (lim), ov, wv]] [Blk tb [.pointer (some ⟨root, 0, none⟩), .int .i64 (cnt), .pointer (some ⟨s, 0, none⟩)] 180, Ens EL, Sto S D, Blk s ZC 177] (fun v L => ∃ eb ee z, v = .agg #[.bool false, .int .i64 0, .int .i64 0, .slice none 0 0, .slice none 0 0] ∧ eb.t = kt k ∧ ee.t = kt k ∧ eb.k = kB k x ∧ ee.k = kE k x ∧ z ∉ D ∧ z ≠ s ∧ L = [Blk tb [.pointer (some ⟨(insF s n k0 S root eb ee (3, .int .i64 val) z).2, 0, none⟩), .int .i64 (cnt + 1), .pointer (some ⟨s, 0, none⟩)] 180, Ens (eb :: ee :: EL), Sto (setC (insF s n k0 S root eb ee (3, .int .i64 val) z).1 (insF s n k0 S root eb ee (3, .int .i64 val) z).2 0) (z :: D), Blk s ZC 177]) := by
  refine Does.enter 133 Try.func66 rfl rfl rfl fun W F => ?_
  show WPc _ _ _ _ _ [(0, .iface 178 (.pointer (some ⟨tb, 0, none⟩))), (1, .int .i64 (k)), (2, .agg #[.int .i64 1, .string x.key, .string x.fin, .bool (x.one), .int .i64 (x.lo), .int .i64 (x.hi), .int .i64 (val), .int .i64 (lim), ov, wv])] (Blk tb [.pointer (some ⟨root, 0, none⟩), .int .i64 (cnt), .pointer (some ⟨s, 0, none⟩)] 180 :: Ens EL :: Sto S D :: Blk s ZC 177 :: F)
  refine WPc.seq ?_
  refine WPc.region ?_
  refine WP.eff rfl rfl rfl (Eff.box (C := [.int .i64 1, .string x.key, .string x.fin, .bool (x.one), .int .i64 (x.lo), .int .i64 (x.hi), .int .i64 (val), .int .i64 (lim), ov, wv]) rfl rfl rfl) ?_
  rintro _ _ ⟨b1, rfl, rfl⟩
  refine WP.eff rfl rfl rfl (Eff.alloc rfl Ty.z62) ?_
  rintro _ _ ⟨b2, rfl, rfl⟩
  refine WP.nil ?_
  refine Out.next ?_
  refine WPc.seq ?_
  refine WPc.region ?_
  refine WP.val rfl rfl rfl (Val.mk (cs := [.bool false, .int .i64 0, .int .i64 0, .slice none 0 0, .slice none 0 0]) rfl rfl (fun _ => by kernel_rfl)) ?_
  refine WP.eff rfl rfl rfl (Eff.alloc rfl Ty.z62) ?_
  rintro _ _ ⟨b3, rfl, rfl⟩
  refine WP.eff0 rfl rfl (Eff.storeAgg (cs := [.bool false, .int .i64 0, .int .i64 0, .slice none 0 0, .slice none 0 0]) (C' := [.bool false, .int .i64 0, .int .i64 0, .slice none 0 0, .slice none 0 0]) rfl Ty.ag62 rfl rfl rfl rfl (by simp) rfl) ?_
  rintro _ _ rfl
  refine WP.nil ?_
  refine Out.next ?_
  refine WPc.seq ?_
  refine WPc.region ?_
  refine WP.val rfl rfl rfl (Val.move rfl rfl) ?_
  refine WP.val rfl rfl rfl (Val.fieldAddr (j := 1) rfl Ty.fo60_1 rfl rfl) ?_
  refine WP.val rfl rfl rfl (Val.loadAgg (cs := [.string x.key, .string x.fin, .bool (x.one), .int .i64 (x.lo), .int .i64 (x.hi)]) rfl Ty.ag56 rfl rfl (fun w h => h.range 2 rfl rfl)) ?_
  refine WP.eff rfl rfl rfl (Eff.call rfl rfl Try.call94 (spanIn_does k x hkey hfin hk3)) ?_
  rintro _ _ ⟨_, ⟨eb, ee, rfl, hbt, het, hbk, hek, rfl⟩, rfl⟩
  show WP _ _ _ _ _ _ _ (Enp eb :: Enp ee :: Blk b3 [.bool false, .int .i64 0, .int .i64 0, .slice none 0 0, .slice none 0 0] 62 :: Blk b2 [.bool false, .int .i64 0, .int .i64 0, .slice none 0 0, .slice none 0 0] 62 :: Blk b1 [.int .i64 1, .string x.key, .string x.fin, .bool (x.one), .int .i64 (x.lo), .int .i64 (x.hi), .int .i64 (val), .int .i64 (lim), ov, wv] 60 :: Blk tb [.pointer (some ⟨root, 0, none⟩), .int .i64 (cnt), .pointer (some ⟨s, 0, none⟩)] 180 :: Ens EL :: Sto S D :: Blk s ZC 177 :: F)
  have hE2 : ∀ e ∈ eb :: ee :: EL, e.t = kt k := fun e he => by rcases List.mem_cons.1 he with rfl | he; exact hbt; rcases List.mem_cons.1 he with rfl | he; exact het; exact hE e he
  have ok2 : Ok s (eb :: ee :: EL) D S := Ok.mono ok (fun e he => List.mem_cons_of_mem _ (List.mem_cons_of_mem _ he))
  refine WP.perm pl6 ?_
  refine WP.perm pl2 ?_
  refine WP.perm pl2 ?_
  refine WP.conv (fun w h => ens_add h) ?_
  show WP _ _ _ _ _ _ _ (Ens (eb :: ee :: EL) :: Blk b3 [.bool false, .int .i64 0, .int .i64 0, .slice none 0 0, .slice none 0 0] 62 :: Blk b2 [.bool false, .int .i64 0, .int .i64 0, .slice none 0 0, .slice none 0 0] 62 :: Blk b1 [.int .i64 1, .string x.key, .string x.fin, .bool (x.one), .int .i64 (x.lo), .int .i64 (x.hi), .int .i64 (val), .int .i64 (lim), ov, wv] 60 :: Blk tb [.pointer (some ⟨root, 0, none⟩), .int .i64 (cnt), .pointer (some ⟨s, 0, none⟩)] 180 :: Sto S D :: Blk s ZC 177 :: F)
  refine WP.eff rfl rfl rfl (Eff.alloc rfl Ty.z172) ?_
  rintro _ _ ⟨b4, rfl, rfl⟩
  refine WP.eff0 rfl rfl (Eff.storeAgg (cs := [.iface eb.t (eb.u), .iface ee.t (ee.u)]) (C' := [.iface eb.t (eb.u), .iface ee.t (ee.u)]) rfl Ty.ag172 rfl rfl rfl rfl (by simp) rfl) ?_
  rintro _ _ rfl
  refine WP.nil ?_
  refine Out.next ?_
  refine WPc.seq ?_
  refine WPc.region ?_
  refine WP.val rfl rfl rfl (Val.mkFunc rfl rfl rfl) ?_
  refine WP.eff rfl rfl rfl (Eff.alloc rfl Ty.z184) ?_
  rintro _ _ ⟨b5, rfl, rfl⟩
  refine WP.eff0 rfl rfl (Eff.store rfl Ty.sc184 rfl rfl rfl (by simp) st0) ?_
  rintro _ _ rfl
  refine WP.nil ?_
  refine Out.next ?_
  refine WPc.seq ?_
  refine WPc.seq ?_
  refine WPc.region ?_
  refine WP.val rfl rfl rfl (Val.fieldAddr (j := 0) rfl Ty.fo60_0 rfl rfl) ?_
  refine WP.val rfl rfl rfl (Val.load rfl Ty.sc3 rfl (fun w h => h.cell 5 rfl rfl)) ?_
  refine WP.nil ?_
  refine Out.next ?_
  refine WPc.block ?_
  refine WPc.seq ?_
  refine WPc.region ?_
  refine WP.val rfl rfl rfl (Val.eqlK rfl rfl rfl rfl) ?_
  refine WP.val rfl rfl rfl (Val.assign rfl rfl) ?_
  refine WP.nil ?_
  refine Out.next ?_
  refine WPc.condT rfl rfl ?_
  refine WPc.region ?_
  refine WP.val rfl rfl rfl (Val.move rfl rfl) ?_
  refine WP.val rfl rfl rfl (Val.loadAgg (cs := [.iface eb.t (eb.u), .iface ee.t (ee.u)]) rfl Ty.ag172 rfl rfl (fun w h => h.range 1 rfl rfl)) ?_
  refine WP.val rfl rfl rfl (Val.fieldAddr (j := 6) rfl Ty.fo60_2 rfl rfl) ?_
  refine WP.val rfl rfl rfl (Val.load rfl Ty.sc3 rfl (fun w h => h.cell 5 rfl rfl)) ?_
  refine WP.val rfl rfl rfl (Val.iface rfl rfl Ty.ni3) ?_
  refine WP.perm pl8 ?_
  refine WP.perm pl8 ?_
  refine WP.perm pl4 ?_
  refine WP.perm pl8 ?_
  refine WP.eff rfl rfl rfl (Eff.invoke (f := 138) rfl rfl rfl (fun _ => by kernel_rfl) Try.call138 (insert_does (eb :: ee :: EL) (kt k) hE2 s D ZC tb root cnt hcnt S ok2 hroot n k0 eb ee List.mem_cons_self (List.mem_cons_of_mem _ List.mem_cons_self) (3, .int .i64 val) (fun z hz hzs => hio eb ee hbk hek z hz hzs))) ?_
  rintro _ _ ⟨_, ⟨z, hz, hzs, rfl⟩, rfl⟩
  show WP _ _ _ _ _ _ _ (Blk tb [.pointer (some ⟨(insF s n k0 S root eb ee (3, .int .i64 val) z).2, 0, none⟩), .int .i64 ((cnt + 1)), .pointer (some ⟨s, 0, none⟩)] 180 :: Ens (eb :: ee :: EL) :: Sto (setC (insF s n k0 S root eb ee (3, .int .i64 val) z).1 (insF s n k0 S root eb ee (3, .int .i64 val) z).2 0) (z :: D) :: Blk s ZC 177 :: Blk b5 [.func (.func 95) #[] #[.pointer (some ⟨b3, 0, none⟩)]] 184 :: Blk b4 [.iface eb.t (eb.u), .iface ee.t (ee.u)] 172 :: Blk b3 [.bool false, .int .i64 0, .int .i64 0, .slice none 0 0, .slice none 0 0] 62 :: Blk b2 [.bool false, .int .i64 0, .int .i64 0, .slice none 0 0, .slice none 0 0] 62 :: Blk b1 [.int .i64 1, .string x.key, .string x.fin, .bool (x.one), .int .i64 (x.lo), .int .i64 (x.hi), .int .i64 (val), .int .i64 (lim), ov, wv] 60 :: F)
  refine WP.nil ?_
  refine Out.block ?_
  refine Out.next ?_
  refine WPc.seq ?_
  refine WPc.region ?_
  refine WP.val rfl rfl rfl (Val.loadAgg (cs := [.bool false, .int .i64 0, .int .i64 0, .slice none 0 0, .slice none 0 0]) rfl Ty.ag62 rfl rfl (fun w h => h.range 6 rfl rfl)) ?_
  refine WP.perm pl7 ?_
  refine WP.eff0 rfl rfl (Eff.storeAgg (cs := [.bool false, .int .i64 0, .int .i64 0, .slice none 0 0, .slice none 0 0]) (C' := [.bool false, .int .i64 0, .int .i64 0, .slice none 0 0, .slice none 0 0]) rfl Ty.ag62 rfl rfl rfl rfl (by simp) rfl) ?_
  rintro _ _ rfl
  refine WP.nil ?_
  refine Out.next ?_
  refine WPc.ret ?_
  refine Out.perm pl5 ?_
  refine Out.drop ?_
  refine Out.perm pl5 ?_
  refine Out.drop ?_
  refine Out.perm pl5 ?_
  refine Out.drop ?_
  refine Out.perm pl5 ?_
  refine Out.drop ?_
  exact Out.retRun (L' := [Blk tb [.pointer (some ⟨(insF s n k0 S root eb ee (3, .int .i64 val) z).2, 0, none⟩), .int .i64 (cnt + 1), .pointer (some ⟨s, 0, none⟩)] 180, Ens (eb :: ee :: EL), Sto (setC (insF s n k0 S root eb ee (3, .int .i64 val) z).1 (insF s n k0 S root eb ee (3, .int .i64 val) z).2 0) (z :: D), Blk s ZC 177]) (results_cell (cs := [.bool false, .int .i64 0, .int .i64 0, .slice none 0 0, .slice none 0 0]) Try.results66 Ty.ag62 rfl rfl (fun w h => h.range 0 rfl rfl)) ⟨eb, ee, z, rfl, hbt, het, hbk, hek, hz, hzs, rfl⟩ (fun w h => h.drop)

end Go.Proofs.Ytbomnihiapjmpaa.Tx

namespace Go.Proofs.Ytbomnihiapjmpaa.TA
open Go.RowKit Go.Proofs.Ytbomnihiapjmpaa Go.Proofs.Ytbomnihiapjmpaa.Sl Go.Proofs.Ytbomnihiapjmpaa.TrP Go.Proofs.Ytbomnihiapjmpaa.Tb Go.Proofs.Ytbomnihiapjmpaa.Tc Go.Proofs.Ytbomnihiapjmpaa.Td Go.Proofs.Ytbomnihiapjmpaa.Te Go.Proofs.Ytbomnihiapjmpaa.Tf Go.Proofs.Ytbomnihiapjmpaa.Tg Go.Proofs.Ytbomnihiapjmpaa.Th Go.Proofs.Ytbomnihiapjmpaa.Ti Go.Proofs.Ytbomnihiapjmpaa.Tj Go.Proofs.Ytbomnihiapjmpaa.Tk Go.Proofs.Ytbomnihiapjmpaa.Tr Go.Proofs.Ytbomnihiapjmpaa.Ts Go.Proofs.Ytbomnihiapjmpaa.Tu Go.Proofs.Ytbomnihiapjmpaa.Tv Go.Proofs.Ytbomnihiapjmpaa.Tx
set_option linter.unusedVariables false
set_option linter.unusedSimpArgs false
set_option linter.unusedSectionVars false


set_option maxRecDepth 100000 in
set_option maxHeartbeats 2000000 in
theorem treed_isect (k : Int) (x : Sp) (hkey : x.key.size ≤ 2147483647) (hfin : x.fin.size ≤ 2147483647) (hk3 : k = 3 → x.one = false ∧ (-2305843009213693952 ≤ x.lo ∧ x.lo ≤ 2305843009213693952) ∧ (-2305843009213693952 ≤ x.hi ∧ x.hi ≤ 2305843009213693952)) (val lim : Int) (ov wv : Value) (hov : ov.oneCell' = true) (hwv : wv.oneCell' = true) (EL : List En) (hE : ∀ e ∈ EL, e.t = kt k) (s : Nat) (D : List Nat) (ZC : List Value) (tb root : Nat) (cnt : Int) (S : St) (ok : Ok s EL D S) (hroot : Is s D root) (T0 : T) (hT : RM s S T0 root s) : Does Try.prog 66 [.iface 178 (.pointer (some ⟨tb, 0, none⟩)), .int .i64 (k), .agg #[.int .i64 6, .string x.key, .string x.fin, .bool (x.one), .int .i64 (x.lo), .int .i64 (x.hi), .int .i64 (val), .int .i64 (lim), ov, wv]] [Blk tb [.pointer (some ⟨root, 0, none⟩), .int .i64 (cnt), .pointer (some ⟨s, 0, none⟩)] 180, Ens EL, Sto S D, Blk s ZC 177] (fun v L => ∃ eb ee, v = .agg #[.bool (isect (kB k x) (kE k x) T0), .int .i64 0, .int .i64 0, .slice none 0 0, .slice none 0 0] ∧ eb.t = kt k ∧ ee.t = kt k ∧ L = [Blk tb [.pointer (some ⟨root, 0, none⟩), .int .i64 cnt, .pointer (some ⟨s, 0, none⟩)] 180, Ens (eb :: ee :: EL), Sto S D, Blk s ZC 177]) := by
  refine Does.enter 133 Try.func66 rfl rfl rfl fun W F => ?_
  show WPc _ _ _ _ _ [(0, .iface 178 (.pointer (some ⟨tb, 0, none⟩))), (1, .int .i64 (k)), (2, .agg #[.int .i64 6, .string x.key, .string x.fin, .bool (x.one), .int .i64 (x.lo), .int .i64 (x.hi), .int .i64 (val), .int .i64 (lim), ov, wv])] (Blk tb [.pointer (some ⟨root, 0, none⟩), .int .i64 (cnt), .pointer (some ⟨s, 0, none⟩)] 180 :: Ens EL :: Sto S D :: Blk s ZC 177 :: F)
  refine WPc.seq ?_
  refine WPc.region ?_
  refine WP.eff rfl rfl rfl (Eff.box (C := [.int .i64 6, .string x.key, .string x.fin, .bool (x.one), .int .i64 (x.lo), .int .i64 (x.hi), .int .i64 (val), .int .i64 (lim), ov, wv]) rfl rfl rfl) ?_
  rintro _ _ ⟨b1, rfl, rfl⟩
  refine WP.eff rfl rfl rfl (Eff.alloc rfl Ty.z62) ?_
  rintro _ _ ⟨b2, rfl, rfl⟩
  refine WP.nil ?_
  refine Out.next ?_
  refine WPc.seq ?_
  refine WPc.region ?_
  refine WP.val rfl rfl rfl (Val.mk (cs := [.bool false, .int .i64 0, .int .i64 0, .slice none 0 0, .slice none 0 0]) rfl rfl (fun _ => by kernel_rfl)) ?_
  refine WP.eff rfl rfl rfl (Eff.alloc rfl Ty.z62) ?_
  rintro _ _ ⟨b3, rfl, rfl⟩
  refine WP.eff0 rfl rfl (Eff.storeAgg (cs := [.bool false, .int .i64 0, .int .i64 0, .slice none 0 0, .slice none 0 0]) (C' := [.bool false, .int .i64 0, .int .i64 0, .slice none 0 0, .slice none 0 0]) rfl Ty.ag62 rfl rfl rfl rfl (by simp) rfl) ?_
  rintro _ _ rfl
  refine WP.nil ?_
  refine Out.next ?_
  refine WPc.seq ?_
  refine WPc.region ?_
  refine WP.val rfl rfl rfl (Val.move rfl rfl) ?_
  refine WP.val rfl rfl rfl (Val.fieldAddr (j := 1) rfl Ty.fo60_1 rfl rfl) ?_
  refine WP.val rfl rfl rfl (Val.loadAgg (cs := [.string x.key, .string x.fin, .bool (x.one), .int .i64 (x.lo), .int .i64 (x.hi)]) rfl Ty.ag56 rfl rfl (fun w h => h.range 2 rfl rfl)) ?_
  refine WP.eff rfl rfl rfl (Eff.call rfl rfl Try.call94 (spanIn_does k x hkey hfin hk3)) ?_
  rintro _ _ ⟨_, ⟨eb, ee, rfl, hbt, het, hbk, hek, rfl⟩, rfl⟩
  show WP _ _ _ _ _ _ _ (Enp eb :: Enp ee :: Blk b3 [.bool false, .int .i64 0, .int .i64 0, .slice none 0 0, .slice none 0 0] 62 :: Blk b2 [.bool false, .int .i64 0, .int .i64 0, .slice none 0 0, .slice none 0 0] 62 :: Blk b1 [.int .i64 6, .string x.key, .string x.fin, .bool (x.one), .int .i64 (x.lo), .int .i64 (x.hi), .int .i64 (val), .int .i64 (lim), ov, wv] 60 :: Blk tb [.pointer (some ⟨root, 0, none⟩), .int .i64 (cnt), .pointer (some ⟨s, 0, none⟩)] 180 :: Ens EL :: Sto S D :: Blk s ZC 177 :: F)
  have hE2 : ∀ e ∈ eb :: ee :: EL, e.t = kt k := fun e he => by rcases List.mem_cons.1 he with rfl | he; exact hbt; rcases List.mem_cons.1 he with rfl | he; exact het; exact hE e he
  have ok2 : Ok s (eb :: ee :: EL) D S := Ok.mono ok (fun e he => List.mem_cons_of_mem _ (List.mem_cons_of_mem _ he))
  refine WP.perm pl6 ?_
  refine WP.perm pl2 ?_
  refine WP.perm pl2 ?_
  refine WP.conv (fun w h => ens_add h) ?_
  show WP _ _ _ _ _ _ _ (Ens (eb :: ee :: EL) :: Blk b3 [.bool false, .int .i64 0, .int .i64 0, .slice none 0 0, .slice none 0 0] 62 :: Blk b2 [.bool false, .int .i64 0, .int .i64 0, .slice none 0 0, .slice none 0 0] 62 :: Blk b1 [.int .i64 6, .string x.key, .string x.fin, .bool (x.one), .int .i64 (x.lo), .int .i64 (x.hi), .int .i64 (val), .int .i64 (lim), ov, wv] 60 :: Blk tb [.pointer (some ⟨root, 0, none⟩), .int .i64 (cnt), .pointer (some ⟨s, 0, none⟩)] 180 :: Sto S D :: Blk s ZC 177 :: F)
  refine WP.eff rfl rfl rfl (Eff.alloc rfl Ty.z172) ?_
  rintro _ _ ⟨b4, rfl, rfl⟩
  refine WP.eff0 rfl rfl (Eff.storeAgg (cs := [.iface eb.t (eb.u), .iface ee.t (ee.u)]) (C' := [.iface eb.t (eb.u), .iface ee.t (ee.u)]) rfl Ty.ag172 rfl rfl rfl rfl (by simp) rfl) ?_
  rintro _ _ rfl
  refine WP.nil ?_
  refine Out.next ?_
  refine WPc.seq ?_
  refine WPc.region ?_
  refine WP.val rfl rfl rfl (Val.mkFunc rfl rfl rfl) ?_
  refine WP.eff rfl rfl rfl (Eff.alloc rfl Ty.z184) ?_
  rintro _ _ ⟨b5, rfl, rfl⟩
  refine WP.eff0 rfl rfl (Eff.store rfl Ty.sc184 rfl rfl rfl (by simp) st0) ?_
  rintro _ _ rfl
  refine WP.nil ?_
  refine Out.next ?_
  refine WPc.seq ?_
  refine WPc.seq ?_
  refine WPc.region ?_
  refine WP.val rfl rfl rfl (Val.fieldAddr (j := 0) rfl Ty.fo60_0 rfl rfl) ?_
  refine WP.val rfl rfl rfl (Val.load rfl Ty.sc3 rfl (fun w h => h.cell 5 rfl rfl)) ?_
  refine WP.nil ?_
  refine Out.next ?_
  refine WPc.block ?_
  refine WPc.seq ?_
  refine WPc.region ?_
  refine WP.val rfl rfl rfl (Val.eqlK rfl rfl rfl rfl) ?_
  refine WP.val rfl rfl rfl (Val.assign rfl rfl) ?_
  refine WP.nil ?_
  refine Out.next ?_
  refine WPc.condF rfl rfl ?_
  refine WPc.seq ?_
  refine WPc.region ?_
  refine WP.val rfl rfl rfl (Val.eqlK rfl rfl rfl rfl) ?_
  refine WP.val rfl rfl rfl (Val.assign rfl rfl) ?_
  refine WP.nil ?_
  refine Out.next ?_
  refine WPc.condF rfl rfl ?_
  refine WPc.seq ?_
  refine WPc.region ?_
  refine WP.val rfl rfl rfl (Val.eqlK rfl rfl rfl rfl) ?_
  refine WP.val rfl rfl rfl (Val.assign rfl rfl) ?_
  refine WP.nil ?_
  refine Out.next ?_
  refine WPc.condF rfl rfl ?_
  refine WPc.seq ?_
  refine WPc.region ?_
  refine WP.val rfl rfl rfl (Val.eqlK rfl rfl rfl rfl) ?_
  refine WP.val rfl rfl rfl (Val.assign rfl rfl) ?_
  refine WP.nil ?_
  refine Out.next ?_
  refine WPc.condF rfl rfl ?_
  refine WPc.seq ?_
  refine WPc.region ?_
  refine WP.val rfl rfl rfl (Val.eqlK rfl rfl rfl rfl) ?_
  refine WP.val rfl rfl rfl (Val.assign rfl rfl) ?_
  refine WP.nil ?_
  refine Out.next ?_
  refine WPc.condF rfl rfl ?_
  refine WPc.seq ?_
  refine WPc.region ?_
  refine WP.val rfl rfl rfl (Val.eqlK rfl rfl rfl rfl) ?_
  refine WP.val rfl rfl rfl (Val.assign rfl rfl) ?_
  refine WP.nil ?_
  refine Out.next ?_
  refine WPc.condT rfl rfl ?_
  refine WPc.region ?_
  refine WP.val rfl rfl rfl (Val.move rfl rfl) ?_
  refine WP.val rfl rfl rfl (Val.loadAgg (cs := [.iface eb.t (eb.u), .iface ee.t (ee.u)]) rfl Ty.ag172 rfl rfl (fun w h => h.range 1 rfl rfl)) ?_
  refine WP.perm pl8 ?_
  refine WP.perm pl8 ?_
  refine WP.perm pl4 ?_
  refine WP.perm pl8 ?_
  refine WP.eff rfl rfl rfl (Eff.invoke (f := 139) rfl rfl rfl (fun _ => by kernel_rfl) Try.call139 (isect_does (eb :: ee :: EL) (kt k) hE2 s D ZC tb root cnt S ok2 hroot T0 hT eb ee List.mem_cons_self (List.mem_cons_of_mem _ List.mem_cons_self))) ?_
  rintro _ _ ⟨_, ⟨rfl, rfl⟩, rfl⟩
  show WP _ _ _ _ _ _ _ (Blk tb [.pointer (some ⟨root, 0, none⟩), .int .i64 (cnt), .pointer (some ⟨s, 0, none⟩)] 180 :: Ens (eb :: ee :: EL) :: Sto S D :: Blk s ZC 177 :: Blk b5 [.func (.func 95) #[] #[.pointer (some ⟨b3, 0, none⟩)]] 184 :: Blk b4 [.iface eb.t (eb.u), .iface ee.t (ee.u)] 172 :: Blk b3 [.bool false, .int .i64 0, .int .i64 0, .slice none 0 0, .slice none 0 0] 62 :: Blk b2 [.bool false, .int .i64 0, .int .i64 0, .slice none 0 0, .slice none 0 0] 62 :: Blk b1 [.int .i64 6, .string x.key, .string x.fin, .bool (x.one), .int .i64 (x.lo), .int .i64 (x.hi), .int .i64 (val), .int .i64 (lim), ov, wv] 60 :: F)
  refine WP.val rfl rfl rfl (Val.fieldAddr (j := 0) rfl Ty.fo62_0 rfl rfl) ?_
  refine WP.perm pl6 ?_
  refine WP.eff0 rfl rfl (Eff.store rfl Ty.sc4 rfl rfl rfl (by simp) st0) ?_
  rintro _ _ rfl
  refine WP.nil ?_
  refine Out.block ?_
  refine Out.next ?_
  refine WPc.seq ?_
  refine WPc.region ?_
  refine WP.val rfl rfl rfl (Val.loadAgg (cs := [.bool (isect eb.k ee.k T0), .int .i64 0, .int .i64 0, .slice none 0 0, .slice none 0 0]) rfl Ty.ag62 rfl rfl (fun w h => h.range 0 rfl rfl)) ?_
  refine WP.perm pl7 ?_
  refine WP.eff0 rfl rfl (Eff.storeAgg (cs := [.bool (isect eb.k ee.k T0), .int .i64 0, .int .i64 0, .slice none 0 0, .slice none 0 0]) (C' := [.bool (isect eb.k ee.k T0), .int .i64 0, .int .i64 0, .slice none 0 0, .slice none 0 0]) rfl Ty.ag62 rfl rfl rfl rfl (by simp) rfl) ?_
  rintro _ _ rfl
  refine WP.nil ?_
  refine Out.next ?_
  refine WPc.ret ?_
  refine Out.perm pl1 ?_
  refine Out.drop ?_
  refine Out.perm pl5 ?_
  refine Out.drop ?_
  refine Out.perm pl5 ?_
  refine Out.drop ?_
  refine Out.perm pl5 ?_
  refine Out.drop ?_
  exact Out.retRun (L' := [Blk tb [.pointer (some ⟨root, 0, none⟩), .int .i64 cnt, .pointer (some ⟨s, 0, none⟩)] 180, Ens (eb :: ee :: EL), Sto S D, Blk s ZC 177]) (results_cell (cs := [.bool (isect eb.k ee.k T0), .int .i64 0, .int .i64 0, .slice none 0 0, .slice none 0 0]) Try.results66 Ty.ag62 rfl rfl (fun w h => h.range 0 rfl rfl)) ⟨eb, ee, by rw [hbk, hek], hbt, het, rfl⟩ (fun w h => h.drop)

end Go.Proofs.Ytbomnihiapjmpaa.TA

