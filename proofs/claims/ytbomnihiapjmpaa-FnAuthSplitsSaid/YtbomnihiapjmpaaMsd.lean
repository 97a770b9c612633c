import Derived.Test.YtbomnihiapjmpaaMsc
import Derived.Test.YtbomnihiapjmpaaMsb
import Derived.Test.YtbomnihiapjmpaaMsa
namespace Go.Proofs.Ytbomnihiapjmpaa.Tm
open Go.RowKit Go.Proofs.Ytbomnihiapjmpaa Go.Proofs.Ytbomnihiapjmpaa.Sl Go.Proofs.Ytbomnihiapjmpaa.TrP Go.Proofs.Ytbomnihiapjmpaa.Tc Go.Proofs.Ytbomnihiapjmpaa.Td Go.Proofs.Ytbomnihiapjmpaa.Te Go.Proofs.Ytbomnihiapjmpaa.Tf Go.Proofs.Ytbomnihiapjmpaa.Tg Go.Proofs.Ytbomnihiapjmpaa.Th Go.Proofs.Ytbomnihiapjmpaa.Ti Go.Proofs.Ytbomnihiapjmpaa.Tk Go.Proofs.Ytbomnihiapjmpaa.Tl
set_option linter.unusedVariables false
set_option linter.unusedSimpArgs false
set_option linter.unusedSectionVars false


theorem Does.sep2 {P : Program} {f : FuncId} {args : List Value} {X Y : HProp} {L : List HProp} {b : Bool} {M : List HProp} (h : Does P f args (X :: Y :: L) (fun v N => v = .bool b ∧ N = X :: Y :: M)) : Does P f args (Sep [X, Y] :: L) (fun v N => v = .bool b ∧ N = Sep [X, Y] :: M) := fun W F w hs => by
  refine (h W F w (by exact hs.sep)).mono ?_
  rintro e w' ⟨v, L', h1, ⟨h2, h3⟩, h4⟩
  subst h3
  exact ⟨v, Sep [X, Y] :: M, h1, ⟨h2, rfl⟩, Sat.sep_mk (M := [X, Y]) h4⟩
theorem visit_does (A : HProp) (EL : List En) (t0 : TypeId) (hE : ∀ e ∈ EL, e.t = t0) (s : Nat) (D : List Nat) (ZC : List Value) (S : St) (ok : Ok s EL D S) (ivb vb : Nat) (ib ie : En) (hib : ib ∈ EL) (hie : ie ∈ EL) (hA0 : ∀ w, Holds A w → w.cell? ⟨ivb, 0, none⟩ = some (.iface ib.t ib.u)) (hA1 : ∀ w, Holds A w → w.cell? ⟨ivb, 1, none⟩ = some (.iface ie.t ie.u)) (σ : Type) (R : σ → HProp) (step : σ → Nat → σ × Bool) (pre : Nat → σ → Prop) (hpre : Pre step pre)
    (hv : ∀ i ∈ D, ∀ m q, pre (m + 1) q → Does Try.prog 158 [.pointer (some ⟨i, 0, none⟩), .pointer (some ⟨vb, 0, none⟩)] [A, Ens EL, Sto S D, Blk s ZC 177, R q] (fun v L => v = .bool (step q i).2 ∧ L = [A, Ens EL, Sto S D, Blk s ZC 177, R (step q i).1])) :
    ∀ (t : T) (x p : Nat), RM s S t x p → (∀ j ∈ t.ids, j ∈ D) → ∀ m q, pre ((vl ib.k ie.k t).length + m) q → Does Try.prog 157 [.pointer (some ⟨x, 0, none⟩), .pointer (some ⟨ivb, 0, none⟩), .pointer (some ⟨s, 0, none⟩), .func (.func 158) #[] #[.pointer (some ⟨vb, 0, none⟩)]] [A, Ens EL, Sto S D, Blk s ZC 177, R q] (fun v L => v = .bool (vfold step (vl ib.k ie.k t) q).2 ∧ L = [A, Ens EL, Sto S D, Blk s ZC 177, R (vfold step (vl ib.k ie.k t) q).1])
  | .leaf, x, p, h, _, m, q, hp => by
    obtain rfl : x = s := h
    exact visit_leaf A EL t0 hE x D ZC S ok ivb vb ib ie hib hie hA0 hA1 σ R step pre hpre q
  | .node i l it c r, x, p, h, hD, m, q, hp => by
    obtain ⟨rfl, h2, rfl, h4, h5, h6, h7, h8⟩ := h
    exact visit_node A EL t0 hE s D ZC S ok ivb vb ib ie hib hie hA0 hA1 σ R step pre hpre x (hD x List.mem_cons_self) h2 l r c h6 hv
      (visit_does A EL t0 hE s D ZC S ok ivb vb ib ie hib hie hA0 hA1 σ R step pre hpre hv l _ _ h7 (fun j hj => hD j (List.mem_cons_of_mem _ (List.mem_append_left _ hj))))
      (visit_does A EL t0 hE s D ZC S ok ivb vb ib ie hib hie hA0 hA1 σ R step pre hpre hv r _ _ h8 (fun j hj => hD j (List.mem_cons_of_mem _ (List.mem_append_right _ hj)))) m q hp
set_option maxRecDepth 100000 in
set_option maxHeartbeats 2000000 in
theorem visit1_does (EL : List En) (t0 : TypeId) (hE : ∀ e ∈ EL, e.t = t0) (s : Nat) (D : List Nat) (ZC : List Value) (S : St) (ok : Ok s EL D S) (ivb vb : Nat) (ib ie : En) (σ : Type) (R : σ → HProp) (step : σ → Nat → σ × Bool) (pre : Nat → σ → Prop) (hpre : Pre step pre) (g : FuncId) (caps : List Value) (hg : ∀ (ar : Array Value) (w : World), (callFunc g ar).run Try.prog w = .ok (.enter g ar) w) (hw : ∀ i ∈ D, ∀ m q, pre (m + 1) q → Does Try.prog g (.pointer (some ⟨i, 0, none⟩) :: caps) [Ens EL, Sto S D, Blk s ZC 177, R q] (fun v L => v = .bool (step q i).2 ∧ L = [Ens EL, Sto S D, Blk s ZC 177, R (step q i).1])) (i : Nat) (hi : i ∈ D) (m : Nat) (q : σ) (hp : pre (m + 1) q) : Does Try.prog 158 [.pointer (some ⟨i, 0, none⟩), .pointer (some ⟨vb, 0, none⟩)] [Blk ivb [.iface ib.t (ib.u), .iface ie.t (ie.u)] 172, Blk vb [Value.func (.func g) #[] caps.toArray] 282, Ens EL, Sto S D, Blk s ZC 177, R q] (fun v L => v = .bool (step q i).2 ∧ L = [Blk ivb [.iface ib.t ib.u, .iface ie.t ie.u] 172, Blk vb [Value.func (.func g) #[] caps.toArray] 282, Ens EL, Sto S D, Blk s ZC 177, R (step q i).1]) := by
  refine Does.enter 9 Try.func158 rfl rfl rfl fun W F => ?_
  show WPc _ _ _ _ _ [(0, .pointer (some ⟨i, 0, none⟩)), (1, .pointer (some ⟨vb, 0, none⟩))] (Blk ivb [.iface ib.t (ib.u), .iface ie.t (ie.u)] 172 :: Blk vb [Value.func (.func g) #[] caps.toArray] 282 :: Ens EL :: Sto S D :: Blk s ZC 177 :: R q :: F)
  refine WPc.seq ?_
  refine WPc.region ?_
  refine WP.val rfl rfl rfl (Val.assign rfl rfl) ?_
  refine WP.nil ?_
  refine Out.next ?_
  refine WPc.seq ?_
  refine WPD.start (Sat W (Blk ivb [.iface ib.t (ib.u), .iface ie.t (ie.u)] 172 :: Blk vb [Value.func (.func g) #[] caps.toArray] 282 :: Ens EL :: Sto S D :: Blk s ZC 177 :: R q :: F)) Ty.mixed ?_
  refine WPD.take 0 rfl rfl rfl rfl (by kernel_rfl) (by kernel_rfl) (by kernel_rfl) (by kernel_rfl) (fun _ _ _ h => h) (by kernel_rfl) (fun _ h => h) (Val.load rfl Ty.sc282 rfl (fun w h => h.cell 1 rfl rfl)) ?_
  refine WPD.takeM 1 rfl rfl rfl rfl (by kernel_rfl) (by kernel_rfl) (by kernel_rfl) (by kernel_rfl) (fun _ _ _ h => h) (fun _ h => h) (Val.move rfl rfl) ?_
  refine WPD.takeM 2 rfl rfl rfl rfl (by kernel_rfl) (by kernel_rfl) (by kernel_rfl) (by kernel_rfl) (fun _ _ _ h => h) (fun _ h => h) (Val.nilCheck rfl rfl) ?_
  refine WPD.takeM 3 rfl rfl rfl rfl (by kernel_rfl) (by kernel_rfl) (by kernel_rfl) (by kernel_rfl) (fun _ _ _ h => h) (fun _ h => h) (Val.fieldAddr (j := 0) rfl Ty.fo177_0 rfl rfl) ?_
  refine WPD.perm pl5 ?_
  refine WPD.perm pl5 ?_
  refine WPD.perm pl5 ?_
  refine WPD.perm pl5 ?_
  refine WPD.stepC 4 (by kernel_rfl) rfl rfl rfl rfl (by kernel_rfl) (Eff.callF (f := g) (first := #[]) (caps := caps.toArray) (args' := .pointer (some ⟨i, 0, none⟩) :: caps) rfl rfl rfl (by simp) hg (hw i hi m q hp)) ?_
  rintro _ _ ⟨_, ⟨rfl, rfl⟩, rfl⟩
  refine ⟨(Sat W (Ens EL :: Sto S D :: Blk s ZC 177 :: R (step q i).1 :: Blk ivb [.iface ib.t (ib.u), .iface ie.t (ie.u)] 172 :: Blk vb [Value.func (.func g) #[] caps.toArray] 282 :: F)), (fun _ h => h), ?_⟩
  show WPD _ _ _ _ _ _ _ _ _ (Ens EL :: Sto S D :: Blk s ZC 177 :: R (step q i).1 :: Blk ivb [.iface ib.t (ib.u), .iface ie.t (ie.u)] 172 :: Blk vb [Value.func (.func g) #[] caps.toArray] 282 :: F)
  refine WPD.takeM 5 rfl rfl rfl rfl (by kernel_rfl) (by kernel_rfl) (by kernel_rfl) (by kernel_rfl) (fun _ _ _ h => h) (fun _ h => h) (Val.assign rfl rfl) ?_
  refine WPD.done (by kernel_rfl) ?_
  refine Out.next ?_
  refine WPc.ret ?_
  refine Out.perm pl3 ?_
  refine Out.perm pl3 ?_
  refine Out.perm pl3 ?_
  refine Out.perm pl3 ?_
  refine Out.perm pl5 ?_
  refine Out.perm pl5 ?_
  exact Out.ret1 (L' := _) Try.results158 rfl ⟨rfl, rfl⟩ (fun _ h => h)

theorem Holds.sepHead {X : HProp} {L : List HProp} {w : World} (h : Holds (Sep (X :: L)) w) : Holds X w := by
  obtain ⟨r, s, hlt, s1, s2, h1, h2, hd, hA, hL⟩ := h
  exact ⟨r, s1, fun b hb => hlt b (hb.imp id (h1 b)), hA⟩
set_option maxRecDepth 100000 in
set_option maxHeartbeats 2000000 in
theorem Visit_does (EL : List En) (t0 : TypeId) (hE : ∀ e ∈ EL, e.t = t0) (s : Nat) (D : List Nat) (ZC : List Value) (tb root : Nat) (cnt : Int) (S : St) (ok : Ok s EL D S) (hroot : Is s D root) (T0 : T) (hT : RM s S T0 root s) (hTD : ∀ j ∈ T0.ids, j ∈ D) (ib ie : En) (hib : ib ∈ EL) (hie : ie ∈ EL) (σ : Type) (R : σ → HProp) (step : σ → Nat → σ × Bool) (pre : Nat → σ → Prop) (hpre : Pre step pre) (g : FuncId) (caps : List Value) (hg : ∀ (ar : Array Value) (w : World), (callFunc g ar).run Try.prog w = .ok (.enter g ar) w) (hw : ∀ i ∈ D, ∀ m q, pre (m + 1) q → Does Try.prog g (.pointer (some ⟨i, 0, none⟩) :: caps) [Ens EL, Sto S D, Blk s ZC 177, R q] (fun v L => v = .bool (step q i).2 ∧ L = [Ens EL, Sto S D, Blk s ZC 177, R (step q i).1])) (q : σ) (hp : pre ((vl ib.k ie.k T0).length + 0) q) : Does Try.prog 144 [.pointer (some ⟨tb, 0, none⟩), .agg #[.iface ib.t (ib.u), .iface ie.t (ie.u)], Value.func (.func g) #[] caps.toArray] [Blk tb [.pointer (some ⟨root, 0, none⟩), .int .i64 (cnt), .pointer (some ⟨s, 0, none⟩)] 180, Ens EL, Sto S D, Blk s ZC 177, R q] (fun _ L => L = [Blk tb [.pointer (some ⟨root, 0, none⟩), .int .i64 cnt, .pointer (some ⟨s, 0, none⟩)] 180, Ens EL, Sto S D, Blk s ZC 177, R (vfold step (vl ib.k ie.k T0) q).1]) := by
  refine Does.enter 16 Try.func144 rfl rfl rfl fun W F => ?_
  show WPc _ _ _ _ _ [(0, .pointer (some ⟨tb, 0, none⟩)), (1, .agg #[.iface ib.t (ib.u), .iface ie.t (ie.u)]), (2, Value.func (.func g) #[] caps.toArray)] (Blk tb [.pointer (some ⟨root, 0, none⟩), .int .i64 (cnt), .pointer (some ⟨s, 0, none⟩)] 180 :: Ens EL :: Sto S D :: Blk s ZC 177 :: R q :: F)
  refine WPc.seq ?_
  refine WPc.region ?_
  refine WP.eff rfl rfl rfl (Eff.box (C := [.iface ib.t (ib.u), .iface ie.t (ie.u)]) rfl rfl rfl) ?_
  rintro _ _ ⟨b1, rfl, rfl⟩
  refine WP.eff rfl rfl rfl (Eff.box (C := [Value.func (.func g) #[] caps.toArray]) rfl rfl rfl) ?_
  rintro _ _ ⟨b2, rfl, rfl⟩
  refine WP.nil ?_
  refine Out.next ?_
  refine WPD.start (Sat W (Blk b2 [Value.func (.func g) #[] caps.toArray] 282 :: Blk b1 [.iface ib.t (ib.u), .iface ie.t (ie.u)] 172 :: Blk tb [.pointer (some ⟨root, 0, none⟩), .int .i64 (cnt), .pointer (some ⟨s, 0, none⟩)] 180 :: Ens EL :: Sto S D :: Blk s ZC 177 :: R q :: F)) Ty.mixed ?_
  refine WPD.takeM 0 rfl rfl rfl rfl (by kernel_rfl) (by kernel_rfl) (by kernel_rfl) (by kernel_rfl) (fun _ _ _ h => h) (fun _ h => h) (Val.move rfl rfl) ?_
  refine WPD.takeM 1 rfl rfl rfl rfl (by kernel_rfl) (by kernel_rfl) (by kernel_rfl) (by kernel_rfl) (fun _ _ _ h => h) (fun _ h => h) (Val.nilCheck rfl rfl) ?_
  refine WPD.takeM 2 rfl rfl rfl rfl (by kernel_rfl) (by kernel_rfl) (by kernel_rfl) (by kernel_rfl) (fun _ _ _ h => h) (fun _ h => h) (Val.fieldAddr (j := 0) rfl Ty.fo180_0 rfl rfl) ?_
  refine WPD.take 3 rfl rfl rfl rfl (by kernel_rfl) (by kernel_rfl) (by kernel_rfl) (by kernel_rfl) (fun _ _ _ h => h) (by kernel_rfl) (fun _ h => h) (Val.load rfl Ty.sc168 rfl (fun w h => h.cell 2 rfl rfl)) ?_
  refine WPD.takeM 4 rfl rfl rfl rfl (by kernel_rfl) (by kernel_rfl) (by kernel_rfl) (by kernel_rfl) (fun _ _ _ h => h) (fun _ h => h) (Val.move rfl rfl) ?_
  refine WPD.takeM 5 rfl rfl rfl rfl (by kernel_rfl) (by kernel_rfl) (by kernel_rfl) (by kernel_rfl) (fun _ _ _ h => h) (fun _ h => h) (Val.nilCheck rfl rfl) ?_
  refine WPD.takeM 6 rfl rfl rfl rfl (by kernel_rfl) (by kernel_rfl) (by kernel_rfl) (by kernel_rfl) (fun _ _ _ h => h) (fun _ h => h) (Val.fieldAddr (j := 2) rfl Ty.fo180_2 rfl rfl) ?_
  refine WPD.take 7 rfl rfl rfl rfl (by kernel_rfl) (by kernel_rfl) (by kernel_rfl) (by kernel_rfl) (fun _ _ _ h => h) (by kernel_rfl) (fun _ h => h) (Val.load rfl Ty.sc168 rfl (fun w h => h.cell 2 rfl rfl)) ?_
  refine WPD.take 8 rfl rfl rfl rfl (by kernel_rfl) (by kernel_rfl) (by kernel_rfl) (by kernel_rfl) (fun _ _ _ h => h) (by kernel_rfl) (fun _ h => h) (Val.mkFunc rfl rfl rfl) ?_
  refine WPD.perm pl1 ?_
  refine WPD.conv (fun w h => Sat.sep_mk (M := [_, _]) h) ?_
  show WPD _ _ _ _ _ _ _ _ _ (Sep [Blk b1 [.iface ib.t ib.u, .iface ie.t ie.u] 172, Blk b2 [Value.func (.func g) #[] caps.toArray] 282] :: Blk tb [.pointer (some ⟨root, 0, none⟩), .int .i64 (cnt), .pointer (some ⟨s, 0, none⟩)] 180 :: Ens EL :: Sto S D :: Blk s ZC 177 :: R q :: F)
  have hv := fun (i : Nat) (hi : i ∈ D) (m : Nat) (q : σ) (hp : pre (m + 1) q) => Does.sep2 (visit1_does EL t0 hE s D ZC S ok b1 b2 ib ie σ R step pre hpre g caps hg hw i hi m q hp)
  refine WPD.perm pl5 ?_
  refine WPD.perm pl5 ?_
  refine WPD.perm pl5 ?_
  refine WPD.perm pl5 ?_
  refine WPD.perm pl4 ?_
  refine WPD.stepC 9 (by kernel_rfl) rfl rfl rfl rfl (by kernel_rfl) (Eff.call rfl rfl Try.call157 (visit_does (Sep [Blk b1 [.iface ib.t ib.u, .iface ie.t ie.u] 172, Blk b2 [Value.func (.func g) #[] caps.toArray] 282]) EL t0 hE s D ZC S ok b1 b2 ib ie hib hie (fun w h => (Holds.sepHead h).cell 0) (fun w h => (Holds.sepHead h).cell 1) σ R step pre hpre hv T0 root s hT hTD 0 q hp)) ?_
  rintro _ _ ⟨_, ⟨rfl, rfl⟩, rfl⟩
  refine ⟨(Sat W (Sep [Blk b1 [.iface ib.t ib.u, .iface ie.t ie.u] 172, Blk b2 [Value.func (.func g) #[] caps.toArray] 282] :: Ens EL :: Sto S D :: Blk s ZC 177 :: R (vfold step (vl ib.k ie.k T0) q).1 :: Blk tb [.pointer (some ⟨root, 0, none⟩), .int .i64 (cnt), .pointer (some ⟨s, 0, none⟩)] 180 :: F)), (fun _ h => h), ?_⟩
  show WPD _ _ _ _ _ _ _ _ _ (Sep [Blk b1 [.iface ib.t ib.u, .iface ie.t ie.u] 172, Blk b2 [Value.func (.func g) #[] caps.toArray] 282] :: Ens EL :: Sto S D :: Blk s ZC 177 :: R (vfold step (vl ib.k ie.k T0) q).1 :: Blk tb [.pointer (some ⟨root, 0, none⟩), .int .i64 (cnt), .pointer (some ⟨s, 0, none⟩)] 180 :: F)
  refine WPD.done (by kernel_rfl) ?_
  refine Out.drop ?_
  refine Out.perm pl3 ?_
  refine Out.perm pl3 ?_
  refine Out.perm pl3 ?_
  refine Out.perm pl3 ?_
  refine Out.perm pl4 ?_
  exact Out.end0 (L' := _) Try.results144 rfl (fun _ h => h)

end Go.Proofs.Ytbomnihiapjmpaa.Tm

namespace Go.Proofs.Ytbomnihiapjmpaa.Tn
open Go.RowKit Go.Proofs.Ytbomnihiapjmpaa Go.Proofs.Ytbomnihiapjmpaa.Sl Go.Proofs.Ytbomnihiapjmpaa.TrP Go.Proofs.Ytbomnihiapjmpaa.Tc Go.Proofs.Ytbomnihiapjmpaa.Td Go.Proofs.Ytbomnihiapjmpaa.Te Go.Proofs.Ytbomnihiapjmpaa.Tf Go.Proofs.Ytbomnihiapjmpaa.Tg Go.Proofs.Ytbomnihiapjmpaa.Th Go.Proofs.Ytbomnihiapjmpaa.Ti Go.Proofs.Ytbomnihiapjmpaa.Tk Go.Proofs.Ytbomnihiapjmpaa.Tl Go.Proofs.Ytbomnihiapjmpaa.Tm
set_option linter.unusedVariables false
set_option linter.unusedSimpArgs false
set_option linter.unusedSectionVars false


def OwnL (rb : Nat) (q : List Nat) : HProp := Ex fun sv : Value => Sep [Blk rb [sv] 188, Own 182 1 sv q.length (q.map ptv)]
set_option maxRecDepth 100000 in
set_option maxHeartbeats 2000000 in
theorem stab1_raw (rb i : Nat) (q : List Nat) (hq : q.length ≤ 1000000) (sv : Value) : Does Try.prog 155 [.pointer (some ⟨i, 0, none⟩), .pointer (some ⟨rb, 0, none⟩)] [Blk rb [sv] 188, Own 182 1 sv q.length (q.map ptv)] (fun v L => v = .bool true ∧ ∃ sv2, L = [Blk rb [sv2] 188, Own 182 1 sv2 (q ++ [i]).length ((q ++ [i]).map ptv)]) := by
  refine Does.enter 8 Try.func155 rfl rfl rfl fun W F => ?_
  show WPc _ _ _ _ _ [(0, .pointer (some ⟨i, 0, none⟩)), (1, .pointer (some ⟨rb, 0, none⟩))] (Blk rb [sv] 188 :: Own 182 1 sv q.length (q.map ptv) :: F)
  refine WPc.seq ?_
  refine WPc.region ?_
  refine WP.val rfl rfl rfl (Val.assign rfl rfl) ?_
  refine WP.nil ?_
  refine Out.next ?_
  refine WPc.seq ?_
  refine WPc.region ?_
  refine WP.val rfl rfl rfl (Val.load rfl Ty.sc188 rfl (fun w h => h.cell 0 rfl rfl)) ?_
  refine WP.val rfl rfl rfl (Val.move rfl rfl) ?_
  refine WP.eff rfl rfl rfl (Eff.mkSlice (C := [.pointer (some ⟨i, 0, none⟩)]) rfl Ty.sl188 rfl (fun _ => by kernel_rfl)) ?_
  rintro _ _ ⟨b1, rfl, rfl⟩
  refine WP.perm pl2 ?_
  refine WP.eff rfl rfl rfl (Eff.append (m := 1) (n0 := q.length) (news := [.pointer (some ⟨i, 0, none⟩)]) rfl Ty.sl188 Ty.z182 rfl rfl rfl (.slice Ty.sl188 rfl rfl (fun w h => cells_range (h.range 1 rfl rfl))) (by omega) (by omega)) ?_
  rintro v2 _ ⟨onev2, rfl⟩
  refine WP.perm pl2 ?_
  refine WP.eff0 rfl rfl (Eff.store rfl Ty.sc188 rfl rfl onev2 (by simp) st0) ?_
  rintro _ _ rfl
  refine WP.nil ?_
  refine Out.next ?_
  refine WPc.seq ?_
  refine WPc.region ?_
  refine WP.val rfl rfl rfl (Val.assign rfl rfl) ?_
  refine WP.nil ?_
  refine Out.next ?_
  refine WPc.ret ?_
  refine Out.perm pl2 ?_
  refine Out.drop ?_
  exact Out.ret1 (L' := _) Try.results155 rfl ⟨rfl, v2, rfl⟩ (fun w h => by simpa [ptv, List.map_append] using h)
set_option maxRecDepth 100000 in
set_option maxHeartbeats 2000000 in
theorem new_does  : Does Try.prog 65 [] [] (fun v L => ∃ tb s, v = .iface 178 (.pointer (some ⟨tb, 0, none⟩)) ∧ L = [Blk tb [.pointer (some ⟨s, 0, none⟩), .int .i64 0, .pointer (some ⟨s, 0, none⟩)] 180, Blk s [.nilIface, .nilIface, .nilIface, .nilIface, .pointer none, .pointer none, .pointer none, .int .i64 0] 177]) := by
  refine Does.enter 10 Try.func65 rfl rfl rfl fun W F => ?_
  show WPc _ _ _ _ _ [] (F)
  refine WPc.seq ?_
  refine WPc.region ?_
  refine WP.val rfl rfl rfl (Val.assign rfl rfl) ?_
  refine WP.nil ?_
  refine Out.next ?_
  refine WPc.seq ?_
  refine WPc.region ?_
  refine WP.val rfl rfl rfl (Val.mk (cs := [.nilIface, .nilIface, .nilIface]) rfl rfl (fun _ => by kernel_rfl)) ?_
  refine WP.val rfl rfl rfl (Val.mk (cs := [.nilIface, .nilIface, .nilIface, .nilIface, .pointer none, .pointer none, .pointer none, .int .i64 0]) rfl rfl (fun _ => by kernel_rfl)) ?_
  refine WP.eff rfl rfl rfl (Eff.box (C := [.nilIface, .nilIface, .nilIface, .nilIface, .pointer none, .pointer none, .pointer none, .int .i64 0]) rfl rfl rfl) ?_
  rintro _ F ⟨b1, rfl, rfl⟩
  refine WP.val rfl rfl rfl (Val.assign rfl rfl) ?_
  refine WP.nil ?_
  refine Out.next ?_
  refine WPc.seq ?_
  refine WPc.region ?_
  refine WP.val rfl rfl rfl (Val.move rfl rfl) ?_
  refine WP.val rfl rfl rfl (Val.move rfl rfl) ?_
  refine WP.val rfl rfl rfl (Val.mk (cs := [.pointer (some ⟨b1, 0, none⟩), .int .i64 0, .pointer (some ⟨b1, 0, none⟩)]) rfl rfl (fun _ => by kernel_rfl)) ?_
  refine WP.eff rfl rfl rfl (Eff.box (C := [.pointer (some ⟨b1, 0, none⟩), .int .i64 0, .pointer (some ⟨b1, 0, none⟩)]) rfl rfl rfl) ?_
  rintro _ _ ⟨b2, rfl, rfl⟩
  refine WP.val rfl rfl rfl (Val.iface rfl rfl Ty.ni178) ?_
  refine WP.val rfl rfl rfl (Val.assign rfl rfl) ?_
  refine WP.nil ?_
  refine Out.next ?_
  refine WPc.ret ?_
  exact Out.ret1 (L' := _) Try.results65 rfl ⟨b2, b1, rfl, rfl⟩ (fun _ h => h)
set_option maxRecDepth 100000 in
set_option maxHeartbeats 2000000 in
theorem len_does (tb root s : Nat) (cnt : Int) : Does Try.prog 140 [.pointer (some ⟨tb, 0, none⟩)] [Blk tb [.pointer (some ⟨root, 0, none⟩), .int .i64 (cnt), .pointer (some ⟨s, 0, none⟩)] 180] (fun v L => v = .int .i64 cnt ∧ L = [Blk tb [.pointer (some ⟨root, 0, none⟩), .int .i64 cnt, .pointer (some ⟨s, 0, none⟩)] 180]) := by
  refine Does.enter 7 Try.func140 rfl rfl rfl fun W F => ?_
  show WPc _ _ _ _ _ [(0, .pointer (some ⟨tb, 0, none⟩))] (Blk tb [.pointer (some ⟨root, 0, none⟩), .int .i64 (cnt), .pointer (some ⟨s, 0, none⟩)] 180 :: F)
  refine WPc.seq ?_
  refine WPc.region ?_
  refine WP.val rfl rfl rfl (Val.assign rfl rfl) ?_
  refine WP.nil ?_
  refine Out.next ?_
  refine WPc.seq ?_
  refine WPc.region ?_
  refine WP.val rfl rfl rfl (Val.move rfl rfl) ?_
  refine WP.val rfl rfl rfl (Val.nilCheck rfl rfl) ?_
  refine WP.val rfl rfl rfl (Val.fieldAddr (j := 1) rfl Ty.fo180_1 rfl rfl) ?_
  refine WP.val rfl rfl rfl (Val.load rfl Ty.sc3 rfl (fun w h => h.cell 0 rfl rfl)) ?_
  refine WP.val rfl rfl rfl (Val.assign rfl rfl) ?_
  refine WP.nil ?_
  refine Out.next ?_
  refine WPc.ret ?_
  exact Out.ret1 (L' := _) Try.results140 rfl ⟨rfl, rfl⟩ (fun _ h => h)

end Go.Proofs.Ytbomnihiapjmpaa.Tn

namespace Go.Proofs.Ytbomnihiapjmpaa.To
open Go.RowKit Go.Proofs.Ytbomnihiapjmpaa Go.Proofs.Ytbomnihiapjmpaa.Sl Go.Proofs.Ytbomnihiapjmpaa.TrP Go.Proofs.Ytbomnihiapjmpaa.Tc Go.Proofs.Ytbomnihiapjmpaa.Td Go.Proofs.Ytbomnihiapjmpaa.Te Go.Proofs.Ytbomnihiapjmpaa.Tf Go.Proofs.Ytbomnihiapjmpaa.Tg Go.Proofs.Ytbomnihiapjmpaa.Th Go.Proofs.Ytbomnihiapjmpaa.Ti Go.Proofs.Ytbomnihiapjmpaa.Tk Go.Proofs.Ytbomnihiapjmpaa.Tl Go.Proofs.Ytbomnihiapjmpaa.Tm Go.Proofs.Ytbomnihiapjmpaa.Tn
set_option linter.unusedVariables false
set_option linter.unusedSimpArgs false
set_option linter.unusedSectionVars false


def stepA (q : List Nat) (i : Nat) : List Nat × Bool := (q ++ [i], true)
def preA (m : Nat) (q : List Nat) : Prop := q.length + m ≤ 1000000
theorem hpreA : Pre stepA preA := ⟨fun {m q i} h => by unfold preA at *; simp only [stepA, List.length_append, List.length_singleton]; omega⟩
theorem vfoldA : ∀ (l q : List Nat), vfold stepA l q = (q ++ l, true)
  | [], q => by simp [vfold]
  | i :: l, q => by
    simp only [vfold, stepA, if_true]
    rw [vfoldA l]
    simp
theorem stab_start {W w : World} {L : List HProp} {rb : Nat} (h : Sat W (Blk rb [.slice none 0 0] 188 :: L) w) : Sat W (OwnL rb [] :: L) w :=
  Sat.ex_mk (Value.slice none 0 0) (Sat.sep_mk (M := [_, _]) ((Sat.ownNil h).perm pl1))
theorem stab_end {W w : World} {L : List HProp} {rb : Nat} {l : List Nat} (h : Sat W (OwnL rb (vfold stepA l []).1 :: L) w) : ∃ sv, Sat W (Blk rb [sv] 188 :: Own 182 1 sv l.length (l.map ptv) :: L) w := by
  rw [vfoldA, List.nil_append] at h
  obtain ⟨sv, h⟩ := h.ex
  exact ⟨sv, h.sep⟩
theorem stab1_does (EL : List En) (s : Nat) (D : List Nat) (ZC : List Value) (S : St) (rb : Nat) : ∀ i ∈ D, ∀ m q, preA (m + 1) q → Does Try.prog 155 (.pointer (some ⟨i, 0, none⟩) :: [.pointer (some ⟨rb, 0, none⟩)]) [Ens EL, Sto S D, Blk s ZC 177, OwnL rb q] (fun v L => v = .bool (stepA q i).2 ∧ L = [Ens EL, Sto S D, Blk s ZC 177, OwnL rb (stepA q i).1]) :=
  fun i hi m q hp W F w hs => by
    obtain ⟨sv, h⟩ := (Sat.perm (M := OwnL rb q :: Ens EL :: Sto S D :: Blk s ZC 177 :: F) hs pl3).ex
    refine (stab1_raw rb i q (by unfold preA at hp; omega) sv W (Ens EL :: Sto S D :: Blk s ZC 177 :: F) w h.sep).mono ?_
    rintro e w' ⟨v, L', h1, ⟨h2, sv2, rfl⟩, h4⟩
    exact ⟨v, _, h1, ⟨h2, rfl⟩, (Sat.ex_mk (f := fun sv : Value => Sep [Blk rb [sv] 188, Own 182 1 sv (q ++ [i]).length ((q ++ [i]).map ptv)]) sv2 (Sat.sep_mk (M := [_, _]) h4)).perm pl3.symm⟩
set_option maxRecDepth 100000 in
set_option maxHeartbeats 2000000 in
theorem stab_does (EL : List En) (t0 : TypeId) (hE : ∀ e ∈ EL, e.t = t0) (s : Nat) (D : List Nat) (ZC : List Value) (tb root : Nat) (cnt : Int) (S : St) (ok : Ok s EL D S) (hroot : Is s D root) (T0 : T) (hT : RM s S T0 root s) (hTD : ∀ j ∈ T0.ids, j ∈ D) (ib ie : En) (hib : ib ∈ EL) (hie : ie ∈ EL) (hleaf : cnt = 0 → T0 = .leaf) (hlen : (vl ib.k ie.k T0).length ≤ 1000000) : Does Try.prog 142 [.pointer (some ⟨tb, 0, none⟩), .agg #[.iface ib.t (ib.u), .iface ie.t (ie.u)]] [Blk tb [.pointer (some ⟨root, 0, none⟩), .int .i64 (cnt), .pointer (some ⟨s, 0, none⟩)] 180, Ens EL, Sto S D, Blk s ZC 177] (fun v L => ∃ sv, v = sv ∧ L = [Blk tb [.pointer (some ⟨root, 0, none⟩), .int .i64 cnt, .pointer (some ⟨s, 0, none⟩)] 180, Ens EL, Sto S D, Blk s ZC 177, Own 182 1 sv (vl ib.k ie.k T0).length ((vl ib.k ie.k T0).map ptv)]) := by
  refine Does.enter 17 Try.func142 rfl rfl rfl fun W F => ?_
  show WPc _ _ _ _ _ [(0, .pointer (some ⟨tb, 0, none⟩)), (1, .agg #[.iface ib.t (ib.u), .iface ie.t (ie.u)])] (Blk tb [.pointer (some ⟨root, 0, none⟩), .int .i64 (cnt), .pointer (some ⟨s, 0, none⟩)] 180 :: Ens EL :: Sto S D :: Blk s ZC 177 :: F)
  refine WPc.seq ?_
  refine WPc.region ?_
  refine WP.eff rfl rfl rfl (Eff.box (C := [.iface ib.t (ib.u), .iface ie.t (ie.u)]) rfl rfl rfl) ?_
  rintro _ _ ⟨b1, rfl, rfl⟩
  refine WP.eff rfl rfl rfl (Eff.alloc rfl Ty.z188) ?_
  rintro _ _ ⟨b2, rfl, rfl⟩
  refine WP.nil ?_
  refine Out.next ?_
  refine WPc.seq ?_
  refine WPc.seq ?_
  refine WPc.region ?_
  refine WP.val rfl rfl rfl (Val.move rfl rfl) ?_
  refine WP.val rfl rfl rfl (Val.nilCheck rfl rfl) ?_
  refine WP.val rfl rfl rfl (Val.fieldAddr (j := 1) rfl Ty.fo180_1 rfl rfl) ?_
  refine WP.val rfl rfl rfl (Val.load rfl Ty.sc3 rfl (fun w h => h.cell 2 rfl rfl)) ?_
  refine WP.val rfl rfl rfl (Val.eql rfl rfl rfl) ?_
  refine WP.nil ?_
  refine Out.next ?_
  refine WPc.ifP rfl (fun h1 => ?_) (fun h1 => ?_)
  · skip
    have h1 : (cnt = (0 : Int)) := h1
    refine WPc.seq ?_
    refine WPc.region ?_
    refine WP.eff0 rfl rfl (Eff.store rfl Ty.sc188 rfl rfl rfl (by simp) st0) ?_
    rintro _ _ rfl
    refine WP.nil ?_
    refine Out.next ?_
    refine WPc.ret ?_
    refine Out.then_ret ?_
    have hnil : vl ib.k ie.k T0 = [] := by rw [hleaf (by assumption)]; rfl
    refine Out.perm pl1 ?_
    refine Out.drop ?_
    exact Out.retRun (L' := [Blk tb [.pointer (some ⟨root, 0, none⟩), .int .i64 cnt, .pointer (some ⟨s, 0, none⟩)] 180, Ens EL, Sto S D, Blk s ZC 177, Own 182 1 (.slice none 0 0) (vl ib.k ie.k T0).length ((vl ib.k ie.k T0).map ptv)]) (results_cell1 Try.results142 Ty.sc188 rfl (fun w h => h.cell 0 rfl rfl)) ⟨.slice none 0 0, rfl, rfl⟩ (fun w h => by rw [hnil]; exact (Sat.ownNil h.drop).perm pl4.symm)
  · skip
    have h1 : ¬ (cnt = (0 : Int)) := h1
    refine WPc.skip ?_
    refine Out.next ?_
    refine WPc.seq ?_
    refine WPc.region ?_
    refine WP.val rfl rfl rfl (Val.mkFunc rfl rfl rfl) ?_
    refine WP.val rfl rfl rfl (Val.assign rfl rfl) ?_
    refine WP.nil ?_
    refine Out.next ?_
    refine WPc.seq ?_
    refine WPc.region ?_
    refine WP.val rfl rfl rfl (Val.move rfl rfl) ?_
    refine WP.val rfl rfl rfl (Val.loadAgg (cs := [.iface ib.t (ib.u), .iface ie.t (ie.u)]) rfl Ty.ag172 rfl rfl (fun w h => h.range 1 rfl rfl)) ?_
    refine WP.val rfl rfl rfl (Val.move rfl rfl) ?_
    refine WP.conv (fun w h => stab_start h) ?_
    show WP _ _ _ _ _ _ _ (OwnL b2 [] :: Blk b1 [.iface ib.t (ib.u), .iface ie.t (ie.u)] 172 :: Blk tb [.pointer (some ⟨root, 0, none⟩), .int .i64 (cnt), .pointer (some ⟨s, 0, none⟩)] 180 :: Ens EL :: Sto S D :: Blk s ZC 177 :: F)
    refine WP.perm pl5 ?_
    refine WP.perm pl5 ?_
    refine WP.perm pl5 ?_
    refine WP.perm pl5 ?_
    refine WP.eff rfl rfl rfl (Eff.call rfl rfl Try.call144 (Visit_does EL t0 hE s D ZC tb root cnt S ok hroot T0 hT hTD ib ie hib hie (List Nat) (OwnL b2) stepA preA hpreA 155 [.pointer (some ⟨b2, 0, none⟩)] Try.call155 (stab1_does EL s D ZC S b2) [] (by unfold preA; simpa using hlen))) ?_
    rintro _ _ ⟨_, rfl, rfl⟩
    show WP _ _ _ _ _ _ _ (Blk tb [.pointer (some ⟨root, 0, none⟩), .int .i64 (cnt), .pointer (some ⟨s, 0, none⟩)] 180 :: Ens EL :: Sto S D :: Blk s ZC 177 :: OwnL b2 (vfold stepA (vl ib.k ie.k T0) []).1 :: Blk b1 [.iface ib.t (ib.u), .iface ie.t (ie.u)] 172 :: F)
    refine WP.perm pl4 ?_
    refine WP.open (fun w h => stab_end h) ?_
    rintro sv
    show WP _ _ _ _ _ _ _ (Blk b2 [sv] 188 :: Own 182 1 sv ((vl ib.k ie.k T0).length) ((vl ib.k ie.k T0).map ptv) :: Blk tb [.pointer (some ⟨root, 0, none⟩), .int .i64 (cnt), .pointer (some ⟨s, 0, none⟩)] 180 :: Ens EL :: Sto S D :: Blk s ZC 177 :: Blk b1 [.iface ib.t (ib.u), .iface ie.t (ie.u)] 172 :: F)
    refine WP.fact (fun w h => own_slice (h.perm pl1)) (fun hsl => ?_)
    have hsv : sv.oneCell' = true := by obtain ⟨_, _, rfl⟩ := hsl; rfl
    refine WP.nil ?_
    refine Out.next ?_
    refine WPc.seq ?_
    refine WPc.region ?_
    refine WP.val rfl rfl rfl (Val.load rfl Ty.sc188 rfl (fun w h => h.cell 0 rfl rfl)) ?_
    refine WP.eff0 rfl rfl (Eff.store rfl Ty.sc188 rfl rfl hsv (by simp) st0) ?_
    rintro _ _ rfl
    refine WP.nil ?_
    refine Out.next ?_
    refine WPc.ret ?_
    refine Out.perm pl6 ?_
    refine Out.drop ?_
    refine Out.perm pl1 ?_
    refine Out.perm pl5 ?_
    refine Out.perm pl5 ?_
    refine Out.perm pl5 ?_
    refine Out.perm pl5 ?_
    refine Out.perm pl5 ?_
    exact Out.retRun (L' := [Blk tb [.pointer (some ⟨root, 0, none⟩), .int .i64 cnt, .pointer (some ⟨s, 0, none⟩)] 180, Ens EL, Sto S D, Blk s ZC 177, Own 182 1 sv (vl ib.k ie.k T0).length ((vl ib.k ie.k T0).map ptv)]) (results_cell1 Try.results142 Ty.sc188 rfl (fun w h => h.cell 0 rfl rfl)) ⟨_, rfl, rfl⟩ (fun w h => h.drop)

end Go.Proofs.Ytbomnihiapjmpaa.To

namespace Go.Proofs.Ytbomnihiapjmpaa.Tp
open Go.RowKit Go.Proofs.Ytbomnihiapjmpaa Go.Proofs.Ytbomnihiapjmpaa.Sl Go.Proofs.Ytbomnihiapjmpaa.TrP Go.Proofs.Ytbomnihiapjmpaa.Tc Go.Proofs.Ytbomnihiapjmpaa.Td
set_option linter.unusedVariables false
set_option linter.unusedSimpArgs false
set_option linter.unusedSectionVars false


set_option maxRecDepth 100000 in
set_option maxHeartbeats 2000000 in
theorem sai_does (x y : ByteArray) : Does Try.prog 102 [.string x, .string y] [] (fun v L => v = .agg #[.iface 130 (.string x), .iface 130 (.string y)] ∧ L = []) := by
  refine Does.enter 10 Try.func102 rfl rfl rfl fun W F => ?_
  show WPc _ _ _ _ _ [(0, .string x), (1, .string y)] (F)
  refine WPc.seq ?_
  refine WPc.region ?_
  refine WP.eff rfl rfl rfl (Eff.alloc rfl Ty.z172) ?_
  rintro _ F ⟨b1, rfl, rfl⟩
  refine WP.nil ?_
  refine Out.next ?_
  refine WPc.seq ?_
  have hz0 : (⟨#[0]⟩ : ByteArray).size = 1 := rfl
  refine WPc.region ?_
  refine WP.val rfl rfl rfl (Val.move rfl rfl) ?_
  refine WP.val rfl rfl rfl (Val.iface rfl rfl Ty.ni130) ?_
  refine WP.val rfl rfl rfl (Val.move rfl rfl) ?_
  refine WP.val rfl rfl rfl (Val.iface rfl rfl Ty.ni130) ?_
  refine WP.val rfl rfl rfl (Val.mk (cs := [.iface 130 (.string x), .iface 130 (.string y)]) rfl rfl (fun _ => by kernel_rfl)) ?_
  refine WP.eff0 rfl rfl (Eff.storeAgg (cs := [.iface 130 (.string x), .iface 130 (.string y)]) (C' := [.iface 130 (.string x), .iface 130 (.string y)]) rfl Ty.ag172 rfl rfl rfl rfl (by simp) rfl) ?_
  rintro _ _ rfl
  refine WP.nil ?_
  refine Out.next ?_
  refine WPc.ret ?_
  exact Out.retRun (L' := []) (results_cell (cs := [.iface 130 (.string x), .iface 130 (.string y)]) Try.results102 Ty.ag172 rfl rfl (fun w h => h.range 0 rfl rfl)) ⟨rfl, rfl⟩ (fun w h => h.drop)
set_option maxRecDepth 100000 in
set_option maxHeartbeats 2000000 in
theorem sap_does (x : ByteArray) (hx : x.size ≤ 2147483647) : Does Try.prog 103 [.string x] [] (fun v L => v = .agg #[.iface 130 (.string x), .iface 130 (.string (x ++ ⟨#[0]⟩))] ∧ L = []) := by
  refine Does.enter 7 Try.func103 rfl rfl rfl fun W F => ?_
  show WPc _ _ _ _ _ [(0, .string x)] (F)
  refine WPc.seq ?_
  refine WPc.region ?_
  refine WP.eff rfl rfl rfl (Eff.alloc rfl Ty.z172) ?_
  rintro _ F ⟨b1, rfl, rfl⟩
  refine WP.nil ?_
  refine Out.next ?_
  refine WPc.seq ?_
  have hz0 : (⟨#[0]⟩ : ByteArray).size = 1 := rfl
  refine WPc.region ?_
  refine WP.val rfl rfl rfl (Val.move rfl rfl) ?_
  refine WP.val rfl rfl rfl (Val.move rfl rfl) ?_
  refine WP.val rfl rfl rfl (Val.addS rfl rfl rfl (by omega)) ?_
  refine WP.eff rfl rfl rfl (Eff.call rfl rfl Try.call102 (sai_does x (x ++ ⟨#[0]⟩))) ?_
  rintro _ _ ⟨_, ⟨rfl, rfl⟩, rfl⟩
  show WP _ _ _ _ _ _ _ (Blk b1 [.nilIface, .nilIface] 172 :: F)
  refine WP.eff0 rfl rfl (Eff.storeAgg (cs := [.iface 130 (.string x), .iface 130 (.string (x ++ ⟨#[0]⟩))]) (C' := [.iface 130 (.string x), .iface 130 (.string (x ++ ⟨#[0]⟩))]) rfl Ty.ag172 rfl rfl rfl rfl (by simp) rfl) ?_
  rintro _ _ rfl
  refine WP.nil ?_
  refine Out.next ?_
  refine WPc.ret ?_
  exact Out.retRun (L' := []) (results_cell (cs := [.iface 130 (.string x), .iface 130 (.string (x ++ ⟨#[0]⟩))]) Try.results103 Ty.ag172 rfl rfl (fun w h => h.range 0 rfl rfl)) ⟨rfl, rfl⟩ (fun w h => h.drop)
set_option maxRecDepth 100000 in
set_option maxHeartbeats 2000000 in
theorem bai_does (x y : Value) : Does Try.prog 104 [x, y] [] (fun v L => v = .agg #[.iface 132 (x), .iface 132 (y)] ∧ L = []) := by
  refine Does.enter 10 Try.func104 rfl rfl rfl fun W F => ?_
  show WPc _ _ _ _ _ [(0, x), (1, y)] (F)
  refine WPc.seq ?_
  refine WPc.region ?_
  refine WP.eff rfl rfl rfl (Eff.alloc rfl Ty.z172) ?_
  rintro _ F ⟨b1, rfl, rfl⟩
  refine WP.nil ?_
  refine Out.next ?_
  refine WPc.seq ?_
  have hz0 : (⟨#[0]⟩ : ByteArray).size = 1 := rfl
  refine WPc.region ?_
  refine WP.val rfl rfl rfl (Val.move rfl rfl) ?_
  refine WP.val rfl rfl rfl (Val.iface rfl rfl Ty.ni132) ?_
  refine WP.val rfl rfl rfl (Val.move rfl rfl) ?_
  refine WP.val rfl rfl rfl (Val.iface rfl rfl Ty.ni132) ?_
  refine WP.val rfl rfl rfl (Val.mk (cs := [.iface 132 (x), .iface 132 (y)]) rfl rfl (fun _ => by kernel_rfl)) ?_
  refine WP.eff0 rfl rfl (Eff.storeAgg (cs := [.iface 132 (x), .iface 132 (y)]) (C' := [.iface 132 (x), .iface 132 (y)]) rfl Ty.ag172 rfl rfl rfl rfl (by simp) rfl) ?_
  rintro _ _ rfl
  refine WP.nil ?_
  refine Out.next ?_
  refine WPc.ret ?_
  exact Out.retRun (L' := []) (results_cell (cs := [.iface 132 (x), .iface 132 (y)]) Try.results104 Ty.ag172 rfl rfl (fun w h => h.range 0 rfl rfl)) ⟨rfl, rfl⟩ (fun w h => h.drop)
set_option maxRecDepth 100000 in
set_option maxHeartbeats 2000000 in
theorem ii_does (x y : Int) : Does Try.prog 108 [.int .i64 (x), .int .i64 (y)] [] (fun v L => v = .agg #[.iface 133 (.int .i64 x), .iface 133 (.int .i64 y)] ∧ L = []) := by
  refine Does.enter 10 Try.func108 rfl rfl rfl fun W F => ?_
  show WPc _ _ _ _ _ [(0, .int .i64 (x)), (1, .int .i64 (y))] (F)
  refine WPc.seq ?_
  refine WPc.region ?_
  refine WP.eff rfl rfl rfl (Eff.alloc rfl Ty.z172) ?_
  rintro _ F ⟨b1, rfl, rfl⟩
  refine WP.nil ?_
  refine Out.next ?_
  refine WPc.seq ?_
  have hz0 : (⟨#[0]⟩ : ByteArray).size = 1 := rfl
  refine WPc.region ?_
  refine WP.val rfl rfl rfl (Val.move rfl rfl) ?_
  refine WP.val rfl rfl rfl (Val.iface rfl rfl Ty.ni133) ?_
  refine WP.val rfl rfl rfl (Val.move rfl rfl) ?_
  refine WP.val rfl rfl rfl (Val.iface rfl rfl Ty.ni133) ?_
  refine WP.val rfl rfl rfl (Val.mk (cs := [.iface 133 (.int .i64 (x)), .iface 133 (.int .i64 (y))]) rfl rfl (fun _ => by kernel_rfl)) ?_
  refine WP.eff0 rfl rfl (Eff.storeAgg (cs := [.iface 133 (.int .i64 (x)), .iface 133 (.int .i64 (y))]) (C' := [.iface 133 (.int .i64 (x)), .iface 133 (.int .i64 (y))]) rfl Ty.ag172 rfl rfl rfl rfl (by simp) rfl) ?_
  rintro _ _ rfl
  refine WP.nil ?_
  refine Out.next ?_
  refine WPc.ret ?_
  exact Out.retRun (L' := []) (results_cell (cs := [.iface 133 (.int .i64 (x)), .iface 133 (.int .i64 (y))]) Try.results108 Ty.ag172 rfl rfl (fun w h => h.range 0 rfl rfl)) ⟨rfl, rfl⟩ (fun w h => h.drop)
set_option maxRecDepth 100000 in
set_option maxHeartbeats 2000000 in
theorem ip_does (x : Int) (hx : -4611686018427387904 ≤ x ∧ x ≤ 4611686018427387904) : Does Try.prog 107 [.int .i64 (x)] [] (fun v L => v = .agg #[.iface 133 (.int .i64 x), .iface 133 (.int .i64 (x + 1))] ∧ L = []) := by
  refine Does.enter 9 Try.func107 rfl rfl rfl fun W F => ?_
  show WPc _ _ _ _ _ [(0, .int .i64 (x))] (F)
  refine WPc.seq ?_
  refine WPc.region ?_
  refine WP.eff rfl rfl rfl (Eff.alloc rfl Ty.z172) ?_
  rintro _ F ⟨b1, rfl, rfl⟩
  refine WP.nil ?_
  refine Out.next ?_
  refine WPc.seq ?_
  have hz0 : (⟨#[0]⟩ : ByteArray).size = 1 := rfl
  refine WPc.region ?_
  refine WP.val rfl rfl rfl (Val.move rfl rfl) ?_
  refine WP.val rfl rfl rfl (Val.iface rfl rfl Ty.ni133) ?_
  refine WP.val rfl rfl rfl (Val.move rfl rfl) ?_
  refine WP.val rfl rfl rfl (Val.add (z := x + (1 : Int)) rfl rfl rfl (w64 (by omega) (by omega))) ?_
  refine WP.val rfl rfl rfl (Val.iface rfl rfl Ty.ni133) ?_
  refine WP.val rfl rfl rfl (Val.mk (cs := [.iface 133 (.int .i64 (x)), .iface 133 (.int .i64 (x + (1 : Int)))]) rfl rfl (fun _ => by kernel_rfl)) ?_
  refine WP.eff0 rfl rfl (Eff.storeAgg (cs := [.iface 133 (.int .i64 (x)), .iface 133 (.int .i64 (x + (1 : Int)))]) (C' := [.iface 133 (.int .i64 (x)), .iface 133 (.int .i64 (x + (1 : Int)))]) rfl Ty.ag172 rfl rfl rfl rfl (by simp) rfl) ?_
  rintro _ _ rfl
  refine WP.nil ?_
  refine Out.next ?_
  refine WPc.ret ?_
  exact Out.retRun (L' := []) (results_cell (cs := [.iface 133 (.int .i64 (x)), .iface 133 (.int .i64 (x + (1 : Int)))]) Try.results107 Ty.ag172 rfl rfl (fun w h => h.range 0 rfl rfl)) ⟨rfl, rfl⟩ (fun w h => h.drop)
set_option maxRecDepth 100000 in
set_option maxHeartbeats 2000000 in
theorem si_does (x y : ByteArray) : Does Try.prog 110 [.string x, .string y] [] (fun v L => v = .agg #[.iface 134 (.string x), .iface 134 (.string y)] ∧ L = []) := by
  refine Does.enter 10 Try.func110 rfl rfl rfl fun W F => ?_
  show WPc _ _ _ _ _ [(0, .string x), (1, .string y)] (F)
  refine WPc.seq ?_
  refine WPc.region ?_
  refine WP.eff rfl rfl rfl (Eff.alloc rfl Ty.z172) ?_
  rintro _ F ⟨b1, rfl, rfl⟩
  refine WP.nil ?_
  refine Out.next ?_
  refine WPc.seq ?_
  have hz0 : (⟨#[0]⟩ : ByteArray).size = 1 := rfl
  refine WPc.region ?_
  refine WP.val rfl rfl rfl (Val.move rfl rfl) ?_
  refine WP.val rfl rfl rfl (Val.iface rfl rfl Ty.ni134) ?_
  refine WP.val rfl rfl rfl (Val.move rfl rfl) ?_
  refine WP.val rfl rfl rfl (Val.iface rfl rfl Ty.ni134) ?_
  refine WP.val rfl rfl rfl (Val.mk (cs := [.iface 134 (.string x), .iface 134 (.string y)]) rfl rfl (fun _ => by kernel_rfl)) ?_
  refine WP.eff0 rfl rfl (Eff.storeAgg (cs := [.iface 134 (.string x), .iface 134 (.string y)]) (C' := [.iface 134 (.string x), .iface 134 (.string y)]) rfl Ty.ag172 rfl rfl rfl rfl (by simp) rfl) ?_
  rintro _ _ rfl
  refine WP.nil ?_
  refine Out.next ?_
  refine WPc.ret ?_
  exact Out.retRun (L' := []) (results_cell (cs := [.iface 134 (.string x), .iface 134 (.string y)]) Try.results110 Ty.ag172 rfl rfl (fun w h => h.range 0 rfl rfl)) ⟨rfl, rfl⟩ (fun w h => h.drop)
set_option maxRecDepth 100000 in
set_option maxHeartbeats 2000000 in
theorem sp_does (x : ByteArray) (hx : x.size ≤ 2147483647) : Does Try.prog 109 [.string x] [] (fun v L => v = .agg #[.iface 134 (.string x), .iface 134 (.string (x ++ ⟨#[0]⟩))] ∧ L = []) := by
  refine Does.enter 9 Try.func109 rfl rfl rfl fun W F => ?_
  show WPc _ _ _ _ _ [(0, .string x)] (F)
  refine WPc.seq ?_
  refine WPc.region ?_
  refine WP.eff rfl rfl rfl (Eff.alloc rfl Ty.z172) ?_
  rintro _ F ⟨b1, rfl, rfl⟩
  refine WP.nil ?_
  refine Out.next ?_
  refine WPc.seq ?_
  have hz0 : (⟨#[0]⟩ : ByteArray).size = 1 := rfl
  refine WPc.region ?_
  refine WP.val rfl rfl rfl (Val.move rfl rfl) ?_
  refine WP.val rfl rfl rfl (Val.iface rfl rfl Ty.ni134) ?_
  refine WP.val rfl rfl rfl (Val.move rfl rfl) ?_
  refine WP.val rfl rfl rfl (Val.addS rfl rfl rfl (by omega)) ?_
  refine WP.val rfl rfl rfl (Val.iface rfl rfl Ty.ni134) ?_
  refine WP.val rfl rfl rfl (Val.mk (cs := [.iface 134 (.string x), .iface 134 (.string (x ++ ⟨#[0]⟩))]) rfl rfl (fun _ => by kernel_rfl)) ?_
  refine WP.eff0 rfl rfl (Eff.storeAgg (cs := [.iface 134 (.string x), .iface 134 (.string (x ++ ⟨#[0]⟩))]) (C' := [.iface 134 (.string x), .iface 134 (.string (x ++ ⟨#[0]⟩))]) rfl Ty.ag172 rfl rfl rfl rfl (by simp) rfl) ?_
  rintro _ _ rfl
  refine WP.nil ?_
  refine Out.next ?_
  refine WPc.ret ?_
  exact Out.retRun (L' := []) (results_cell (cs := [.iface 134 (.string x), .iface 134 (.string (x ++ ⟨#[0]⟩))]) Try.results109 Ty.ag172 rfl rfl (fun w h => h.range 0 rfl rfl)) ⟨rfl, rfl⟩ (fun w h => h.drop)

end Go.Proofs.Ytbomnihiapjmpaa.Tp

namespace Go.Proofs.Ytbomnihiapjmpaa.Tq
open Go.RowKit Go.Proofs.Ytbomnihiapjmpaa Go.Proofs.Ytbomnihiapjmpaa.Sl Go.Proofs.Ytbomnihiapjmpaa.TrP Go.Proofs.Ytbomnihiapjmpaa.Tc Go.Proofs.Ytbomnihiapjmpaa.Td Go.Proofs.Ytbomnihiapjmpaa.Tp
set_option linter.unusedVariables false
set_option linter.unusedSimpArgs false
set_option linter.unusedSectionVars false


theorem bc0_take (x : ByteArray) : ((List.replicate (x.size + 1) [Value.int .u8 0]).flatten).take 0 ++ byteCells x ++ ((List.replicate (x.size + 1) [Value.int .u8 0]).flatten).drop (0 + x.size) = byteCells x ++ [.int .u8 0] := by
  have e : ∀ n : Nat, (List.replicate n [Value.int .u8 0]).flatten = List.replicate n (Value.int .u8 0) := fun n => by
    induction n with
    | zero => rfl
    | succ n ih => rw [List.replicate_succ, List.flatten_cons, ih]; rfl
  rw [e]
  simp
theorem bc0_set (x : ByteArray) : (byteCells x ++ [Value.int .u8 0]).set x.size (.int .u8 0) = byteCells x ++ [.int .u8 0] := by
  have h : x.size = (byteCells x).length := (byteCells_length x).symm
  rw [h, List.set_append_right _ _ (Nat.le_refl _)]
  simp
set_option maxRecDepth 100000 in
set_option maxHeartbeats 2000000 in
theorem bap_does (b0 c0 : Nat) (sp : List Value) (x : ByteArray) (hx : x.size ≤ 2147483647) (hc : x.size ≤ c0) : Does Try.prog 105 [.slice (some ⟨b0, 0, none⟩) x.size c0] [Blk b0 (byteCells x ++ sp) 5] (fun v L => ∃ b, v = .agg #[.iface 132 (.slice (some ⟨b0, 0, none⟩) x.size c0), .iface 132 (.slice (some ⟨b, 0, none⟩) (x.size + 1) (x.size + 1))] ∧ L = [Blk b0 (byteCells x ++ sp) 5, Blk b (byteCells x ++ [.int .u8 0]) 5]) := by
  refine Does.enter 18 Try.func105 rfl rfl rfl fun W F => ?_
  show WPc _ _ _ _ _ [(0, .slice (some ⟨b0, 0, none⟩) x.size c0)] (Blk b0 (byteCells x ++ sp) 5 :: F)
  refine WPc.seq ?_
  refine WPc.region ?_
  refine WP.eff rfl rfl rfl (Eff.alloc rfl Ty.z172) ?_
  rintro _ _ ⟨b1, rfl, rfl⟩
  refine WP.nil ?_
  refine Out.next ?_
  refine WPc.seq ?_
  refine WPc.region ?_
  refine WP.val rfl rfl rfl (Val.move rfl rfl) ?_
  refine WP.val rfl rfl rfl (Val.len rfl Ty.sl110 rfl) ?_
  refine WP.val rfl rfl rfl (Val.add (z := ((x.size + 1 : Nat) : Int)) rfl rfl rfl ((w64 (by omega) (by omega)).trans (by omega))) ?_
  refine WP.eff rfl rfl rfl (Eff.makeSlice (m := x.size + 1) (c := x.size + 1) (z := [.int .u8 0]) rfl Ty.sl110 Ty.z5 rfl rfl rfl rfl rfl (by omega) (by omega) (by omega)) ?_
  rintro _ _ ⟨b2, rfl, rfl⟩
  refine WP.val rfl rfl rfl (Val.assign rfl rfl) ?_
  refine WP.nil ?_
  refine Out.next ?_
  refine WPc.seq ?_
  refine WPc.region ?_
  refine WP.val rfl rfl rfl (Val.move rfl rfl) ?_
  refine WP.val rfl rfl rfl (Val.move rfl rfl) ?_
  refine WP.eff rfl rfl rfl (Eff.copySl (cs := byteCells x) (C' := byteCells x ++ [Value.int .u8 0]) rfl Ty.sl110 rfl rfl (fun w h => (h.at 2 rfl).cell_range (by simp)) (byteCells_length x) (by omega) (byt_one _) (by simp) (bc0_take x)) ?_
  rintro _ _ ⟨rfl, rfl⟩
  refine WP.nil ?_
  refine Out.next ?_
  refine WPc.seq ?_
  refine WPc.region ?_
  refine WP.val rfl rfl rfl (Val.move rfl rfl) ?_
  refine WP.val rfl rfl rfl (Val.move rfl rfl) ?_
  refine WP.val rfl rfl rfl (Val.len rfl Ty.sl110 rfl) ?_
  refine WP.val rfl rfl rfl (Val.indexAddr (j := x.size) (q := x.size) rfl Ty.sl110 rfl rfl (by omega) (by omega) (by omega)) ?_
  refine WP.eff0 rfl rfl (Eff.store (C' := byteCells x ++ [Value.int .u8 0]) rfl Ty.sc5 rfl rfl rfl (by simp [byteCells_length]) (bc0_set x)) ?_
  rintro _ _ rfl
  refine WP.nil ?_
  refine Out.next ?_
  refine WPc.seq ?_
  refine WPc.region ?_
  refine WP.val rfl rfl rfl (Val.move rfl rfl) ?_
  refine WP.val rfl rfl rfl (Val.move rfl rfl) ?_
  refine WP.eff rfl rfl rfl (Eff.call rfl rfl Try.call104 (bai_does (.slice (some ⟨b0, 0, none⟩) x.size c0) (.slice (some ⟨b2, 0, none⟩) (x.size + 1) (x.size + 1)))) ?_
  rintro _ _ ⟨_, ⟨rfl, rfl⟩, rfl⟩
  show WP _ _ _ _ _ _ _ (Blk b2 (byteCells x ++ [Value.int .u8 0]) 5 :: Blk b1 [.nilIface, .nilIface] 172 :: Blk b0 (byteCells x ++ sp) 5 :: F)
  refine WP.perm pl1 ?_
  refine WP.eff0 rfl rfl (Eff.storeAgg (cs := [.iface 132 (.slice (some ⟨b0, 0, none⟩) x.size c0), .iface 132 (.slice (some ⟨b2, 0, none⟩) (x.size + 1) (x.size + 1))]) (C' := [.iface 132 (.slice (some ⟨b0, 0, none⟩) x.size c0), .iface 132 (.slice (some ⟨b2, 0, none⟩) (x.size + 1) (x.size + 1))]) rfl Ty.ag172 rfl rfl rfl rfl (by simp) rfl) ?_
  rintro _ _ rfl
  refine WP.nil ?_
  refine Out.next ?_
  refine WPc.ret ?_
  refine Out.perm pl1 ?_
  refine Out.perm pl2 ?_
  refine Out.perm pl2 ?_
  exact Out.retRun (L' := [Blk b0 (byteCells x ++ sp) 5, Blk b2 (byteCells x ++ [Value.int .u8 0]) 5]) (results_cell (cs := [.iface 132 (.slice (some ⟨b0, 0, none⟩) x.size c0), .iface 132 (.slice (some ⟨b2, 0, none⟩) (x.size + 1) (x.size + 1))]) Try.results105 Ty.ag172 rfl rfl (fun w h => h.range 0 rfl rfl)) ⟨b2, rfl, rfl⟩ (fun w h => h.drop)

end Go.Proofs.Ytbomnihiapjmpaa.Tq

namespace Go.Proofs.Ytbomnihiapjmpaa.Tb
open Go.RowKit Go.Proofs.Ytbomnihiapjmpaa Go.Proofs.Ytbomnihiapjmpaa.Sl Go.Proofs.Ytbomnihiapjmpaa.TrP Go.Proofs.Ytbomnihiapjmpaa.Ta
set_option linter.unusedVariables false
set_option linter.unusedSimpArgs false
set_option linter.unusedSectionVars false


/-- what an end of some kind stands for -/
def ke (k : Int) (s : ByteArray) (n : Int) : Ky := if k = 1 ∨ k = 2 then ka s else if k = 3 then ki n else ks s
theorem ke1 {k : Int} (h : k = 1) (s : ByteArray) (n : Int) : ke k s n = ka s := by unfold ke; rw [if_pos (.inl h)]
theorem ke2 {k : Int} (h : k = 2) (s : ByteArray) (n : Int) : ke k s n = ka s := by unfold ke; rw [if_pos (.inr h)]
theorem ke3 {k : Int} (h : k = 3) (s : ByteArray) (n : Int) : ke k s n = ki n := by unfold ke; rw [if_neg (by omega), if_pos h]
theorem ke0 {k : Int} (h1 : ¬ k = 1) (h2 : ¬ k = 2) (h3 : ¬ k = 3) (s : ByteArray) (n : Int) : ke k s n = ks s := by unfold ke; rw [if_neg (by omega), if_neg h3]
theorem toList_size (x : ByteArray) : x.toList.length = x.size := by rw [ByteArray.toList_eq]; exact Array.length_toList
theorem seq_nil (x : ByteArray) : seq x ⟨#[]⟩ = decide (x.size = 0) := by
  unfold seq
  rw [ByteArray.toList_eq, ByteArray.toList_eq]
  have e : x.data.toList.length = x.size := Array.length_toList
  cases h : x.data.toList with
  | nil => rw [h] at e; simp at e; simp [← e]
  | cons a l => rw [h] at e; simp at e; rw [decide_eq_false (by omega)]; rfl
set_option maxRecDepth 100000 in
set_option maxHeartbeats 2000000 in
theorem ends_does (k : Int) (s t : ByteArray) (m n : Int) (hm : -2305843009213693952 ≤ m ∧ m ≤ 2305843009213693952) (hn : -2305843009213693952 ≤ n ∧ n ≤ 2305843009213693952) : Does Try.prog 36 [.int .i64 (k), .string s, .string t, .int .i64 (m), .int .i64 (n)] [] (fun v L => v = .int .i64 (kcmp (ke k s m) (ke k t n)) ∧ L = []) := by
  refine Does.enter 36 Try.func36 rfl rfl rfl fun W F => ?_
  show WPc _ _ _ _ _ [(0, .int .i64 (k)), (1, .string s), (2, .string t), (3, .int .i64 (m)), (4, .int .i64 (n))] (F)
  refine WPc.seq ?_
  refine WPc.region ?_
  refine WP.val rfl rfl rfl (Val.assign rfl rfl) ?_
  refine WP.nil ?_
  refine Out.next ?_
  refine WPc.seq ?_
  refine WPc.seq ?_
  refine WPc.region ?_
  refine WP.val rfl rfl rfl (Val.move rfl rfl) ?_
  refine WP.nil ?_
  refine Out.next ?_
  refine WPc.block ?_
  refine WPc.seq ?_
  refine WPc.region ?_
  refine WP.val rfl rfl rfl (Val.eql rfl rfl rfl) ?_
  refine WP.val rfl rfl rfl (Val.assign rfl rfl) ?_
  refine WP.nil ?_
  refine Out.next ?_
  refine WPc.ifP rfl (fun h1 => ?_) (fun h1 => ?_)
  · skip
    have h1 : (k = (1 : Int)) := h1
    refine WPc.seq ?_
    refine WPc.region ?_
    refine WP.val rfl rfl rfl (Val.move rfl rfl) ?_
    refine WP.val rfl rfl rfl (Val.move rfl rfl) ?_
    refine WP.val rfl rfl rfl (Val.iface rfl rfl Ty.ni130) ?_
    refine WP.eff rfl rfl rfl (Eff.call rfl rfl Try.call74 (cmpa_spec s t)) ?_
    rintro _ F ⟨_, ⟨rfl, rfl⟩, rfl⟩
    show WP _ _ _ _ _ _ _ (F)
    refine WP.val rfl rfl rfl (Val.assign rfl rfl) ?_
    refine WP.nil ?_
    refine Out.next ?_
    refine WPc.ret ?_
    refine Out.block_ret ?_
    refine Out.then_ret ?_
    exact Out.ret1 (L' := []) Try.results36 rfl ⟨congrArg (Value.int .i64) (show kcmp (ka s) (ka t) = kcmp (ke k s m) (ke k t n) by rw [ke1 (by assumption), ke1 (by assumption)]), rfl⟩ (fun _ h => h)
  · skip
    have h1 : ¬ (k = (1 : Int)) := h1
    refine WPc.seq ?_
    refine WPc.region ?_
    refine WP.val rfl rfl rfl (Val.eql rfl rfl rfl) ?_
    refine WP.val rfl rfl rfl (Val.assign rfl rfl) ?_
    refine WP.nil ?_
    refine Out.next ?_
    refine WPc.ifP rfl (fun h2 => ?_) (fun h2 => ?_)
    · skip
      have h2 : (k = (2 : Int)) := h2
      refine WPc.seq ?_
      refine WPc.region ?_
      refine WP.val rfl rfl rfl (Val.move rfl rfl) ?_
      refine WP.eff rfl rfl rfl (Eff.bytes rfl Ty.st9 Ty.by132 rfl) ?_
      rintro _ F ⟨b1, capb1, spb1, rfl, hcb1, hsb1, rfl⟩
      refine WP.val rfl rfl rfl (Val.move rfl rfl) ?_
      refine WP.eff rfl rfl rfl (Eff.bytes rfl Ty.st9 Ty.by132 rfl) ?_
      rintro _ _ ⟨b2, capb2, spb2, rfl, hcb2, hsb2, rfl⟩
      refine WP.val rfl rfl rfl (Val.iface rfl rfl Ty.ni132) ?_
      refine WP.perm pl1 ?_
      refine WP.conv (fun w h => Sat.bytsStr h (by omega)) ?_
      show WP _ _ _ _ _ _ _ (Byts (.slice (some ⟨b1, 0, none⟩) ((s).size) capb1) s.data.toList :: Blk b2 (byteCells t ++ spb2) 5 :: F)
      refine WP.perm pl1 ?_
      refine WP.conv (fun w h => Sat.bytsStr h (by omega)) ?_
      show WP _ _ _ _ _ _ _ (Byts (.slice (some ⟨b2, 0, none⟩) ((t).size) capb2) t.data.toList :: Byts (.slice (some ⟨b1, 0, none⟩) ((s).size) capb1) s.data.toList :: F)
      refine WP.perm pl1 ?_
      refine WP.eff rfl rfl rfl (Eff.call rfl rfl Try.call75 (cmpb_spec (.slice (some ⟨b1, 0, none⟩) ((s).size) capb1) (.slice (some ⟨b2, 0, none⟩) ((t).size) capb2) s.data.toList t.data.toList)) ?_
      rintro _ _ ⟨_, ⟨rfl, rfl⟩, rfl⟩
      show WP _ _ _ _ _ _ _ (Byts (.slice (some ⟨b1, 0, none⟩) ((s).size) capb1) s.data.toList :: Byts (.slice (some ⟨b2, 0, none⟩) ((t).size) capb2) t.data.toList :: F)
      refine WP.val rfl rfl rfl (Val.assign rfl rfl) ?_
      refine WP.nil ?_
      refine Out.next ?_
      refine WPc.ret ?_
      refine Out.block_ret ?_
      refine Out.then_ret ?_
      refine Out.drop ?_
      refine Out.drop ?_
      exact Out.ret1 (L' := []) Try.results36 rfl ⟨congrArg (Value.int .i64) (show kcmp (kb s.data.toList) (kb t.data.toList) = kcmp (ke k s m) (ke k t n) by rw [ka_kb, ka_kb, ke2 (by assumption), ke2 (by assumption)]), rfl⟩ (fun _ h => h)
    · skip
      have h2 : ¬ (k = (2 : Int)) := h2
      refine WPc.seq ?_
      refine WPc.region ?_
      refine WP.val rfl rfl rfl (Val.eql rfl rfl rfl) ?_
      refine WP.val rfl rfl rfl (Val.assign rfl rfl) ?_
      refine WP.nil ?_
      refine Out.next ?_
      refine WPc.ifP rfl (fun h3 => ?_) (fun h3 => ?_)
      · skip
        have h3 : (k = (3 : Int)) := h3
        refine WPc.seq ?_
        refine WPc.region ?_
        refine WP.val rfl rfl rfl (Val.move rfl rfl) ?_
        refine WP.val rfl rfl rfl (Val.move rfl rfl) ?_
        refine WP.val rfl rfl rfl (Val.iface rfl rfl Ty.ni133) ?_
        refine WP.eff rfl rfl rfl (Eff.call rfl rfl Try.call76 (cmpi_spec m n hm hn)) ?_
        rintro _ F ⟨_, ⟨rfl, rfl⟩, rfl⟩
        show WP _ _ _ _ _ _ _ (F)
        refine WP.val rfl rfl rfl (Val.assign rfl rfl) ?_
        refine WP.nil ?_
        refine Out.next ?_
        refine WPc.ret ?_
        refine Out.block_ret ?_
        refine Out.then_ret ?_
        exact Out.ret1 (L' := []) Try.results36 rfl ⟨congrArg (Value.int .i64) (show kcmp (ki m) (ki n) = kcmp (ke k s m) (ke k t n) by rw [ke3 (by assumption), ke3 (by assumption)]), rfl⟩ (fun _ h => h)
      · skip
        have h3 : ¬ (k = (3 : Int)) := h3
        refine WPc.skip ?_
        refine Out.block ?_
        refine Out.next ?_
        refine WPc.seq ?_
        refine WPc.region ?_
        refine WP.val rfl rfl rfl (Val.move rfl rfl) ?_
        refine WP.val rfl rfl rfl (Val.move rfl rfl) ?_
        refine WP.val rfl rfl rfl (Val.iface rfl rfl Ty.ni134) ?_
        refine WP.eff rfl rfl rfl (Eff.call rfl rfl Try.call77 (cmps_spec s t)) ?_
        rintro _ F ⟨_, ⟨rfl, rfl⟩, rfl⟩
        show WP _ _ _ _ _ _ _ (F)
        refine WP.val rfl rfl rfl (Val.assign rfl rfl) ?_
        refine WP.nil ?_
        refine Out.next ?_
        refine WPc.ret ?_
        exact Out.ret1 (L' := []) Try.results36 rfl ⟨congrArg (Value.int .i64) (show kcmp (ks s) (ks t) = kcmp (ke k s m) (ke k t n) by rw [ke0 (by assumption) (by assumption) (by assumption), ke0 (by assumption) (by assumption) (by assumption)]), rfl⟩ (fun _ h => h)

theorem sends_eq (k : Int) (s t : ByteArray) (m n : Int) : kcmp (ke k s m) (ke k t n) = if k = 3 then (if m < n then -1 else if n < m then 1 else 0) else
    if (k = 1 ∨ k = 2) ∧ decide (s.size = 0) ≠ decide (t.size = 0) then (if t.size = 0 then -1 else 1) else if Op.bytesLess s.toList t.toList = true then -1 else if Op.bytesLess t.toList s.toList = true then 1 else 0 := by
  by_cases h3 : k = 3
  · rw [ke3 h3, ke3 h3, ki_cmp, if_pos h3]
    have e1 : (m - n < 0) ↔ m < n := by omega
    have e2 : (0 < m - n) ↔ n < m := by omega
    simp only [e1, e2]
  · rw [if_neg h3]
    by_cases h1 : k = 1 ∨ k = 2
    · have e : ∀ x : ByteArray, ∀ z, ke k x z = ka x := fun x z => h1.elim (fun h => ke1 h x z) (fun h => ke2 h x z)
      rw [e, e, ka_cmp]
      have hn : ∀ x : ByteArray, x.size = 0 → x.toList = [] := fun x hx => List.eq_nil_of_length_eq_zero (by rw [toList_size]; exact hx)
      by_cases hs : s.size = 0 <;> by_cases ht : t.size = 0
      · simp [hs, ht, hn s hs, hn t ht, Op.bytesLess]
      · simp [hs, ht, h1]
      · simp [hs, ht, h1]
      · simp [hs, ht, h1]
    · rw [ke0 (fun e => h1 (.inl e)) (fun e => h1 (.inr e)) h3, ke0 (fun e => h1 (.inl e)) (fun e => h1 (.inr e)) h3, ks_cmp]
      conv => rhs; rw [if_neg (fun e => h1 e.1)]
set_option maxRecDepth 100000 in
set_option maxHeartbeats 2000000 in
theorem sends_does (k : Int) (s t : ByteArray) (m n : Int) (hk : 0 ≤ k ∧ k ≤ 3) : Does Try.prog 37 [.int .i64 (k), .string s, .string t, .int .i64 (m), .int .i64 (n)] [] (fun v L => v = .int .i64 (kcmp (ke k s m) (ke k t n)) ∧ L = []) := by
  refine Does.enter 46 Try.func37 rfl rfl rfl fun W F => ?_
  show WPc _ _ _ _ _ [(0, .int .i64 (k)), (1, .string s), (2, .string t), (3, .int .i64 (m)), (4, .int .i64 (n))] (F)
  refine WPc.seq ?_
  refine WPc.region ?_
  refine WP.val rfl rfl rfl (Val.assign rfl rfl) ?_
  refine WP.nil ?_
  refine Out.next ?_
  refine WPc.seq ?_
  refine WPc.region ?_
  refine WP.val rfl rfl rfl (Val.move rfl rfl) ?_
  refine WP.val rfl rfl rfl (Val.move rfl rfl) ?_
  refine WP.val rfl rfl rfl (Val.lssS rfl rfl rfl) ?_
  refine WP.val rfl rfl rfl (Val.move rfl rfl) ?_
  refine WP.val rfl rfl rfl (Val.move rfl rfl) ?_
  refine WP.val rfl rfl rfl (Val.gtrS rfl rfl rfl) ?_
  refine WP.val rfl rfl rfl (Val.assign rfl rfl) ?_
  refine WP.val rfl rfl rfl (Val.assign rfl rfl) ?_
  refine WP.nil ?_
  refine Out.next ?_
  refine WPc.seq ?_
  refine WPc.block ?_
  refine WPc.seq ?_
  refine WPc.region ?_
  refine WP.val rfl rfl rfl (Val.move rfl rfl) ?_
  refine WP.val rfl rfl rfl (Val.eql rfl rfl rfl) ?_
  refine WP.val rfl rfl rfl (Val.assign rfl rfl) ?_
  refine WP.nil ?_
  refine Out.next ?_
  refine WPc.ifP rfl (fun h1 => ?_) (fun h1 => ?_)
  · skip
    have h1 : (k = (3 : Int)) := h1
    refine WPc.region ?_
    refine WP.val rfl rfl rfl (Val.move rfl rfl) ?_
    refine WP.val rfl rfl rfl (Val.move rfl rfl) ?_
    refine WP.val rfl rfl rfl (Val.lss rfl rfl rfl) ?_
    refine WP.val rfl rfl rfl (Val.move rfl rfl) ?_
    refine WP.val rfl rfl rfl (Val.move rfl rfl) ?_
    refine WP.val rfl rfl rfl (Val.gtr rfl rfl rfl) ?_
    refine WP.val rfl rfl rfl (Val.assign rfl rfl) ?_
    refine WP.val rfl rfl rfl (Val.assign rfl rfl) ?_
    refine WP.nil ?_
    refine Out.block ?_
    refine Out.next ?_
    refine WPc.seq ?_
    refine WPc.block ?_
    refine WPc.seq ?_
    refine WPc.region ?_
    refine WP.val rfl rfl rfl (Val.move rfl rfl) ?_
    refine WP.val rfl rfl rfl (Val.assign rfl rfl) ?_
    refine WP.nil ?_
    refine Out.next ?_
    refine WPc.ifP rfl (fun h2 => ?_) (fun h2 => ?_)
    · skip
      have h2 : (m < n) := h2
      refine WPc.seq ?_
      refine WPc.region ?_
      refine WP.val rfl rfl rfl (Val.assign rfl rfl) ?_
      refine WP.nil ?_
      refine Out.next ?_
      refine WPc.ret ?_
      refine Out.block_ret ?_
      refine Out.then_ret ?_
      exact Out.ret1 (L' := []) Try.results37 rfl ⟨congrArg (Value.int .i64) (show (-1 : Int) = kcmp (ke k s m) (ke k t n) by rw [sends_eq]; first | (rw [if_pos (by assumption)]; first | rw [if_pos (by omega)] | rw [if_neg (by omega), if_pos (by omega)] | rw [if_neg (by omega), if_neg (by omega)]) | (simp_all [seq_nil]; done) | (simp_all [seq_nil]; omega)), rfl⟩ (fun _ h => h)
    · skip
      have h2 : ¬ (m < n) := h2
      refine WPc.seq ?_
      refine WPc.region ?_
      refine WP.val rfl rfl rfl (Val.move rfl rfl) ?_
      refine WP.val rfl rfl rfl (Val.assign rfl rfl) ?_
      refine WP.nil ?_
      refine Out.next ?_
      refine WPc.ifP rfl (fun h3 => ?_) (fun h3 => ?_)
      · skip
        have h3 : (n < m) := h3
        refine WPc.seq ?_
        refine WPc.region ?_
        refine WP.val rfl rfl rfl (Val.assign rfl rfl) ?_
        refine WP.nil ?_
        refine Out.next ?_
        refine WPc.ret ?_
        refine Out.block_ret ?_
        refine Out.then_ret ?_
        exact Out.ret1 (L' := []) Try.results37 rfl ⟨congrArg (Value.int .i64) (show (1 : Int) = kcmp (ke k s m) (ke k t n) by rw [sends_eq]; first | (rw [if_pos (by assumption)]; first | rw [if_pos (by omega)] | rw [if_neg (by omega), if_pos (by omega)] | rw [if_neg (by omega), if_neg (by omega)]) | (simp_all [seq_nil]; done) | (simp_all [seq_nil]; omega)), rfl⟩ (fun _ h => h)
      · skip
        have h3 : ¬ (n < m) := h3
        refine WPc.skip ?_
        refine Out.block ?_
        refine Out.next ?_
        refine WPc.seq ?_
        refine WPc.region ?_
        refine WP.val rfl rfl rfl (Val.assign rfl rfl) ?_
        refine WP.nil ?_
        refine Out.next ?_
        refine WPc.ret ?_
        exact Out.ret1 (L' := []) Try.results37 rfl ⟨congrArg (Value.int .i64) (show (0 : Int) = kcmp (ke k s m) (ke k t n) by rw [sends_eq]; first | (rw [if_pos (by assumption)]; first | rw [if_pos (by omega)] | rw [if_neg (by omega), if_pos (by omega)] | rw [if_neg (by omega), if_neg (by omega)]) | (simp_all [seq_nil]; done) | (simp_all [seq_nil]; omega)), rfl⟩ (fun _ h => h)
  · skip
    have h1 : ¬ (k = (3 : Int)) := h1
    refine WPc.seq ?_
    refine WPc.region ?_
    refine WP.val rfl rfl rfl (Val.move rfl rfl) ?_
    refine WP.val rfl rfl rfl (Val.neq rfl rfl rfl) ?_
    refine WP.val rfl rfl rfl (Val.move rfl rfl) ?_
    refine WP.split 31 rfl (fun h4 => ?_) (fun h4 => ?_)
    · skip
      have h4 : (k ≠ (0 : Int)) := h4
      refine WP.valG rfl rfl rfl rfl rfl rfl rfl (Val.move rfl rfl) ?_
      refine WP.valG rfl rfl rfl rfl rfl rfl rfl (Val.eqlS rfl rfl rfl) ?_
      refine WP.valG rfl rfl rfl rfl rfl rfl rfl (Val.move rfl rfl) ?_
      refine WP.valG rfl rfl rfl rfl rfl rfl rfl (Val.eqlS rfl rfl rfl) ?_
      refine WP.valG rfl rfl rfl rfl rfl rfl rfl (Val.neqB rfl Ty2.bo4 rfl rfl) ?_
      refine WP.val rfl rfl rfl (Val.pickT rfl rfl rfl) ?_
      refine WP.val rfl rfl rfl (Val.assign rfl rfl) ?_
      refine WP.nil ?_
      refine Out.next ?_
      refine WPc.cond rfl (fun h5 => ?_) (fun h5 => ?_)
      · skip
        have h5 : (!((seq s (⟨#[]⟩)) == (seq t (⟨#[]⟩)))) = true := h5
        refine WPc.region ?_
        refine WP.val rfl rfl rfl (Val.move rfl rfl) ?_
        refine WP.val rfl rfl rfl (Val.eqlS rfl rfl rfl) ?_
        refine WP.val rfl rfl rfl (Val.move rfl rfl) ?_
        refine WP.val rfl rfl rfl (Val.eqlS rfl rfl rfl) ?_
        refine WP.val rfl rfl rfl (Val.assign rfl rfl) ?_
        refine WP.val rfl rfl rfl (Val.assign rfl rfl) ?_
        refine WP.nil ?_
        refine Out.block ?_
        refine Out.next ?_
        refine WPc.seq ?_
        refine WPc.block ?_
        refine WPc.seq ?_
        refine WPc.region ?_
        refine WP.val rfl rfl rfl (Val.move rfl rfl) ?_
        refine WP.val rfl rfl rfl (Val.assign rfl rfl) ?_
        refine WP.nil ?_
        refine Out.next ?_
        refine WPc.cond rfl (fun h6 => ?_) (fun h6 => ?_)
        · skip
          have h6 : (seq t (⟨#[]⟩)) = true := h6
          refine WPc.seq ?_
          refine WPc.region ?_
          refine WP.val rfl rfl rfl (Val.assign rfl rfl) ?_
          refine WP.nil ?_
          refine Out.next ?_
          refine WPc.ret ?_
          refine Out.block_ret ?_
          refine Out.then_ret ?_
          exact Out.ret1 (L' := []) Try.results37 rfl ⟨congrArg (Value.int .i64) (show (-1 : Int) = kcmp (ke k s m) (ke k t n) by rw [sends_eq]; first | (rw [if_pos (by assumption)]; first | rw [if_pos (by omega)] | rw [if_neg (by omega), if_pos (by omega)] | rw [if_neg (by omega), if_neg (by omega)]) | (simp_all [seq_nil]; done) | (simp_all [seq_nil]; omega)), rfl⟩ (fun _ h => h)
        · skip
          have h6 : (seq t (⟨#[]⟩)) = false := h6
          refine WPc.seq ?_
          refine WPc.region ?_
          refine WP.val rfl rfl rfl (Val.move rfl rfl) ?_
          refine WP.val rfl rfl rfl (Val.assign rfl rfl) ?_
          refine WP.nil ?_
          refine Out.next ?_
          refine WPc.cond rfl (fun h7 => ?_) (fun h7 => ?_)
          · skip
            have h7 : (seq s (⟨#[]⟩)) = true := h7
            refine WPc.seq ?_
            refine WPc.region ?_
            refine WP.val rfl rfl rfl (Val.assign rfl rfl) ?_
            refine WP.nil ?_
            refine Out.next ?_
            refine WPc.ret ?_
            refine Out.block_ret ?_
            refine Out.then_ret ?_
            exact Out.ret1 (L' := []) Try.results37 rfl ⟨congrArg (Value.int .i64) (show (1 : Int) = kcmp (ke k s m) (ke k t n) by rw [sends_eq]; first | (rw [if_pos (by assumption)]; first | rw [if_pos (by omega)] | rw [if_neg (by omega), if_pos (by omega)] | rw [if_neg (by omega), if_neg (by omega)]) | (simp_all [seq_nil]; done) | (simp_all [seq_nil]; omega)), rfl⟩ (fun _ h => h)
          · skip
            have h7 : (seq s (⟨#[]⟩)) = false := h7
            refine WPc.skip ?_
            refine Out.block ?_
            refine Out.next ?_
            refine WPc.seq ?_
            refine WPc.region ?_
            refine WP.val rfl rfl rfl (Val.assign rfl rfl) ?_
            refine WP.nil ?_
            refine Out.next ?_
            refine WPc.ret ?_
            exact Out.ret1 (L' := []) Try.results37 rfl ⟨congrArg (Value.int .i64) (show (0 : Int) = kcmp (ke k s m) (ke k t n) by rw [sends_eq]; first | (rw [if_pos (by assumption)]; first | rw [if_pos (by omega)] | rw [if_neg (by omega), if_pos (by omega)] | rw [if_neg (by omega), if_neg (by omega)]) | (simp_all [seq_nil]; done) | (simp_all [seq_nil]; omega)), rfl⟩ (fun _ h => h)
      · skip
        have h5 : (!((seq s (⟨#[]⟩)) == (seq t (⟨#[]⟩)))) = false := h5
        refine WPc.skip ?_
        refine Out.block ?_
        refine Out.next ?_
        refine WPc.seq ?_
        refine WPc.block ?_
        refine WPc.seq ?_
        refine WPc.region ?_
        refine WP.val rfl rfl rfl (Val.move rfl rfl) ?_
        refine WP.val rfl rfl rfl (Val.assign rfl rfl) ?_
        refine WP.nil ?_
        refine Out.next ?_
        refine WPc.cond rfl (fun h8 => ?_) (fun h8 => ?_)
        · skip
          have h8 : (Op.bytesLess (s).toList (t).toList) = true := h8
          refine WPc.seq ?_
          refine WPc.region ?_
          refine WP.val rfl rfl rfl (Val.assign rfl rfl) ?_
          refine WP.nil ?_
          refine Out.next ?_
          refine WPc.ret ?_
          refine Out.block_ret ?_
          refine Out.then_ret ?_
          exact Out.ret1 (L' := []) Try.results37 rfl ⟨congrArg (Value.int .i64) (show (-1 : Int) = kcmp (ke k s m) (ke k t n) by rw [sends_eq]; first | (rw [if_pos (by assumption)]; first | rw [if_pos (by omega)] | rw [if_neg (by omega), if_pos (by omega)] | rw [if_neg (by omega), if_neg (by omega)]) | (simp_all [seq_nil]; done) | (simp_all [seq_nil]; omega)), rfl⟩ (fun _ h => h)
        · skip
          have h8 : (Op.bytesLess (s).toList (t).toList) = false := h8
          refine WPc.seq ?_
          refine WPc.region ?_
          refine WP.val rfl rfl rfl (Val.move rfl rfl) ?_
          refine WP.val rfl rfl rfl (Val.assign rfl rfl) ?_
          refine WP.nil ?_
          refine Out.next ?_
          refine WPc.cond rfl (fun h9 => ?_) (fun h9 => ?_)
          · skip
            have h9 : (Op.bytesLess (t).toList (s).toList) = true := h9
            refine WPc.seq ?_
            refine WPc.region ?_
            refine WP.val rfl rfl rfl (Val.assign rfl rfl) ?_
            refine WP.nil ?_
            refine Out.next ?_
            refine WPc.ret ?_
            refine Out.block_ret ?_
            refine Out.then_ret ?_
            exact Out.ret1 (L' := []) Try.results37 rfl ⟨congrArg (Value.int .i64) (show (1 : Int) = kcmp (ke k s m) (ke k t n) by rw [sends_eq]; first | (rw [if_pos (by assumption)]; first | rw [if_pos (by omega)] | rw [if_neg (by omega), if_pos (by omega)] | rw [if_neg (by omega), if_neg (by omega)]) | (simp_all [seq_nil]; done) | (simp_all [seq_nil]; omega)), rfl⟩ (fun _ h => h)
          · skip
            have h9 : (Op.bytesLess (t).toList (s).toList) = false := h9
            refine WPc.skip ?_
            refine Out.block ?_
            refine Out.next ?_
            refine WPc.seq ?_
            refine WPc.region ?_
            refine WP.val rfl rfl rfl (Val.assign rfl rfl) ?_
            refine WP.nil ?_
            refine Out.next ?_
            refine WPc.ret ?_
            exact Out.ret1 (L' := []) Try.results37 rfl ⟨congrArg (Value.int .i64) (show (0 : Int) = kcmp (ke k s m) (ke k t n) by rw [sends_eq]; first | (rw [if_pos (by assumption)]; first | rw [if_pos (by omega)] | rw [if_neg (by omega), if_pos (by omega)] | rw [if_neg (by omega), if_neg (by omega)]) | (simp_all [seq_nil]; done) | (simp_all [seq_nil]; omega)), rfl⟩ (fun _ h => h)
    · skip
      have h4 : ¬ (k ≠ (0 : Int)) := h4
      refine WP.skip rfl rfl rfl rfl rfl rfl rfl ?_
      refine WP.skip rfl rfl rfl rfl rfl rfl rfl ?_
      refine WP.skip rfl rfl rfl rfl rfl rfl rfl ?_
      refine WP.skip rfl rfl rfl rfl rfl rfl rfl ?_
      refine WP.skip rfl rfl rfl rfl rfl rfl rfl ?_
      refine WP.val rfl rfl rfl (Val.pickF rfl rfl rfl) ?_
      refine WP.val rfl rfl rfl (Val.assign rfl rfl) ?_
      refine WP.nil ?_
      refine Out.next ?_
      refine WPc.condF rfl rfl ?_
      refine WPc.skip ?_
      refine Out.block ?_
      refine Out.next ?_
      refine WPc.seq ?_
      refine WPc.block ?_
      refine WPc.seq ?_
      refine WPc.region ?_
      refine WP.val rfl rfl rfl (Val.move rfl rfl) ?_
      refine WP.val rfl rfl rfl (Val.assign rfl rfl) ?_
      refine WP.nil ?_
      refine Out.next ?_
      refine WPc.cond rfl (fun h10 => ?_) (fun h10 => ?_)
      · skip
        have h10 : (Op.bytesLess (s).toList (t).toList) = true := h10
        refine WPc.seq ?_
        refine WPc.region ?_
        refine WP.val rfl rfl rfl (Val.assign rfl rfl) ?_
        refine WP.nil ?_
        refine Out.next ?_
        refine WPc.ret ?_
        refine Out.block_ret ?_
        refine Out.then_ret ?_
        exact Out.ret1 (L' := []) Try.results37 rfl ⟨congrArg (Value.int .i64) (show (-1 : Int) = kcmp (ke k s m) (ke k t n) by rw [sends_eq]; first | (rw [if_pos (by assumption)]; first | rw [if_pos (by omega)] | rw [if_neg (by omega), if_pos (by omega)] | rw [if_neg (by omega), if_neg (by omega)]) | (simp_all [seq_nil]; done) | (simp_all [seq_nil]; omega)), rfl⟩ (fun _ h => h)
      · skip
        have h10 : (Op.bytesLess (s).toList (t).toList) = false := h10
        refine WPc.seq ?_
        refine WPc.region ?_
        refine WP.val rfl rfl rfl (Val.move rfl rfl) ?_
        refine WP.val rfl rfl rfl (Val.assign rfl rfl) ?_
        refine WP.nil ?_
        refine Out.next ?_
        refine WPc.cond rfl (fun h11 => ?_) (fun h11 => ?_)
        · skip
          have h11 : (Op.bytesLess (t).toList (s).toList) = true := h11
          refine WPc.seq ?_
          refine WPc.region ?_
          refine WP.val rfl rfl rfl (Val.assign rfl rfl) ?_
          refine WP.nil ?_
          refine Out.next ?_
          refine WPc.ret ?_
          refine Out.block_ret ?_
          refine Out.then_ret ?_
          exact Out.ret1 (L' := []) Try.results37 rfl ⟨congrArg (Value.int .i64) (show (1 : Int) = kcmp (ke k s m) (ke k t n) by rw [sends_eq]; first | (rw [if_pos (by assumption)]; first | rw [if_pos (by omega)] | rw [if_neg (by omega), if_pos (by omega)] | rw [if_neg (by omega), if_neg (by omega)]) | (simp_all [seq_nil]; done) | (simp_all [seq_nil]; omega)), rfl⟩ (fun _ h => h)
        · skip
          have h11 : (Op.bytesLess (t).toList (s).toList) = false := h11
          refine WPc.skip ?_
          refine Out.block ?_
          refine Out.next ?_
          refine WPc.seq ?_
          refine WPc.region ?_
          refine WP.val rfl rfl rfl (Val.assign rfl rfl) ?_
          refine WP.nil ?_
          refine Out.next ?_
          refine WPc.ret ?_
          exact Out.ret1 (L' := []) Try.results37 rfl ⟨congrArg (Value.int .i64) (show (0 : Int) = kcmp (ke k s m) (ke k t n) by rw [sends_eq]; first | (rw [if_pos (by assumption)]; first | rw [if_pos (by omega)] | rw [if_neg (by omega), if_pos (by omega)] | rw [if_neg (by omega), if_neg (by omega)]) | (simp_all [seq_nil]; done) | (simp_all [seq_nil]; omega)), rfl⟩ (fun _ h => h)

end Go.Proofs.Ytbomnihiapjmpaa.Tb

namespace Go.Proofs.Ytbomnihiapjmpaa.Tr
open Go.RowKit Go.Proofs.Ytbomnihiapjmpaa Go.Proofs.Ytbomnihiapjmpaa.Sl Go.Proofs.Ytbomnihiapjmpaa.TrP Go.Proofs.Ytbomnihiapjmpaa.Tb Go.Proofs.Ytbomnihiapjmpaa.Tc Go.Proofs.Ytbomnihiapjmpaa.Td Go.Proofs.Ytbomnihiapjmpaa.Tp Go.Proofs.Ytbomnihiapjmpaa.Tq
set_option linter.unusedVariables false
set_option linter.unusedSimpArgs false
set_option linter.unusedSectionVars false


structure Sp where
  key : ByteArray
  fin : ByteArray
  one : Bool
  lo : Int
  hi : Int
def kt (k : Int) : TypeId := if k = 1 then 130 else if k = 2 then 132 else if k = 3 then 133 else 134
theorem kt1 {k : Int} (h : k = 1) : kt k = 130 := by unfold kt; rw [if_pos h]
theorem kt2 {k : Int} (h1 : ¬ k = 1) (h : k = 2) : kt k = 132 := by unfold kt; rw [if_neg h1, if_pos h]
theorem kt3 {k : Int} (h1 : ¬ k = 1) (h2 : ¬ k = 2) (h : k = 3) : kt k = 133 := by unfold kt; rw [if_neg h1, if_neg h2, if_pos h]
theorem kt0 {k : Int} (h1 : ¬ k = 1) (h2 : ¬ k = 2) (h : ¬ k = 3) : kt k = 134 := by unfold kt; rw [if_neg h1, if_neg h2, if_neg h]
/-- where a span ends -/
def Sp.end (x : Sp) : ByteArray := if x.one then x.key ++ (⟨#[0]⟩ : ByteArray) else x.fin
def kB (k : Int) (x : Sp) : Ky := ke k x.key x.lo
def kE (k : Int) (x : Sp) : Ky := ke k x.end x.hi
theorem enp_a {W w : World} {L : List HProp} (x : ByteArray) (h : Sat W L w) : Sat W (Enp ⟨ka x, 130, .string x⟩ :: L) w := Sat.ex_mk (EV.a x) (Sat.pure_mk ⟨rfl, rfl, rfl⟩ h)
theorem enp_s {W w : World} {L : List HProp} (x : ByteArray) (h : Sat W L w) : Sat W (Enp ⟨ks x, 134, .string x⟩ :: L) w := Sat.ex_mk (EV.s x) (Sat.pure_mk ⟨rfl, rfl, rfl⟩ h)
theorem enp_i {W w : World} {L : List HProp} (n : Int) (hn : -2305843009213693952 ≤ n ∧ n ≤ 2305843009213693952) (h : Sat W L w) : Sat W (Enp ⟨ki n, 133, .int .i64 n⟩ :: L) w := Sat.ex_mk (EV.i n) (Sat.pure_mk ⟨rfl, rfl, rfl, hn⟩ h)
theorem enp_b {W w : World} {L : List HProp} {b c : Nat} {sp : List Value} {T : TypeId} (x : ByteArray) (hc : x.size ≤ c) (h : Sat W (Blk b (byteCells x ++ sp) T :: L) w) : Sat W (Enp ⟨ka x, 132, .slice (some ⟨b, 0, none⟩) x.size c⟩ :: L) w :=
  Sat.ex_mk (EV.b x.data.toList) (Sat.sep_mk (M := [_, _]) (Sat.pure_mk ⟨(ka_kb x).symm, rfl⟩ (h.bytsStr hc)))
theorem bc0_app (x : ByteArray) : byteCells x ++ [Value.int .u8 0] = byteCells (x ++ (⟨#[0]⟩ : ByteArray)) := by
  simp [byteCells]
set_option maxRecDepth 100000 in
set_option maxHeartbeats 2000000 in
theorem spanIn_does (k : Int) (x : Sp) (hkey : x.key.size ≤ 2147483647) (hfin : x.fin.size ≤ 2147483647) (hk3 : k = 3 → x.one = false ∧ (-2305843009213693952 ≤ x.lo ∧ x.lo ≤ 2305843009213693952) ∧ (-2305843009213693952 ≤ x.hi ∧ x.hi ≤ 2305843009213693952)) : Does Try.prog 94 [.int .i64 (k), .agg #[.string x.key, .string x.fin, .bool (x.one), .int .i64 (x.lo), .int .i64 (x.hi)]] [] (fun v L => ∃ eb ee : En, v = .agg #[.iface eb.t eb.u, .iface ee.t ee.u] ∧ eb.t = kt k ∧ ee.t = kt k ∧ eb.k = kB k x ∧ ee.k = kE k x ∧ L = [Enp eb, Enp ee]) := by
  refine Does.enter 68 Try.func94 rfl rfl rfl fun W F => ?_
  show WPc _ _ _ _ _ [(0, .int .i64 (k)), (1, .agg #[.string x.key, .string x.fin, .bool (x.one), .int .i64 (x.lo), .int .i64 (x.hi)])] (F)
  refine WPc.seq ?_
  refine WPc.region ?_
  refine WP.eff rfl rfl rfl (Eff.box (C := [.string x.key, .string x.fin, .bool (x.one), .int .i64 (x.lo), .int .i64 (x.hi)]) rfl rfl rfl) ?_
  rintro _ F ⟨b1, rfl, rfl⟩
  refine WP.eff rfl rfl rfl (Eff.alloc rfl Ty.z172) ?_
  rintro _ _ ⟨b2, rfl, rfl⟩
  refine WP.nil ?_
  refine Out.next ?_
  refine WPc.seq ?_
  refine WPc.seq ?_
  refine WPc.region ?_
  refine WP.val rfl rfl rfl (Val.move rfl rfl) ?_
  refine WP.nil ?_
  refine Out.next ?_
  refine WPc.block ?_
  refine WPc.seq ?_
  refine WPc.region ?_
  refine WP.val rfl rfl rfl (Val.eql rfl rfl rfl) ?_
  refine WP.val rfl rfl rfl (Val.assign rfl rfl) ?_
  refine WP.nil ?_
  refine Out.next ?_
  refine WPc.ifP rfl (fun h1 => ?_) (fun h1 => ?_)
  · skip
    have h1 : (k = (1 : Int)) := h1
    refine WPc.seq ?_
    refine WPc.seq ?_
    refine WPc.region ?_
    refine WP.val rfl rfl rfl (Val.fieldAddr (j := 0) rfl Ty.fo56_0 rfl rfl) ?_
    refine WP.val rfl rfl rfl (Val.fieldAddr (j := 2) rfl Ty.fo54_2 rfl rfl) ?_
    refine WP.val rfl rfl rfl (Val.load rfl Ty.sc4 rfl (fun w h => h.cell 1 rfl rfl)) ?_
    refine WP.nil ?_
    refine Out.next ?_
    refine WPc.cond rfl (fun h2 => ?_) (fun h2 => ?_)
    · skip
      have h2 : (x.one) = true := h2
      refine WPc.seq ?_
      refine WPc.region ?_
      refine WP.val rfl rfl rfl (Val.fieldAddr (j := 0) rfl Ty.fo56_0 rfl rfl) ?_
      refine WP.val rfl rfl rfl (Val.fieldAddr (j := 0) rfl Ty.fo54_0 rfl rfl) ?_
      refine WP.val rfl rfl rfl (Val.load rfl Ty.sc9 rfl (fun w h => h.cell 1 rfl rfl)) ?_
      refine WP.eff rfl rfl rfl (Eff.call rfl rfl Try.call103 (sap_does x.key hkey)) ?_
      rintro _ _ ⟨_, ⟨rfl, rfl⟩, rfl⟩
      show WP _ _ _ _ _ _ _ (Blk b2 [.nilIface, .nilIface] 172 :: Blk b1 [.string x.key, .string x.fin, .bool (x.one), .int .i64 (x.lo), .int .i64 (x.hi)] 56 :: F)
      refine WP.eff0 rfl rfl (Eff.storeAgg (cs := [.iface 130 (.string x.key), .iface 130 (.string (x.key ++ (⟨#[0]⟩ : ByteArray)))]) (C' := [.iface 130 (.string x.key), .iface 130 (.string (x.key ++ (⟨#[0]⟩ : ByteArray)))]) rfl Ty.ag172 rfl rfl rfl rfl (by simp) rfl) ?_
      rintro _ _ rfl
      refine WP.nil ?_
      refine Out.next ?_
      refine WPc.ret ?_
      refine Out.then_ret ?_
      refine Out.block_ret ?_
      refine Out.then_ret ?_
      have hkt := kt1 (by assumption)
      have hkb : kB k x = ka x.key := ke1 (by assumption) _ _
      have hend : x.end = x.key ++ (⟨#[0]⟩ : ByteArray) := by unfold Sp.end; simp_all
      have hke : kE k x = ka (x.key ++ (⟨#[0]⟩ : ByteArray)) := by unfold kE; rw [hend]; exact ke1 (by assumption) _ _
      refine Out.perm pl1 ?_
      refine Out.drop ?_
      exact Out.retRun (L' := [Enp ⟨ka x.key, 130, .string x.key⟩, Enp ⟨ka (x.key ++ (⟨#[0]⟩ : ByteArray)), 130, .string (x.key ++ (⟨#[0]⟩ : ByteArray))⟩]) (results_cell (cs := [.iface 130 (.string x.key), .iface 130 (.string (x.key ++ (⟨#[0]⟩ : ByteArray)))]) Try.results94 Ty.ag172 rfl rfl (fun w h => h.range 0 rfl rfl)) ⟨⟨ka x.key, 130, .string x.key⟩, ⟨ka (x.key ++ (⟨#[0]⟩ : ByteArray)), 130, .string (x.key ++ (⟨#[0]⟩ : ByteArray))⟩, rfl, hkt.symm, hkt.symm, hkb.symm, hke.symm, rfl⟩ (fun w h => enp_a x.key (enp_a (x.key ++ (⟨#[0]⟩ : ByteArray)) h.drop))
    · skip
      have h2 : (x.one) = false := h2
      refine WPc.skip ?_
      refine Out.next ?_
      refine WPc.seq ?_
      refine WPc.region ?_
      refine WP.val rfl rfl rfl (Val.fieldAddr (j := 0) rfl Ty.fo56_0 rfl rfl) ?_
      refine WP.val rfl rfl rfl (Val.fieldAddr (j := 0) rfl Ty.fo54_0 rfl rfl) ?_
      refine WP.val rfl rfl rfl (Val.load rfl Ty.sc9 rfl (fun w h => h.cell 1 rfl rfl)) ?_
      refine WP.val rfl rfl rfl (Val.fieldAddr (j := 0) rfl Ty.fo56_0 rfl rfl) ?_
      refine WP.val rfl rfl rfl (Val.fieldAddr (j := 1) rfl Ty.fo54_1 rfl rfl) ?_
      refine WP.val rfl rfl rfl (Val.load rfl Ty.sc9 rfl (fun w h => h.cell 1 rfl rfl)) ?_
      refine WP.eff rfl rfl rfl (Eff.call rfl rfl Try.call102 (sai_does (x.key) (x.fin))) ?_
      rintro _ _ ⟨_, ⟨rfl, rfl⟩, rfl⟩
      show WP _ _ _ _ _ _ _ (Blk b2 [.nilIface, .nilIface] 172 :: Blk b1 [.string x.key, .string x.fin, .bool (x.one), .int .i64 (x.lo), .int .i64 (x.hi)] 56 :: F)
      refine WP.eff0 rfl rfl (Eff.storeAgg (cs := [.iface 130 (.string x.key), .iface 130 (.string x.fin)]) (C' := [.iface 130 (.string x.key), .iface 130 (.string x.fin)]) rfl Ty.ag172 rfl rfl rfl rfl (by simp) rfl) ?_
      rintro _ _ rfl
      refine WP.nil ?_
      refine Out.next ?_
      refine WPc.ret ?_
      refine Out.block_ret ?_
      refine Out.then_ret ?_
      have hkt := kt1 (by assumption)
      have hkb : kB k x = ka x.key := ke1 (by assumption) _ _
      have hend : x.end = x.fin := by unfold Sp.end; simp_all
      have hke : kE k x = ka (x.fin) := by unfold kE; rw [hend]; exact ke1 (by assumption) _ _
      refine Out.perm pl1 ?_
      refine Out.drop ?_
      exact Out.retRun (L' := [Enp ⟨ka x.key, 130, .string x.key⟩, Enp ⟨ka (x.fin), 130, .string (x.fin)⟩]) (results_cell (cs := [.iface 130 (.string x.key), .iface 130 (.string x.fin)]) Try.results94 Ty.ag172 rfl rfl (fun w h => h.range 0 rfl rfl)) ⟨⟨ka x.key, 130, .string x.key⟩, ⟨ka (x.fin), 130, .string (x.fin)⟩, rfl, hkt.symm, hkt.symm, hkb.symm, hke.symm, rfl⟩ (fun w h => enp_a x.key (enp_a (x.fin) h.drop))
  · skip
    have h1 : ¬ (k = (1 : Int)) := h1
    refine WPc.seq ?_
    refine WPc.region ?_
    refine WP.val rfl rfl rfl (Val.eql rfl rfl rfl) ?_
    refine WP.val rfl rfl rfl (Val.assign rfl rfl) ?_
    refine WP.nil ?_
    refine Out.next ?_
    refine WPc.ifP rfl (fun h3 => ?_) (fun h3 => ?_)
    · skip
      have h3 : (k = (2 : Int)) := h3
      refine WPc.seq ?_
      refine WPc.seq ?_
      refine WPc.region ?_
      refine WP.val rfl rfl rfl (Val.fieldAddr (j := 0) rfl Ty.fo56_0 rfl rfl) ?_
      refine WP.val rfl rfl rfl (Val.fieldAddr (j := 2) rfl Ty.fo54_2 rfl rfl) ?_
      refine WP.val rfl rfl rfl (Val.load rfl Ty.sc4 rfl (fun w h => h.cell 1 rfl rfl)) ?_
      refine WP.nil ?_
      refine Out.next ?_
      refine WPc.cond rfl (fun h4 => ?_) (fun h4 => ?_)
      · skip
        have h4 : (x.one) = true := h4
        refine WPc.seq ?_
        refine WPc.region ?_
        refine WP.val rfl rfl rfl (Val.fieldAddr (j := 0) rfl Ty.fo56_0 rfl rfl) ?_
        refine WP.val rfl rfl rfl (Val.fieldAddr (j := 0) rfl Ty.fo54_0 rfl rfl) ?_
        refine WP.val rfl rfl rfl (Val.load rfl Ty.sc9 rfl (fun w h => h.cell 1 rfl rfl)) ?_
        refine WP.eff rfl rfl rfl (Eff.bytes rfl Ty.st9 Ty.by110 rfl) ?_
        rintro _ _ ⟨b3, capb3, spb3, rfl, hcb3, hsb3, rfl⟩
        refine WP.eff rfl rfl rfl (Eff.call rfl rfl Try.call105 (bap_does b3 capb3 spb3 x.key hkey hcb3)) ?_
        rintro _ _ ⟨_, ⟨g4, rfl, rfl⟩, rfl⟩
        show WP _ _ _ _ _ _ _ (Blk b3 (byteCells x.key ++ spb3) 5 :: Blk g4 (byteCells x.key ++ [Value.int .u8 0]) 5 :: Blk b2 [.nilIface, .nilIface] 172 :: Blk b1 [.string x.key, .string x.fin, .bool (x.one), .int .i64 (x.lo), .int .i64 (x.hi)] 56 :: F)
        refine WP.perm pl2 ?_
        refine WP.eff0 rfl rfl (Eff.storeAgg (cs := [.iface 132 (.slice (some ⟨b3, 0, none⟩) ((x.key).size) capb3), .iface 132 (.slice (some ⟨g4, 0, none⟩) ((x.key.size + 1)) ((x.key.size + 1)))]) (C' := [.iface 132 (.slice (some ⟨b3, 0, none⟩) ((x.key).size) capb3), .iface 132 (.slice (some ⟨g4, 0, none⟩) ((x.key.size + 1)) ((x.key.size + 1)))]) rfl Ty.ag172 rfl rfl rfl rfl (by simp) rfl) ?_
        rintro _ _ rfl
        refine WP.nil ?_
        refine Out.next ?_
        refine WPc.ret ?_
        refine Out.then_ret ?_
        refine Out.block_ret ?_
        refine Out.then_ret ?_
        have hkt := kt2 (by assumption) (by assumption)
        have hkb : kB k x = ka x.key := ke2 (by assumption) _ _
        have hend : x.end = x.key ++ (⟨#[0]⟩ : ByteArray) := by unfold Sp.end; simp_all
        have hke : kE k x = ka (x.key ++ (⟨#[0]⟩ : ByteArray)) := by unfold kE; rw [hend]; exact ke2 (by assumption) _ _
        refine Out.perm pl3 ?_
        refine Out.drop ?_
        refine Out.perm pl1 ?_
        refine Out.perm pl2 ?_
        refine Out.perm pl2 ?_
        exact Out.retRun (L' := [Enp ⟨ka x.key, 132, .slice (some ⟨b3, 0, none⟩) x.key.size capb3⟩, Enp ⟨ka (x.key ++ (⟨#[0]⟩ : ByteArray)), 132, .slice (some ⟨g4, 0, none⟩) (x.key ++ (⟨#[0]⟩ : ByteArray)).size (x.key.size + 1)⟩]) (results_cell (cs := [.iface 132 (.slice (some ⟨b3, 0, none⟩) ((x.key).size) capb3), .iface 132 (.slice (some ⟨g4, 0, none⟩) ((x.key.size + 1)) ((x.key.size + 1)))]) Try.results94 Ty.ag172 rfl rfl (fun w h => h.range 0 rfl rfl)) ⟨⟨ka x.key, 132, .slice (some ⟨b3, 0, none⟩) x.key.size capb3⟩, ⟨ka (x.key ++ (⟨#[0]⟩ : ByteArray)), 132, .slice (some ⟨g4, 0, none⟩) (x.key ++ (⟨#[0]⟩ : ByteArray)).size (x.key.size + 1)⟩, by simp [ByteArray.size_append]; rfl, hkt.symm, hkt.symm, hkb.symm, hke.symm, rfl⟩ (fun w h => enp_b x.key hcb3 ((enp_b (sp := []) (x.key ++ (⟨#[0]⟩ : ByteArray)) (Nat.le_of_eq (by rw [ByteArray.size_append]; rfl)) (by have h := h.drop; rw [bc0_app] at h; rw [List.append_nil]; exact h)).perm pl1))
      · skip
        have h4 : (x.one) = false := h4
        refine WPc.skip ?_
        refine Out.next ?_
        refine WPc.seq ?_
        refine WPc.region ?_
        refine WP.val rfl rfl rfl (Val.fieldAddr (j := 0) rfl Ty.fo56_0 rfl rfl) ?_
        refine WP.val rfl rfl rfl (Val.fieldAddr (j := 0) rfl Ty.fo54_0 rfl rfl) ?_
        refine WP.val rfl rfl rfl (Val.load rfl Ty.sc9 rfl (fun w h => h.cell 1 rfl rfl)) ?_
        refine WP.eff rfl rfl rfl (Eff.bytes rfl Ty.st9 Ty.by110 rfl) ?_
        rintro _ _ ⟨b5, capb5, spb5, rfl, hcb5, hsb5, rfl⟩
        refine WP.val rfl rfl rfl (Val.fieldAddr (j := 0) rfl Ty.fo56_0 rfl rfl) ?_
        refine WP.val rfl rfl rfl (Val.fieldAddr (j := 1) rfl Ty.fo54_1 rfl rfl) ?_
        refine WP.val rfl rfl rfl (Val.load rfl Ty.sc9 rfl (fun w h => h.cell 2 rfl rfl)) ?_
        refine WP.eff rfl rfl rfl (Eff.bytes rfl Ty.st9 Ty.by110 rfl) ?_
        rintro _ _ ⟨b6, capb6, spb6, rfl, hcb6, hsb6, rfl⟩
        refine WP.eff rfl rfl rfl (Eff.call rfl rfl Try.call104 (bai_does (.slice (some ⟨b5, 0, none⟩) ((x.key).size) capb5) (.slice (some ⟨b6, 0, none⟩) ((x.fin).size) capb6))) ?_
        rintro _ _ ⟨_, ⟨rfl, rfl⟩, rfl⟩
        show WP _ _ _ _ _ _ _ (Blk b6 (byteCells x.fin ++ spb6) 5 :: Blk b5 (byteCells x.key ++ spb5) 5 :: Blk b2 [.nilIface, .nilIface] 172 :: Blk b1 [.string x.key, .string x.fin, .bool (x.one), .int .i64 (x.lo), .int .i64 (x.hi)] 56 :: F)
        refine WP.perm pl2 ?_
        refine WP.eff0 rfl rfl (Eff.storeAgg (cs := [.iface 132 (.slice (some ⟨b5, 0, none⟩) ((x.key).size) capb5), .iface 132 (.slice (some ⟨b6, 0, none⟩) ((x.fin).size) capb6)]) (C' := [.iface 132 (.slice (some ⟨b5, 0, none⟩) ((x.key).size) capb5), .iface 132 (.slice (some ⟨b6, 0, none⟩) ((x.fin).size) capb6)]) rfl Ty.ag172 rfl rfl rfl rfl (by simp) rfl) ?_
        rintro _ _ rfl
        refine WP.nil ?_
        refine Out.next ?_
        refine WPc.ret ?_
        refine Out.block_ret ?_
        refine Out.then_ret ?_
        have hkt := kt2 (by assumption) (by assumption)
        have hkb : kB k x = ka x.key := ke2 (by assumption) _ _
        have hend : x.end = x.fin := by unfold Sp.end; simp_all
        have hke : kE k x = ka (x.fin) := by unfold kE; rw [hend]; exact ke2 (by assumption) _ _
        refine Out.perm pl3 ?_
        refine Out.drop ?_
        exact Out.retRun (L' := [Enp ⟨ka x.key, 132, .slice (some ⟨b5, 0, none⟩) x.key.size capb5⟩, Enp ⟨ka (x.fin), 132, .slice (some ⟨b6, 0, none⟩) (x.fin).size capb6⟩]) (results_cell (cs := [.iface 132 (.slice (some ⟨b5, 0, none⟩) ((x.key).size) capb5), .iface 132 (.slice (some ⟨b6, 0, none⟩) ((x.fin).size) capb6)]) Try.results94 Ty.ag172 rfl rfl (fun w h => h.range 0 rfl rfl)) ⟨⟨ka x.key, 132, .slice (some ⟨b5, 0, none⟩) x.key.size capb5⟩, ⟨ka (x.fin), 132, .slice (some ⟨b6, 0, none⟩) (x.fin).size capb6⟩, rfl, hkt.symm, hkt.symm, hkb.symm, hke.symm, rfl⟩ (fun w h => enp_b x.key hcb5 ((enp_b x.fin hcb6 h.drop).perm pl1))
    · skip
      have h3 : ¬ (k = (2 : Int)) := h3
      refine WPc.seq ?_
      refine WPc.region ?_
      refine WP.val rfl rfl rfl (Val.eql rfl rfl rfl) ?_
      refine WP.val rfl rfl rfl (Val.assign rfl rfl) ?_
      refine WP.nil ?_
      refine Out.next ?_
      refine WPc.ifP rfl (fun h5 => ?_) (fun h5 => ?_)
      · skip
        have h5 : (k = (3 : Int)) := h5
        refine WPc.seq ?_
        refine WPc.seq ?_
        refine WPc.region ?_
        refine WP.val rfl rfl rfl (Val.fieldAddr (j := 0) rfl Ty.fo56_0 rfl rfl) ?_
        refine WP.val rfl rfl rfl (Val.fieldAddr (j := 2) rfl Ty.fo54_2 rfl rfl) ?_
        refine WP.val rfl rfl rfl (Val.load rfl Ty.sc4 rfl (fun w h => h.cell 1 rfl rfl)) ?_
        refine WP.nil ?_
        refine Out.next ?_
        refine WPc.cond rfl (fun h6 => ?_) (fun h6 => ?_)
        · skip
          have h6 : (x.one) = true := h6
          exfalso; have h0 := (hk3 (by assumption)).1; simp_all
        · skip
          have h6 : (x.one) = false := h6
          refine WPc.skip ?_
          refine Out.next ?_
          refine WPc.seq ?_
          refine WPc.region ?_
          refine WP.val rfl rfl rfl (Val.fieldAddr (j := 3) rfl Ty.fo56_1 rfl rfl) ?_
          refine WP.val rfl rfl rfl (Val.load rfl Ty.sc2 rfl (fun w h => h.cell 1 rfl rfl)) ?_
          refine WP.val rfl rfl rfl (Val.fieldAddr (j := 4) rfl Ty.fo56_2 rfl rfl) ?_
          refine WP.val rfl rfl rfl (Val.load rfl Ty.sc2 rfl (fun w h => h.cell 1 rfl rfl)) ?_
          refine WP.eff rfl rfl rfl (Eff.call rfl rfl Try.call108 (ii_does (x.lo) (x.hi))) ?_
          rintro _ _ ⟨_, ⟨rfl, rfl⟩, rfl⟩
          show WP _ _ _ _ _ _ _ (Blk b2 [.nilIface, .nilIface] 172 :: Blk b1 [.string x.key, .string x.fin, .bool (x.one), .int .i64 (x.lo), .int .i64 (x.hi)] 56 :: F)
          refine WP.eff0 rfl rfl (Eff.storeAgg (cs := [.iface 133 (.int .i64 (x.lo)), .iface 133 (.int .i64 (x.hi))]) (C' := [.iface 133 (.int .i64 (x.lo)), .iface 133 (.int .i64 (x.hi))]) rfl Ty.ag172 rfl rfl rfl rfl (by simp) rfl) ?_
          rintro _ _ rfl
          refine WP.nil ?_
          refine Out.next ?_
          refine WPc.ret ?_
          refine Out.block_ret ?_
          refine Out.then_ret ?_
          have hkt := kt3 (by assumption) (by assumption) (by assumption)
          have hkb : kB k x = ki x.lo := ke3 (by assumption) _ _
          have hke : kE k x = ki x.hi := ke3 (by assumption) _ _
          refine Out.perm pl1 ?_
          refine Out.drop ?_
          exact Out.retRun (L' := [Enp ⟨ki x.lo, 133, .int .i64 x.lo⟩, Enp ⟨ki x.hi, 133, .int .i64 x.hi⟩]) (results_cell (cs := [.iface 133 (.int .i64 (x.lo)), .iface 133 (.int .i64 (x.hi))]) Try.results94 Ty.ag172 rfl rfl (fun w h => h.range 0 rfl rfl)) ⟨⟨ki x.lo, 133, .int .i64 x.lo⟩, ⟨ki x.hi, 133, .int .i64 x.hi⟩, rfl, hkt.symm, hkt.symm, hkb.symm, hke.symm, rfl⟩ (fun w h => enp_i x.lo (hk3 (by assumption)).2.1 (enp_i x.hi (hk3 (by assumption)).2.2 h.drop))
      · skip
        have h5 : ¬ (k = (3 : Int)) := h5
        refine WPc.skip ?_
        refine Out.block ?_
        refine Out.next ?_
        refine WPc.seq ?_
        refine WPc.seq ?_
        refine WPc.region ?_
        refine WP.val rfl rfl rfl (Val.fieldAddr (j := 0) rfl Ty.fo56_0 rfl rfl) ?_
        refine WP.val rfl rfl rfl (Val.fieldAddr (j := 2) rfl Ty.fo54_2 rfl rfl) ?_
        refine WP.val rfl rfl rfl (Val.load rfl Ty.sc4 rfl (fun w h => h.cell 1 rfl rfl)) ?_
        refine WP.nil ?_
        refine Out.next ?_
        refine WPc.cond rfl (fun h7 => ?_) (fun h7 => ?_)
        · skip
          have h7 : (x.one) = true := h7
          refine WPc.seq ?_
          refine WPc.region ?_
          refine WP.val rfl rfl rfl (Val.fieldAddr (j := 0) rfl Ty.fo56_0 rfl rfl) ?_
          refine WP.val rfl rfl rfl (Val.fieldAddr (j := 0) rfl Ty.fo54_0 rfl rfl) ?_
          refine WP.val rfl rfl rfl (Val.load rfl Ty.sc9 rfl (fun w h => h.cell 1 rfl rfl)) ?_
          refine WP.eff rfl rfl rfl (Eff.call rfl rfl Try.call109 (sp_does x.key hkey)) ?_
          rintro _ _ ⟨_, ⟨rfl, rfl⟩, rfl⟩
          show WP _ _ _ _ _ _ _ (Blk b2 [.nilIface, .nilIface] 172 :: Blk b1 [.string x.key, .string x.fin, .bool (x.one), .int .i64 (x.lo), .int .i64 (x.hi)] 56 :: F)
          refine WP.eff0 rfl rfl (Eff.storeAgg (cs := [.iface 134 (.string x.key), .iface 134 (.string (x.key ++ (⟨#[0]⟩ : ByteArray)))]) (C' := [.iface 134 (.string x.key), .iface 134 (.string (x.key ++ (⟨#[0]⟩ : ByteArray)))]) rfl Ty.ag172 rfl rfl rfl rfl (by simp) rfl) ?_
          rintro _ _ rfl
          refine WP.nil ?_
          refine Out.next ?_
          refine WPc.ret ?_
          refine Out.then_ret ?_
          have hkt := kt0 (by assumption) (by assumption) (by assumption)
          have hkb : kB k x = ks x.key := ke0 (by assumption) (by assumption) (by assumption) _ _
          have hend : x.end = x.key ++ (⟨#[0]⟩ : ByteArray) := by unfold Sp.end; simp_all
          have hke : kE k x = ks (x.key ++ (⟨#[0]⟩ : ByteArray)) := by unfold kE; rw [hend]; exact ke0 (by assumption) (by assumption) (by assumption) _ _
          refine Out.perm pl1 ?_
          refine Out.drop ?_
          exact Out.retRun (L' := [Enp ⟨ks x.key, 134, .string x.key⟩, Enp ⟨ks (x.key ++ (⟨#[0]⟩ : ByteArray)), 134, .string (x.key ++ (⟨#[0]⟩ : ByteArray))⟩]) (results_cell (cs := [.iface 134 (.string x.key), .iface 134 (.string (x.key ++ (⟨#[0]⟩ : ByteArray)))]) Try.results94 Ty.ag172 rfl rfl (fun w h => h.range 0 rfl rfl)) ⟨⟨ks x.key, 134, .string x.key⟩, ⟨ks (x.key ++ (⟨#[0]⟩ : ByteArray)), 134, .string (x.key ++ (⟨#[0]⟩ : ByteArray))⟩, rfl, hkt.symm, hkt.symm, hkb.symm, hke.symm, rfl⟩ (fun w h => enp_s x.key (enp_s (x.key ++ (⟨#[0]⟩ : ByteArray)) h.drop))
        · skip
          have h7 : (x.one) = false := h7
          refine WPc.skip ?_
          refine Out.next ?_
          refine WPc.seq ?_
          refine WPc.region ?_
          refine WP.val rfl rfl rfl (Val.fieldAddr (j := 0) rfl Ty.fo56_0 rfl rfl) ?_
          refine WP.val rfl rfl rfl (Val.fieldAddr (j := 0) rfl Ty.fo54_0 rfl rfl) ?_
          refine WP.val rfl rfl rfl (Val.load rfl Ty.sc9 rfl (fun w h => h.cell 1 rfl rfl)) ?_
          refine WP.val rfl rfl rfl (Val.fieldAddr (j := 0) rfl Ty.fo56_0 rfl rfl) ?_
          refine WP.val rfl rfl rfl (Val.fieldAddr (j := 1) rfl Ty.fo54_1 rfl rfl) ?_
          refine WP.val rfl rfl rfl (Val.load rfl Ty.sc9 rfl (fun w h => h.cell 1 rfl rfl)) ?_
          refine WP.eff rfl rfl rfl (Eff.call rfl rfl Try.call110 (si_does (x.key) (x.fin))) ?_
          rintro _ _ ⟨_, ⟨rfl, rfl⟩, rfl⟩
          show WP _ _ _ _ _ _ _ (Blk b2 [.nilIface, .nilIface] 172 :: Blk b1 [.string x.key, .string x.fin, .bool (x.one), .int .i64 (x.lo), .int .i64 (x.hi)] 56 :: F)
          refine WP.eff0 rfl rfl (Eff.storeAgg (cs := [.iface 134 (.string x.key), .iface 134 (.string x.fin)]) (C' := [.iface 134 (.string x.key), .iface 134 (.string x.fin)]) rfl Ty.ag172 rfl rfl rfl rfl (by simp) rfl) ?_
          rintro _ _ rfl
          refine WP.nil ?_
          refine Out.next ?_
          refine WPc.ret ?_
          have hkt := kt0 (by assumption) (by assumption) (by assumption)
          have hkb : kB k x = ks x.key := ke0 (by assumption) (by assumption) (by assumption) _ _
          have hend : x.end = x.fin := by unfold Sp.end; simp_all
          have hke : kE k x = ks (x.fin) := by unfold kE; rw [hend]; exact ke0 (by assumption) (by assumption) (by assumption) _ _
          refine Out.perm pl1 ?_
          refine Out.drop ?_
          exact Out.retRun (L' := [Enp ⟨ks x.key, 134, .string x.key⟩, Enp ⟨ks (x.fin), 134, .string (x.fin)⟩]) (results_cell (cs := [.iface 134 (.string x.key), .iface 134 (.string x.fin)]) Try.results94 Ty.ag172 rfl rfl (fun w h => h.range 0 rfl rfl)) ⟨⟨ks x.key, 134, .string x.key⟩, ⟨ks (x.fin), 134, .string (x.fin)⟩, rfl, hkt.symm, hkt.symm, hkb.symm, hke.symm, rfl⟩ (fun w h => enp_s x.key (enp_s (x.fin) h.drop))

end Go.Proofs.Ytbomnihiapjmpaa.Tr

namespace Go.Proofs.Ytbomnihiapjmpaa.Ts
open Go.RowKit Go.Proofs.Ytbomnihiapjmpaa Go.Proofs.Ytbomnihiapjmpaa.Sl Go.Proofs.Ytbomnihiapjmpaa.TrP Go.Proofs.Ytbomnihiapjmpaa.Tc Go.Proofs.Ytbomnihiapjmpaa.Td Go.Proofs.Ytbomnihiapjmpaa.Te Go.Proofs.Ytbomnihiapjmpaa.Tf Go.Proofs.Ytbomnihiapjmpaa.Tg Go.Proofs.Ytbomnihiapjmpaa.Th Go.Proofs.Ytbomnihiapjmpaa.Ti Go.Proofs.Ytbomnihiapjmpaa.Tk
set_option linter.unusedVariables false
set_option linter.unusedSimpArgs false
set_option linter.unusedSectionVars false


/-- the node of an interval -/
def fnd (ib ie : Ky) : T → Option Nat
  | .leaf => none
  | .node i l x _ r => if ib = x.b.k ∧ ie = x.e.k then some i else if goK ib ie x.b.k x.e.k then fnd ib ie l else fnd ib ie r
theorem fnd_y {ib ie : Ky} {i : Nat} {l r : T} {x : It} {c : Bool} (h : kcmp ib x.b.k = 0) (h2 : kcmp ie x.e.k = 0) : fnd ib ie (.node i l x c r) = some i := by
  unfold fnd
  rw [if_pos ⟨kcmp_eq.1 h, kcmp_eq.1 h2⟩]
theorem fnd_l {ib ie : Ky} {i : Nat} {l r : T} {x : It} {c : Bool} (h : ¬ (kcmp ib x.b.k = 0 ∧ kcmp ie x.e.k = 0)) (h2 : goK ib ie x.b.k x.e.k) : fnd ib ie (.node i l x c r) = fnd ib ie l := by
  conv => lhs; unfold fnd
  rw [if_neg (fun e => h ⟨kcmp_eq.2 e.1, kcmp_eq.2 e.2⟩), if_pos h2]
theorem fnd_r {ib ie : Ky} {i : Nat} {l r : T} {x : It} {c : Bool} (h : ¬ (kcmp ib x.b.k = 0 ∧ kcmp ie x.e.k = 0)) (h2 : ¬ goK ib ie x.b.k x.e.k) : fnd ib ie (.node i l x c r) = fnd ib ie r := by
  conv => lhs; unfold fnd
  rw [if_neg (fun e => h ⟨kcmp_eq.2 e.1, kcmp_eq.2 e.2⟩), if_neg h2]
set_option maxRecDepth 100000 in
set_option maxHeartbeats 2000000 in
theorem find_does (EL : List En) (t0 : TypeId) (hE : ∀ e ∈ EL, e.t = t0) (s : Nat) (D : List Nat) (ZC : List Value) (tb root : Nat) (cnt : Int) (S : St) (ok : Ok s EL D S) (hroot : Is s D root) (T0 : T) (hT : RM s S T0 root s) (ib ie : En) (hib : ib ∈ EL) (hie : ie ∈ EL) : Does Try.prog 146 [.pointer (some ⟨tb, 0, none⟩), .agg #[.iface ib.t (ib.u), .iface ie.t (ie.u)]] [Blk tb [.pointer (some ⟨root, 0, none⟩), .int .i64 (cnt), .pointer (some ⟨s, 0, none⟩)] 180, Ens EL, Sto S D, Blk s ZC 177] (fun v L => v = .pointer (some ⟨(fnd ib.k ie.k T0).getD s, 0, none⟩) ∧ L = [Blk tb [.pointer (some ⟨root, 0, none⟩), .int .i64 cnt, .pointer (some ⟨s, 0, none⟩)] 180, Ens EL, Sto S D, Blk s ZC 177]) := by
  refine Does.enter 70 Try.func146 rfl rfl rfl fun W F => ?_
  show WPc _ _ _ _ _ [(0, .pointer (some ⟨tb, 0, none⟩)), (1, .agg #[.iface ib.t (ib.u), .iface ie.t (ie.u)])] (Blk tb [.pointer (some ⟨root, 0, none⟩), .int .i64 (cnt), .pointer (some ⟨s, 0, none⟩)] 180 :: Ens EL :: Sto S D :: Blk s ZC 177 :: F)
  refine WPc.seq ?_
  refine WPc.region ?_
  refine WP.eff rfl rfl rfl (Eff.box (C := [.iface ib.t (ib.u), .iface ie.t (ie.u)]) rfl rfl rfl) ?_
  rintro _ _ ⟨b1, rfl, rfl⟩
  refine WP.val rfl rfl rfl (Val.assign rfl rfl) ?_
  refine WP.nil ?_
  refine Out.next ?_
  refine WPc.seq ?_
  refine WPc.region ?_
  refine WP.val rfl rfl rfl (Val.move rfl rfl) ?_
  refine WP.val rfl rfl rfl (Val.nilCheck rfl rfl) ?_
  refine WP.val rfl rfl rfl (Val.fieldAddr (j := 0) rfl Ty.fo180_0 rfl rfl) ?_
  refine WP.val rfl rfl rfl (Val.load rfl Ty.sc168 rfl (fun w h => h.cell 1 rfl rfl)) ?_
  refine WP.val rfl rfl rfl (Val.assign rfl rfl) ?_
  refine WP.nil ?_
  refine Out.next ?_
  refine WPc.seq ?_
  refine WPc.block ?_
  refine WPc.loop (ι := T × Nat) (fun ⟨t, x⟩ => (∃ p, RM s S t x p) ∧ fnd ib.k ie.k t = fnd ib.k ie.k T0 ∧ Is s D x) (fun ⟨t, x⟩ => [(0, .pointer (some ⟨tb, 0, none⟩)), (3, .pointer (some ⟨b1, 0, none⟩)), (5, .pointer (some ⟨x, 0, none⟩))]) (fun ⟨t, x⟩ => Blk b1 [.iface ib.t (ib.u), .iface ie.t (ie.u)] 172 :: Blk tb [.pointer (some ⟨root, 0, none⟩), .int .i64 (cnt), .pointer (some ⟨s, 0, none⟩)] 180 :: Ens EL :: Sto S D :: Blk s ZC 177 :: F) (fun ⟨t, x⟩ => t.depth) ⟨T0, root⟩ ⟨⟨s, hT⟩, rfl, hroot⟩ ((Sub.cons rfl (Sub.cons rfl (Sub.cons rfl Sub.nil)))) (fun _ h => h) ?_
  rintro ⟨t, x⟩ hI
  show WPc _ _ _ _ _ [(0, .pointer (some ⟨tb, 0, none⟩)), (3, .pointer (some ⟨b1, 0, none⟩)), (5, .pointer (some ⟨x, 0, none⟩))] (Blk b1 [.iface ib.t (ib.u), .iface ie.t (ie.u)] 172 :: Blk tb [.pointer (some ⟨root, 0, none⟩), .int .i64 (cnt), .pointer (some ⟨s, 0, none⟩)] 180 :: Ens EL :: Sto S D :: Blk s ZC 177 :: F)
  obtain ⟨⟨p, hrm⟩, hsec, hx⟩ := hI
  refine WPc.seq ?_
  refine WPc.seq ?_
  refine WPc.region ?_
  refine WP.val rfl rfl rfl (Val.move rfl rfl) ?_
  refine WP.val rfl rfl rfl (Val.move rfl rfl) ?_
  refine WP.val rfl rfl rfl (Val.nilCheck rfl rfl) ?_
  refine WP.val rfl rfl rfl (Val.fieldAddr (j := 2) rfl Ty.fo180_2 rfl rfl) ?_
  refine WP.val rfl rfl rfl (Val.load rfl Ty.sc168 rfl (fun w h => h.cell 1 rfl rfl)) ?_
  refine WP.val rfl rfl rfl (Val.neqP (T1 := 177) (T2 := 177) rfl pn168 rfl rfl rfl rfl (fun w h => whole (h.at 3 rfl) (h.at 4 rfl) hx) (fun w h => whole (h.at 3 rfl) (h.at 4 rfl) (.inl rfl))) ?_
  refine WP.nil ?_
  refine Out.next ?_
  refine WPc.ifP rfl (fun h1 => ?_) (fun h1 => ?_)
  · skip
    have h1 : (x ≠ s) := h1
    refine WPc.skip ?_
    refine Out.next ?_
    refine WPc.block ?_
    refine WPc.seq ?_
    have hxs : x ≠ s := by assumption
    obtain ⟨l, it, c, r, rfl, hit, hl, hr⟩ := RM_node hrm hxs
    have hxD : x ∈ D := hx.mem hxs
    refine WPD.start (Sat W (Blk b1 [.iface ib.t (ib.u), .iface ie.t (ie.u)] 172 :: Blk tb [.pointer (some ⟨root, 0, none⟩), .int .i64 (cnt), .pointer (some ⟨s, 0, none⟩)] 180 :: Ens EL :: Sto S D :: Blk s ZC 177 :: F)) Ty.mixed ?_
    refine WPD.takeM 0 rfl rfl rfl rfl (by kernel_rfl) (by kernel_rfl) (by kernel_rfl) (by kernel_rfl) (fun _ _ _ h => h) (fun _ h => h) (Val.fieldAddr (j := 0) rfl Ty.fo172_0 rfl rfl) ?_
    refine WPD.take 1 rfl rfl rfl rfl (by kernel_rfl) (by kernel_rfl) (by kernel_rfl) (by kernel_rfl) (fun _ _ _ h => h) (by kernel_rfl) (fun _ h => h) (Val.load rfl Ty.sc170 rfl (fun w h => h.cell 0 rfl rfl)) ?_
    refine WPD.takeM 2 rfl rfl rfl rfl (by kernel_rfl) (by kernel_rfl) (by kernel_rfl) (by kernel_rfl) (fun _ _ _ h => h) (fun _ h => h) (Val.move rfl rfl) ?_
    refine WPD.takeM 3 rfl rfl rfl rfl (by kernel_rfl) (by kernel_rfl) (by kernel_rfl) (by kernel_rfl) (fun _ _ _ h => h) (fun _ h => h) (Val.nilCheck rfl rfl) ?_
    refine WPD.takeM 4 rfl rfl rfl rfl (by kernel_rfl) (by kernel_rfl) (by kernel_rfl) (by kernel_rfl) (fun _ _ _ h => h) (fun _ h => h) (Val.fieldAddr (j := 0) rfl Ty.fo177_0 rfl rfl) ?_
    refine WPD.takeM 5 rfl rfl rfl rfl (by kernel_rfl) (by kernel_rfl) (by kernel_rfl) (by kernel_rfl) (fun _ _ _ h => h) (fun _ h => h) (Val.fieldAddr (j := 0) rfl Ty.fo174_0 rfl rfl) ?_
    refine WPD.takeM 6 rfl rfl rfl rfl (by kernel_rfl) (by kernel_rfl) (by kernel_rfl) (by kernel_rfl) (fun _ _ _ h => h) (fun _ h => h) (Val.fieldAddr (j := 0) rfl Ty.fo172_0 rfl rfl) ?_
    refine WPD.take 7 rfl rfl rfl rfl (by kernel_rfl) (by kernel_rfl) (by kernel_rfl) (by kernel_rfl) (fun _ _ _ h => h) (by kernel_rfl) (fun _ h => h) (Val.load (v := .iface ((S x).it.b).t (((S x).it.b).u)) rfl Ty.sc170 rfl (fun w h => sto_b (h.at 3 rfl) hxD rfl)) ?_
    refine WPD.takeM 8 rfl rfl rfl rfl (by kernel_rfl) (by kernel_rfl) (by kernel_rfl) (by kernel_rfl) (fun _ _ _ h => h) (fun _ h => h) (Val.nilCheckI rfl rfl) ?_
    refine WPD.takeM 9 rfl rfl rfl rfl (by kernel_rfl) (by kernel_rfl) (by kernel_rfl) (by kernel_rfl) (fun _ _ _ h => h) (fun _ h => h) (Val.move rfl rfl) ?_
    refine WPD.perm pl2 ?_
    refine WPD.stepC 10 (by kernel_rfl) rfl rfl rfl rfl (by kernel_rfl) (Eff.cmp (a := ib) (b := (S x).it.b) rfl rfl rfl hib (Ok.b ok hxD) ((hE _ hib).trans (hE _ (Ok.b ok hxD)).symm)) ?_
    rintro _ _ ⟨rfl, rfl⟩
    refine ⟨(Sat W (Ens EL :: Blk b1 [.iface ib.t (ib.u), .iface ie.t (ie.u)] 172 :: Blk tb [.pointer (some ⟨root, 0, none⟩), .int .i64 (cnt), .pointer (some ⟨s, 0, none⟩)] 180 :: Sto S D :: Blk s ZC 177 :: F)), (fun _ h => h), ?_⟩
    refine WPD.takeM 11 rfl rfl rfl rfl (by kernel_rfl) (by kernel_rfl) (by kernel_rfl) (by kernel_rfl) (fun _ _ _ h => h) (fun _ h => h) (Val.assign rfl rfl) ?_
    refine WPD.done (by kernel_rfl) ?_
    refine Out.next ?_
    refine WPc.seq ?_
    refine WPD.start (Sat W (Ens EL :: Blk b1 [.iface ib.t (ib.u), .iface ie.t (ie.u)] 172 :: Blk tb [.pointer (some ⟨root, 0, none⟩), .int .i64 (cnt), .pointer (some ⟨s, 0, none⟩)] 180 :: Sto S D :: Blk s ZC 177 :: F)) Ty.mixed ?_
    refine WPD.takeM 0 rfl rfl rfl rfl (by kernel_rfl) (by kernel_rfl) (by kernel_rfl) (by kernel_rfl) (fun _ _ _ h => h) (fun _ h => h) (Val.fieldAddr (j := 1) rfl Ty.fo172_1 rfl rfl) ?_
    refine WPD.take 1 rfl rfl rfl rfl (by kernel_rfl) (by kernel_rfl) (by kernel_rfl) (by kernel_rfl) (fun _ _ _ h => h) (by kernel_rfl) (fun _ h => h) (Val.load rfl Ty.sc170 rfl (fun w h => h.cell 1 rfl rfl)) ?_
    refine WPD.takeM 2 rfl rfl rfl rfl (by kernel_rfl) (by kernel_rfl) (by kernel_rfl) (by kernel_rfl) (fun _ _ _ h => h) (fun _ h => h) (Val.move rfl rfl) ?_
    refine WPD.takeM 3 rfl rfl rfl rfl (by kernel_rfl) (by kernel_rfl) (by kernel_rfl) (by kernel_rfl) (fun _ _ _ h => h) (fun _ h => h) (Val.nilCheck rfl rfl) ?_
    refine WPD.takeM 4 rfl rfl rfl rfl (by kernel_rfl) (by kernel_rfl) (by kernel_rfl) (by kernel_rfl) (fun _ _ _ h => h) (fun _ h => h) (Val.fieldAddr (j := 0) rfl Ty.fo177_0 rfl rfl) ?_
    refine WPD.takeM 5 rfl rfl rfl rfl (by kernel_rfl) (by kernel_rfl) (by kernel_rfl) (by kernel_rfl) (fun _ _ _ h => h) (fun _ h => h) (Val.fieldAddr (j := 0) rfl Ty.fo174_0 rfl rfl) ?_
    refine WPD.takeM 6 rfl rfl rfl rfl (by kernel_rfl) (by kernel_rfl) (by kernel_rfl) (by kernel_rfl) (fun _ _ _ h => h) (fun _ h => h) (Val.fieldAddr (j := 1) rfl Ty.fo172_1 rfl rfl) ?_
    refine WPD.take 7 rfl rfl rfl rfl (by kernel_rfl) (by kernel_rfl) (by kernel_rfl) (by kernel_rfl) (fun _ _ _ h => h) (by kernel_rfl) (fun _ h => h) (Val.load (v := .iface ((S x).it.e).t (((S x).it.e).u)) rfl Ty.sc170 rfl (fun w h => sto_e (h.at 3 rfl) hxD rfl)) ?_
    refine WPD.takeM 8 rfl rfl rfl rfl (by kernel_rfl) (by kernel_rfl) (by kernel_rfl) (by kernel_rfl) (fun _ _ _ h => h) (fun _ h => h) (Val.nilCheckI rfl rfl) ?_
    refine WPD.takeM 9 rfl rfl rfl rfl (by kernel_rfl) (by kernel_rfl) (by kernel_rfl) (by kernel_rfl) (fun _ _ _ h => h) (fun _ h => h) (Val.move rfl rfl) ?_
    refine WPD.stepC 10 (by kernel_rfl) rfl rfl rfl rfl (by kernel_rfl) (Eff.cmp (a := ie) (b := (S x).it.e) rfl rfl rfl hie (Ok.e ok hxD) ((hE _ hie).trans (hE _ (Ok.e ok hxD)).symm)) ?_
    rintro _ _ ⟨rfl, rfl⟩
    refine ⟨(Sat W (Ens EL :: Blk b1 [.iface ib.t (ib.u), .iface ie.t (ie.u)] 172 :: Blk tb [.pointer (some ⟨root, 0, none⟩), .int .i64 (cnt), .pointer (some ⟨s, 0, none⟩)] 180 :: Sto S D :: Blk s ZC 177 :: F)), (fun _ h => h), ?_⟩
    refine WPD.takeM 11 rfl rfl rfl rfl (by kernel_rfl) (by kernel_rfl) (by kernel_rfl) (by kernel_rfl) (fun _ _ _ h => h) (fun _ h => h) (Val.assign rfl rfl) ?_
    refine WPD.done (by kernel_rfl) ?_
    refine Out.next ?_
    refine WPc.seq ?_
    refine WPc.seq ?_
    refine WPc.region ?_
    refine WP.val rfl rfl rfl (Val.move rfl rfl) ?_
    refine WP.val rfl rfl rfl (Val.eql rfl rfl rfl) ?_
    refine WP.val rfl rfl rfl (Val.move rfl rfl) ?_
    refine WP.split 42 rfl (fun h2 => ?_) (fun h2 => ?_)
    · skip
      have h2 : ((kcmp ib.k ((S x).it.b).k) = (0 : Int)) := h2
      refine WP.valG rfl rfl rfl rfl rfl rfl rfl (Val.move rfl rfl) ?_
      refine WP.valG rfl rfl rfl rfl rfl rfl rfl (Val.eql rfl rfl rfl) ?_
      refine WP.val rfl rfl rfl (Val.pickT rfl rfl rfl) ?_
      refine WP.nil ?_
      refine Out.next ?_
      refine WPc.ifP rfl (fun h3 => ?_) (fun h3 => ?_)
      · skip
        have h3 : ((kcmp ie.k ((S x).it.e).k) = (0 : Int)) := h3
        refine WPc.seq ?_
        refine WPc.region ?_
        refine WP.val rfl rfl rfl (Val.move rfl rfl) ?_
        refine WP.val rfl rfl rfl (Val.assign rfl rfl) ?_
        refine WP.nil ?_
        refine Out.next ?_
        refine WPc.ret ?_
        refine Out.then_ret ?_
        refine Out.block_ret ?_
        refine Out.then_ret ?_
        refine Out.block_ret ?_
        refine Out.then_ret ?_
        have hres : (fnd ib.k ie.k T0).getD s = x := by rw [← hsec, fnd_y (by rw [← hit]; first | assumption | omega) (by rw [← hit]; first | assumption | omega)]; rfl
        refine Out.perm pl1 ?_
        refine Out.drop ?_
        refine Out.perm pl3 ?_
        refine Out.perm pl3 ?_
        refine Out.perm pl2 ?_
        refine Out.perm pl3 ?_
        exact Out.ret1 (L' := _) Try.results146 rfl ⟨by rw [hres], rfl⟩ (fun _ h => h)
      · skip
        have h3 : ¬ ((kcmp ie.k ((S x).it.e).k) = (0 : Int)) := h3
        refine WPc.skip ?_
        refine Out.next ?_
        refine WPc.seq ?_
        have hne : ¬ (kcmp ib.k it.b.k = 0 ∧ kcmp ie.k it.e.k = 0) := by rw [← hit]; omega
        refine WPc.region ?_
        refine WP.val rfl rfl rfl (Val.move rfl rfl) ?_
        refine WP.val rfl rfl rfl (Val.lss rfl rfl rfl) ?_
        refine WP.nil ?_
        refine Out.next ?_
        refine WPc.ifP rfl (fun h4 => ?_) (fun h4 => ?_)
        · skip
          have h4 : ((kcmp ib.k ((S x).it.b).k) < (0 : Int)) := h4
          have hgo : goK ib.k ie.k it.b.k it.e.k := by rw [← hit]; exact goK_1 (by assumption)
          refine WPc.region ?_
          refine WP.val rfl rfl rfl (Val.move rfl rfl) ?_
          refine WP.val rfl rfl rfl (Val.nilCheck rfl rfl) ?_
          refine WP.val rfl rfl rfl (Val.fieldAddr (j := 4) rfl Ty.fo177_2 rfl rfl) ?_
          refine WP.val rfl rfl rfl (Val.load (v := .pointer (some ⟨(S x).l, 0, none⟩)) rfl Ty.sc168 rfl (fun w h => sto_l (h.at 3 rfl) hxD rfl)) ?_
          refine WP.val rfl rfl rfl (Val.assign rfl rfl) ?_
          refine WP.nil ?_
          refine Out.block ?_
          have hs2 : fnd ib.k ie.k l = fnd ib.k ie.k T0 := by rw [← hsec, fnd_l hne hgo]
          refine Out.perm pl4 ?_
          refine Out.perm pl4 ?_
          refine Out.perm pl2 ?_
          refine Out.perm pl4 ?_
          refine Out.perm pl4 ?_
          refine Out.again ⟨l, (S x).l⟩ ?_ ?_ ?_ ?_
          · exact ⟨⟨x, hl⟩, hs2, (Ok.l ok hxD)⟩
          · show T.depth _ < T.depth (.node x l it c r); simp only [T.depth]; omega
          · exact (Sub.cons rfl (Sub.cons rfl (Sub.cons rfl Sub.nil)))
          · exact (fun _ h => h)
        · skip
          have h4 : ¬ ((kcmp ib.k ((S x).it.b).k) < (0 : Int)) := h4
          refine WPc.seq ?_
          refine WPc.region ?_
          refine WP.val rfl rfl rfl (Val.move rfl rfl) ?_
          refine WP.val rfl rfl rfl (Val.eql rfl rfl rfl) ?_
          refine WP.nil ?_
          refine Out.next ?_
          refine WPc.ifP rfl (fun h5 => ?_) (fun h5 => ?_)
          · skip
            have h5 : ((kcmp ib.k ((S x).it.b).k) = (0 : Int)) := h5
            refine WPc.seq ?_
            refine WPc.region ?_
            refine WP.val rfl rfl rfl (Val.move rfl rfl) ?_
            refine WP.val rfl rfl rfl (Val.lss rfl rfl rfl) ?_
            refine WP.nil ?_
            refine Out.next ?_
            refine WPc.ifP rfl (fun h6 => ?_) (fun h6 => ?_)
            · skip
              have h6 : ((kcmp ie.k ((S x).it.e).k) < (0 : Int)) := h6
              have hgo : goK ib.k ie.k it.b.k it.e.k := by rw [← hit]; exact goK_2 (by assumption) (by assumption)
              refine WPc.region ?_
              refine WP.val rfl rfl rfl (Val.move rfl rfl) ?_
              refine WP.val rfl rfl rfl (Val.nilCheck rfl rfl) ?_
              refine WP.val rfl rfl rfl (Val.fieldAddr (j := 4) rfl Ty.fo177_2 rfl rfl) ?_
              refine WP.val rfl rfl rfl (Val.load (v := .pointer (some ⟨(S x).l, 0, none⟩)) rfl Ty.sc168 rfl (fun w h => sto_l (h.at 3 rfl) hxD rfl)) ?_
              refine WP.val rfl rfl rfl (Val.assign rfl rfl) ?_
              refine WP.nil ?_
              refine Out.block ?_
              have hs2 : fnd ib.k ie.k l = fnd ib.k ie.k T0 := by rw [← hsec, fnd_l hne hgo]
              refine Out.perm pl4 ?_
              refine Out.perm pl4 ?_
              refine Out.perm pl2 ?_
              refine Out.perm pl4 ?_
              refine Out.perm pl4 ?_
              refine Out.again ⟨l, (S x).l⟩ ?_ ?_ ?_ ?_
              · exact ⟨⟨x, hl⟩, hs2, (Ok.l ok hxD)⟩
              · show T.depth _ < T.depth (.node x l it c r); simp only [T.depth]; omega
              · exact (Sub.cons rfl (Sub.cons rfl (Sub.cons rfl Sub.nil)))
              · exact (fun _ h => h)
            · skip
              have h6 : ¬ ((kcmp ie.k ((S x).it.e).k) < (0 : Int)) := h6
              have hgo : ¬ goK ib.k ie.k it.b.k it.e.k := by rw [← hit]; exact goK_3 (by assumption) (by assumption)
              refine WPc.region ?_
              refine WP.val rfl rfl rfl (Val.move rfl rfl) ?_
              refine WP.val rfl rfl rfl (Val.nilCheck rfl rfl) ?_
              refine WP.val rfl rfl rfl (Val.fieldAddr (j := 5) rfl Ty.fo177_3 rfl rfl) ?_
              refine WP.val rfl rfl rfl (Val.load (v := .pointer (some ⟨(S x).r, 0, none⟩)) rfl Ty.sc168 rfl (fun w h => sto_r (h.at 3 rfl) hxD rfl)) ?_
              refine WP.val rfl rfl rfl (Val.assign rfl rfl) ?_
              refine WP.nil ?_
              refine Out.block ?_
              have hs2 : fnd ib.k ie.k r = fnd ib.k ie.k T0 := by rw [← hsec, fnd_r hne hgo]
              refine Out.perm pl4 ?_
              refine Out.perm pl4 ?_
              refine Out.perm pl2 ?_
              refine Out.perm pl4 ?_
              refine Out.perm pl4 ?_
              refine Out.again ⟨r, (S x).r⟩ ?_ ?_ ?_ ?_
              · exact ⟨⟨x, hr⟩, hs2, (Ok.r ok hxD)⟩
              · show T.depth _ < T.depth (.node x l it c r); simp only [T.depth]; omega
              · exact (Sub.cons rfl (Sub.cons rfl (Sub.cons rfl Sub.nil)))
              · exact (fun _ h => h)
          · skip
            have h5 : ¬ ((kcmp ib.k ((S x).it.b).k) = (0 : Int)) := h5
            have hgo : ¬ goK ib.k ie.k it.b.k it.e.k := by rw [← hit]; exact goK_4 (by assumption) (by assumption)
            refine WPc.region ?_
            refine WP.val rfl rfl rfl (Val.move rfl rfl) ?_
            refine WP.val rfl rfl rfl (Val.nilCheck rfl rfl) ?_
            refine WP.val rfl rfl rfl (Val.fieldAddr (j := 5) rfl Ty.fo177_3 rfl rfl) ?_
            refine WP.val rfl rfl rfl (Val.load (v := .pointer (some ⟨(S x).r, 0, none⟩)) rfl Ty.sc168 rfl (fun w h => sto_r (h.at 3 rfl) hxD rfl)) ?_
            refine WP.val rfl rfl rfl (Val.assign rfl rfl) ?_
            refine WP.nil ?_
            refine Out.block ?_
            have hs2 : fnd ib.k ie.k r = fnd ib.k ie.k T0 := by rw [← hsec, fnd_r hne hgo]
            refine Out.perm pl4 ?_
            refine Out.perm pl4 ?_
            refine Out.perm pl2 ?_
            refine Out.perm pl4 ?_
            refine Out.perm pl4 ?_
            refine Out.again ⟨r, (S x).r⟩ ?_ ?_ ?_ ?_
            · exact ⟨⟨x, hr⟩, hs2, (Ok.r ok hxD)⟩
            · show T.depth _ < T.depth (.node x l it c r); simp only [T.depth]; omega
            · exact (Sub.cons rfl (Sub.cons rfl (Sub.cons rfl Sub.nil)))
            · exact (fun _ h => h)
    · skip
      have h2 : ¬ ((kcmp ib.k ((S x).it.b).k) = (0 : Int)) := h2
      refine WP.skip rfl rfl rfl rfl rfl rfl rfl ?_
      refine WP.skip rfl rfl rfl rfl rfl rfl rfl ?_
      refine WP.val rfl rfl rfl (Val.pickF rfl rfl rfl) ?_
      refine WP.nil ?_
      refine Out.next ?_
      refine WPc.condF rfl rfl ?_
      refine WPc.skip ?_
      refine Out.next ?_
      refine WPc.seq ?_
      have hne : ¬ (kcmp ib.k it.b.k = 0 ∧ kcmp ie.k it.e.k = 0) := by rw [← hit]; omega
      refine WPc.region ?_
      refine WP.val rfl rfl rfl (Val.move rfl rfl) ?_
      refine WP.val rfl rfl rfl (Val.lss rfl rfl rfl) ?_
      refine WP.nil ?_
      refine Out.next ?_
      refine WPc.ifP rfl (fun h7 => ?_) (fun h7 => ?_)
      · skip
        have h7 : ((kcmp ib.k ((S x).it.b).k) < (0 : Int)) := h7
        have hgo : goK ib.k ie.k it.b.k it.e.k := by rw [← hit]; exact goK_1 (by assumption)
        refine WPc.region ?_
        refine WP.val rfl rfl rfl (Val.move rfl rfl) ?_
        refine WP.val rfl rfl rfl (Val.nilCheck rfl rfl) ?_
        refine WP.val rfl rfl rfl (Val.fieldAddr (j := 4) rfl Ty.fo177_2 rfl rfl) ?_
        refine WP.val rfl rfl rfl (Val.load (v := .pointer (some ⟨(S x).l, 0, none⟩)) rfl Ty.sc168 rfl (fun w h => sto_l (h.at 3 rfl) hxD rfl)) ?_
        refine WP.val rfl rfl rfl (Val.assign rfl rfl) ?_
        refine WP.nil ?_
        refine Out.block ?_
        have hs2 : fnd ib.k ie.k l = fnd ib.k ie.k T0 := by rw [← hsec, fnd_l hne hgo]
        refine Out.perm pl4 ?_
        refine Out.perm pl4 ?_
        refine Out.perm pl2 ?_
        refine Out.perm pl4 ?_
        refine Out.perm pl4 ?_
        refine Out.again ⟨l, (S x).l⟩ ?_ ?_ ?_ ?_
        · exact ⟨⟨x, hl⟩, hs2, (Ok.l ok hxD)⟩
        · show T.depth _ < T.depth (.node x l it c r); simp only [T.depth]; omega
        · exact (Sub.cons rfl (Sub.cons rfl (Sub.cons rfl Sub.nil)))
        · exact (fun _ h => h)
      · skip
        have h7 : ¬ ((kcmp ib.k ((S x).it.b).k) < (0 : Int)) := h7
        refine WPc.seq ?_
        refine WPc.region ?_
        refine WP.val rfl rfl rfl (Val.move rfl rfl) ?_
        refine WP.val rfl rfl rfl (Val.eql rfl rfl rfl) ?_
        refine WP.nil ?_
        refine Out.next ?_
        refine WPc.ifP rfl (fun h8 => ?_) (fun h8 => ?_)
        · skip
          have h8 : ((kcmp ib.k ((S x).it.b).k) = (0 : Int)) := h8
          refine WPc.seq ?_
          refine WPc.region ?_
          refine WP.val rfl rfl rfl (Val.move rfl rfl) ?_
          refine WP.val rfl rfl rfl (Val.lss rfl rfl rfl) ?_
          refine WP.nil ?_
          refine Out.next ?_
          refine WPc.ifP rfl (fun h9 => ?_) (fun h9 => ?_)
          · skip
            have h9 : ((kcmp ie.k ((S x).it.e).k) < (0 : Int)) := h9
            have hgo : goK ib.k ie.k it.b.k it.e.k := by rw [← hit]; exact goK_2 (by assumption) (by assumption)
            refine WPc.region ?_
            refine WP.val rfl rfl rfl (Val.move rfl rfl) ?_
            refine WP.val rfl rfl rfl (Val.nilCheck rfl rfl) ?_
            refine WP.val rfl rfl rfl (Val.fieldAddr (j := 4) rfl Ty.fo177_2 rfl rfl) ?_
            refine WP.val rfl rfl rfl (Val.load (v := .pointer (some ⟨(S x).l, 0, none⟩)) rfl Ty.sc168 rfl (fun w h => sto_l (h.at 3 rfl) hxD rfl)) ?_
            refine WP.val rfl rfl rfl (Val.assign rfl rfl) ?_
            refine WP.nil ?_
            refine Out.block ?_
            have hs2 : fnd ib.k ie.k l = fnd ib.k ie.k T0 := by rw [← hsec, fnd_l hne hgo]
            refine Out.perm pl4 ?_
            refine Out.perm pl4 ?_
            refine Out.perm pl2 ?_
            refine Out.perm pl4 ?_
            refine Out.perm pl4 ?_
            refine Out.again ⟨l, (S x).l⟩ ?_ ?_ ?_ ?_
            · exact ⟨⟨x, hl⟩, hs2, (Ok.l ok hxD)⟩
            · show T.depth _ < T.depth (.node x l it c r); simp only [T.depth]; omega
            · exact (Sub.cons rfl (Sub.cons rfl (Sub.cons rfl Sub.nil)))
            · exact (fun _ h => h)
          · skip
            have h9 : ¬ ((kcmp ie.k ((S x).it.e).k) < (0 : Int)) := h9
            have hgo : ¬ goK ib.k ie.k it.b.k it.e.k := by rw [← hit]; exact goK_3 (by assumption) (by assumption)
            refine WPc.region ?_
            refine WP.val rfl rfl rfl (Val.move rfl rfl) ?_
            refine WP.val rfl rfl rfl (Val.nilCheck rfl rfl) ?_
            refine WP.val rfl rfl rfl (Val.fieldAddr (j := 5) rfl Ty.fo177_3 rfl rfl) ?_
            refine WP.val rfl rfl rfl (Val.load (v := .pointer (some ⟨(S x).r, 0, none⟩)) rfl Ty.sc168 rfl (fun w h => sto_r (h.at 3 rfl) hxD rfl)) ?_
            refine WP.val rfl rfl rfl (Val.assign rfl rfl) ?_
            refine WP.nil ?_
            refine Out.block ?_
            have hs2 : fnd ib.k ie.k r = fnd ib.k ie.k T0 := by rw [← hsec, fnd_r hne hgo]
            refine Out.perm pl4 ?_
            refine Out.perm pl4 ?_
            refine Out.perm pl2 ?_
            refine Out.perm pl4 ?_
            refine Out.perm pl4 ?_
            refine Out.again ⟨r, (S x).r⟩ ?_ ?_ ?_ ?_
            · exact ⟨⟨x, hr⟩, hs2, (Ok.r ok hxD)⟩
            · show T.depth _ < T.depth (.node x l it c r); simp only [T.depth]; omega
            · exact (Sub.cons rfl (Sub.cons rfl (Sub.cons rfl Sub.nil)))
            · exact (fun _ h => h)
        · skip
          have h8 : ¬ ((kcmp ib.k ((S x).it.b).k) = (0 : Int)) := h8
          have hgo : ¬ goK ib.k ie.k it.b.k it.e.k := by rw [← hit]; exact goK_4 (by assumption) (by assumption)
          refine WPc.region ?_
          refine WP.val rfl rfl rfl (Val.move rfl rfl) ?_
          refine WP.val rfl rfl rfl (Val.nilCheck rfl rfl) ?_
          refine WP.val rfl rfl rfl (Val.fieldAddr (j := 5) rfl Ty.fo177_3 rfl rfl) ?_
          refine WP.val rfl rfl rfl (Val.load (v := .pointer (some ⟨(S x).r, 0, none⟩)) rfl Ty.sc168 rfl (fun w h => sto_r (h.at 3 rfl) hxD rfl)) ?_
          refine WP.val rfl rfl rfl (Val.assign rfl rfl) ?_
          refine WP.nil ?_
          refine Out.block ?_
          have hs2 : fnd ib.k ie.k r = fnd ib.k ie.k T0 := by rw [← hsec, fnd_r hne hgo]
          refine Out.perm pl4 ?_
          refine Out.perm pl4 ?_
          refine Out.perm pl2 ?_
          refine Out.perm pl4 ?_
          refine Out.perm pl4 ?_
          refine Out.again ⟨r, (S x).r⟩ ?_ ?_ ?_ ?_
          · exact ⟨⟨x, hr⟩, hs2, (Ok.r ok hxD)⟩
          · show T.depth _ < T.depth (.node x l it c r); simp only [T.depth]; omega
          · exact (Sub.cons rfl (Sub.cons rfl (Sub.cons rfl Sub.nil)))
          · exact (fun _ h => h)
  · skip
    have h1 : ¬ (x ≠ s) := h1
    refine WPc.exit ?_
    refine Out.then_exit ?_
    refine Out.then_exit ?_
    refine Out.block_exit ?_
    refine Out.next ?_
    refine WPc.seq ?_
    refine WPc.region ?_
    refine WP.val rfl rfl rfl (Val.move rfl rfl) ?_
    refine WP.val rfl rfl rfl (Val.assign rfl rfl) ?_
    refine WP.nil ?_
    refine Out.next ?_
    refine WPc.ret ?_
    have hxs : x = s := Decidable.byContradiction (by assumption)
    have hres : (fnd ib.k ie.k T0).getD s = x := by rw [← hsec, RM_leaf hrm hxs, hxs]; rfl
    refine Out.drop ?_
    exact Out.ret1 (L' := _) Try.results146 rfl ⟨by rw [hres], rfl⟩ (fun _ h => h)

end Go.Proofs.Ytbomnihiapjmpaa.Ts

namespace Go.Proofs.Ytbomnihiapjmpaa.Tt
open Go.RowKit Go.Proofs.Ytbomnihiapjmpaa Go.Proofs.Ytbomnihiapjmpaa.Sl Go.Proofs.Ytbomnihiapjmpaa.TrP Go.Proofs.Ytbomnihiapjmpaa.Tc Go.Proofs.Ytbomnihiapjmpaa.Td Go.Proofs.Ytbomnihiapjmpaa.Te Go.Proofs.Ytbomnihiapjmpaa.Tf Go.Proofs.Ytbomnihiapjmpaa.Tg Go.Proofs.Ytbomnihiapjmpaa.Th Go.Proofs.Ytbomnihiapjmpaa.Ti Go.Proofs.Ytbomnihiapjmpaa.Tk Go.Proofs.Ytbomnihiapjmpaa.Ts
set_option linter.unusedVariables false
set_option linter.unusedSimpArgs false
set_option linter.unusedSectionVars false


theorem fnd_ids {ib ie : Ky} : ∀ {t : T} {i : Nat}, fnd ib ie t = some i → i ∈ t.ids
  | .leaf, _, h => by cases h
  | .node j l x c r, i, h => by
    unfold fnd at h
    simp only [T.ids, List.mem_cons, List.mem_append]
    split at h
    · cases h; exact .inl rfl
    · split at h
      · exact .inr (.inl (fnd_ids h))
      · exact .inr (.inr (fnd_ids h))
set_option maxRecDepth 100000 in
set_option maxHeartbeats 2000000 in
theorem Find_none (EL : List En) (t0 : TypeId) (hE : ∀ e ∈ EL, e.t = t0) (s : Nat) (D : List Nat) (ZC : List Value) (tb root : Nat) (cnt : Int) (S : St) (ok : Ok s EL D S) (hroot : Is s D root) (T0 : T) (hT : RM s S T0 root s) (ib ie : En) (hib : ib ∈ EL) (hie : ie ∈ EL) (hf : fnd ib.k ie.k T0 = none) : Does Try.prog 136 [.pointer (some ⟨tb, 0, none⟩), .agg #[.iface ib.t (ib.u), .iface ie.t (ie.u)]] [Blk tb [.pointer (some ⟨root, 0, none⟩), .int .i64 (cnt), .pointer (some ⟨s, 0, none⟩)] 180, Ens EL, Sto S D, Blk s ZC 177] (fun v L => v = .pointer none ∧ L = [Blk tb [.pointer (some ⟨root, 0, none⟩), .int .i64 cnt, .pointer (some ⟨s, 0, none⟩)] 180, Ens EL, Sto S D, Blk s ZC 177]) := by
  refine Does.enter 18 Try.func136 rfl rfl rfl fun W F => ?_
  show WPc _ _ _ _ _ [(0, .pointer (some ⟨tb, 0, none⟩)), (1, .agg #[.iface ib.t (ib.u), .iface ie.t (ie.u)])] (Blk tb [.pointer (some ⟨root, 0, none⟩), .int .i64 (cnt), .pointer (some ⟨s, 0, none⟩)] 180 :: Ens EL :: Sto S D :: Blk s ZC 177 :: F)
  refine WPc.seq ?_
  refine WPc.region ?_
  refine WP.eff rfl rfl rfl (Eff.box (C := [.iface ib.t (ib.u), .iface ie.t (ie.u)]) rfl rfl rfl) ?_
  rintro _ _ ⟨b1, rfl, rfl⟩
  refine WP.val rfl rfl rfl (Val.assign rfl rfl) ?_
  refine WP.nil ?_
  refine Out.next ?_
  refine WPc.seq ?_
  refine WPc.region ?_
  refine WP.val rfl rfl rfl (Val.move rfl rfl) ?_
  refine WP.val rfl rfl rfl (Val.loadAgg (cs := [.iface ib.t (ib.u), .iface ie.t (ie.u)]) rfl Ty.ag172 rfl rfl (fun w h => h.range 0 rfl rfl)) ?_
  refine WP.perm pl4 ?_
  refine WP.perm pl4 ?_
  refine WP.perm pl4 ?_
  refine WP.perm pl4 ?_
  refine WP.eff rfl rfl rfl (Eff.call rfl rfl Try.call146 (by have h := find_does EL t0 hE s D ZC tb root cnt S ok hroot T0 hT ib ie hib hie; rw [hf] at h; exact h)) ?_
  rintro _ _ ⟨_, ⟨rfl, rfl⟩, rfl⟩
  show WP _ _ _ _ _ _ _ (Blk tb [.pointer (some ⟨root, 0, none⟩), .int .i64 (cnt), .pointer (some ⟨s, 0, none⟩)] 180 :: Ens EL :: Sto S D :: Blk s ZC 177 :: Blk b1 [.iface ib.t (ib.u), .iface ie.t (ie.u)] 172 :: F)
  refine WP.val rfl rfl rfl (Val.assign rfl rfl) ?_
  refine WP.nil ?_
  refine Out.next ?_
  refine WPc.seq ?_
  refine WPc.seq ?_
  refine WPc.region ?_
  refine WP.val rfl rfl rfl (Val.move rfl rfl) ?_
  refine WP.val rfl rfl rfl (Val.move rfl rfl) ?_
  refine WP.val rfl rfl rfl (Val.nilCheck rfl rfl) ?_
  refine WP.val rfl rfl rfl (Val.fieldAddr (j := 2) rfl Ty.fo180_2 rfl rfl) ?_
  refine WP.val rfl rfl rfl (Val.load rfl Ty.sc168 rfl (fun w h => h.cell 0 rfl rfl)) ?_
  refine WP.val rfl rfl rfl (Val.eqSame rfl pe168 rfl rfl) ?_
  refine WP.nil ?_
  refine Out.next ?_
  refine WPc.condT rfl rfl ?_
  refine WPc.seq ?_
  refine WPc.region ?_
  refine WP.val rfl rfl rfl (Val.assign rfl rfl) ?_
  refine WP.nil ?_
  refine Out.next ?_
  refine WPc.ret ?_
  refine Out.then_ret ?_
  refine Out.perm pl4 ?_
  refine Out.drop ?_
  exact Out.ret1 (L' := _) Try.results136 rfl ⟨rfl, rfl⟩ (fun _ h => h)
set_option maxRecDepth 100000 in
set_option maxHeartbeats 2000000 in
theorem Find_some (EL : List En) (t0 : TypeId) (hE : ∀ e ∈ EL, e.t = t0) (s : Nat) (D : List Nat) (ZC : List Value) (tb root : Nat) (cnt : Int) (S : St) (ok : Ok s EL D S) (hroot : Is s D root) (T0 : T) (hT : RM s S T0 root s) (ib ie : En) (hib : ib ∈ EL) (hie : ie ∈ EL) (i : Nat) (hf : fnd ib.k ie.k T0 = some i) (his : i ≠ s) (hiD : i ∈ D) : Does Try.prog 136 [.pointer (some ⟨tb, 0, none⟩), .agg #[.iface ib.t (ib.u), .iface ie.t (ie.u)]] [Blk tb [.pointer (some ⟨root, 0, none⟩), .int .i64 (cnt), .pointer (some ⟨s, 0, none⟩)] 180, Ens EL, Sto S D, Blk s ZC 177] (fun v L => v = .pointer (some ⟨i, 0, none⟩) ∧ L = [Blk tb [.pointer (some ⟨root, 0, none⟩), .int .i64 cnt, .pointer (some ⟨s, 0, none⟩)] 180, Ens EL, Sto S D, Blk s ZC 177]) := by
  refine Does.enter 18 Try.func136 rfl rfl rfl fun W F => ?_
  show WPc _ _ _ _ _ [(0, .pointer (some ⟨tb, 0, none⟩)), (1, .agg #[.iface ib.t (ib.u), .iface ie.t (ie.u)])] (Blk tb [.pointer (some ⟨root, 0, none⟩), .int .i64 (cnt), .pointer (some ⟨s, 0, none⟩)] 180 :: Ens EL :: Sto S D :: Blk s ZC 177 :: F)
  refine WPc.seq ?_
  refine WPc.region ?_
  refine WP.eff rfl rfl rfl (Eff.box (C := [.iface ib.t (ib.u), .iface ie.t (ie.u)]) rfl rfl rfl) ?_
  rintro _ _ ⟨b1, rfl, rfl⟩
  refine WP.val rfl rfl rfl (Val.assign rfl rfl) ?_
  refine WP.nil ?_
  refine Out.next ?_
  refine WPc.seq ?_
  refine WPc.region ?_
  refine WP.val rfl rfl rfl (Val.move rfl rfl) ?_
  refine WP.val rfl rfl rfl (Val.loadAgg (cs := [.iface ib.t (ib.u), .iface ie.t (ie.u)]) rfl Ty.ag172 rfl rfl (fun w h => h.range 0 rfl rfl)) ?_
  refine WP.perm pl4 ?_
  refine WP.perm pl4 ?_
  refine WP.perm pl4 ?_
  refine WP.perm pl4 ?_
  refine WP.eff rfl rfl rfl (Eff.call rfl rfl Try.call146 (by have h := find_does EL t0 hE s D ZC tb root cnt S ok hroot T0 hT ib ie hib hie; rw [hf] at h; exact h)) ?_
  rintro _ _ ⟨_, ⟨rfl, rfl⟩, rfl⟩
  show WP _ _ _ _ _ _ _ (Blk tb [.pointer (some ⟨root, 0, none⟩), .int .i64 (cnt), .pointer (some ⟨s, 0, none⟩)] 180 :: Ens EL :: Sto S D :: Blk s ZC 177 :: Blk b1 [.iface ib.t (ib.u), .iface ie.t (ie.u)] 172 :: F)
  refine WP.val rfl rfl rfl (Val.assign rfl rfl) ?_
  refine WP.nil ?_
  refine Out.next ?_
  refine WPc.seq ?_
  refine WPc.seq ?_
  refine WPc.region ?_
  refine WP.val rfl rfl rfl (Val.move rfl rfl) ?_
  refine WP.val rfl rfl rfl (Val.move rfl rfl) ?_
  refine WP.val rfl rfl rfl (Val.nilCheck rfl rfl) ?_
  refine WP.val rfl rfl rfl (Val.fieldAddr (j := 2) rfl Ty.fo180_2 rfl rfl) ?_
  refine WP.val rfl rfl rfl (Val.load rfl Ty.sc168 rfl (fun w h => h.cell 0 rfl rfl)) ?_
  refine WP.val rfl rfl rfl (Val.eqP (T1 := 177) (T2 := 177) rfl pn168 rfl rfl rfl rfl (fun w h => whole (h.at 2 rfl) (h.at 3 rfl) (.inr hiD)) (fun w h => whole (h.at 2 rfl) (h.at 3 rfl) (.inl rfl))) ?_
  refine WP.nil ?_
  refine Out.next ?_
  refine WPc.ifP rfl (fun h1 => ?_) (fun h1 => ?_)
  · skip
    have h1 : (i = s) := h1
    exact absurd (by assumption) his
  · skip
    have h1 : ¬ (i = s) := h1
    refine WPc.skip ?_
    refine Out.next ?_
    refine WPc.seq ?_
    refine WPc.region ?_
    refine WP.val rfl rfl rfl (Val.move rfl rfl) ?_
    refine WP.val rfl rfl rfl (Val.nilCheck rfl rfl) ?_
    refine WP.val rfl rfl rfl (Val.fieldAddr (j := 0) rfl Ty.fo177_0 rfl rfl) ?_
    refine WP.val rfl rfl rfl (Val.assign rfl rfl) ?_
    refine WP.nil ?_
    refine Out.next ?_
    refine WPc.ret ?_
    refine Out.perm pl4 ?_
    refine Out.drop ?_
    exact Out.ret1 (L' := _) Try.results136 rfl ⟨rfl, rfl⟩ (fun _ h => h)

end Go.Proofs.Ytbomnihiapjmpaa.Tt

namespace Go.Proofs.Ytbomnihiapjmpaa.Sl
open Go.RowKit Go.Lib
set_option linter.unusedSectionVars false
set_option linter.unusedVariables false
set_option linter.unusedSimpArgs false
section
variable [Dfs]
variable {P : Program} {W : World} {n : Nat} {l : List (Nat × Value)} {L : List HProp} {o : Oper} {Q : Exit → Act → World → Prop} {G : World → Prop}
/-! type assertions that tell -/
theorem Val.assertY {x : Operand} {xt t : TypeId} {v : Value} (ho : o.op = .typeAssert x xt t true) (ht : (match P.underlying t with | some (.interface _) => false | none => false | _ => true) = true) (hx : ev l x = some (.iface t v)) : Val P n l G o (.tuple #[v, .bool true]) := fun a w hf hs => by
  cases hu : P.underlying t with
  | none => rw [hu] at ht; cases ht
  | some q =>
    rw [hu] at ht
    cases q <;> first | (cases ht; done) | simp [execOp, ho, hf.ev hx, Instr.typeAssert, run_underlying hu, Result.andThen]
theorem Val.assertN {x : Operand} {xt t t2 : TypeId} {v z : Value} (ho : o.op = .typeAssert x xt t true) (ht : (match P.underlying t with | some (.interface _) => false | none => false | _ => true) = true) (hz : ∀ w : World, (zeroValue t).run P w = .ok z w) (hne : (t2 == t) = false) (hx : ev l x = some (.iface t2 v)) : Val P n l G o (.tuple #[z, .bool false]) := fun a w hf hs => by
  cases hu : P.underlying t with
  | none => rw [hu] at ht; cases ht
  | some q =>
    rw [hu] at ht
    have h2 : ¬ t2 = t := by simpa using hne
    cases q <;> first | (cases ht; done) | simp [execOp, ho, hf.ev hx, Instr.typeAssert, run_underlying hu, Result.andThen, h2, hz]
end
end Go.Proofs.Ytbomnihiapjmpaa.Sl

namespace Go.Proofs.Ytbomnihiapjmpaa.Tu
open Go.RowKit Go.Proofs.Ytbomnihiapjmpaa Go.Proofs.Ytbomnihiapjmpaa.Sl Go.Proofs.Ytbomnihiapjmpaa.TrP Go.Proofs.Ytbomnihiapjmpaa.Tc Go.Proofs.Ytbomnihiapjmpaa.Td Go.Proofs.Ytbomnihiapjmpaa.Te Go.Proofs.Ytbomnihiapjmpaa.Tf Go.Proofs.Ytbomnihiapjmpaa.Tg Go.Proofs.Ytbomnihiapjmpaa.Th Go.Proofs.Ytbomnihiapjmpaa.Ti Go.Proofs.Ytbomnihiapjmpaa.Tk Go.Proofs.Ytbomnihiapjmpaa.Ts
set_option linter.unusedVariables false
set_option linter.unusedSimpArgs false
set_option linter.unusedSectionVars false


set_option maxRecDepth 100000 in
set_option maxHeartbeats 2000000 in
theorem so_s (x y : ByteArray) : Does Try.prog 96 [.agg #[.iface 134 (.string x), .iface 134 (.string y)]] [] (fun res L => res = .agg #[.string x, .string y, .bool false, .int .i64 0, .int .i64 0] ∧ L = []) := by
  refine Does.enter 66 Try.func96 rfl rfl rfl fun W F => ?_
  show WPc _ _ _ _ _ [(0, .agg #[.iface 134 (.string x), .iface 134 (.string y)])] (F)
  refine WPc.seq ?_
  refine WPc.region ?_
  refine WP.eff rfl rfl rfl (Eff.box (C := [.iface 134 (.string x), .iface 134 (.string y)]) rfl rfl rfl) ?_
  rintro _ F ⟨b1, rfl, rfl⟩
  refine WP.eff rfl rfl rfl (Eff.alloc rfl Ty.z56) ?_
  rintro _ _ ⟨b2, rfl, rfl⟩
  refine WP.nil ?_
  refine Out.next ?_
  refine WPc.seq ?_
  refine WPc.region ?_
  refine WP.val rfl rfl rfl (Val.mk (cs := [.string (⟨#[]⟩), .string (⟨#[]⟩), .bool false, .int .i64 0, .int .i64 0]) rfl rfl (fun _ => by kernel_rfl)) ?_
  refine WP.eff rfl rfl rfl (Eff.alloc rfl Ty.z56) ?_
  rintro _ _ ⟨b3, rfl, rfl⟩
  refine WP.eff0 rfl rfl (Eff.storeAgg (cs := [.string (⟨#[]⟩), .string (⟨#[]⟩), .bool false, .int .i64 0, .int .i64 0]) (C' := [.string (⟨#[]⟩), .string (⟨#[]⟩), .bool false, .int .i64 0, .int .i64 0]) rfl Ty.ag56 rfl rfl rfl rfl (by simp) rfl) ?_
  rintro _ _ rfl
  refine WP.nil ?_
  refine Out.next ?_
  refine WPc.seq ?_
  refine WPc.seq ?_
  refine WPc.region ?_
  refine WP.val rfl rfl rfl (Val.fieldAddr (j := 0) rfl Ty.fo172_0 rfl rfl) ?_
  refine WP.val rfl rfl rfl (Val.load rfl Ty.sc170 rfl (fun w h => h.cell 2 rfl rfl)) ?_
  refine WP.nil ?_
  refine Out.next ?_
  refine WPc.block ?_
  refine WPc.seq ?_
  refine WPc.region ?_
  refine WP.val rfl rfl rfl (Val.assertY rfl Ty.ni134 rfl) ?_
  refine WP.val rfl rfl rfl (Val.extract rfl rfl rfl) ?_
  refine WP.val rfl rfl rfl (Val.extract rfl rfl rfl) ?_
  refine WP.nil ?_
  refine Out.next ?_
  refine WPc.condT rfl rfl ?_
  refine WPc.seq ?_
  refine WPc.region ?_
  refine WP.val rfl rfl rfl (Val.assign rfl rfl) ?_
  refine WP.nil ?_
  refine Out.next ?_
  refine WPc.region ?_
  refine WP.val rfl rfl rfl (Val.move rfl rfl) ?_
  refine WP.val rfl rfl rfl (Val.fieldAddr (j := 0) rfl Ty.fo56_0 rfl rfl) ?_
  refine WP.val rfl rfl rfl (Val.fieldAddr (j := 0) rfl Ty.fo54_0 rfl rfl) ?_
  refine WP.eff0 rfl rfl (Eff.store rfl Ty.sc9 rfl rfl rfl (by simp) st0) ?_
  rintro _ _ rfl
  refine WP.nil ?_
  refine Out.block ?_
  refine Out.next ?_
  refine WPc.seq ?_
  refine WPc.seq ?_
  refine WPc.region ?_
  refine WP.val rfl rfl rfl (Val.fieldAddr (j := 1) rfl Ty.fo172_1 rfl rfl) ?_
  refine WP.val rfl rfl rfl (Val.load rfl Ty.sc170 rfl (fun w h => h.cell 2 rfl rfl)) ?_
  refine WP.nil ?_
  refine Out.next ?_
  refine WPc.block ?_
  refine WPc.seq ?_
  refine WPc.region ?_
  refine WP.val rfl rfl rfl (Val.assertY rfl Ty.ni134 rfl) ?_
  refine WP.val rfl rfl rfl (Val.extract rfl rfl rfl) ?_
  refine WP.val rfl rfl rfl (Val.extract rfl rfl rfl) ?_
  refine WP.nil ?_
  refine Out.next ?_
  refine WPc.condT rfl rfl ?_
  refine WPc.seq ?_
  refine WPc.region ?_
  refine WP.val rfl rfl rfl (Val.assign rfl rfl) ?_
  refine WP.nil ?_
  refine Out.next ?_
  refine WPc.region ?_
  refine WP.val rfl rfl rfl (Val.move rfl rfl) ?_
  refine WP.val rfl rfl rfl (Val.fieldAddr (j := 0) rfl Ty.fo56_0 rfl rfl) ?_
  refine WP.val rfl rfl rfl (Val.fieldAddr (j := 1) rfl Ty.fo54_1 rfl rfl) ?_
  refine WP.eff0 rfl rfl (Eff.store rfl Ty.sc9 rfl rfl rfl (by simp) st1) ?_
  rintro _ _ rfl
  refine WP.nil ?_
  refine Out.block ?_
  refine Out.next ?_
  refine WPc.seq ?_
  refine WPc.region ?_
  refine WP.val rfl rfl rfl (Val.loadAgg (cs := [.string x, .string y, .bool false, .int .i64 0, .int .i64 0]) rfl Ty.ag56 rfl rfl (fun w h => h.range 0 rfl rfl)) ?_
  refine WP.perm pl1 ?_
  refine WP.eff0 rfl rfl (Eff.storeAgg (cs := [.string x, .string y, .bool false, .int .i64 0, .int .i64 0]) (C' := [.string x, .string y, .bool false, .int .i64 0, .int .i64 0]) rfl Ty.ag56 rfl rfl rfl rfl (by simp) rfl) ?_
  rintro _ _ rfl
  refine WP.nil ?_
  refine Out.next ?_
  refine WPc.ret ?_
  refine Out.perm pl1 ?_
  refine Out.drop ?_
  refine Out.perm pl1 ?_
  refine Out.drop ?_
  exact Out.retRun (L' := []) (results_cell (cs := [.string x, .string y, .bool false, .int .i64 0, .int .i64 0]) Try.results96 Ty.ag56 rfl rfl (fun w h => h.range 0 rfl rfl)) ⟨rfl, rfl⟩ (fun w h => h.drop)
set_option maxRecDepth 100000 in
set_option maxHeartbeats 2000000 in
theorem so_a (x y : ByteArray) : Does Try.prog 96 [.agg #[.iface 130 (.string x), .iface 130 (.string y)]] [] (fun res L => res = .agg #[.string x, .string y, .bool false, .int .i64 0, .int .i64 0] ∧ L = []) := by
  refine Does.enter 66 Try.func96 rfl rfl rfl fun W F => ?_
  show WPc _ _ _ _ _ [(0, .agg #[.iface 130 (.string x), .iface 130 (.string y)])] (F)
  refine WPc.seq ?_
  refine WPc.region ?_
  refine WP.eff rfl rfl rfl (Eff.box (C := [.iface 130 (.string x), .iface 130 (.string y)]) rfl rfl rfl) ?_
  rintro _ F ⟨b1, rfl, rfl⟩
  refine WP.eff rfl rfl rfl (Eff.alloc rfl Ty.z56) ?_
  rintro _ _ ⟨b2, rfl, rfl⟩
  refine WP.nil ?_
  refine Out.next ?_
  refine WPc.seq ?_
  refine WPc.region ?_
  refine WP.val rfl rfl rfl (Val.mk (cs := [.string (⟨#[]⟩), .string (⟨#[]⟩), .bool false, .int .i64 0, .int .i64 0]) rfl rfl (fun _ => by kernel_rfl)) ?_
  refine WP.eff rfl rfl rfl (Eff.alloc rfl Ty.z56) ?_
  rintro _ _ ⟨b3, rfl, rfl⟩
  refine WP.eff0 rfl rfl (Eff.storeAgg (cs := [.string (⟨#[]⟩), .string (⟨#[]⟩), .bool false, .int .i64 0, .int .i64 0]) (C' := [.string (⟨#[]⟩), .string (⟨#[]⟩), .bool false, .int .i64 0, .int .i64 0]) rfl Ty.ag56 rfl rfl rfl rfl (by simp) rfl) ?_
  rintro _ _ rfl
  refine WP.nil ?_
  refine Out.next ?_
  refine WPc.seq ?_
  refine WPc.seq ?_
  refine WPc.region ?_
  refine WP.val rfl rfl rfl (Val.fieldAddr (j := 0) rfl Ty.fo172_0 rfl rfl) ?_
  refine WP.val rfl rfl rfl (Val.load rfl Ty.sc170 rfl (fun w h => h.cell 2 rfl rfl)) ?_
  refine WP.nil ?_
  refine Out.next ?_
  refine WPc.block ?_
  refine WPc.seq ?_
  refine WPc.region ?_
  refine WP.val rfl rfl rfl (Val.assertN (z := .string (⟨#[]⟩)) rfl Ty.ni134 (fun _ => by kernel_rfl) rfl rfl) ?_
  refine WP.val rfl rfl rfl (Val.extract rfl rfl rfl) ?_
  refine WP.val rfl rfl rfl (Val.extract rfl rfl rfl) ?_
  refine WP.nil ?_
  refine Out.next ?_
  refine WPc.condF rfl rfl ?_
  refine WPc.seq ?_
  refine WPc.region ?_
  refine WP.val rfl rfl rfl (Val.assertY rfl Ty.ni130 rfl) ?_
  refine WP.val rfl rfl rfl (Val.extract rfl rfl rfl) ?_
  refine WP.val rfl rfl rfl (Val.extract rfl rfl rfl) ?_
  refine WP.nil ?_
  refine Out.next ?_
  refine WPc.condT rfl rfl ?_
  refine WPc.seq ?_
  refine WPc.region ?_
  refine WP.val rfl rfl rfl (Val.assign rfl rfl) ?_
  refine WP.nil ?_
  refine Out.next ?_
  refine WPc.region ?_
  refine WP.val rfl rfl rfl (Val.move rfl rfl) ?_
  refine WP.val rfl rfl rfl (Val.fieldAddr (j := 0) rfl Ty.fo56_0 rfl rfl) ?_
  refine WP.val rfl rfl rfl (Val.fieldAddr (j := 0) rfl Ty.fo54_0 rfl rfl) ?_
  refine WP.eff0 rfl rfl (Eff.store rfl Ty.sc9 rfl rfl rfl (by simp) st0) ?_
  rintro _ _ rfl
  refine WP.nil ?_
  refine Out.block ?_
  refine Out.next ?_
  refine WPc.seq ?_
  refine WPc.seq ?_
  refine WPc.region ?_
  refine WP.val rfl rfl rfl (Val.fieldAddr (j := 1) rfl Ty.fo172_1 rfl rfl) ?_
  refine WP.val rfl rfl rfl (Val.load rfl Ty.sc170 rfl (fun w h => h.cell 2 rfl rfl)) ?_
  refine WP.nil ?_
  refine Out.next ?_
  refine WPc.block ?_
  refine WPc.seq ?_
  refine WPc.region ?_
  refine WP.val rfl rfl rfl (Val.assertN (z := .string (⟨#[]⟩)) rfl Ty.ni134 (fun _ => by kernel_rfl) rfl rfl) ?_
  refine WP.val rfl rfl rfl (Val.extract rfl rfl rfl) ?_
  refine WP.val rfl rfl rfl (Val.extract rfl rfl rfl) ?_
  refine WP.nil ?_
  refine Out.next ?_
  refine WPc.condF rfl rfl ?_
  refine WPc.seq ?_
  refine WPc.region ?_
  refine WP.val rfl rfl rfl (Val.assertY rfl Ty.ni130 rfl) ?_
  refine WP.val rfl rfl rfl (Val.extract rfl rfl rfl) ?_
  refine WP.val rfl rfl rfl (Val.extract rfl rfl rfl) ?_
  refine WP.nil ?_
  refine Out.next ?_
  refine WPc.condT rfl rfl ?_
  refine WPc.seq ?_
  refine WPc.region ?_
  refine WP.val rfl rfl rfl (Val.assign rfl rfl) ?_
  refine WP.nil ?_
  refine Out.next ?_
  refine WPc.region ?_
  refine WP.val rfl rfl rfl (Val.move rfl rfl) ?_
  refine WP.val rfl rfl rfl (Val.fieldAddr (j := 0) rfl Ty.fo56_0 rfl rfl) ?_
  refine WP.val rfl rfl rfl (Val.fieldAddr (j := 1) rfl Ty.fo54_1 rfl rfl) ?_
  refine WP.eff0 rfl rfl (Eff.store rfl Ty.sc9 rfl rfl rfl (by simp) st1) ?_
  rintro _ _ rfl
  refine WP.nil ?_
  refine Out.block ?_
  refine Out.next ?_
  refine WPc.seq ?_
  refine WPc.region ?_
  refine WP.val rfl rfl rfl (Val.loadAgg (cs := [.string x, .string y, .bool false, .int .i64 0, .int .i64 0]) rfl Ty.ag56 rfl rfl (fun w h => h.range 0 rfl rfl)) ?_
  refine WP.perm pl1 ?_
  refine WP.eff0 rfl rfl (Eff.storeAgg (cs := [.string x, .string y, .bool false, .int .i64 0, .int .i64 0]) (C' := [.string x, .string y, .bool false, .int .i64 0, .int .i64 0]) rfl Ty.ag56 rfl rfl rfl rfl (by simp) rfl) ?_
  rintro _ _ rfl
  refine WP.nil ?_
  refine Out.next ?_
  refine WPc.ret ?_
  refine Out.perm pl1 ?_
  refine Out.drop ?_
  refine Out.perm pl1 ?_
  refine Out.drop ?_
  exact Out.retRun (L' := []) (results_cell (cs := [.string x, .string y, .bool false, .int .i64 0, .int .i64 0]) Try.results96 Ty.ag56 rfl rfl (fun w h => h.range 0 rfl rfl)) ⟨rfl, rfl⟩ (fun w h => h.drop)
set_option maxRecDepth 100000 in
set_option maxHeartbeats 2000000 in
theorem so_i (x y : Int) : Does Try.prog 96 [.agg #[.iface 133 (.int .i64 (x)), .iface 133 (.int .i64 (y))]] [] (fun res L => res = .agg #[.string (⟨#[]⟩), .string (⟨#[]⟩), .bool false, .int .i64 (x), .int .i64 (y)] ∧ L = []) := by
  refine Does.enter 66 Try.func96 rfl rfl rfl fun W F => ?_
  show WPc _ _ _ _ _ [(0, .agg #[.iface 133 (.int .i64 (x)), .iface 133 (.int .i64 (y))])] (F)
  refine WPc.seq ?_
  refine WPc.region ?_
  refine WP.eff rfl rfl rfl (Eff.box (C := [.iface 133 (.int .i64 (x)), .iface 133 (.int .i64 (y))]) rfl rfl rfl) ?_
  rintro _ F ⟨b1, rfl, rfl⟩
  refine WP.eff rfl rfl rfl (Eff.alloc rfl Ty.z56) ?_
  rintro _ _ ⟨b2, rfl, rfl⟩
  refine WP.nil ?_
  refine Out.next ?_
  refine WPc.seq ?_
  refine WPc.region ?_
  refine WP.val rfl rfl rfl (Val.mk (cs := [.string (⟨#[]⟩), .string (⟨#[]⟩), .bool false, .int .i64 0, .int .i64 0]) rfl rfl (fun _ => by kernel_rfl)) ?_
  refine WP.eff rfl rfl rfl (Eff.alloc rfl Ty.z56) ?_
  rintro _ _ ⟨b3, rfl, rfl⟩
  refine WP.eff0 rfl rfl (Eff.storeAgg (cs := [.string (⟨#[]⟩), .string (⟨#[]⟩), .bool false, .int .i64 0, .int .i64 0]) (C' := [.string (⟨#[]⟩), .string (⟨#[]⟩), .bool false, .int .i64 0, .int .i64 0]) rfl Ty.ag56 rfl rfl rfl rfl (by simp) rfl) ?_
  rintro _ _ rfl
  refine WP.nil ?_
  refine Out.next ?_
  refine WPc.seq ?_
  refine WPc.seq ?_
  refine WPc.region ?_
  refine WP.val rfl rfl rfl (Val.fieldAddr (j := 0) rfl Ty.fo172_0 rfl rfl) ?_
  refine WP.val rfl rfl rfl (Val.load rfl Ty.sc170 rfl (fun w h => h.cell 2 rfl rfl)) ?_
  refine WP.nil ?_
  refine Out.next ?_
  refine WPc.block ?_
  refine WPc.seq ?_
  refine WPc.region ?_
  refine WP.val rfl rfl rfl (Val.assertN (z := .string (⟨#[]⟩)) rfl Ty.ni134 (fun _ => by kernel_rfl) rfl rfl) ?_
  refine WP.val rfl rfl rfl (Val.extract rfl rfl rfl) ?_
  refine WP.val rfl rfl rfl (Val.extract rfl rfl rfl) ?_
  refine WP.nil ?_
  refine Out.next ?_
  refine WPc.condF rfl rfl ?_
  refine WPc.seq ?_
  refine WPc.region ?_
  refine WP.val rfl rfl rfl (Val.assertN (z := .string (⟨#[]⟩)) rfl Ty.ni130 (fun _ => by kernel_rfl) rfl rfl) ?_
  refine WP.val rfl rfl rfl (Val.extract rfl rfl rfl) ?_
  refine WP.val rfl rfl rfl (Val.extract rfl rfl rfl) ?_
  refine WP.nil ?_
  refine Out.next ?_
  refine WPc.condF rfl rfl ?_
  refine WPc.seq ?_
  refine WPc.region ?_
  refine WP.val rfl rfl rfl (Val.assertN (z := .slice none 0 0) rfl Ty.ni132 (fun _ => by kernel_rfl) rfl rfl) ?_
  refine WP.val rfl rfl rfl (Val.extract rfl rfl rfl) ?_
  refine WP.val rfl rfl rfl (Val.extract rfl rfl rfl) ?_
  refine WP.nil ?_
  refine Out.next ?_
  refine WPc.condF rfl rfl ?_
  refine WPc.seq ?_
  refine WPc.region ?_
  refine WP.val rfl rfl rfl (Val.assertY rfl Ty.ni133 rfl) ?_
  refine WP.val rfl rfl rfl (Val.extract rfl rfl rfl) ?_
  refine WP.val rfl rfl rfl (Val.extract rfl rfl rfl) ?_
  refine WP.nil ?_
  refine Out.next ?_
  refine WPc.condT rfl rfl ?_
  refine WPc.seq ?_
  refine WPc.region ?_
  refine WP.val rfl rfl rfl (Val.assign rfl rfl) ?_
  refine WP.nil ?_
  refine Out.next ?_
  refine WPc.region ?_
  refine WP.val rfl rfl rfl (Val.move rfl rfl) ?_
  refine WP.val rfl rfl rfl (Val.fieldAddr (j := 3) rfl Ty.fo56_1 rfl rfl) ?_
  refine WP.eff0 rfl rfl (Eff.store rfl Ty.sc2 rfl rfl rfl (by simp) st3) ?_
  rintro _ _ rfl
  refine WP.nil ?_
  refine Out.block ?_
  refine Out.next ?_
  refine WPc.seq ?_
  refine WPc.seq ?_
  refine WPc.region ?_
  refine WP.val rfl rfl rfl (Val.fieldAddr (j := 1) rfl Ty.fo172_1 rfl rfl) ?_
  refine WP.val rfl rfl rfl (Val.load rfl Ty.sc170 rfl (fun w h => h.cell 2 rfl rfl)) ?_
  refine WP.nil ?_
  refine Out.next ?_
  refine WPc.block ?_
  refine WPc.seq ?_
  refine WPc.region ?_
  refine WP.val rfl rfl rfl (Val.assertN (z := .string (⟨#[]⟩)) rfl Ty.ni134 (fun _ => by kernel_rfl) rfl rfl) ?_
  refine WP.val rfl rfl rfl (Val.extract rfl rfl rfl) ?_
  refine WP.val rfl rfl rfl (Val.extract rfl rfl rfl) ?_
  refine WP.nil ?_
  refine Out.next ?_
  refine WPc.condF rfl rfl ?_
  refine WPc.seq ?_
  refine WPc.region ?_
  refine WP.val rfl rfl rfl (Val.assertN (z := .string (⟨#[]⟩)) rfl Ty.ni130 (fun _ => by kernel_rfl) rfl rfl) ?_
  refine WP.val rfl rfl rfl (Val.extract rfl rfl rfl) ?_
  refine WP.val rfl rfl rfl (Val.extract rfl rfl rfl) ?_
  refine WP.nil ?_
  refine Out.next ?_
  refine WPc.condF rfl rfl ?_
  refine WPc.seq ?_
  refine WPc.region ?_
  refine WP.val rfl rfl rfl (Val.assertN (z := .slice none 0 0) rfl Ty.ni132 (fun _ => by kernel_rfl) rfl rfl) ?_
  refine WP.val rfl rfl rfl (Val.extract rfl rfl rfl) ?_
  refine WP.val rfl rfl rfl (Val.extract rfl rfl rfl) ?_
  refine WP.nil ?_
  refine Out.next ?_
  refine WPc.condF rfl rfl ?_
  refine WPc.seq ?_
  refine WPc.region ?_
  refine WP.val rfl rfl rfl (Val.assertY rfl Ty.ni133 rfl) ?_
  refine WP.val rfl rfl rfl (Val.extract rfl rfl rfl) ?_
  refine WP.val rfl rfl rfl (Val.extract rfl rfl rfl) ?_
  refine WP.nil ?_
  refine Out.next ?_
  refine WPc.condT rfl rfl ?_
  refine WPc.seq ?_
  refine WPc.region ?_
  refine WP.val rfl rfl rfl (Val.assign rfl rfl) ?_
  refine WP.nil ?_
  refine Out.next ?_
  refine WPc.region ?_
  refine WP.val rfl rfl rfl (Val.move rfl rfl) ?_
  refine WP.val rfl rfl rfl (Val.fieldAddr (j := 4) rfl Ty.fo56_2 rfl rfl) ?_
  refine WP.eff0 rfl rfl (Eff.store rfl Ty.sc2 rfl rfl rfl (by simp) st4) ?_
  rintro _ _ rfl
  refine WP.nil ?_
  refine Out.block ?_
  refine Out.next ?_
  refine WPc.seq ?_
  refine WPc.region ?_
  refine WP.val rfl rfl rfl (Val.loadAgg (cs := [.string (⟨#[]⟩), .string (⟨#[]⟩), .bool false, .int .i64 (x), .int .i64 (y)]) rfl Ty.ag56 rfl rfl (fun w h => h.range 0 rfl rfl)) ?_
  refine WP.perm pl1 ?_
  refine WP.eff0 rfl rfl (Eff.storeAgg (cs := [.string (⟨#[]⟩), .string (⟨#[]⟩), .bool false, .int .i64 (x), .int .i64 (y)]) (C' := [.string (⟨#[]⟩), .string (⟨#[]⟩), .bool false, .int .i64 (x), .int .i64 (y)]) rfl Ty.ag56 rfl rfl rfl rfl (by simp) rfl) ?_
  rintro _ _ rfl
  refine WP.nil ?_
  refine Out.next ?_
  refine WPc.ret ?_
  refine Out.perm pl1 ?_
  refine Out.drop ?_
  refine Out.perm pl1 ?_
  refine Out.drop ?_
  exact Out.retRun (L' := []) (results_cell (cs := [.string (⟨#[]⟩), .string (⟨#[]⟩), .bool false, .int .i64 (x), .int .i64 (y)]) Try.results96 Ty.ag56 rfl rfl (fun w h => h.range 0 rfl rfl)) ⟨rfl, rfl⟩ (fun w h => h.drop)
set_option maxRecDepth 100000 in
set_option maxHeartbeats 2000000 in
theorem so_b (u v : Value) (x y : List UInt8) : Does Try.prog 96 [.agg #[.iface 132 (u), .iface 132 (v)]] [Byts u x, Byts v y] (fun res L => res = .agg #[.string (⟨x.toArray⟩), .string (⟨y.toArray⟩), .bool false, .int .i64 0, .int .i64 0] ∧ L = [Byts u x, Byts v y]) := by
  refine Does.enter 66 Try.func96 rfl rfl rfl fun W F => ?_
  show WPc _ _ _ _ _ [(0, .agg #[.iface 132 (u), .iface 132 (v)])] (Byts u x :: Byts v y :: F)
  refine WPc.seq ?_
  refine WPc.region ?_
  refine WP.eff rfl rfl rfl (Eff.box (C := [.iface 132 (u), .iface 132 (v)]) rfl rfl rfl) ?_
  rintro _ _ ⟨b1, rfl, rfl⟩
  refine WP.eff rfl rfl rfl (Eff.alloc rfl Ty.z56) ?_
  rintro _ _ ⟨b2, rfl, rfl⟩
  refine WP.nil ?_
  refine Out.next ?_
  refine WPc.seq ?_
  refine WPc.region ?_
  refine WP.val rfl rfl rfl (Val.mk (cs := [.string (⟨#[]⟩), .string (⟨#[]⟩), .bool false, .int .i64 0, .int .i64 0]) rfl rfl (fun _ => by kernel_rfl)) ?_
  refine WP.eff rfl rfl rfl (Eff.alloc rfl Ty.z56) ?_
  rintro _ _ ⟨b3, rfl, rfl⟩
  refine WP.eff0 rfl rfl (Eff.storeAgg (cs := [.string (⟨#[]⟩), .string (⟨#[]⟩), .bool false, .int .i64 0, .int .i64 0]) (C' := [.string (⟨#[]⟩), .string (⟨#[]⟩), .bool false, .int .i64 0, .int .i64 0]) rfl Ty.ag56 rfl rfl rfl rfl (by simp) rfl) ?_
  rintro _ _ rfl
  refine WP.nil ?_
  refine Out.next ?_
  refine WPc.seq ?_
  refine WPc.seq ?_
  refine WPc.region ?_
  refine WP.val rfl rfl rfl (Val.fieldAddr (j := 0) rfl Ty.fo172_0 rfl rfl) ?_
  refine WP.val rfl rfl rfl (Val.load rfl Ty.sc170 rfl (fun w h => h.cell 2 rfl rfl)) ?_
  refine WP.nil ?_
  refine Out.next ?_
  refine WPc.block ?_
  refine WPc.seq ?_
  refine WPc.region ?_
  refine WP.val rfl rfl rfl (Val.assertN (z := .string (⟨#[]⟩)) rfl Ty.ni134 (fun _ => by kernel_rfl) rfl rfl) ?_
  refine WP.val rfl rfl rfl (Val.extract rfl rfl rfl) ?_
  refine WP.val rfl rfl rfl (Val.extract rfl rfl rfl) ?_
  refine WP.nil ?_
  refine Out.next ?_
  refine WPc.condF rfl rfl ?_
  refine WPc.seq ?_
  refine WPc.region ?_
  refine WP.val rfl rfl rfl (Val.assertN (z := .string (⟨#[]⟩)) rfl Ty.ni130 (fun _ => by kernel_rfl) rfl rfl) ?_
  refine WP.val rfl rfl rfl (Val.extract rfl rfl rfl) ?_
  refine WP.val rfl rfl rfl (Val.extract rfl rfl rfl) ?_
  refine WP.nil ?_
  refine Out.next ?_
  refine WPc.condF rfl rfl ?_
  refine WPc.seq ?_
  refine WPc.region ?_
  refine WP.val rfl rfl rfl (Val.assertY rfl Ty.ni132 rfl) ?_
  refine WP.val rfl rfl rfl (Val.extract rfl rfl rfl) ?_
  refine WP.val rfl rfl rfl (Val.extract rfl rfl rfl) ?_
  refine WP.nil ?_
  refine Out.next ?_
  refine WPc.condT rfl rfl ?_
  refine WPc.seq ?_
  refine WPc.region ?_
  refine WP.val rfl rfl rfl (Val.assign rfl rfl) ?_
  refine WP.nil ?_
  refine Out.next ?_
  refine WPc.region ?_
  refine WP.val rfl rfl rfl (Val.move rfl rfl) ?_
  refine WP.val rfl rfl rfl (show Val _ _ _ _ _ (.string (⟨x.toArray⟩)) from Val.str rfl Ty.by132 Ty.st9 rfl (fun w h => h.at 3 rfl)) ?_
  refine WP.val rfl rfl rfl (Val.fieldAddr (j := 0) rfl Ty.fo56_0 rfl rfl) ?_
  refine WP.val rfl rfl rfl (Val.fieldAddr (j := 0) rfl Ty.fo54_0 rfl rfl) ?_
  refine WP.eff0 rfl rfl (Eff.store rfl Ty.sc9 rfl rfl rfl (by simp) st0) ?_
  rintro _ _ rfl
  refine WP.nil ?_
  refine Out.block ?_
  refine Out.next ?_
  refine WPc.seq ?_
  refine WPc.seq ?_
  refine WPc.region ?_
  refine WP.val rfl rfl rfl (Val.fieldAddr (j := 1) rfl Ty.fo172_1 rfl rfl) ?_
  refine WP.val rfl rfl rfl (Val.load rfl Ty.sc170 rfl (fun w h => h.cell 2 rfl rfl)) ?_
  refine WP.nil ?_
  refine Out.next ?_
  refine WPc.block ?_
  refine WPc.seq ?_
  refine WPc.region ?_
  refine WP.val rfl rfl rfl (Val.assertN (z := .string (⟨#[]⟩)) rfl Ty.ni134 (fun _ => by kernel_rfl) rfl rfl) ?_
  refine WP.val rfl rfl rfl (Val.extract rfl rfl rfl) ?_
  refine WP.val rfl rfl rfl (Val.extract rfl rfl rfl) ?_
  refine WP.nil ?_
  refine Out.next ?_
  refine WPc.condF rfl rfl ?_
  refine WPc.seq ?_
  refine WPc.region ?_
  refine WP.val rfl rfl rfl (Val.assertN (z := .string (⟨#[]⟩)) rfl Ty.ni130 (fun _ => by kernel_rfl) rfl rfl) ?_
  refine WP.val rfl rfl rfl (Val.extract rfl rfl rfl) ?_
  refine WP.val rfl rfl rfl (Val.extract rfl rfl rfl) ?_
  refine WP.nil ?_
  refine Out.next ?_
  refine WPc.condF rfl rfl ?_
  refine WPc.seq ?_
  refine WPc.region ?_
  refine WP.val rfl rfl rfl (Val.assertY rfl Ty.ni132 rfl) ?_
  refine WP.val rfl rfl rfl (Val.extract rfl rfl rfl) ?_
  refine WP.val rfl rfl rfl (Val.extract rfl rfl rfl) ?_
  refine WP.nil ?_
  refine Out.next ?_
  refine WPc.condT rfl rfl ?_
  refine WPc.seq ?_
  refine WPc.region ?_
  refine WP.val rfl rfl rfl (Val.assign rfl rfl) ?_
  refine WP.nil ?_
  refine Out.next ?_
  refine WPc.region ?_
  refine WP.val rfl rfl rfl (Val.move rfl rfl) ?_
  refine WP.val rfl rfl rfl (show Val _ _ _ _ _ (.string (⟨y.toArray⟩)) from Val.str rfl Ty.by132 Ty.st9 rfl (fun w h => h.at 4 rfl)) ?_
  refine WP.val rfl rfl rfl (Val.fieldAddr (j := 0) rfl Ty.fo56_0 rfl rfl) ?_
  refine WP.val rfl rfl rfl (Val.fieldAddr (j := 1) rfl Ty.fo54_1 rfl rfl) ?_
  refine WP.eff0 rfl rfl (Eff.store rfl Ty.sc9 rfl rfl rfl (by simp) st1) ?_
  rintro _ _ rfl
  refine WP.nil ?_
  refine Out.block ?_
  refine Out.next ?_
  refine WPc.seq ?_
  refine WPc.region ?_
  refine WP.val rfl rfl rfl (Val.loadAgg (cs := [.string (⟨x.toArray⟩), .string (⟨y.toArray⟩), .bool false, .int .i64 0, .int .i64 0]) rfl Ty.ag56 rfl rfl (fun w h => h.range 0 rfl rfl)) ?_
  refine WP.perm pl1 ?_
  refine WP.eff0 rfl rfl (Eff.storeAgg (cs := [.string (⟨x.toArray⟩), .string (⟨y.toArray⟩), .bool false, .int .i64 0, .int .i64 0]) (C' := [.string (⟨x.toArray⟩), .string (⟨y.toArray⟩), .bool false, .int .i64 0, .int .i64 0]) rfl Ty.ag56 rfl rfl rfl rfl (by simp) rfl) ?_
  rintro _ _ rfl
  refine WP.nil ?_
  refine Out.next ?_
  refine WPc.ret ?_
  refine Out.perm pl1 ?_
  refine Out.drop ?_
  refine Out.perm pl1 ?_
  refine Out.drop ?_
  exact Out.retRun (L' := [Byts u x, Byts v y]) (results_cell (cs := [.string (⟨x.toArray⟩), .string (⟨y.toArray⟩), .bool false, .int .i64 0, .int .i64 0]) Try.results96 Ty.ag56 rfl rfl (fun w h => h.range 0 rfl rfl)) ⟨rfl, rfl⟩ (fun w h => h.drop)

end Go.Proofs.Ytbomnihiapjmpaa.Tu

namespace Go.Proofs.Ytbomnihiapjmpaa.Tv
open Go.RowKit Go.Proofs.Ytbomnihiapjmpaa Go.Proofs.Ytbomnihiapjmpaa.Sl Go.Proofs.Ytbomnihiapjmpaa.TrP Go.Proofs.Ytbomnihiapjmpaa.Ta Go.Proofs.Ytbomnihiapjmpaa.Tc Go.Proofs.Ytbomnihiapjmpaa.Td Go.Proofs.Ytbomnihiapjmpaa.Te Go.Proofs.Ytbomnihiapjmpaa.Tf Go.Proofs.Ytbomnihiapjmpaa.Tg Go.Proofs.Ytbomnihiapjmpaa.Th Go.Proofs.Ytbomnihiapjmpaa.Ti Go.Proofs.Ytbomnihiapjmpaa.Tk Go.Proofs.Ytbomnihiapjmpaa.Ts Go.Proofs.Ytbomnihiapjmpaa.Tu
set_option linter.unusedVariables false
set_option linter.unusedSimpArgs false
set_option linter.unusedSectionVars false


/-- the text of an end -/
def txt (k : Ky) : ByteArray := ⟨(if k.t = 1 then [] else k.l).toArray⟩
theorem ba_list (x : ByteArray) : (⟨x.toList.toArray⟩ : ByteArray) = x := by
  rw [ByteArray.toList_eq]
theorem txt_ka (x : ByteArray) : txt (ka x) = x := by
  unfold txt ka
  by_cases h : x.size = 0
  · rw [if_pos h]
    have e : x.data.toList = [] := List.eq_nil_of_length_eq_zero (by rw [Array.length_toList]; exact h)
    have := ba_list x
    rw [ByteArray.toList_eq, e] at this
    exact this
  · rw [if_neg h]
    exact ba_list x
theorem txt_ks (x : ByteArray) : txt (ks x) = x := ba_list x
theorem txt_kb (l : List UInt8) : txt (kb l) = ⟨l.toArray⟩ := by
  unfold txt kb
  by_cases h : l.length = 0
  · rw [if_pos h, List.eq_nil_of_length_eq_zero h]; rfl
  · rw [if_neg h]; rfl
theorem n_ka (x : ByteArray) : (ka x).n = 0 := by unfold ka; split <;> rfl
theorem n_kb (x : List UInt8) : (kb x).n = 0 := by unfold kb; split <;> rfl
def spo (eb ee : En) : List Value := [.string (txt eb.k), .string (txt ee.k), .bool false, .int .i64 eb.k.n, .int .i64 ee.k.n]
theorem so_does {EL : List En} {eb ee : En} (hb : eb ∈ EL) (he : ee ∈ EL) (ht : eb.t = ee.t) : Does Try.prog 96 [.agg #[.iface eb.t eb.u, .iface ee.t ee.u]] [Ens EL] (fun res L => res = .agg (spo eb ee).toArray ∧ L = [Ens EL]) := fun W F w hs => by
  have hs : Sat W (Enp ee :: Enp eb :: Ens EL :: F) w := ((Sat.allGet hb hs).perm pl1 |>.allGet he |>.perm (List.Perm.cons _ pl1))
  obtain ⟨eb', et', eu'⟩ := eb
  obtain ⟨ek2, et2, eu2⟩ := ee
  dsimp only at ht
  subst ht
  obtain ⟨x2, hs⟩ := hs.ex
  obtain ⟨x1, hs⟩ := (hs.perm pl1).ex
  cases x1 with
  | a s =>
    obtain ⟨rfl, rfl, rfl⟩ := hs.pure
    have hs := hs.drop
    cases x2 with
    | a t =>
      obtain ⟨rfl, -, rfl⟩ := hs.pure
      refine (so_a s t W (Ens EL :: F) w hs.drop).mono ?_
      rintro e w' ⟨v, L', h1, ⟨rfl, rfl⟩, h4⟩
      exact ⟨_, _, h1, ⟨by unfold spo; simp only [txt_ka, n_ka], rfl⟩, h4⟩
    | s t => have h0 := hs.pure.2.1; exact absurd h0 (by simp)
    | i t => have h0 := hs.pure.2.1; exact absurd h0 (by simp)
    | b t => have h0 := hs.sep.pure.2; exact absurd h0 (by simp)
  | s s =>
    obtain ⟨rfl, rfl, rfl⟩ := hs.pure
    have hs := hs.drop
    cases x2 with
    | s t =>
      obtain ⟨rfl, -, rfl⟩ := hs.pure
      refine (so_s s t W (Ens EL :: F) w hs.drop).mono ?_
      rintro e w' ⟨v, L', h1, ⟨rfl, rfl⟩, h4⟩
      exact ⟨_, _, h1, ⟨by unfold spo; simp only [txt_ks]; rfl, rfl⟩, h4⟩
    | a t => have h0 := hs.pure.2.1; exact absurd h0 (by simp)
    | i t => have h0 := hs.pure.2.1; exact absurd h0 (by simp)
    | b t => have h0 := hs.sep.pure.2; exact absurd h0 (by simp)
  | i s =>
    obtain ⟨rfl, rfl, rfl, -⟩ := hs.pure
    have hs := hs.drop
    cases x2 with
    | i t =>
      obtain ⟨rfl, -, rfl, -⟩ := hs.pure
      refine (so_i s t W (Ens EL :: F) w hs.drop).mono ?_
      rintro e w' ⟨v, L', h1, ⟨rfl, rfl⟩, h4⟩
      exact ⟨_, _, h1, ⟨rfl, rfl⟩, h4⟩
    | a t => have h0 := hs.pure.2.1; exact absurd h0 (by simp)
    | s t => have h0 := hs.pure.2.1; exact absurd h0 (by simp)
    | b t => have h0 := hs.sep.pure.2; exact absurd h0 (by simp)
  | b s =>
    have hs : Sat W (Pure (eb' = kb s ∧ et' = 132) :: Byts eu' s :: _) w := hs.sep
    obtain ⟨rfl, rfl⟩ := hs.pure
    have hs := hs.drop.perm pl1
    cases x2 with
    | b t =>
      have hs : Sat W (Pure (ek2 = kb t ∧ (132 : TypeId) = 132) :: Byts eu2 t :: _) w := hs.sep
      obtain ⟨rfl, -⟩ := hs.pure
      refine (so_b eu' eu2 s t W (Ens EL :: F) w (hs.drop.perm pl1)).mono ?_
      rintro e w' ⟨v, L', h1, ⟨rfl, rfl⟩, h4⟩
      exact ⟨_, [Ens EL], h1, ⟨by unfold spo; simp only [txt_kb, n_kb], rfl⟩, Sat.drop (Sat.drop h4)⟩
    | a t => have h0 := hs.pure.2.1; exact absurd h0 (by simp)
    | s t => have h0 := hs.pure.2.1; exact absurd h0 (by simp)
    | i t => have h0 := hs.pure.2.1; exact absurd h0 (by simp)

end Go.Proofs.Ytbomnihiapjmpaa.Tv

namespace Go.Proofs.Ytbomnihiapjmpaa.Tw
open Go.RowKit Go.Proofs.Ytbomnihiapjmpaa Go.Proofs.Ytbomnihiapjmpaa.Sl Go.Proofs.Ytbomnihiapjmpaa.TrP Go.Proofs.Ytbomnihiapjmpaa.Tc Go.Proofs.Ytbomnihiapjmpaa.Td Go.Proofs.Ytbomnihiapjmpaa.Te Go.Proofs.Ytbomnihiapjmpaa.Tf Go.Proofs.Ytbomnihiapjmpaa.Tg Go.Proofs.Ytbomnihiapjmpaa.Th Go.Proofs.Ytbomnihiapjmpaa.Ti Go.Proofs.Ytbomnihiapjmpaa.Tk Go.Proofs.Ytbomnihiapjmpaa.Ts Go.Proofs.Ytbomnihiapjmpaa.Tu Go.Proofs.Ytbomnihiapjmpaa.Tv
set_option linter.unusedVariables false
set_option linter.unusedSimpArgs false
set_option linter.unusedSectionVars false


theorem sto_iv {S : St} {D : List Nat} {x : Nat} {w : World} (h : Holds (Sto S D) w) (hx : x ∈ D) : w.rangeAt x 0 [.iface (S x).it.b.t (S x).it.b.u, .iface (S x).it.e.t (S x).it.e.u] :=
  Holds.cell_range (C := (S x).cells) (T := 177) (h.kds hx) rfl
set_option maxRecDepth 100000 in
set_option maxHeartbeats 2000000 in
theorem rec_does (EL : List En) (t0 : TypeId) (hE : ∀ e ∈ EL, e.t = t0) (s : Nat) (D : List Nat) (S : St) (ok : Ok s EL D S) (i : Nat) (hi : i ∈ D) (n : Int) (hval : (S i).it.v = .iface 3 (.int .i64 n)) (an : Nat) (b : Bool) (cn mo : Int) (lv vv : Value) (m : Nat) (hm : m ≤ 100000) (xs ys : List Value) : Does Try.prog 95 [.pointer (some ⟨i, 0, none⟩), .pointer (some ⟨an, 0, none⟩)] [Blk an [.bool (b), .int .i64 (cn), .int .i64 (mo), lv, vv] 62, Own 56 5 lv m xs, Own 3 1 vv m ys, Ens EL, Sto S D] (fun _ L => ∃ l2 v2, L = [Blk an [.bool b, .int .i64 cn, .int .i64 mo, l2, v2] 62, Own 56 5 l2 (m + 1) (xs ++ spo (S i).it.b (S i).it.e), Own 3 1 v2 (m + 1) (ys ++ [.int .i64 n]), Ens EL, Sto S D]) := by
  refine Does.enter 23 Try.func95 rfl rfl rfl fun W F => ?_
  show WPc _ _ _ _ _ [(0, .pointer (some ⟨i, 0, none⟩)), (1, .pointer (some ⟨an, 0, none⟩))] (Blk an [.bool (b), .int .i64 (cn), .int .i64 (mo), lv, vv] 62 :: Own 56 5 lv m xs :: Own 3 1 vv m ys :: Ens EL :: Sto S D :: F)
  refine WPc.seq ?_
  refine WPD.start (Sat W [Blk an [.bool (b), .int .i64 (cn), .int .i64 (mo), lv, vv] 62, Sto S D]) Ty.mixed ?_
  refine WPD.takeM 0 rfl rfl rfl rfl (by kernel_rfl) (by kernel_rfl) (by kernel_rfl) (by kernel_rfl) (fun _ _ _ h => h) (fun w h => (((h.perm pl4).perm pl1)).dropEnd (L := [_, _])) (Val.fieldAddr (j := 3) rfl Ty.fo62_3 rfl rfl) ?_
  refine WPD.take 1 rfl rfl rfl rfl (by kernel_rfl) (by kernel_rfl) (by kernel_rfl) (by kernel_rfl) (fun _ _ _ h => h) (by kernel_rfl) (fun w h => (((h.perm pl4).perm pl1)).dropEnd (L := [_, _])) (Val.load rfl Ty.sc57 rfl (fun w h => h.cell 0 rfl rfl)) ?_
  refine WPD.takeM 2 rfl rfl rfl rfl (by kernel_rfl) (by kernel_rfl) (by kernel_rfl) (by kernel_rfl) (fun _ _ _ h => h) (fun w h => (((h.perm pl4).perm pl1)).dropEnd (L := [_, _])) (Val.move rfl rfl) ?_
  refine WPD.takeM 3 rfl rfl rfl rfl (by kernel_rfl) (by kernel_rfl) (by kernel_rfl) (by kernel_rfl) (fun _ _ _ h => h) (fun w h => (((h.perm pl4).perm pl1)).dropEnd (L := [_, _])) (Val.nilCheck rfl rfl) ?_
  refine WPD.takeM 4 rfl rfl rfl rfl (by kernel_rfl) (by kernel_rfl) (by kernel_rfl) (by kernel_rfl) (fun _ _ _ h => h) (fun w h => (((h.perm pl4).perm pl1)).dropEnd (L := [_, _])) (Val.fieldAddr (j := 0) rfl Ty.fo174_0 rfl rfl) ?_
  refine WPD.take 5 rfl rfl rfl rfl (by kernel_rfl) (by kernel_rfl) (by kernel_rfl) (by kernel_rfl) (fun _ _ _ h => h) (by kernel_rfl) (fun w h => (((h.perm pl4).perm pl1)).dropEnd (L := [_, _])) (Val.loadAgg (cs := [.iface (S i).it.b.t (S i).it.b.u, .iface (S i).it.e.t (S i).it.e.u]) rfl Ty.ag172 rfl rfl (fun w h => sto_iv (h.at 1 rfl) hi)) ?_
  refine WPD.perm pl3 ?_
  refine WPD.step 6 (by kernel_rfl) rfl rfl rfl rfl (Eff.call rfl rfl Try.call96 (so_does (Ok.b ok hi) (Ok.e ok hi) ((hE _ (Ok.b ok hi)).trans (hE _ (Ok.e ok hi)).symm))) ?_
  rintro _ _ ⟨_, ⟨rfl, rfl⟩, rfl⟩
  refine ⟨(fun w h => (((h.perm pl4).perm pl2)).dropEnd (L := [_, _])), ?_⟩
  show WPD _ _ _ _ _ _ _ _ _ (Ens EL :: Blk an [.bool (b), .int .i64 (cn), .int .i64 (mo), lv, vv] 62 :: Own 56 5 lv m xs :: Own 3 1 vv m ys :: Sto S D :: F)
  refine WPD.step 7 (by kernel_rfl) rfl rfl rfl rfl (Eff.mkSlice (C := [.string (txt (S i).it.b.k), .string (txt (S i).it.e.k), .bool false, .int .i64 ((S i).it.b.k.n), .int .i64 ((S i).it.e.k.n)]) rfl Ty.sl57 rfl (fun _ => by kernel_rfl)) ?_
  rintro _ _ ⟨b1, rfl, rfl⟩
  refine ⟨(fun w h => (((h.perm pl5).perm pl3)).dropEnd (L := [_, _])), ?_⟩
  refine WPD.perm pl3 ?_
  refine WPD.stepC 8 (by kernel_rfl) rfl rfl rfl rfl (by kernel_rfl) (Eff.append (m := 1) (n0 := m) (news := [.string (txt (S i).it.b.k), .string (txt (S i).it.e.k), .bool false, .int .i64 ((S i).it.b.k.n), .int .i64 ((S i).it.e.k.n)]) rfl Ty.sl57 Ty.z56 rfl rfl rfl (.slice Ty.sl57 rfl rfl (fun w h => cells_range (h.range 1 rfl rfl))) (by omega) (by omega)) ?_
  rintro v2 _ ⟨onev2, rfl⟩
  refine ⟨(Sat W (Own 56 5 v2 (m + 1) (xs ++ ([.string (txt (S i).it.b.k), .string (txt (S i).it.e.k), .bool false, .int .i64 ((S i).it.b.k.n), .int .i64 ((S i).it.e.k.n)])) :: Blk b1 [.string (txt (S i).it.b.k), .string (txt (S i).it.e.k), .bool false, .int .i64 ((S i).it.b.k.n), .int .i64 ((S i).it.e.k.n)] 56 :: Ens EL :: Blk an [.bool (b), .int .i64 (cn), .int .i64 (mo), lv, vv] 62 :: Own 3 1 vv m ys :: Sto S D :: F)), (fun _ h => h), ?_⟩
  refine WPD.takeM 9 rfl rfl rfl rfl (by kernel_rfl) (by kernel_rfl) (by kernel_rfl) (by kernel_rfl) (fun _ _ _ h => h) (fun _ h => h) (Val.fieldAddr (j := 3) rfl Ty.fo62_3 rfl rfl) ?_
  refine WPD.perm pl3 ?_
  refine WPD.stepC0 10 (by kernel_rfl) rfl rfl rfl (by kernel_rfl) (Eff.store rfl Ty.sc57 rfl rfl onev2 (by simp) st3) ?_
  rintro _ _ rfl
  refine ⟨(Sat W (Blk an [.bool (b), .int .i64 (cn), .int .i64 (mo), v2, vv] 62 :: Own 56 5 v2 (m + 1) (xs ++ ([.string (txt (S i).it.b.k), .string (txt (S i).it.e.k), .bool false, .int .i64 ((S i).it.b.k.n), .int .i64 ((S i).it.e.k.n)])) :: Blk b1 [.string (txt (S i).it.b.k), .string (txt (S i).it.e.k), .bool false, .int .i64 ((S i).it.b.k.n), .int .i64 ((S i).it.e.k.n)] 56 :: Ens EL :: Own 3 1 vv m ys :: Sto S D :: F)), (fun _ h => h), ?_⟩
  refine WPD.done (by kernel_rfl) ?_
  refine Out.next ?_
  refine WPD.start (Sat W [Blk an [.bool (b), .int .i64 (cn), .int .i64 (mo), v2, vv] 62, Sto S D]) Ty.mixed ?_
  refine WPD.takeM 0 rfl rfl rfl rfl (by kernel_rfl) (by kernel_rfl) (by kernel_rfl) (by kernel_rfl) (fun _ _ _ h => h) (fun w h => (((h.perm pl5).perm pl1)).dropEnd (L := [_, _])) (Val.fieldAddr (j := 4) rfl Ty.fo62_4 rfl rfl) ?_
  refine WPD.take 1 rfl rfl rfl rfl (by kernel_rfl) (by kernel_rfl) (by kernel_rfl) (by kernel_rfl) (fun _ _ _ h => h) (by kernel_rfl) (fun w h => (((h.perm pl5).perm pl1)).dropEnd (L := [_, _])) (Val.load rfl Ty.sc58 rfl (fun w h => h.cell 0 rfl rfl)) ?_
  refine WPD.takeM 2 rfl rfl rfl rfl (by kernel_rfl) (by kernel_rfl) (by kernel_rfl) (by kernel_rfl) (fun _ _ _ h => h) (fun w h => (((h.perm pl5).perm pl1)).dropEnd (L := [_, _])) (Val.move rfl rfl) ?_
  refine WPD.takeM 3 rfl rfl rfl rfl (by kernel_rfl) (by kernel_rfl) (by kernel_rfl) (by kernel_rfl) (fun _ _ _ h => h) (fun w h => (((h.perm pl5).perm pl1)).dropEnd (L := [_, _])) (Val.nilCheck rfl rfl) ?_
  refine WPD.takeM 4 rfl rfl rfl rfl (by kernel_rfl) (by kernel_rfl) (by kernel_rfl) (by kernel_rfl) (fun _ _ _ h => h) (fun w h => (((h.perm pl5).perm pl1)).dropEnd (L := [_, _])) (Val.fieldAddr (j := 2) rfl Ty.fo174_1 rfl rfl) ?_
  refine WPD.take 5 rfl rfl rfl rfl (by kernel_rfl) (by kernel_rfl) (by kernel_rfl) (by kernel_rfl) (fun _ _ _ h => h) (by kernel_rfl) (fun w h => (((h.perm pl5).perm pl1)).dropEnd (L := [_, _])) (Val.load (v := .iface 3 (.int .i64 (n))) rfl Ty.sc20 rfl (fun w h => sto_v (h.at 1 rfl) hi hval)) ?_
  refine WPD.take 6 rfl rfl rfl rfl (by kernel_rfl) (by kernel_rfl) (by kernel_rfl) (by kernel_rfl) (fun _ _ _ h => h) (by kernel_rfl) (fun w h => (((h.perm pl5).perm pl1)).dropEnd (L := [_, _])) (Val.assertC rfl Ty.ni3 rfl) ?_
  refine WPD.step 7 (by kernel_rfl) rfl rfl rfl rfl (Eff.mkSlice (C := [.int .i64 (n)]) rfl Ty.sl58 rfl (fun _ => by kernel_rfl)) ?_
  rintro _ _ ⟨b3, rfl, rfl⟩
  refine ⟨(fun w h => (((h.perm pl6).perm pl2)).dropEnd (L := [_, _])), ?_⟩
  refine WPD.perm pl5 ?_
  refine WPD.stepC 8 (by kernel_rfl) rfl rfl rfl rfl (by kernel_rfl) (Eff.append (m := 1) (n0 := m) (news := [.int .i64 (n)]) rfl Ty.sl58 Ty.z3 rfl rfl rfl (.slice Ty.sl58 rfl rfl (fun w h => cells_range (h.range 1 rfl rfl))) (by omega) (by omega)) ?_
  rintro v4 _ ⟨onev4, rfl⟩
  refine ⟨(Sat W (Own 3 1 v4 (m + 1) (ys ++ ([.int .i64 (n)])) :: Blk b3 [.int .i64 (n)] 3 :: Blk an [.bool (b), .int .i64 (cn), .int .i64 (mo), v2, vv] 62 :: Own 56 5 v2 (m + 1) (xs ++ ([.string (txt (S i).it.b.k), .string (txt (S i).it.e.k), .bool false, .int .i64 ((S i).it.b.k.n), .int .i64 ((S i).it.e.k.n)])) :: Blk b1 [.string (txt (S i).it.b.k), .string (txt (S i).it.e.k), .bool false, .int .i64 ((S i).it.b.k.n), .int .i64 ((S i).it.e.k.n)] 56 :: Ens EL :: Sto S D :: F)), (fun _ h => h), ?_⟩
  refine WPD.takeM 9 rfl rfl rfl rfl (by kernel_rfl) (by kernel_rfl) (by kernel_rfl) (by kernel_rfl) (fun _ _ _ h => h) (fun _ h => h) (Val.fieldAddr (j := 4) rfl Ty.fo62_4 rfl rfl) ?_
  refine WPD.perm pl2 ?_
  refine WPD.stepC0 10 (by kernel_rfl) rfl rfl rfl (by kernel_rfl) (Eff.store rfl Ty.sc58 rfl rfl onev4 (by simp) st4) ?_
  rintro _ _ rfl
  refine ⟨(Sat W (Blk an [.bool (b), .int .i64 (cn), .int .i64 (mo), v2, v4] 62 :: Own 3 1 v4 (m + 1) (ys ++ ([.int .i64 (n)])) :: Blk b3 [.int .i64 (n)] 3 :: Own 56 5 v2 (m + 1) (xs ++ ([.string (txt (S i).it.b.k), .string (txt (S i).it.e.k), .bool false, .int .i64 ((S i).it.b.k.n), .int .i64 ((S i).it.e.k.n)])) :: Blk b1 [.string (txt (S i).it.b.k), .string (txt (S i).it.e.k), .bool false, .int .i64 ((S i).it.b.k.n), .int .i64 ((S i).it.e.k.n)] 56 :: Ens EL :: Sto S D :: F)), (fun _ h => h), ?_⟩
  refine WPD.done (by kernel_rfl) ?_
  refine Out.perm pl2 ?_
  refine Out.drop ?_
  refine Out.perm pl3 ?_
  refine Out.drop ?_
  refine Out.perm pl4 ?_
  refine Out.perm pl4 ?_
  refine Out.perm pl3 ?_
  refine Out.perm pl4 ?_
  refine Out.perm pl4 ?_
  exact Out.end0 (L' := _) Try.results95 ⟨v2, v4, rfl⟩ (fun _ h => h)

end Go.Proofs.Ytbomnihiapjmpaa.Tw

namespace Go.Proofs.Ytbomnihiapjmpaa.Sl
open Go.RowKit Go.Lib
set_option linter.unusedVariables false
/-- a test whose answer is known -/
theorem Val.eqlK {P : Program} {n : Nat} {l : List (Nat × Value)} {G : World → Prop} {o : Oper} {t u : TypeId} {x y : Operand} {k : IntKind} {p q : Int} {b : Bool} (ho : o.op = .binOp .eql t x y u) (hx : ev l x = some (.int k p)) (hy : ev l y = some (.int k q)) (hb : decide (p = q) = b) : Val P n l G o (.bool b) := hb ▸ Val.eql ho hx hy
theorem flatOf_append {α : Type} (cf : α → List Value) (l m : List α) : flatOf cf (l ++ m) = flatOf cf l ++ flatOf cf m := by simp [flatOf]
theorem flatOf_one {α : Type} (cf : α → List Value) (x : α) : flatOf cf [x] = cf x := by simp [flatOf]
theorem results_ct {P : Program} {W : World} {fn : Func} {n : Nat} {l : List (Nat × Value)} {L : List HProp} {t u : Tmp} {ty : TypeId} {v : Value} {b k : Nat} {cs : List Value} (hr : fn.results = #[.cell u ty, .tmp t]) (hv : Sl.look l t = some v) (ht : aggS P ty = some k) (hu : Sl.look l u = some (.pointer (some ⟨b, 0, none⟩))) (hk : cs.length = k)
    (hc : ∀ w, Sat W L w → w.rangeAt b 0 cs) : ∀ a w, Fr n a l → Sat W L w → (results fn a.tmps).run P w = .ok (.tuple #[.agg cs.toArray, v]) w := fun a w hf hs => by
  obtain ⟨d, h1, h2, h3⟩ := aggS_row ht
  have := run_loadVar_mid (P := P) w b 0 ty cs d (hc w hs) h1 h2 (by rw [h3, hk])
  have e := hf.at_ u _ hu
  have e2 := hf.at_ t _ hv
  rw [Array.getD_eq_getD_getElem?] at e e2
  simp [results, hr, e, e2, asAddr, this]
end Go.Proofs.Ytbomnihiapjmpaa.Sl

namespace Go.Proofs.Ytbomnihiapjmpaa.Tx
open Go.RowKit Go.Proofs.Ytbomnihiapjmpaa Go.Proofs.Ytbomnihiapjmpaa.Sl Go.Proofs.Ytbomnihiapjmpaa.TrP Go.Proofs.Ytbomnihiapjmpaa.Tb Go.Proofs.Ytbomnihiapjmpaa.Tc Go.Proofs.Ytbomnihiapjmpaa.Td Go.Proofs.Ytbomnihiapjmpaa.Te Go.Proofs.Ytbomnihiapjmpaa.Tf Go.Proofs.Ytbomnihiapjmpaa.Tg Go.Proofs.Ytbomnihiapjmpaa.Th Go.Proofs.Ytbomnihiapjmpaa.Ti Go.Proofs.Ytbomnihiapjmpaa.Tj Go.Proofs.Ytbomnihiapjmpaa.Tk Go.Proofs.Ytbomnihiapjmpaa.Tr Go.Proofs.Ytbomnihiapjmpaa.Ts Go.Proofs.Ytbomnihiapjmpaa.Tu Go.Proofs.Ytbomnihiapjmpaa.Tv
set_option linter.unusedVariables false
set_option linter.unusedSimpArgs false
set_option linter.unusedSectionVars false


theorem Ok.mono {s : Nat} {EL EL' : List En} {D : List Nat} {S : St} (h : Ok s EL D S) (hl : ∀ e ∈ EL, e ∈ EL') : Ok s EL' D S := ⟨h.l, h.r, h.p, fun hi => hl _ (h.b hi), fun hi => hl _ (h.e hi), fun hi => hl _ (h.m hi)⟩
theorem ens_add {W w : World} {L : List HProp} {EL : List En} {eb ee : En} (h : Sat W (Enp eb :: Enp ee :: Ens EL :: L) w) : Sat W (Ens (eb :: ee :: EL) :: L) w := by
  have h1 : Sat W (Ens (ee :: EL) :: Enp eb :: L) w := Sat.allAdd (f := Enp) (x := ee) Enp.pers (fun y hy => List.mem_cons.1 hy) ((h.perm pl2).perm (by exact pl2))
  exact Sat.allAdd (f := Enp) (x := eb) Enp.pers (fun y hy => List.mem_cons.1 hy) (h1.perm pl1)
set_option maxRecDepth 100000 in
set_option maxHeartbeats 2000000 in
theorem treed_ins (k : Int) (x : Sp) (hkey : x.key.size ≤ 2147483647) (hfin : x.fin.size ≤ 2147483647) (hk3 : k = 3 → x.one = false ∧ (-2305843009213693952 ≤ x.lo ∧ x.lo ≤ 2305843009213693952) ∧ (-2305843009213693952 ≤ x.hi ∧ x.hi ≤ 2305843009213693952)) (val lim : Int) (ov wv : Value) (hov : ov.oneCell' = true) (hwv : wv.oneCell' = true) (EL : List En) (hE : ∀ e ∈ EL, e.t = kt k) (s : Nat) (D : List Nat) (ZC : List Value) (tb root : Nat) (cnt : Int) (hcnt : 0 ≤ cnt ∧ cnt < 4611686018427387904) (S : St) (ok : Ok s EL D S) (hroot : Is s D root) (n k0 : Nat) (hio : ∀ eb ee : En, eb.k = kB k x → ee.k = kE k x → ∀ z, z ∉ D → z ≠ s → InsOk s n k0 D S root eb ee (3, .int .i64 val) z) : Does Try.prog 66 [.iface 178 (.pointer (some ⟨tb, 0, none⟩)), .int .i64 (k), .agg #[.int .i64 1, .string x.key, .string x.fin, .bool (x.one), .int .i64 (x.lo), .int .i64 (x.hi), .int .i64 (val), .int .i64 (lim), ov, wv]] [Blk tb [.pointer (some ⟨root, 0, none⟩), .int .i64 (cnt), .pointer (some ⟨s, 0, none⟩)] 180, Ens EL, Sto S D, Blk s ZC 177] (fun v L => ∃ eb ee z, v = .agg #[.bool false, .int .i64 0, .int .i64 0, .slice none 0 0, .slice none 0 0] ∧ eb.t = kt k ∧ ee.t = kt k ∧ eb.k = kB k x ∧ ee.k = kE k x ∧ z ∉ D ∧ z ≠ s ∧ L = [Blk tb [.pointer (some ⟨(insF s n k0 S root eb ee (3, .int .i64 val) z).2, 0, none⟩), .int .i64 (cnt + 1), .pointer (some ⟨s, 0, none⟩)] 180, Ens (eb :: ee :: EL), Sto (setC (insF s n k0 S root eb ee (3, .int .i64 val) z).1 (insF s n k0 S root eb ee (3, .int .i64 val) z).2 0) (z :: D), Blk s ZC 177]) := by
  refine Does.enter 133 Try.func66 rfl rfl rfl fun W F => ?_
  show WPc _ _ _ _ _ [(0, .iface 178 (.pointer (some ⟨tb, 0, none⟩))), (1, .int .i64 (k)), (2, .agg #[.int .i64 1, .string x.key, .string x.fin, .bool (x.one), .int .i64 (x.lo), .int .i64 (x.hi), .int .i64 (val), .int .i64 (lim), ov, wv])] (Blk tb [.pointer (some ⟨root, 0, none⟩), .int .i64 (cnt), .pointer (some ⟨s, 0, none⟩)] 180 :: Ens EL :: Sto S D :: Blk s ZC 177 :: F)
  refine WPc.seq ?_
  refine WPc.region ?_
  refine WP.eff rfl rfl rfl (Eff.box (C := [.int .i64 1, .string x.key, .string x.fin, .bool (x.one), .int .i64 (x.lo), .int .i64 (x.hi), .int .i64 (val), .int .i64 (lim), ov, wv]) rfl rfl rfl) ?_
  rintro _ _ ⟨b1, rfl, rfl⟩
  refine WP.eff rfl rfl rfl (Eff.alloc rfl Ty.z62) ?_
  rintro _ _ ⟨b2, rfl, rfl⟩
  refine WP.nil ?_
  refine Out.next ?_
  refine WPc.seq ?_
  refine WPc.region ?_
  refine WP.val rfl rfl rfl (Val.mk (cs := [.bool false, .int .i64 0, .int .i64 0, .slice none 0 0, .slice none 0 0]) rfl rfl (fun _ => by kernel_rfl)) ?_
  refine WP.eff rfl rfl rfl (Eff.alloc rfl Ty.z62) ?_
  rintro _ _ ⟨b3, rfl, rfl⟩
  refine WP.eff0 rfl rfl (Eff.storeAgg (cs := [.bool false, .int .i64 0, .int .i64 0, .slice none 0 0, .slice none 0 0]) (C' := [.bool false, .int .i64 0, .int .i64 0, .slice none 0 0, .slice none 0 0]) rfl Ty.ag62 rfl rfl rfl rfl (by simp) rfl) ?_
  rintro _ _ rfl
  refine WP.nil ?_
  refine Out.next ?_
  refine WPc.seq ?_
  refine WPc.region ?_
  refine WP.val rfl rfl rfl (Val.move rfl rfl) ?_
  refine WP.val rfl rfl rfl (Val.fieldAddr (j := 1) rfl Ty.fo60_1 rfl rfl) ?_
  refine WP.val rfl rfl rfl (Val.loadAgg (cs := [.string x.key, .string x.fin, .bool (x.one), .int .i64 (x.lo), .int .i64 (x.hi)]) rfl Ty.ag56 rfl rfl (fun w h => h.range 2 rfl rfl)) ?_
  refine WP.eff rfl rfl rfl (Eff.call rfl rfl Try.call94 (spanIn_does k x hkey hfin hk3)) ?_
  rintro _ _ ⟨_, ⟨eb, ee, rfl, hbt, het, hbk, hek, rfl⟩, rfl⟩
  show WP _ _ _ _ _ _ _ (Enp eb :: Enp ee :: Blk b3 [.bool false, .int .i64 0, .int .i64 0, .slice none 0 0, .slice none 0 0] 62 :: Blk b2 [.bool false, .int .i64 0, .int .i64 0, .slice none 0 0, .slice none 0 0] 62 :: Blk b1 [.int .i64 1, .string x.key, .string x.fin, .bool (x.one), .int .i64 (x.lo), .int .i64 (x.hi), .int .i64 (val), .int .i64 (lim), ov, wv] 60 :: Blk tb [.pointer (some ⟨root, 0, none⟩), .int .i64 (cnt), .pointer (some ⟨s, 0, none⟩)] 180 :: Ens EL :: Sto S D :: Blk s ZC 177 :: F)
  have hE2 : ∀ e ∈ eb :: ee :: EL, e.t = kt k := fun e he => by rcases List.mem_cons.1 he with rfl | he; exact hbt; rcases List.mem_cons.1 he with rfl | he; exact het; exact hE e he
  have ok2 : Ok s (eb :: ee :: EL) D S := Ok.mono ok (fun e he => List.mem_cons_of_mem _ (List.mem_cons_of_mem _ he))
  refine WP.perm pl6 ?_
  refine WP.perm pl2 ?_
  refine WP.perm pl2 ?_
  refine WP.conv (fun w h => ens_add h) ?_
  show WP _ _ _ _ _ _ _ (Ens (eb :: ee :: EL) :: Blk b3 [.bool false, .int .i64 0, .int .i64 0, .slice none 0 0, .slice none 0 0] 62 :: Blk b2 [.bool false, .int .i64 0, .int .i64 0, .slice none 0 0, .slice none 0 0] 62 :: Blk b1 [.int .i64 1, .string x.key, .string x.fin, .bool (x.one), .int .i64 (x.lo), .int .i64 (x.hi), .int .i64 (val), .int .i64 (lim), ov, wv] 60 :: Blk tb [.pointer (some ⟨root, 0, none⟩), .int .i64 (cnt), .pointer (some ⟨s, 0, none⟩)] 180 :: Sto S D :: Blk s ZC 177 :: F)
  refine WP.eff rfl rfl rfl (Eff.alloc rfl Ty.z172) ?_
  rintro _ _ ⟨b4, rfl, rfl⟩
  refine WP.eff0 rfl rfl (Eff.storeAgg (cs := [.iface eb.t (eb.u), .iface ee.t (ee.u)]) (C' := [.iface eb.t (eb.u), .iface ee.t (ee.u)]) rfl Ty.ag172 rfl rfl rfl rfl (by simp) rfl) ?_
  rintro _ _ rfl
  refine WP.nil ?_
  refine Out.next ?_
  refine WPc.seq ?_
  refine WPc.region ?_
  refine WP.val rfl rfl rfl (Val.mkFunc rfl rfl rfl) ?_
  refine WP.eff rfl rfl rfl (Eff.alloc rfl Ty.z184) ?_
  rintro _ _ ⟨b5, rfl, rfl⟩
  refine WP.eff0 rfl rfl (Eff.store rfl Ty.sc184 rfl rfl rfl (by simp) st0) ?_
  rintro _ _ rfl
  refine WP.nil ?_
  refine Out.next ?_
  refine WPc.seq ?_
  refine WPc.seq ?_
  refine WPc.region ?_
  refine WP.val rfl rfl rfl (Val.fieldAddr (j := 0) rfl Ty.fo60_0 rfl rfl) ?_
  refine WP.val rfl rfl rfl (Val.load rfl Ty.sc3 rfl (fun w h => h.cell 5 rfl rfl)) ?_
  refine WP.nil ?_
  refine Out.next ?_
  refine WPc.block ?_
  refine WPc.seq ?_
  refine WPc.region ?_
  refine WP.val rfl rfl rfl (Val.eqlK rfl rfl rfl rfl) ?_
  refine WP.val rfl rfl rfl (Val.assign rfl rfl) ?_
  refine WP.nil ?_
  refine Out.next ?_
  refine WPc.condT rfl rfl ?_
  refine WPc.region ?_
  refine WP.val rfl rfl rfl (Val.move rfl rfl) ?_
  refine WP.val rfl rfl rfl (Val.loadAgg (cs := [.iface eb.t (eb.u), .iface ee.t (ee.u)]) rfl Ty.ag172 rfl rfl (fun w h => h.range 1 rfl rfl)) ?_
  refine WP.val rfl rfl rfl (Val.fieldAddr (j := 6) rfl Ty.fo60_2 rfl rfl) ?_
  refine WP.val rfl rfl rfl (Val.load rfl Ty.sc3 rfl (fun w h => h.cell 5 rfl rfl)) ?_
  refine WP.val rfl rfl rfl (Val.iface rfl rfl Ty.ni3) ?_
  refine WP.perm pl8 ?_
  refine WP.perm pl8 ?_
  refine WP.perm pl4 ?_
  refine WP.perm pl8 ?_
  refine WP.eff rfl rfl rfl (Eff.invoke (f := 138) rfl rfl rfl (fun _ => by kernel_rfl) Try.call138 (insert_does (eb :: ee :: EL) (kt k) hE2 s D ZC tb root cnt hcnt S ok2 hroot n k0 eb ee List.mem_cons_self (List.mem_cons_of_mem _ List.mem_cons_self) (3, .int .i64 val) (fun z hz hzs => hio eb ee hbk hek z hz hzs))) ?_
  rintro _ _ ⟨_, ⟨z, hz, hzs, rfl⟩, rfl⟩
  show WP _ _ _ _ _ _ _ (Blk tb [.pointer (some ⟨(insF s n k0 S root eb ee (3, .int .i64 val) z).2, 0, none⟩), .int .i64 ((cnt + 1)), .pointer (some ⟨s, 0, none⟩)] 180 :: Ens (eb :: ee :: EL) :: Sto (setC (insF s n k0 S root eb ee (3, .int .i64 val) z).1 (insF s n k0 S root eb ee (3, .int .i64 val) z).2 0) (z :: D) :: Blk s ZC 177 :: Blk b5 [.func (.func 95) #[] #[.pointer (some ⟨b3, 0, none⟩)]] 184 :: Blk b4 [.iface eb.t (eb.u), .iface ee.t (ee.u)] 172 :: Blk b3 [.bool false, .int .i64 0, .int .i64 0, .slice none 0 0, .slice none 0 0] 62 :: Blk b2 [.bool false, .int .i64 0, .int .i64 0, .slice none 0 0, .slice none 0 0] 62 :: Blk b1 [.int .i64 1, .string x.key, .string x.fin, .bool (x.one), .int .i64 (x.lo), .int .i64 (x.hi), .int .i64 (val), .int .i64 (lim), ov, wv] 60 :: F)
  refine WP.nil ?_
  refine Out.block ?_
  refine Out.next ?_
  refine WPc.seq ?_
  refine WPc.region ?_
  refine WP.val rfl rfl rfl (Val.loadAgg (cs := [.bool false, .int .i64 0, .int .i64 0, .slice none 0 0, .slice none 0 0]) rfl Ty.ag62 rfl rfl (fun w h => h.range 6 rfl rfl)) ?_
  refine WP.perm pl7 ?_
  refine WP.eff0 rfl rfl (Eff.storeAgg (cs := [.bool false, .int .i64 0, .int .i64 0, .slice none 0 0, .slice none 0 0]) (C' := [.bool false, .int .i64 0, .int .i64 0, .slice none 0 0, .slice none 0 0]) rfl Ty.ag62 rfl rfl rfl rfl (by simp) rfl) ?_
  rintro _ _ rfl
  refine WP.nil ?_
  refine Out.next ?_
  refine WPc.ret ?_
  refine Out.perm pl5 ?_
  refine Out.drop ?_
  refine Out.perm pl5 ?_
  refine Out.drop ?_
  refine Out.perm pl5 ?_
  refine Out.drop ?_
  refine Out.perm pl5 ?_
  refine Out.drop ?_
  exact Out.retRun (L' := [Blk tb [.pointer (some ⟨(insF s n k0 S root eb ee (3, .int .i64 val) z).2, 0, none⟩), .int .i64 (cnt + 1), .pointer (some ⟨s, 0, none⟩)] 180, Ens (eb :: ee :: EL), Sto (setC (insF s n k0 S root eb ee (3, .int .i64 val) z).1 (insF s n k0 S root eb ee (3, .int .i64 val) z).2 0) (z :: D), Blk s ZC 177]) (results_cell (cs := [.bool false, .int .i64 0, .int .i64 0, .slice none 0 0, .slice none 0 0]) Try.results66 Ty.ag62 rfl rfl (fun w h => h.range 0 rfl rfl)) ⟨eb, ee, z, rfl, hbt, het, hbk, hek, hz, hzs, rfl⟩ (fun w h => h.drop)

end Go.Proofs.Ytbomnihiapjmpaa.Tx

namespace Go.Proofs.Ytbomnihiapjmpaa.TA
open Go.RowKit Go.Proofs.Ytbomnihiapjmpaa Go.Proofs.Ytbomnihiapjmpaa.Sl Go.Proofs.Ytbomnihiapjmpaa.TrP Go.Proofs.Ytbomnihiapjmpaa.Tb Go.Proofs.Ytbomnihiapjmpaa.Tc Go.Proofs.Ytbomnihiapjmpaa.Td Go.Proofs.Ytbomnihiapjmpaa.Te Go.Proofs.Ytbomnihiapjmpaa.Tf Go.Proofs.Ytbomnihiapjmpaa.Tg Go.Proofs.Ytbomnihiapjmpaa.Th Go.Proofs.Ytbomnihiapjmpaa.Ti Go.Proofs.Ytbomnihiapjmpaa.Tj Go.Proofs.Ytbomnihiapjmpaa.Tk Go.Proofs.Ytbomnihiapjmpaa.Tr Go.Proofs.Ytbomnihiapjmpaa.Ts Go.Proofs.Ytbomnihiapjmpaa.Tu Go.Proofs.Ytbomnihiapjmpaa.Tv Go.Proofs.Ytbomnihiapjmpaa.Tx
set_option linter.unusedVariables false
set_option linter.unusedSimpArgs false
set_option linter.unusedSectionVars false


set_option maxRecDepth 100000 in
set_option maxHeartbeats 2000000 in
theorem treed_isect (k : Int) (x : Sp) (hkey : x.key.size ≤ 2147483647) (hfin : x.fin.size ≤ 2147483647) (hk3 : k = 3 → x.one = false ∧ (-2305843009213693952 ≤ x.lo ∧ x.lo ≤ 2305843009213693952) ∧ (-2305843009213693952 ≤ x.hi ∧ x.hi ≤ 2305843009213693952)) (val lim : Int) (ov wv : Value) (hov : ov.oneCell' = true) (hwv : wv.oneCell' = true) (EL : List En) (hE : ∀ e ∈ EL, e.t = kt k) (s : Nat) (D : List Nat) (ZC : List Value) (tb root : Nat) (cnt : Int) (S : St) (ok : Ok s EL D S) (hroot : Is s D root) (T0 : T) (hT : RM s S T0 root s) : Does Try.prog 66 [.iface 178 (.pointer (some ⟨tb, 0, none⟩)), .int .i64 (k), .agg #[.int .i64 6, .string x.key, .string x.fin, .bool (x.one), .int .i64 (x.lo), .int .i64 (x.hi), .int .i64 (val), .int .i64 (lim), ov, wv]] [Blk tb [.pointer (some ⟨root, 0, none⟩), .int .i64 (cnt), .pointer (some ⟨s, 0, none⟩)] 180, Ens EL, Sto S D, Blk s ZC 177] (fun v L => ∃ eb ee, v = .agg #[.bool (isect (kB k x) (kE k x) T0), .int .i64 0, .int .i64 0, .slice none 0 0, .slice none 0 0] ∧ eb.t = kt k ∧ ee.t = kt k ∧ L = [Blk tb [.pointer (some ⟨root, 0, none⟩), .int .i64 cnt, .pointer (some ⟨s, 0, none⟩)] 180, Ens (eb :: ee :: EL), Sto S D, Blk s ZC 177]) := by
  refine Does.enter 133 Try.func66 rfl rfl rfl fun W F => ?_
  show WPc _ _ _ _ _ [(0, .iface 178 (.pointer (some ⟨tb, 0, none⟩))), (1, .int .i64 (k)), (2, .agg #[.int .i64 6, .string x.key, .string x.fin, .bool (x.one), .int .i64 (x.lo), .int .i64 (x.hi), .int .i64 (val), .int .i64 (lim), ov, wv])] (Blk tb [.pointer (some ⟨root, 0, none⟩), .int .i64 (cnt), .pointer (some ⟨s, 0, none⟩)] 180 :: Ens EL :: Sto S D :: Blk s ZC 177 :: F)
  refine WPc.seq ?_
  refine WPc.region ?_
  refine WP.eff rfl rfl rfl (Eff.box (C := [.int .i64 6, .string x.key, .string x.fin, .bool (x.one), .int .i64 (x.lo), .int .i64 (x.hi), .int .i64 (val), .int .i64 (lim), ov, wv]) rfl rfl rfl) ?_
  rintro _ _ ⟨b1, rfl, rfl⟩
  refine WP.eff rfl rfl rfl (Eff.alloc rfl Ty.z62) ?_
  rintro _ _ ⟨b2, rfl, rfl⟩
  refine WP.nil ?_
  refine Out.next ?_
  refine WPc.seq ?_
  refine WPc.region ?_
  refine WP.val rfl rfl rfl (Val.mk (cs := [.bool false, .int .i64 0, .int .i64 0, .slice none 0 0, .slice none 0 0]) rfl rfl (fun _ => by kernel_rfl)) ?_
  refine WP.eff rfl rfl rfl (Eff.alloc rfl Ty.z62) ?_
  rintro _ _ ⟨b3, rfl, rfl⟩
  refine WP.eff0 rfl rfl (Eff.storeAgg (cs := [.bool false, .int .i64 0, .int .i64 0, .slice none 0 0, .slice none 0 0]) (C' := [.bool false, .int .i64 0, .int .i64 0, .slice none 0 0, .slice none 0 0]) rfl Ty.ag62 rfl rfl rfl rfl (by simp) rfl) ?_
  rintro _ _ rfl
  refine WP.nil ?_
  refine Out.next ?_
  refine WPc.seq ?_
  refine WPc.region ?_
  refine WP.val rfl rfl rfl (Val.move rfl rfl) ?_
  refine WP.val rfl rfl rfl (Val.fieldAddr (j := 1) rfl Ty.fo60_1 rfl rfl) ?_
  refine WP.val rfl rfl rfl (Val.loadAgg (cs := [.string x.key, .string x.fin, .bool (x.one), .int .i64 (x.lo), .int .i64 (x.hi)]) rfl Ty.ag56 rfl rfl (fun w h => h.range 2 rfl rfl)) ?_
  refine WP.eff rfl rfl rfl (Eff.call rfl rfl Try.call94 (spanIn_does k x hkey hfin hk3)) ?_
  rintro _ _ ⟨_, ⟨eb, ee, rfl, hbt, het, hbk, hek, rfl⟩, rfl⟩
  show WP _ _ _ _ _ _ _ (Enp eb :: Enp ee :: Blk b3 [.bool false, .int .i64 0, .int .i64 0, .slice none 0 0, .slice none 0 0] 62 :: Blk b2 [.bool false, .int .i64 0, .int .i64 0, .slice none 0 0, .slice none 0 0] 62 :: Blk b1 [.int .i64 6, .string x.key, .string x.fin, .bool (x.one), .int .i64 (x.lo), .int .i64 (x.hi), .int .i64 (val), .int .i64 (lim), ov, wv] 60 :: Blk tb [.pointer (some ⟨root, 0, none⟩), .int .i64 (cnt), .pointer (some ⟨s, 0, none⟩)] 180 :: Ens EL :: Sto S D :: Blk s ZC 177 :: F)
  have hE2 : ∀ e ∈ eb :: ee :: EL, e.t = kt k := fun e he => by rcases List.mem_cons.1 he with rfl | he; exact hbt; rcases List.mem_cons.1 he with rfl | he; exact het; exact hE e he
  have ok2 : Ok s (eb :: ee :: EL) D S := Ok.mono ok (fun e he => List.mem_cons_of_mem _ (List.mem_cons_of_mem _ he))
  refine WP.perm pl6 ?_
  refine WP.perm pl2 ?_
  refine WP.perm pl2 ?_
  refine WP.conv (fun w h => ens_add h) ?_
  show WP _ _ _ _ _ _ _ (Ens (eb :: ee :: EL) :: Blk b3 [.bool false, .int .i64 0, .int .i64 0, .slice none 0 0, .slice none 0 0] 62 :: Blk b2 [.bool false, .int .i64 0, .int .i64 0, .slice none 0 0, .slice none 0 0] 62 :: Blk b1 [.int .i64 6, .string x.key, .string x.fin, .bool (x.one), .int .i64 (x.lo), .int .i64 (x.hi), .int .i64 (val), .int .i64 (lim), ov, wv] 60 :: Blk tb [.pointer (some ⟨root, 0, none⟩), .int .i64 (cnt), .pointer (some ⟨s, 0, none⟩)] 180 :: Sto S D :: Blk s ZC 177 :: F)
  refine WP.eff rfl rfl rfl (Eff.alloc rfl Ty.z172) ?_
  rintro _ _ ⟨b4, rfl, rfl⟩
  refine WP.eff0 rfl rfl (Eff.storeAgg (cs := [.iface eb.t (eb.u), .iface ee.t (ee.u)]) (C' := [.iface eb.t (eb.u), .iface ee.t (ee.u)]) rfl Ty.ag172 rfl rfl rfl rfl (by simp) rfl) ?_
  rintro _ _ rfl
  refine WP.nil ?_
  refine Out.next ?_
  refine WPc.seq ?_
  refine WPc.region ?_
  refine WP.val rfl rfl rfl (Val.mkFunc rfl rfl rfl) ?_
  refine WP.eff rfl rfl rfl (Eff.alloc rfl Ty.z184) ?_
  rintro _ _ ⟨b5, rfl, rfl⟩
  refine WP.eff0 rfl rfl (Eff.store rfl Ty.sc184 rfl rfl rfl (by simp) st0) ?_
  rintro _ _ rfl
  refine WP.nil ?_
  refine Out.next ?_
  refine WPc.seq ?_
  refine WPc.seq ?_
  refine WPc.region ?_
  refine WP.val rfl rfl rfl (Val.fieldAddr (j := 0) rfl Ty.fo60_0 rfl rfl) ?_
  refine WP.val rfl rfl rfl (Val.load rfl Ty.sc3 rfl (fun w h => h.cell 5 rfl rfl)) ?_
  refine WP.nil ?_
  refine Out.next ?_
  refine WPc.block ?_
  refine WPc.seq ?_
  refine WPc.region ?_
  refine WP.val rfl rfl rfl (Val.eqlK rfl rfl rfl rfl) ?_
  refine WP.val rfl rfl rfl (Val.assign rfl rfl) ?_
  refine WP.nil ?_
  refine Out.next ?_
  refine WPc.condF rfl rfl ?_
  refine WPc.seq ?_
  refine WPc.region ?_
  refine WP.val rfl rfl rfl (Val.eqlK rfl rfl rfl rfl) ?_
  refine WP.val rfl rfl rfl (Val.assign rfl rfl) ?_
  refine WP.nil ?_
  refine Out.next ?_
  refine WPc.condF rfl rfl ?_
  refine WPc.seq ?_
  refine WPc.region ?_
  refine WP.val rfl rfl rfl (Val.eqlK rfl rfl rfl rfl) ?_
  refine WP.val rfl rfl rfl (Val.assign rfl rfl) ?_
  refine WP.nil ?_
  refine Out.next ?_
  refine WPc.condF rfl rfl ?_
  refine WPc.seq ?_
  refine WPc.region ?_
  refine WP.val rfl rfl rfl (Val.eqlK rfl rfl rfl rfl) ?_
  refine WP.val rfl rfl rfl (Val.assign rfl rfl) ?_
  refine WP.nil ?_
  refine Out.next ?_
  refine WPc.condF rfl rfl ?_
  refine WPc.seq ?_
  refine WPc.region ?_
  refine WP.val rfl rfl rfl (Val.eqlK rfl rfl rfl rfl) ?_
  refine WP.val rfl rfl rfl (Val.assign rfl rfl) ?_
  refine WP.nil ?_
  refine Out.next ?_
  refine WPc.condF rfl rfl ?_
  refine WPc.seq ?_
  refine WPc.region ?_
  refine WP.val rfl rfl rfl (Val.eqlK rfl rfl rfl rfl) ?_
  refine WP.val rfl rfl rfl (Val.assign rfl rfl) ?_
  refine WP.nil ?_
  refine Out.next ?_
  refine WPc.condT rfl rfl ?_
  refine WPc.region ?_
  refine WP.val rfl rfl rfl (Val.move rfl rfl) ?_
  refine WP.val rfl rfl rfl (Val.loadAgg (cs := [.iface eb.t (eb.u), .iface ee.t (ee.u)]) rfl Ty.ag172 rfl rfl (fun w h => h.range 1 rfl rfl)) ?_
  refine WP.perm pl8 ?_
  refine WP.perm pl8 ?_
  refine WP.perm pl4 ?_
  refine WP.perm pl8 ?_
  refine WP.eff rfl rfl rfl (Eff.invoke (f := 139) rfl rfl rfl (fun _ => by kernel_rfl) Try.call139 (isect_does (eb :: ee :: EL) (kt k) hE2 s D ZC tb root cnt S ok2 hroot T0 hT eb ee List.mem_cons_self (List.mem_cons_of_mem _ List.mem_cons_self))) ?_
  rintro _ _ ⟨_, ⟨rfl, rfl⟩, rfl⟩
  show WP _ _ _ _ _ _ _ (Blk tb [.pointer (some ⟨root, 0, none⟩), .int .i64 (cnt), .pointer (some ⟨s, 0, none⟩)] 180 :: Ens (eb :: ee :: EL) :: Sto S D :: Blk s ZC 177 :: Blk b5 [.func (.func 95) #[] #[.pointer (some ⟨b3, 0, none⟩)]] 184 :: Blk b4 [.iface eb.t (eb.u), .iface ee.t (ee.u)] 172 :: Blk b3 [.bool false, .int .i64 0, .int .i64 0, .slice none 0 0, .slice none 0 0] 62 :: Blk b2 [.bool false, .int .i64 0, .int .i64 0, .slice none 0 0, .slice none 0 0] 62 :: Blk b1 [.int .i64 6, .string x.key, .string x.fin, .bool (x.one), .int .i64 (x.lo), .int .i64 (x.hi), .int .i64 (val), .int .i64 (lim), ov, wv] 60 :: F)
  refine WP.val rfl rfl rfl (Val.fieldAddr (j := 0) rfl Ty.fo62_0 rfl rfl) ?_
  refine WP.perm pl6 ?_
  refine WP.eff0 rfl rfl (Eff.store rfl Ty.sc4 rfl rfl rfl (by simp) st0) ?_
  rintro _ _ rfl
  refine WP.nil ?_
  refine Out.block ?_
  refine Out.next ?_
  refine WPc.seq ?_
  refine WPc.region ?_
  refine WP.val rfl rfl rfl (Val.loadAgg (cs := [.bool (isect eb.k ee.k T0), .int .i64 0, .int .i64 0, .slice none 0 0, .slice none 0 0]) rfl Ty.ag62 rfl rfl (fun w h => h.range 0 rfl rfl)) ?_
  refine WP.perm pl7 ?_
  refine WP.eff0 rfl rfl (Eff.storeAgg (cs := [.bool (isect eb.k ee.k T0), .int .i64 0, .int .i64 0, .slice none 0 0, .slice none 0 0]) (C' := [.bool (isect eb.k ee.k T0), .int .i64 0, .int .i64 0, .slice none 0 0, .slice none 0 0]) rfl Ty.ag62 rfl rfl rfl rfl (by simp) rfl) ?_
  rintro _ _ rfl
  refine WP.nil ?_
  refine Out.next ?_
  refine WPc.ret ?_
  refine Out.perm pl1 ?_
  refine Out.drop ?_
  refine Out.perm pl5 ?_
  refine Out.drop ?_
  refine Out.perm pl5 ?_
  refine Out.drop ?_
  refine Out.perm pl5 ?_
  refine Out.drop ?_
  exact Out.retRun (L' := [Blk tb [.pointer (some ⟨root, 0, none⟩), .int .i64 cnt, .pointer (some ⟨s, 0, none⟩)] 180, Ens (eb :: ee :: EL), Sto S D, Blk s ZC 177]) (results_cell (cs := [.bool (isect eb.k ee.k T0), .int .i64 0, .int .i64 0, .slice none 0 0, .slice none 0 0]) Try.results66 Ty.ag62 rfl rfl (fun w h => h.range 0 rfl rfl)) ⟨eb, ee, by rw [hbk, hek], hbt, het, rfl⟩ (fun w h => h.drop)

end Go.Proofs.Ytbomnihiapjmpaa.TA

namespace Go.Proofs.Ytbomnihiapjmpaa.TB
open Go.RowKit Go.Proofs.Ytbomnihiapjmpaa Go.Proofs.Ytbomnihiapjmpaa.Sl Go.Proofs.Ytbomnihiapjmpaa.TrP Go.Proofs.Ytbomnihiapjmpaa.Tb Go.Proofs.Ytbomnihiapjmpaa.Tc Go.Proofs.Ytbomnihiapjmpaa.Td Go.Proofs.Ytbomnihiapjmpaa.Te Go.Proofs.Ytbomnihiapjmpaa.Tf Go.Proofs.Ytbomnihiapjmpaa.Tg Go.Proofs.Ytbomnihiapjmpaa.Th Go.Proofs.Ytbomnihiapjmpaa.Ti Go.Proofs.Ytbomnihiapjmpaa.Tj Go.Proofs.Ytbomnihiapjmpaa.Tk Go.Proofs.Ytbomnihiapjmpaa.Tr Go.Proofs.Ytbomnihiapjmpaa.Ts Go.Proofs.Ytbomnihiapjmpaa.Tt Go.Proofs.Ytbomnihiapjmpaa.Tu Go.Proofs.Ytbomnihiapjmpaa.Tv Go.Proofs.Ytbomnihiapjmpaa.Tw Go.Proofs.Ytbomnihiapjmpaa.Tx
set_option linter.unusedVariables false
set_option linter.unusedSimpArgs false
set_option linter.unusedSectionVars false


set_option maxRecDepth 100000 in
set_option maxHeartbeats 2000000 in
theorem treed_find (k : Int) (x : Sp) (hkey : x.key.size ≤ 2147483647) (hfin : x.fin.size ≤ 2147483647) (hk3 : k = 3 → x.one = false ∧ (-2305843009213693952 ≤ x.lo ∧ x.lo ≤ 2305843009213693952) ∧ (-2305843009213693952 ≤ x.hi ∧ x.hi ≤ 2305843009213693952)) (val lim : Int) (ov wv : Value) (hov : ov.oneCell' = true) (hwv : wv.oneCell' = true) (EL : List En) (hE : ∀ e ∈ EL, e.t = kt k) (s : Nat) (D : List Nat) (ZC : List Value) (tb root : Nat) (cnt : Int) (S : St) (ok : Ok s EL D S) (hroot : Is s D root) (T0 : T) (hT : RM s S T0 root s) (i : Nat) (hf : fnd (kB k x) (kE k x) T0 = some i) (his : i ≠ s) (hi : i ∈ D) (n : Int) (hval : (S i).it.v = .iface 3 (.int .i64 n)) : Does Try.prog 66 [.iface 178 (.pointer (some ⟨tb, 0, none⟩)), .int .i64 (k), .agg #[.int .i64 3, .string x.key, .string x.fin, .bool (x.one), .int .i64 (x.lo), .int .i64 (x.hi), .int .i64 (val), .int .i64 (lim), ov, wv]] [Blk tb [.pointer (some ⟨root, 0, none⟩), .int .i64 (cnt), .pointer (some ⟨s, 0, none⟩)] 180, Ens EL, Sto S D, Blk s ZC 177] (fun v L => ∃ eb ee l2 v2, v = .agg #[.bool true, .int .i64 0, .int .i64 0, l2, v2] ∧ eb.t = kt k ∧ ee.t = kt k ∧ L = [Blk tb [.pointer (some ⟨root, 0, none⟩), .int .i64 cnt, .pointer (some ⟨s, 0, none⟩)] 180, Ens (eb :: ee :: EL), Sto S D, Blk s ZC 177, Own 56 5 l2 1 (spo (S i).it.b (S i).it.e), Own 3 1 v2 1 [.int .i64 n]]) := by
  refine Does.enter 133 Try.func66 rfl rfl rfl fun W F => ?_
  show WPc _ _ _ _ _ [(0, .iface 178 (.pointer (some ⟨tb, 0, none⟩))), (1, .int .i64 (k)), (2, .agg #[.int .i64 3, .string x.key, .string x.fin, .bool (x.one), .int .i64 (x.lo), .int .i64 (x.hi), .int .i64 (val), .int .i64 (lim), ov, wv])] (Blk tb [.pointer (some ⟨root, 0, none⟩), .int .i64 (cnt), .pointer (some ⟨s, 0, none⟩)] 180 :: Ens EL :: Sto S D :: Blk s ZC 177 :: F)
  refine WPc.seq ?_
  refine WPc.region ?_
  refine WP.eff rfl rfl rfl (Eff.box (C := [.int .i64 3, .string x.key, .string x.fin, .bool (x.one), .int .i64 (x.lo), .int .i64 (x.hi), .int .i64 (val), .int .i64 (lim), ov, wv]) rfl rfl rfl) ?_
  rintro _ _ ⟨b1, rfl, rfl⟩
  refine WP.eff rfl rfl rfl (Eff.alloc rfl Ty.z62) ?_
  rintro _ _ ⟨b2, rfl, rfl⟩
  refine WP.nil ?_
  refine Out.next ?_
  refine WPc.seq ?_
  refine WPc.region ?_
  refine WP.val rfl rfl rfl (Val.mk (cs := [.bool false, .int .i64 0, .int .i64 0, .slice none 0 0, .slice none 0 0]) rfl rfl (fun _ => by kernel_rfl)) ?_
  refine WP.eff rfl rfl rfl (Eff.alloc rfl Ty.z62) ?_
  rintro _ _ ⟨b3, rfl, rfl⟩
  refine WP.eff0 rfl rfl (Eff.storeAgg (cs := [.bool false, .int .i64 0, .int .i64 0, .slice none 0 0, .slice none 0 0]) (C' := [.bool false, .int .i64 0, .int .i64 0, .slice none 0 0, .slice none 0 0]) rfl Ty.ag62 rfl rfl rfl rfl (by simp) rfl) ?_
  rintro _ _ rfl
  refine WP.nil ?_
  refine Out.next ?_
  refine WPc.seq ?_
  refine WPc.region ?_
  refine WP.val rfl rfl rfl (Val.move rfl rfl) ?_
  refine WP.val rfl rfl rfl (Val.fieldAddr (j := 1) rfl Ty.fo60_1 rfl rfl) ?_
  refine WP.val rfl rfl rfl (Val.loadAgg (cs := [.string x.key, .string x.fin, .bool (x.one), .int .i64 (x.lo), .int .i64 (x.hi)]) rfl Ty.ag56 rfl rfl (fun w h => h.range 2 rfl rfl)) ?_
  refine WP.eff rfl rfl rfl (Eff.call rfl rfl Try.call94 (spanIn_does k x hkey hfin hk3)) ?_
  rintro _ _ ⟨_, ⟨eb, ee, rfl, hbt, het, hbk, hek, rfl⟩, rfl⟩
  show WP _ _ _ _ _ _ _ (Enp eb :: Enp ee :: Blk b3 [.bool false, .int .i64 0, .int .i64 0, .slice none 0 0, .slice none 0 0] 62 :: Blk b2 [.bool false, .int .i64 0, .int .i64 0, .slice none 0 0, .slice none 0 0] 62 :: Blk b1 [.int .i64 3, .string x.key, .string x.fin, .bool (x.one), .int .i64 (x.lo), .int .i64 (x.hi), .int .i64 (val), .int .i64 (lim), ov, wv] 60 :: Blk tb [.pointer (some ⟨root, 0, none⟩), .int .i64 (cnt), .pointer (some ⟨s, 0, none⟩)] 180 :: Ens EL :: Sto S D :: Blk s ZC 177 :: F)
  have hE2 : ∀ e ∈ eb :: ee :: EL, e.t = kt k := fun e he => by rcases List.mem_cons.1 he with rfl | he; exact hbt; rcases List.mem_cons.1 he with rfl | he; exact het; exact hE e he
  have ok2 : Ok s (eb :: ee :: EL) D S := Ok.mono ok (fun e he => List.mem_cons_of_mem _ (List.mem_cons_of_mem _ he))
  refine WP.perm pl6 ?_
  refine WP.perm pl2 ?_
  refine WP.perm pl2 ?_
  refine WP.conv (fun w h => ens_add h) ?_
  show WP _ _ _ _ _ _ _ (Ens (eb :: ee :: EL) :: Blk b3 [.bool false, .int .i64 0, .int .i64 0, .slice none 0 0, .slice none 0 0] 62 :: Blk b2 [.bool false, .int .i64 0, .int .i64 0, .slice none 0 0, .slice none 0 0] 62 :: Blk b1 [.int .i64 3, .string x.key, .string x.fin, .bool (x.one), .int .i64 (x.lo), .int .i64 (x.hi), .int .i64 (val), .int .i64 (lim), ov, wv] 60 :: Blk tb [.pointer (some ⟨root, 0, none⟩), .int .i64 (cnt), .pointer (some ⟨s, 0, none⟩)] 180 :: Sto S D :: Blk s ZC 177 :: F)
  refine WP.eff rfl rfl rfl (Eff.alloc rfl Ty.z172) ?_
  rintro _ _ ⟨b4, rfl, rfl⟩
  refine WP.eff0 rfl rfl (Eff.storeAgg (cs := [.iface eb.t (eb.u), .iface ee.t (ee.u)]) (C' := [.iface eb.t (eb.u), .iface ee.t (ee.u)]) rfl Ty.ag172 rfl rfl rfl rfl (by simp) rfl) ?_
  rintro _ _ rfl
  refine WP.nil ?_
  refine Out.next ?_
  refine WPc.seq ?_
  refine WPc.region ?_
  refine WP.val rfl rfl rfl (Val.mkFunc rfl rfl rfl) ?_
  refine WP.eff rfl rfl rfl (Eff.alloc rfl Ty.z184) ?_
  rintro _ _ ⟨b5, rfl, rfl⟩
  refine WP.eff0 rfl rfl (Eff.store rfl Ty.sc184 rfl rfl rfl (by simp) st0) ?_
  rintro _ _ rfl
  refine WP.nil ?_
  refine Out.next ?_
  refine WPc.seq ?_
  refine WPc.seq ?_
  refine WPc.region ?_
  refine WP.val rfl rfl rfl (Val.fieldAddr (j := 0) rfl Ty.fo60_0 rfl rfl) ?_
  refine WP.val rfl rfl rfl (Val.load rfl Ty.sc3 rfl (fun w h => h.cell 5 rfl rfl)) ?_
  refine WP.nil ?_
  refine Out.next ?_
  refine WPc.block ?_
  refine WPc.seq ?_
  refine WPc.region ?_
  refine WP.val rfl rfl rfl (Val.eqlK rfl rfl rfl rfl) ?_
  refine WP.val rfl rfl rfl (Val.assign rfl rfl) ?_
  refine WP.nil ?_
  refine Out.next ?_
  refine WPc.condF rfl rfl ?_
  refine WPc.seq ?_
  refine WPc.region ?_
  refine WP.val rfl rfl rfl (Val.eqlK rfl rfl rfl rfl) ?_
  refine WP.val rfl rfl rfl (Val.assign rfl rfl) ?_
  refine WP.nil ?_
  refine Out.next ?_
  refine WPc.condF rfl rfl ?_
  refine WPc.seq ?_
  refine WPc.region ?_
  refine WP.val rfl rfl rfl (Val.eqlK rfl rfl rfl rfl) ?_
  refine WP.val rfl rfl rfl (Val.assign rfl rfl) ?_
  refine WP.nil ?_
  refine Out.next ?_
  refine WPc.condT rfl rfl ?_
  refine WPc.seq ?_
  refine WPc.region ?_
  refine WP.val rfl rfl rfl (Val.move rfl rfl) ?_
  refine WP.val rfl rfl rfl (Val.loadAgg (cs := [.iface eb.t (eb.u), .iface ee.t (ee.u)]) rfl Ty.ag172 rfl rfl (fun w h => h.range 1 rfl rfl)) ?_
  refine WP.perm pl8 ?_
  refine WP.perm pl8 ?_
  refine WP.perm pl4 ?_
  refine WP.perm pl8 ?_
  refine WP.eff rfl rfl rfl (Eff.invoke (f := 136) rfl rfl rfl (fun _ => by kernel_rfl) Try.call136 (Find_some (eb :: ee :: EL) (kt k) hE2 s D ZC tb root cnt S ok2 hroot T0 hT eb ee List.mem_cons_self (List.mem_cons_of_mem _ List.mem_cons_self) i (by rw [hbk, hek]; exact hf) his hi)) ?_
  rintro _ _ ⟨_, ⟨rfl, rfl⟩, rfl⟩
  show WP _ _ _ _ _ _ _ (Blk tb [.pointer (some ⟨root, 0, none⟩), .int .i64 (cnt), .pointer (some ⟨s, 0, none⟩)] 180 :: Ens (eb :: ee :: EL) :: Sto S D :: Blk s ZC 177 :: Blk b5 [.func (.func 95) #[] #[.pointer (some ⟨b3, 0, none⟩)]] 184 :: Blk b4 [.iface eb.t (eb.u), .iface ee.t (ee.u)] 172 :: Blk b3 [.bool false, .int .i64 0, .int .i64 0, .slice none 0 0, .slice none 0 0] 62 :: Blk b2 [.bool false, .int .i64 0, .int .i64 0, .slice none 0 0, .slice none 0 0] 62 :: Blk b1 [.int .i64 3, .string x.key, .string x.fin, .bool (x.one), .int .i64 (x.lo), .int .i64 (x.hi), .int .i64 (val), .int .i64 (lim), ov, wv] 60 :: F)
  refine WP.val rfl rfl rfl (Val.assign rfl rfl) ?_
  refine WP.nil ?_
  refine Out.next ?_
  refine WPc.seq ?_
  refine WPc.region ?_
  refine WP.val rfl rfl rfl (Val.move rfl rfl) ?_
  refine WP.val rfl rfl rfl (Val.nilPn rfl Ty.ip182 rfl rfl) ?_
  refine WP.nil ?_
  refine Out.next ?_
  refine WPc.condT rfl rfl ?_
  refine WPc.seq ?_
  refine WPc.region ?_
  refine WP.val rfl rfl rfl (Val.fieldAddr (j := 0) rfl Ty.fo62_0 rfl rfl) ?_
  refine WP.perm pl6 ?_
  refine WP.eff0 rfl rfl (Eff.store rfl Ty.sc4 rfl rfl rfl (by simp) st0) ?_
  rintro _ _ rfl
  refine WP.nil ?_
  refine Out.next ?_
  refine WPc.region ?_
  refine WP.val rfl rfl rfl (Val.load rfl Ty.sc184 rfl (fun w h => h.cell 5 rfl rfl)) ?_
  refine WP.val rfl rfl rfl (Val.move rfl rfl) ?_
  refine WP.conv (fun w h => (Sat.ownNil (e := 56) (k := 5) (Sat.ownNil (e := 3) (k := 1) h))) ?_
  show WP _ _ _ _ _ _ _ (Own 56 5 (.slice none 0 0) 0 (([] : List Value)) :: Own 3 1 (.slice none 0 0) 0 (([] : List Value)) :: Blk b3 [.bool true, .int .i64 0, .int .i64 0, .slice none 0 0, .slice none 0 0] 62 :: Blk tb [.pointer (some ⟨root, 0, none⟩), .int .i64 (cnt), .pointer (some ⟨s, 0, none⟩)] 180 :: Ens (eb :: ee :: EL) :: Sto S D :: Blk s ZC 177 :: Blk b5 [.func (.func 95) #[] #[.pointer (some ⟨b3, 0, none⟩)]] 184 :: Blk b4 [.iface eb.t (eb.u), .iface ee.t (ee.u)] 172 :: Blk b2 [.bool false, .int .i64 0, .int .i64 0, .slice none 0 0, .slice none 0 0] 62 :: Blk b1 [.int .i64 3, .string x.key, .string x.fin, .bool (x.one), .int .i64 (x.lo), .int .i64 (x.hi), .int .i64 (val), .int .i64 (lim), ov, wv] 60 :: F)
  refine WP.perm pl5 ?_
  refine WP.perm pl5 ?_
  refine WP.perm pl3 ?_
  refine WP.perm pl3 ?_
  refine WP.perm pl4 ?_
  refine WP.eff rfl rfl rfl (Eff.callF (args' := [.pointer (some ⟨i, 0, none⟩), .pointer (some ⟨b3, 0, none⟩)]) rfl rfl rfl rfl Try.call95 (rec_does (eb :: ee :: EL) (kt k) hE2 s D S ok2 i hi n hval b3 true 0 0 (.slice none 0 0) (.slice none 0 0) 0 (by omega) [] [])) ?_
  rintro _ _ ⟨_, ⟨l2, v2, rfl⟩, rfl⟩
  show WP _ _ _ _ _ _ _ (Blk b3 [.bool true, .int .i64 0, .int .i64 0, l2, v2] 62 :: Own 56 5 l2 ((0 + 1)) (([] : List Value) ++ spo (S i).it.b (S i).it.e) :: Own 3 1 v2 ((0 + 1)) (([] : List Value) ++ [.int .i64 n]) :: Ens (eb :: ee :: EL) :: Sto S D :: Blk tb [.pointer (some ⟨root, 0, none⟩), .int .i64 (cnt), .pointer (some ⟨s, 0, none⟩)] 180 :: Blk s ZC 177 :: Blk b5 [.func (.func 95) #[] #[.pointer (some ⟨b3, 0, none⟩)]] 184 :: Blk b4 [.iface eb.t (eb.u), .iface ee.t (ee.u)] 172 :: Blk b2 [.bool false, .int .i64 0, .int .i64 0, .slice none 0 0, .slice none 0 0] 62 :: Blk b1 [.int .i64 3, .string x.key, .string x.fin, .bool (x.one), .int .i64 (x.lo), .int .i64 (x.hi), .int .i64 (val), .int .i64 (lim), ov, wv] 60 :: F)
  refine WP.perm pl1 ?_
  refine WP.fact (fun w h => own_slice h) (fun hso1 => ?_)
  have hl2 : l2.oneCell' = true := by obtain ⟨_, _, rfl⟩ := hso1; rfl
  refine WP.perm pl2 ?_
  refine WP.fact (fun w h => own_slice h) (fun hso2 => ?_)
  have hv2 : v2.oneCell' = true := by obtain ⟨_, _, rfl⟩ := hso2; rfl
  refine WP.nil ?_
  refine Out.block ?_
  refine Out.next ?_
  refine WPc.seq ?_
  refine WPc.region ?_
  refine WP.val rfl rfl rfl (Val.loadAgg (cs := [.bool true, .int .i64 0, .int .i64 0, l2, v2]) rfl Ty.ag62 rfl rfl (fun w h => h.range 2 rfl rfl)) ?_
  refine WP.perm pl9 ?_
  refine WP.eff0 rfl rfl (Eff.storeAgg (cs := [.bool true, .int .i64 0, .int .i64 0, l2, v2]) (C' := [.bool true, .int .i64 0, .int .i64 0, l2, v2]) rfl Ty.ag62 rfl rfl rfl (by simp only [List.all_cons, List.all_nil, Bool.and_true, oc_int, oc_str, oc_bool, oc_ptr, oc_slice, oc_iface, oc_map, hl2, hv2]) (by simp) rfl) ?_
  rintro _ _ rfl
  refine WP.nil ?_
  refine Out.next ?_
  refine WPc.ret ?_
  refine Out.perm pl3 ?_
  refine Out.drop ?_
  refine Out.perm pl7 ?_
  refine Out.drop ?_
  refine Out.perm pl7 ?_
  refine Out.drop ?_
  refine Out.perm pl7 ?_
  refine Out.drop ?_
  refine Out.perm pl1 ?_
  refine Out.perm pl2 ?_
  refine Out.perm pl6 ?_
  refine Out.perm pl5 ?_
  refine Out.perm pl5 ?_
  refine Out.perm pl6 ?_
  refine Out.perm pl6 ?_
  exact Out.retRun (L' := [Blk tb [.pointer (some ⟨root, 0, none⟩), .int .i64 cnt, .pointer (some ⟨s, 0, none⟩)] 180, Ens (eb :: ee :: EL), Sto S D, Blk s ZC 177, Own 56 5 l2 1 (spo (S i).it.b (S i).it.e), Own 3 1 v2 1 [.int .i64 n]]) (results_cell (cs := [.bool true, .int .i64 0, .int .i64 0, l2, v2]) Try.results66 Ty.ag62 rfl rfl (fun w h => h.range 0 rfl rfl)) ⟨eb, ee, l2, v2, rfl, hbt, het, rfl⟩ (fun w h => h.drop)
set_option maxRecDepth 100000 in
set_option maxHeartbeats 2000000 in
theorem treed_find0 (k : Int) (x : Sp) (hkey : x.key.size ≤ 2147483647) (hfin : x.fin.size ≤ 2147483647) (hk3 : k = 3 → x.one = false ∧ (-2305843009213693952 ≤ x.lo ∧ x.lo ≤ 2305843009213693952) ∧ (-2305843009213693952 ≤ x.hi ∧ x.hi ≤ 2305843009213693952)) (val lim : Int) (ov wv : Value) (hov : ov.oneCell' = true) (hwv : wv.oneCell' = true) (EL : List En) (hE : ∀ e ∈ EL, e.t = kt k) (s : Nat) (D : List Nat) (ZC : List Value) (tb root : Nat) (cnt : Int) (S : St) (ok : Ok s EL D S) (hroot : Is s D root) (T0 : T) (hT : RM s S T0 root s) (hf : fnd (kB k x) (kE k x) T0 = none) : Does Try.prog 66 [.iface 178 (.pointer (some ⟨tb, 0, none⟩)), .int .i64 (k), .agg #[.int .i64 3, .string x.key, .string x.fin, .bool (x.one), .int .i64 (x.lo), .int .i64 (x.hi), .int .i64 (val), .int .i64 (lim), ov, wv]] [Blk tb [.pointer (some ⟨root, 0, none⟩), .int .i64 (cnt), .pointer (some ⟨s, 0, none⟩)] 180, Ens EL, Sto S D, Blk s ZC 177] (fun v L => ∃ eb ee, v = .agg #[.bool false, .int .i64 0, .int .i64 0, .slice none 0 0, .slice none 0 0] ∧ eb.t = kt k ∧ ee.t = kt k ∧ L = [Blk tb [.pointer (some ⟨root, 0, none⟩), .int .i64 cnt, .pointer (some ⟨s, 0, none⟩)] 180, Ens (eb :: ee :: EL), Sto S D, Blk s ZC 177]) := by
  refine Does.enter 133 Try.func66 rfl rfl rfl fun W F => ?_
  show WPc _ _ _ _ _ [(0, .iface 178 (.pointer (some ⟨tb, 0, none⟩))), (1, .int .i64 (k)), (2, .agg #[.int .i64 3, .string x.key, .string x.fin, .bool (x.one), .int .i64 (x.lo), .int .i64 (x.hi), .int .i64 (val), .int .i64 (lim), ov, wv])] (Blk tb [.pointer (some ⟨root, 0, none⟩), .int .i64 (cnt), .pointer (some ⟨s, 0, none⟩)] 180 :: Ens EL :: Sto S D :: Blk s ZC 177 :: F)
  refine WPc.seq ?_
  refine WPc.region ?_
  refine WP.eff rfl rfl rfl (Eff.box (C := [.int .i64 3, .string x.key, .string x.fin, .bool (x.one), .int .i64 (x.lo), .int .i64 (x.hi), .int .i64 (val), .int .i64 (lim), ov, wv]) rfl rfl rfl) ?_
  rintro _ _ ⟨b1, rfl, rfl⟩
  refine WP.eff rfl rfl rfl (Eff.alloc rfl Ty.z62) ?_
  rintro _ _ ⟨b2, rfl, rfl⟩
  refine WP.nil ?_
  refine Out.next ?_
  refine WPc.seq ?_
  refine WPc.region ?_
  refine WP.val rfl rfl rfl (Val.mk (cs := [.bool false, .int .i64 0, .int .i64 0, .slice none 0 0, .slice none 0 0]) rfl rfl (fun _ => by kernel_rfl)) ?_
  refine WP.eff rfl rfl rfl (Eff.alloc rfl Ty.z62) ?_
  rintro _ _ ⟨b3, rfl, rfl⟩
  refine WP.eff0 rfl rfl (Eff.storeAgg (cs := [.bool false, .int .i64 0, .int .i64 0, .slice none 0 0, .slice none 0 0]) (C' := [.bool false, .int .i64 0, .int .i64 0, .slice none 0 0, .slice none 0 0]) rfl Ty.ag62 rfl rfl rfl rfl (by simp) rfl) ?_
  rintro _ _ rfl
  refine WP.nil ?_
  refine Out.next ?_
  refine WPc.seq ?_
  refine WPc.region ?_
  refine WP.val rfl rfl rfl (Val.move rfl rfl) ?_
  refine WP.val rfl rfl rfl (Val.fieldAddr (j := 1) rfl Ty.fo60_1 rfl rfl) ?_
  refine WP.val rfl rfl rfl (Val.loadAgg (cs := [.string x.key, .string x.fin, .bool (x.one), .int .i64 (x.lo), .int .i64 (x.hi)]) rfl Ty.ag56 rfl rfl (fun w h => h.range 2 rfl rfl)) ?_
  refine WP.eff rfl rfl rfl (Eff.call rfl rfl Try.call94 (spanIn_does k x hkey hfin hk3)) ?_
  rintro _ _ ⟨_, ⟨eb, ee, rfl, hbt, het, hbk, hek, rfl⟩, rfl⟩
  show WP _ _ _ _ _ _ _ (Enp eb :: Enp ee :: Blk b3 [.bool false, .int .i64 0, .int .i64 0, .slice none 0 0, .slice none 0 0] 62 :: Blk b2 [.bool false, .int .i64 0, .int .i64 0, .slice none 0 0, .slice none 0 0] 62 :: Blk b1 [.int .i64 3, .string x.key, .string x.fin, .bool (x.one), .int .i64 (x.lo), .int .i64 (x.hi), .int .i64 (val), .int .i64 (lim), ov, wv] 60 :: Blk tb [.pointer (some ⟨root, 0, none⟩), .int .i64 (cnt), .pointer (some ⟨s, 0, none⟩)] 180 :: Ens EL :: Sto S D :: Blk s ZC 177 :: F)
  have hE2 : ∀ e ∈ eb :: ee :: EL, e.t = kt k := fun e he => by rcases List.mem_cons.1 he with rfl | he; exact hbt; rcases List.mem_cons.1 he with rfl | he; exact het; exact hE e he
  have ok2 : Ok s (eb :: ee :: EL) D S := Ok.mono ok (fun e he => List.mem_cons_of_mem _ (List.mem_cons_of_mem _ he))
  refine WP.perm pl6 ?_
  refine WP.perm pl2 ?_
  refine WP.perm pl2 ?_
  refine WP.conv (fun w h => ens_add h) ?_
  show WP _ _ _ _ _ _ _ (Ens (eb :: ee :: EL) :: Blk b3 [.bool false, .int .i64 0, .int .i64 0, .slice none 0 0, .slice none 0 0] 62 :: Blk b2 [.bool false, .int .i64 0, .int .i64 0, .slice none 0 0, .slice none 0 0] 62 :: Blk b1 [.int .i64 3, .string x.key, .string x.fin, .bool (x.one), .int .i64 (x.lo), .int .i64 (x.hi), .int .i64 (val), .int .i64 (lim), ov, wv] 60 :: Blk tb [.pointer (some ⟨root, 0, none⟩), .int .i64 (cnt), .pointer (some ⟨s, 0, none⟩)] 180 :: Sto S D :: Blk s ZC 177 :: F)
  refine WP.eff rfl rfl rfl (Eff.alloc rfl Ty.z172) ?_
  rintro _ _ ⟨b4, rfl, rfl⟩
  refine WP.eff0 rfl rfl (Eff.storeAgg (cs := [.iface eb.t (eb.u), .iface ee.t (ee.u)]) (C' := [.iface eb.t (eb.u), .iface ee.t (ee.u)]) rfl Ty.ag172 rfl rfl rfl rfl (by simp) rfl) ?_
  rintro _ _ rfl
  refine WP.nil ?_
  refine Out.next ?_
  refine WPc.seq ?_
  refine WPc.region ?_
  refine WP.val rfl rfl rfl (Val.mkFunc rfl rfl rfl) ?_
  refine WP.eff rfl rfl rfl (Eff.alloc rfl Ty.z184) ?_
  rintro _ _ ⟨b5, rfl, rfl⟩
  refine WP.eff0 rfl rfl (Eff.store rfl Ty.sc184 rfl rfl rfl (by simp) st0) ?_
  rintro _ _ rfl
  refine WP.nil ?_
  refine Out.next ?_
  refine WPc.seq ?_
  refine WPc.seq ?_
  refine WPc.region ?_
  refine WP.val rfl rfl rfl (Val.fieldAddr (j := 0) rfl Ty.fo60_0 rfl rfl) ?_
  refine WP.val rfl rfl rfl (Val.load rfl Ty.sc3 rfl (fun w h => h.cell 5 rfl rfl)) ?_
  refine WP.nil ?_
  refine Out.next ?_
  refine WPc.block ?_
  refine WPc.seq ?_
  refine WPc.region ?_
  refine WP.val rfl rfl rfl (Val.eqlK rfl rfl rfl rfl) ?_
  refine WP.val rfl rfl rfl (Val.assign rfl rfl) ?_
  refine WP.nil ?_
  refine Out.next ?_
  refine WPc.condF rfl rfl ?_
  refine WPc.seq ?_
  refine WPc.region ?_
  refine WP.val rfl rfl rfl (Val.eqlK rfl rfl rfl rfl) ?_
  refine WP.val rfl rfl rfl (Val.assign rfl rfl) ?_
  refine WP.nil ?_
  refine Out.next ?_
  refine WPc.condF rfl rfl ?_
  refine WPc.seq ?_
  refine WPc.region ?_
  refine WP.val rfl rfl rfl (Val.eqlK rfl rfl rfl rfl) ?_
  refine WP.val rfl rfl rfl (Val.assign rfl rfl) ?_
  refine WP.nil ?_
  refine Out.next ?_
  refine WPc.condT rfl rfl ?_
  refine WPc.seq ?_
  refine WPc.region ?_
  refine WP.val rfl rfl rfl (Val.move rfl rfl) ?_
  refine WP.val rfl rfl rfl (Val.loadAgg (cs := [.iface eb.t (eb.u), .iface ee.t (ee.u)]) rfl Ty.ag172 rfl rfl (fun w h => h.range 1 rfl rfl)) ?_
  refine WP.perm pl8 ?_
  refine WP.perm pl8 ?_
  refine WP.perm pl4 ?_
  refine WP.perm pl8 ?_
  refine WP.eff rfl rfl rfl (Eff.invoke (f := 136) rfl rfl rfl (fun _ => by kernel_rfl) Try.call136 (Find_none (eb :: ee :: EL) (kt k) hE2 s D ZC tb root cnt S ok2 hroot T0 hT eb ee List.mem_cons_self (List.mem_cons_of_mem _ List.mem_cons_self) (by rw [hbk, hek]; exact hf))) ?_
  rintro _ _ ⟨_, ⟨rfl, rfl⟩, rfl⟩
  show WP _ _ _ _ _ _ _ (Blk tb [.pointer (some ⟨root, 0, none⟩), .int .i64 (cnt), .pointer (some ⟨s, 0, none⟩)] 180 :: Ens (eb :: ee :: EL) :: Sto S D :: Blk s ZC 177 :: Blk b5 [.func (.func 95) #[] #[.pointer (some ⟨b3, 0, none⟩)]] 184 :: Blk b4 [.iface eb.t (eb.u), .iface ee.t (ee.u)] 172 :: Blk b3 [.bool false, .int .i64 0, .int .i64 0, .slice none 0 0, .slice none 0 0] 62 :: Blk b2 [.bool false, .int .i64 0, .int .i64 0, .slice none 0 0, .slice none 0 0] 62 :: Blk b1 [.int .i64 3, .string x.key, .string x.fin, .bool (x.one), .int .i64 (x.lo), .int .i64 (x.hi), .int .i64 (val), .int .i64 (lim), ov, wv] 60 :: F)
  refine WP.val rfl rfl rfl (Val.assign rfl rfl) ?_
  refine WP.nil ?_
  refine Out.next ?_
  refine WPc.seq ?_
  refine WPc.region ?_
  refine WP.val rfl rfl rfl (Val.move rfl rfl) ?_
  refine WP.val rfl rfl rfl (Val.nilPn rfl Ty.ip182 rfl rfl) ?_
  refine WP.nil ?_
  refine Out.next ?_
  refine WPc.condF rfl rfl ?_
  refine WPc.skip ?_
  refine Out.block ?_
  refine Out.next ?_
  refine WPc.seq ?_
  refine WPc.region ?_
  refine WP.val rfl rfl rfl (Val.loadAgg (cs := [.bool false, .int .i64 0, .int .i64 0, .slice none 0 0, .slice none 0 0]) rfl Ty.ag62 rfl rfl (fun w h => h.range 6 rfl rfl)) ?_
  refine WP.perm pl7 ?_
  refine WP.eff0 rfl rfl (Eff.storeAgg (cs := [.bool false, .int .i64 0, .int .i64 0, .slice none 0 0, .slice none 0 0]) (C' := [.bool false, .int .i64 0, .int .i64 0, .slice none 0 0, .slice none 0 0]) rfl Ty.ag62 rfl rfl rfl rfl (by simp) rfl) ?_
  rintro _ _ rfl
  refine WP.nil ?_
  refine Out.next ?_
  refine WPc.ret ?_
  refine Out.perm pl5 ?_
  refine Out.drop ?_
  refine Out.perm pl5 ?_
  refine Out.drop ?_
  refine Out.perm pl5 ?_
  refine Out.drop ?_
  refine Out.perm pl5 ?_
  refine Out.drop ?_
  exact Out.retRun (L' := [Blk tb [.pointer (some ⟨root, 0, none⟩), .int .i64 cnt, .pointer (some ⟨s, 0, none⟩)] 180, Ens (eb :: ee :: EL), Sto S D, Blk s ZC 177]) (results_cell (cs := [.bool false, .int .i64 0, .int .i64 0, .slice none 0 0, .slice none 0 0]) Try.results66 Ty.ag62 rfl rfl (fun w h => h.range 0 rfl rfl)) ⟨eb, ee, rfl, hbt, het, rfl⟩ (fun w h => h.drop)

end Go.Proofs.Ytbomnihiapjmpaa.TB

namespace Go.Proofs.Ytbomnihiapjmpaa.TC
open Go.RowKit Go.Proofs.Ytbomnihiapjmpaa Go.Proofs.Ytbomnihiapjmpaa.Sl Go.Proofs.Ytbomnihiapjmpaa.TrP Go.Proofs.Ytbomnihiapjmpaa.Tb Go.Proofs.Ytbomnihiapjmpaa.Tc Go.Proofs.Ytbomnihiapjmpaa.Td Go.Proofs.Ytbomnihiapjmpaa.Tn Go.Proofs.Ytbomnihiapjmpaa.Tr Go.Proofs.Ytbomnihiapjmpaa.Tx
set_option linter.unusedVariables false
set_option linter.unusedSimpArgs false
set_option linter.unusedSectionVars false


structure TOp where
  k : Int
  x : Sp
  val : Int
  lim : Int
  ov : Value
  wv : Value
def TOp.cells (o : TOp) : List Value := [.int .i64 o.k, .string o.x.key, .string o.x.fin, .bool o.x.one, .int .i64 o.x.lo, .int .i64 o.x.hi, .int .i64 o.val, .int .i64 o.lim, o.ov, o.wv]
theorem TOp.len (o : TOp) : o.cells.length = 10 := rfl
def Sp.cells (x : Sp) : List Value := [.string x.key, .string x.fin, .bool x.one, .int .i64 x.lo, .int .i64 x.hi]
theorem Sp.len (x : Sp) : (Sp.cells x).length = 5 := rfl
def iv (n : Int) : List Value := [.int .i64 n]
theorem iv_len (n : Int) : (iv n).length = 1 := rfl
def En0 : En := ⟨⟨0, 0, []⟩, 0, .nilIface⟩
def S0 : St := fun _ => ⟨⟨En0, En0, 0, .nilIface⟩, En0, 0, 0, 0, 0⟩
/-- a tree in memory -/
structure TQ where
  tb : Nat
  s : Nat
  root : Nat
  cnt : Int
  EL : List En
  D : List Nat
  S : St
abbrev ZZ : List Value := [.nilIface, .nilIface, .nilIface, .nilIface, .pointer none, .pointer none, .pointer none, .int .i64 0]
def TM (q : TQ) : HProp := Sep [Blk q.tb [.pointer (some ⟨q.root, 0, none⟩), .int .i64 q.cnt, .pointer (some ⟨q.s, 0, none⟩)] 180, Ens q.EL, Sto q.S q.D, Blk q.s ZZ 177]
structure TAns where
  ok : Bool
  n : Int
  most : Int
  l : List Sp
  vs : List Int
/-- an answer with its slices -/
structure WA where
  a : TAns
  lv : Value
  vv : Value
def WA.cells (x : WA) : List Value := [.bool x.a.ok, .int .i64 x.a.n, .int .i64 x.a.most, x.lv, x.vv]
theorem WA.len (x : WA) : x.cells.length = 5 := rfl
def AnP (a : TAns) (lv vv : Value) : List HProp := [Own 56 5 lv a.l.length (flatOf Sp.cells a.l), Own 3 1 vv a.vs.length (flatOf iv a.vs)]
def WAP (x : WA) : HProp := Sep (AnP x.a x.lv x.vv)
/-- what an operation does, as an invariant says it -/
def TStep (A : HProp) (k : Int) (ops : List TOp) (I : Nat → TQ → List TAns → Prop) : Prop := ∀ (i : Nat) (o : TOp) (q : TQ) (al : List TAns), ops[i]? = some o → al.length = i → I i q al → Does Try.prog 66 [.iface 178 (.pointer (some ⟨q.tb, 0, none⟩)), .int .i64 k, .agg o.cells.toArray] [A, TM q] (fun v L => ∃ (q' : TQ) (a : TAns) (lv vv : Value), I (i + 1) q' (al ++ [a]) ∧ q'.tb = q.tb ∧ v = .agg #[.bool a.ok, .int .i64 a.n, .int .i64 a.most, lv, vv] ∧ L = [A, TM q', Own 56 5 lv a.l.length (flatOf Sp.cells a.l), Own 3 1 vv a.vs.length (flatOf iv a.vs)])
theorem tm_mk {W w : World} {L : List HProp} {tb s root : Nat} {cnt : Int} {EL : List En} {D : List Nat} {S : St} (h : Sat W (Blk tb [.pointer (some ⟨root, 0, none⟩), .int .i64 cnt, .pointer (some ⟨s, 0, none⟩)] 180 :: Ens EL :: Sto S D :: Blk s ZZ 177 :: L) w) : Sat W (TM ⟨tb, s, root, cnt, EL, D, S⟩ :: L) w := Sat.sep_mk (M := [_, _, _, _]) h
theorem tm_new {W w : World} {L : List HProp} {tb s : Nat} {S : St} (h : Sat W (Blk tb [.pointer (some ⟨s, 0, none⟩), .int .i64 0, .pointer (some ⟨s, 0, none⟩)] 180 :: Blk s ZZ 177 :: L) w) : Sat W (TM ⟨tb, s, s, 0, [], [], S⟩ :: L) w := by
  have h1 : Sat W (Ens [] :: Sto S [] :: Blk tb [.pointer (some ⟨s, 0, none⟩), .int .i64 0, .pointer (some ⟨s, 0, none⟩)] 180 :: Blk s ZZ 177 :: L) w := Sat.allNil (Sat.kNil h)
  exact tm_mk (h1.perm pl2)
theorem kds_snoc {α : Type} {R : α → HProp} {W w : World} {L : List HProp} {x : α} {l : List α} (h : Sat W (R x :: Kds R l :: L) w) : Sat W (Kds R (l ++ [x]) :: L) w := Sat.kPerm (List.perm_append_comm (l₁ := [x]) (l₂ := l)) h.kConsMk
theorem wap_mk {W w : World} {L : List HProp} {a : TAns} {lv vv : Value} (h : Sat W (Own 56 5 lv a.l.length (flatOf Sp.cells a.l) :: Own 3 1 vv a.vs.length (flatOf iv a.vs) :: L) w) : Sat W (WAP ⟨a, lv, vv⟩ :: L) w := Sat.sep_mk (M := [_, _]) h
set_option maxRecDepth 100000 in
set_option maxHeartbeats 2000000 in
theorem tree_nil (A : HProp) (k : Int) (I : Nat → TQ → List TAns → Prop) (hI0 : ∀ tb s S, I 0 ⟨tb, s, s, 0, [], [], S⟩ []) (hS : TStep A k [] I) (a : Option Addr) (c : Nat) : Does Try.prog 27 [.int .i64 (k), .slice a 0 c] [A] (fun v L => ∃ (q : TQ) (was : List WA), I 0 q (was.map WA.a) ∧ L = [A, Own 62 5 v was.length (flatOf WA.cells was), Kds WAP was]) := by
  refine Does.enter 26 Try.func27 rfl rfl rfl fun W F => ?_
  show WPc _ _ _ _ _ [(0, .int .i64 (k)), (1, .slice a 0 c)] (A :: F)
  refine WPc.seq ?_
  refine WPc.region ?_
  refine WP.val rfl rfl rfl (Val.assign rfl rfl) ?_
  refine WP.nil ?_
  refine Out.next ?_
  refine WPc.seq ?_
  refine WPc.region ?_
  refine WP.eff rfl rfl rfl (Eff.call rfl rfl Try.call65 (new_does)) ?_
  rintro _ _ ⟨_, ⟨tb, s, rfl, rfl⟩, rfl⟩
  show WP _ _ _ _ _ _ _ (Blk tb [.pointer (some ⟨s, 0, none⟩), .int .i64 (0), .pointer (some ⟨s, 0, none⟩)] 180 :: Blk s ZZ 177 :: A :: F)
  refine WP.val rfl rfl rfl (Val.assign rfl rfl) ?_
  refine WP.nil ?_
  refine Out.next ?_
  refine WPc.seq ?_
  refine WPc.perm pl1 ?_
  refine WPc.perm pl1 ?_
  refine WPc.conv (fun w h => tm_new (S := S0) h) ?_
  refine WPc.conv (fun w h => Sat.ownNil (e := 62) (k := 5) h) ?_
  refine WPc.conv (fun w h => Sat.kNil (R := WAP) h) ?_
  show WPc _ _ _ _ _ _ (Kds WAP [] :: Own 62 5 (.slice none 0 0) 0 ([]) :: TM ⟨tb, s, s, 0, [], [], S0⟩ :: A :: F)
  refine WPc.region ?_
  refine WP.val rfl rfl rfl (Val.assign rfl rfl) ?_
  refine WP.nil ?_
  refine Out.next ?_
  refine WPc.seq ?_
  refine WPc.seq ?_
  refine WPc.region ?_
  refine WP.val rfl rfl rfl (Val.assign rfl rfl) ?_
  refine WP.nil ?_
  refine Out.next ?_
  refine WPc.block ?_
  refine WPc.perm pl1 ?_
  refine WPc.perm pl2 ?_
  refine WPc.perm pl3 ?_
  refine WPc.loop (ι := Nat × TQ × List WA × Value) (fun ⟨i, q, was, v⟩ => i ≤ 0 ∧ I i q (was.map WA.a) ∧ (was.map WA.a).length = i ∧ q.tb = tb) (fun ⟨i, q, was, v⟩ => [(0, .int .i64 (k)), (1, .slice a 0 c), (5, .iface 178 (.pointer (some ⟨tb, 0, none⟩))), (6, v), (7, .int .i64 (((i : Nat) : Int)))]) (fun ⟨i, q, was, v⟩ => A :: TM q :: Own 62 5 v was.length (flatOf WA.cells was) :: Kds WAP was :: F) (fun ⟨i, q, was, v⟩ => 0 - i) (0, ⟨tb, s, s, 0, [], [], S0⟩, [], .slice none 0 0) ⟨Nat.zero_le _, hI0 tb s _, rfl, rfl⟩ ((Sub.cons rfl (Sub.cons rfl (Sub.cons rfl (Sub.cons rfl (Sub.cons rfl Sub.nil)))))) (fun _ h => h) ?_
  rintro ⟨i, q, was, v⟩ ⟨hi, hI, hwl, htq⟩
  show WPc _ _ _ _ _ [(0, .int .i64 (k)), (1, .slice a 0 c), (5, .iface 178 (.pointer (some ⟨tb, 0, none⟩))), (6, v), (7, .int .i64 (((i : Nat) : Int)))] (A :: TM q :: Own 62 5 v was.length (flatOf WA.cells was) :: Kds WAP was :: F)
  replace hi : i ≤ 0 := hi
  replace hI : I i q (was.map WA.a) := hI
  replace hwl : (was.map WA.a).length = i := hwl
  replace htq : q.tb = tb := htq
  subst htq
  have hwl2 : was.length = i := by rw [← hwl, List.length_map]
  refine WPc.seq ?_
  refine WPc.seq ?_
  refine WPc.region ?_
  refine WP.val rfl rfl rfl (Val.move rfl rfl) ?_
  refine WP.val rfl rfl rfl (Val.move rfl rfl) ?_
  refine WP.val rfl rfl rfl (Val.len rfl Ty.sl47 rfl) ?_
  refine WP.val rfl rfl rfl (Val.lss rfl rfl rfl) ?_
  refine WP.nil ?_
  refine Out.next ?_
  refine WPc.ifP rfl (fun h1 => ?_) (fun h1 => ?_)
  · skip
    have h1 : (((i : Nat) : Int) < (0 : Int)) := h1
    exfalso; omega
  · skip
    have h1 : ¬ (((i : Nat) : Int) < (0 : Int)) := h1
    refine WPc.exit ?_
    refine Out.then_exit ?_
    refine Out.then_exit ?_
    refine Out.block_exit ?_
    refine Out.next ?_
    refine WPc.seq ?_
    refine WPc.region ?_
    refine WP.val rfl rfl rfl (Val.move rfl rfl) ?_
    refine WP.val rfl rfl rfl (Val.assign rfl rfl) ?_
    refine WP.nil ?_
    refine Out.next ?_
    refine WPc.ret ?_
    have hin : i = 0 := by omega
    rw [hin] at hI hwl
    refine Out.perm pl1 ?_
    refine Out.drop ?_
    exact Out.ret1 (L' := _) Try.results27 rfl ⟨q, was, hI, rfl⟩ (fun _ h => h)

set_option maxRecDepth 100000 in
set_option maxHeartbeats 2000000 in
theorem tree_row (A : HProp) (k : Int) (I : Nat → TQ → List TAns → Prop) (hI0 : ∀ tb s S, I 0 ⟨tb, s, s, 0, [], [], S⟩ []) (l : List TOp) (hl : l.length ≤ 65540) (hS : TStep A k l I) (b0 o0 c0 : Nat) (hr : ∀ w, Holds A w → ∀ i x, l[i]? = some x → w.rangeAt b0 (o0 + i * 10) (TOp.cells x)) : Does Try.prog 27 [.int .i64 (k), .slice (some ⟨b0, o0, none⟩) l.length c0] [A] (fun v L => ∃ (q : TQ) (was : List WA), I l.length q (was.map WA.a) ∧ L = [A, Own 62 5 v was.length (flatOf WA.cells was), Kds WAP was]) := by
  refine Does.enter 26 Try.func27 rfl rfl rfl fun W F => ?_
  show WPc _ _ _ _ _ [(0, .int .i64 (k)), (1, .slice (some ⟨b0, o0, none⟩) l.length c0)] (A :: F)
  refine WPc.seq ?_
  refine WPc.region ?_
  refine WP.val rfl rfl rfl (Val.assign rfl rfl) ?_
  refine WP.nil ?_
  refine Out.next ?_
  refine WPc.seq ?_
  refine WPc.region ?_
  refine WP.eff rfl rfl rfl (Eff.call rfl rfl Try.call65 (new_does)) ?_
  rintro _ _ ⟨_, ⟨tb, s, rfl, rfl⟩, rfl⟩
  show WP _ _ _ _ _ _ _ (Blk tb [.pointer (some ⟨s, 0, none⟩), .int .i64 (0), .pointer (some ⟨s, 0, none⟩)] 180 :: Blk s ZZ 177 :: A :: F)
  refine WP.val rfl rfl rfl (Val.assign rfl rfl) ?_
  refine WP.nil ?_
  refine Out.next ?_
  refine WPc.seq ?_
  refine WPc.perm pl1 ?_
  refine WPc.perm pl1 ?_
  refine WPc.conv (fun w h => tm_new (S := S0) h) ?_
  refine WPc.conv (fun w h => Sat.ownNil (e := 62) (k := 5) h) ?_
  refine WPc.conv (fun w h => Sat.kNil (R := WAP) h) ?_
  show WPc _ _ _ _ _ _ (Kds WAP [] :: Own 62 5 (.slice none 0 0) 0 ([]) :: TM ⟨tb, s, s, 0, [], [], S0⟩ :: A :: F)
  refine WPc.region ?_
  refine WP.val rfl rfl rfl (Val.assign rfl rfl) ?_
  refine WP.nil ?_
  refine Out.next ?_
  refine WPc.seq ?_
  refine WPc.seq ?_
  refine WPc.region ?_
  refine WP.val rfl rfl rfl (Val.assign rfl rfl) ?_
  refine WP.nil ?_
  refine Out.next ?_
  refine WPc.block ?_
  refine WPc.perm pl1 ?_
  refine WPc.perm pl2 ?_
  refine WPc.perm pl3 ?_
  refine WPc.loop (ι := Nat × TQ × List WA × Value) (fun ⟨i, q, was, v⟩ => i ≤ l.length ∧ I i q (was.map WA.a) ∧ (was.map WA.a).length = i ∧ q.tb = tb) (fun ⟨i, q, was, v⟩ => [(0, .int .i64 (k)), (1, .slice (some ⟨b0, o0, none⟩) l.length c0), (5, .iface 178 (.pointer (some ⟨tb, 0, none⟩))), (6, v), (7, .int .i64 (((i : Nat) : Int)))]) (fun ⟨i, q, was, v⟩ => A :: TM q :: Own 62 5 v was.length (flatOf WA.cells was) :: Kds WAP was :: F) (fun ⟨i, q, was, v⟩ => l.length - i) (0, ⟨tb, s, s, 0, [], [], S0⟩, [], .slice none 0 0) ⟨Nat.zero_le _, hI0 tb s _, rfl, rfl⟩ ((Sub.cons rfl (Sub.cons rfl (Sub.cons rfl (Sub.cons rfl (Sub.cons rfl Sub.nil)))))) (fun _ h => h) ?_
  rintro ⟨i, q, was, v⟩ ⟨hi, hI, hwl, htq⟩
  show WPc _ _ _ _ _ [(0, .int .i64 (k)), (1, .slice (some ⟨b0, o0, none⟩) l.length c0), (5, .iface 178 (.pointer (some ⟨tb, 0, none⟩))), (6, v), (7, .int .i64 (((i : Nat) : Int)))] (A :: TM q :: Own 62 5 v was.length (flatOf WA.cells was) :: Kds WAP was :: F)
  replace hi : i ≤ l.length := hi
  replace hI : I i q (was.map WA.a) := hI
  replace hwl : (was.map WA.a).length = i := hwl
  replace htq : q.tb = tb := htq
  subst htq
  have hwl2 : was.length = i := by rw [← hwl, List.length_map]
  refine WPc.seq ?_
  refine WPc.seq ?_
  refine WPc.region ?_
  refine WP.val rfl rfl rfl (Val.move rfl rfl) ?_
  refine WP.val rfl rfl rfl (Val.move rfl rfl) ?_
  refine WP.val rfl rfl rfl (Val.len rfl Ty.sl47 rfl) ?_
  refine WP.val rfl rfl rfl (Val.lss rfl rfl rfl) ?_
  refine WP.nil ?_
  refine Out.next ?_
  refine WPc.ifP rfl (fun h1 => ?_) (fun h1 => ?_)
  · skip
    have h1 : (((i : Nat) : Int) < ((l.length : Nat) : Int)) := h1
    refine WPc.skip ?_
    refine Out.next ?_
    refine WPc.seq ?_
    refine WPc.block ?_
    have hlt : i < l.length := by omega
    obtain ⟨x, hx⟩ : ∃ x, l[i]? = some x := ⟨_, List.getElem?_eq_getElem hlt⟩
    refine WPc.region ?_
    refine WP.val rfl rfl rfl (Val.move rfl rfl) ?_
    refine WP.val rfl rfl rfl (Val.move rfl rfl) ?_
    refine WP.val rfl rfl rfl (Val.move rfl rfl) ?_
    refine WP.val rfl rfl rfl (Val.move rfl rfl) ?_
    refine WP.val rfl rfl rfl (Val.move rfl rfl) ?_
    refine WP.val rfl rfl rfl (Val.indexAddr (j := i) (q := o0 + i * 10) rfl Ty.sl47 rfl rfl (by omega) (by omega) (by omega)) ?_
    refine WP.val rfl rfl rfl (Val.loadAgg (cs := (TOp.cells x)) rfl Ty.ag60 rfl (by rfl) (fun w h => hr w (h.at 0 rfl) i x hx)) ?_
    refine WP.perm pl1 ?_
    refine WP.perm pl1 ?_
    refine WP.eff rfl rfl rfl (Eff.call rfl rfl Try.call66 (hS i x q (was.map WA.a) hx hwl hI)) ?_
    rintro _ _ ⟨_, ⟨q', a, lv, vv, hI', htb, rfl, rfl⟩, rfl⟩
    show WP _ _ _ _ _ _ _ (A :: TM q' :: Own 56 5 lv a.l.length (flatOf Sp.cells a.l) :: Own 3 1 vv a.vs.length (flatOf iv a.vs) :: Own 62 5 v was.length (flatOf WA.cells was) :: Kds WAP was :: F)
    refine WP.perm pl2 ?_
    refine WP.fact (fun w h => own_oneCell h) (fun hlv => ?_)
    refine WP.perm pl3 ?_
    refine WP.fact (fun w h => own_oneCell h) (fun hvv => ?_)
    refine WP.eff rfl rfl rfl (Eff.mkSlice (C := [.bool (a.ok), .int .i64 (a.n), .int .i64 (a.most), lv, vv]) rfl Ty.sl50 rfl (fun _ => by kernel_rfl)) ?_
    rintro _ _ ⟨b1, rfl, rfl⟩
    refine WP.perm pl5 ?_
    refine WP.eff rfl rfl rfl (Eff.append (m := 1) (n0 := was.length) (news := [.bool (a.ok), .int .i64 (a.n), .int .i64 (a.most), lv, vv]) rfl Ty.sl50 Ty.z62 rfl rfl rfl (.slice Ty.sl50 rfl (by simp only [List.all_cons, List.all_nil, Bool.and_true, oc_int, oc_str, oc_bool, oc_ptr, oc_slice, oc_iface, oc_map, hlv, hvv]) (fun w h => cells_range (h.range 1 rfl rfl))) (by omega) (by omega)) ?_
    rintro v2 _ ⟨onev2, rfl⟩
    refine WP.val rfl rfl rfl (Val.assign rfl rfl) ?_
    refine WP.nil ?_
    refine Out.block ?_
    refine Out.next ?_
    refine WPc.perm pl2 ?_
    refine WPc.perm pl3 ?_
    refine WPc.conv (fun w h => wap_mk h) ?_
    refine WPc.perm pl5 ?_
    refine WPc.perm pl1 ?_
    refine WPc.conv (fun w h => kds_snoc h) ?_
    show WPc _ _ _ _ _ _ (Kds WAP (was ++ [⟨a, lv, vv⟩]) :: Own 62 5 v2 (was.length + 1) ((flatOf WA.cells was) ++ ([.bool (a.ok), .int .i64 (a.n), .int .i64 (a.most), lv, vv])) :: Blk b1 [.bool (a.ok), .int .i64 (a.n), .int .i64 (a.most), lv, vv] 62 :: A :: TM q' :: F)
    refine WPc.region ?_
    refine WP.val rfl rfl rfl (Val.move rfl rfl) ?_
    refine WP.val rfl rfl rfl (Val.add (z := ((i + 1 : Nat) : Int)) rfl rfl rfl ((w64 (by omega) (by omega)).trans (by omega))) ?_
    refine WP.val rfl rfl rfl (Val.assign rfl rfl) ?_
    refine WP.nil ?_
    refine Out.perm pl2 ?_
    refine Out.drop ?_
    refine Out.perm pl1 ?_
    refine Out.perm pl3 ?_
    refine Out.perm pl3 ?_
    refine Out.again (i + 1, q', was ++ [⟨a, lv, vv⟩], v2) ?_ ?_ ?_ ?_
    · exact ⟨by show i + 1 ≤ l.length; omega, by show I (i + 1) q' ((was ++ [(⟨a, lv, vv⟩ : WA)]).map WA.a); rw [List.map_append]; exact hI', by show ((was ++ [_]).map WA.a).length = i + 1; rw [List.map_append, List.length_append, hwl]; rfl, htb⟩
    · (first | omega | (dsimp only; omega))
    · exact (Sub.cons rfl (Sub.cons rfl (Sub.cons rfl (Sub.cons rfl (Sub.cons rfl Sub.nil)))))
    · exact (fun w h => by dsimp only; rw [flatOf_snoc, List.length_append]; exact h)
  · skip
    have h1 : ¬ (((i : Nat) : Int) < ((l.length : Nat) : Int)) := h1
    refine WPc.exit ?_
    refine Out.then_exit ?_
    refine Out.then_exit ?_
    refine Out.block_exit ?_
    refine Out.next ?_
    refine WPc.seq ?_
    refine WPc.region ?_
    refine WP.val rfl rfl rfl (Val.move rfl rfl) ?_
    refine WP.val rfl rfl rfl (Val.assign rfl rfl) ?_
    refine WP.nil ?_
    refine Out.next ?_
    refine WPc.ret ?_
    have hin : i = l.length := by omega
    rw [hin] at hI hwl
    refine Out.perm pl1 ?_
    refine Out.drop ?_
    exact Out.ret1 (L' := _) Try.results27 rfl ⟨q, was, hI, rfl⟩ (fun _ h => h)

theorem tree_spec (A : HProp) (k : Int) (I : Nat → TQ → List TAns → Prop) (hI0 : ∀ tb s S, I 0 ⟨tb, s, s, 0, [], [], S⟩ []) (l : List TOp) (hl : l.length ≤ 65540) (hS : TStep A k l I) (va : Value) (hva : Rd A 10 TOp.cells va l) : Does Try.prog 27 [.int .i64 (k), va] [A] (fun v L => ∃ (q : TQ) (was : List WA), I l.length q (was.map WA.a) ∧ L = [A, Own 62 5 v was.length (flatOf WA.cells was), Kds WAP was]) := by
  rcases hva with ⟨b0, o0, c0, rfl, hr⟩ | ⟨rfl, a, c, rfl⟩
  · exact tree_row A k I hI0 l hl hS b0 o0 c0 hr
  · exact tree_nil A k I hI0 hS a c

end Go.Proofs.Ytbomnihiapjmpaa.TC

namespace Go.Proofs.Ytbomnihiapjmpaa.TrP
open Go.RowKit Go.Lib Go.Proofs.Ytbomnihiapjmpaa Go.Proofs.Ytbomnihiapjmpaa.Sl
set_option linter.unusedVariables false
set_option linter.unusedSimpArgs false
set_option linter.unusedSectionVars false
/-! ## what stands in a tree, from left to right -/
def cL : Ctx → List It
  | [] => []
  | f :: fs => cL fs ++ (if f.left then [] else f.sib.ino ++ [f.x])
def cR : Ctx → List It
  | [] => []
  | f :: fs => (if f.left then f.x :: f.sib.ino else []) ++ cR fs
theorem zip_ino : ∀ (fs : Ctx) (t : T), (zip fs t).ino = cL fs ++ t.ino ++ cR fs
  | [], t => by simp [zip, cL, cR]
  | ⟨lf, i, x, c, sib⟩ :: fs, t => by
    show (zip fs (Fr.plug ⟨lf, i, x, c, sib⟩ t)).ino = _
    rw [zip_ino fs]
    cases lf <;> simp [Fr.plug, cL, cR, T.ino]
theorem blacken_ino (t : T) : t.blacken.ino = t.ino := by cases t <;> rfl
theorem flip_ino (p g : Fr) (t : T) : (flipT p g t).ino = cL [p, g] ++ t.ino ++ cR [p, g] := by
  obtain ⟨pl, pi, px, pc, ps⟩ := p
  obtain ⟨gl, gi, gx, gc, gs⟩ := g
  unfold flipT
  cases pl <;> cases gl <;> simp [Fr.plug, cL, cR, T.ino, blacken_ino]
theorem rot_ino (p g : Fr) {t : T} (ht : ∃ i l x c r, t = .node i l x c r) : (rotT p g t).ino = cL [p, g] ++ t.ino ++ cR [p, g] := by
  obtain ⟨i, l, x, c, r, rfl⟩ := ht
  obtain ⟨pl, pi, px, pc, ps⟩ := p
  obtain ⟨gl, gi, gx, gc, gs⟩ := g
  unfold rotT
  cases pl <;> cases gl <;> simp [cL, cR, T.ino]
theorem cL_two (p g : Fr) (fs : Ctx) : cL (p :: g :: fs) = cL fs ++ cL [p, g] := by simp [cL]
theorem cR_two (p g : Fr) (fs : Ctx) : cR (p :: g :: fs) = cR [p, g] ++ cR fs := by simp [cR]
theorem afx_ino : ∀ (n : Nat) (fs : Ctx) {t : T}, fs.length ≤ n → (∃ i l x c r, t = .node i l x c r) → (afx fs t).ino = cL fs ++ t.ino ++ cR fs
  | n, [], t, _, _ => by simp [afx, cL, cR]
  | n, [p], t, _, _ => by show (zip [p] t).ino = _; exact zip_ino _ _
  | n + 1, p :: g :: fs, t, hn, ht => by
    show (if p.c then (if g.sib.red then afx fs (flipT p g t) else zip fs (rotT p g t)) else zip (p :: g :: fs) t).ino = _
    split
    · split
      · obtain ⟨l, r, e⟩ := flipT_node p g t
        rw [afx_ino n fs (by simp only [List.length_cons] at hn; omega) ⟨_, _, _, _, _, e⟩, flip_ino, cL_two p g fs, cR_two p g fs]
        simp only [List.append_assoc]
      · rw [zip_ino, rot_ino p g ht, cL_two p g fs, cR_two p g fs]
        simp only [List.append_assoc]
    · exact zip_ino _ _
  | 0, p :: g :: fs, t, hn, _ => by simp at hn
/-- z stands behind y -/
def beh (zb ze : Ky) (y : It) : Bool := decide (¬ goK zb ze y.b.k y.e.k)
/-- y stands ahead of z, or with it -/
def leq (x y : It) : Prop := ¬ goK y.b.k y.e.k x.b.k x.e.k
def Srt (l : List It) : Prop := l.Pairwise leq
theorem goK_iff {zb ze xb xe : Ky} : goK zb ze xb xe ↔ klt zb xb ∨ (zb = xb ∧ klt ze xe) := Iff.rfl
theorem not_goK {zb ze xb xe : Ky} : ¬ goK zb ze xb xe ↔ klt xb zb ∨ (xb = zb ∧ ¬ klt ze xe) := by
  rw [goK_iff]
  constructor
  · intro h
    rcases klt_tri zb xb with h1 | h1 | h1
    · exact absurd (.inl h1) h
    · exact .inr ⟨h1.symm, fun h2 => h (.inr ⟨h1, h2⟩)⟩
    · exact .inl h1
  · rintro (h1 | ⟨rfl, h1⟩) (h2 | ⟨h2, h3⟩)
    · exact klt_asymm h1 h2
    · rw [h2] at h1; exact klt_irrefl _ h1
    · exact klt_irrefl _ h2
    · exact h1 h3
theorem goK_le {ab ae bb be cb ce : Ky} (h1 : ¬ goK bb be ab ae) (h2 : ¬ goK cb ce bb be) : ¬ goK cb ce ab ae := by
  rw [not_goK] at *
  rcases h1 with h1 | ⟨rfl, h1⟩
  · rcases h2 with h2 | ⟨rfl, h2⟩
    · exact .inl (klt_trans h1 h2)
    · exact .inl h1
  · rcases h2 with h2 | ⟨rfl, h2⟩
    · exact .inl h2
    · exact .inr ⟨rfl, kle_trans h1 h2⟩
theorem goK_tot {ab ae bb be : Ky} (h : goK ab ae bb be) : ¬ goK bb be ab ae := by
  rw [not_goK]
  rcases h with h | ⟨rfl, h⟩
  · exact .inl h
  · exact .inr ⟨rfl, klt_asymm h⟩
theorem tw_mid {α : Type} {p : α → Bool} {x : α} : ∀ {l r : List α}, p x = false → (l ++ x :: r).takeWhile p = l.takeWhile p ∧ (l ++ x :: r).dropWhile p = l.dropWhile p ++ x :: r
  | [], r, h => by simp [h]
  | y :: l, r, h => by
    obtain ⟨h1, h2⟩ := tw_mid (l := l) (r := r) h
    cases hy : p y
    · simp [hy]
    · simp [hy, h1, h2]
theorem tw_all {α : Type} {p : α → Bool} : ∀ {l r : List α}, (∀ y ∈ l, p y = true) → (l ++ r).takeWhile p = l ++ r.takeWhile p ∧ (l ++ r).dropWhile p = r.dropWhile p
  | [], r, h => ⟨rfl, rfl⟩
  | y :: l, r, h => by
    obtain ⟨h1, h2⟩ := tw_all (l := l) (r := r) (fun z hz => h z (List.mem_cons_of_mem _ hz))
    have hy := h y List.mem_cons_self
    simp [hy, h1, h2]
theorem dsc_ino (zb ze : Ky) : ∀ (t : T) (fs : Ctx), Srt t.ino → cL (dsc zb ze t fs) = cL fs ++ t.ino.takeWhile (beh zb ze) ∧ cR (dsc zb ze t fs) = t.ino.dropWhile (beh zb ze) ++ cR fs
  | .leaf, fs, _ => by simp [dsc, T.ino]
  | .node i l x c r, fs, hs => by
    unfold dsc
    have hs' : Srt (l.ino ++ x :: r.ino) := hs
    by_cases hg : goK zb ze x.b.k x.e.k
    · rw [if_pos hg]
      obtain ⟨h1, h2⟩ := dsc_ino zb ze l (⟨true, i, x, c, r⟩ :: fs) (List.pairwise_append.1 hs').1
      obtain ⟨h3, h4⟩ := tw_mid (p := beh zb ze) (x := x) (l := l.ino) (r := r.ino) (by simp [beh, hg])
      rw [h1, h2]
      show _ ∧ _ = List.dropWhile _ (l.ino ++ x :: r.ino) ++ _
      rw [h4]
      exact ⟨by show _ = _ ++ List.takeWhile _ (l.ino ++ x :: r.ino); rw [h3]; simp [cL], by simp [cR]⟩
    · rw [if_neg hg]
      obtain ⟨h1, h2⟩ := dsc_ino zb ze r (⟨false, i, x, c, l⟩ :: fs) (List.pairwise_cons.1 (List.pairwise_append.1 hs').2.1).2
      have hall : ∀ y ∈ l.ino ++ [x], beh zb ze y = true := by
        intro y hy
        rcases List.mem_append.1 hy with hy | hy
        · have h5 : leq y x := (List.pairwise_append.1 hs').2.2 y hy x List.mem_cons_self
          simpa [beh] using goK_le h5 hg
        · rw [List.mem_singleton.1 hy]; simpa [beh] using hg
      obtain ⟨h3, h4⟩ := tw_all (p := beh zb ze) (l := l.ino ++ [x]) (r := r.ino) hall
      rw [List.append_assoc, List.singleton_append] at h3 h4
      rw [h1, h2]
      show _ = _ ++ List.takeWhile _ (l.ino ++ x :: r.ino) ∧ _ = List.dropWhile _ (l.ino ++ x :: r.ino) ++ _
      rw [h3, h4]
      exact ⟨by simp [cL], by simp [cR]⟩
/-- put in behind those that stand ahead of it or with it -/
def putI (x : It) (l : List It) : List It := l.takeWhile (beh x.b.k x.e.k) ++ x :: l.dropWhile (beh x.b.k x.e.k)
theorem insT_ino {z : Nat} {x : It} {t : T} (hs : Srt t.ino) : (insT z x t).ino = putI x t.ino := by
  unfold insT putI
  rw [blacken_ino, afx_ino _ _ (Nat.le_refl _) ⟨_, _, _, _, _, rfl⟩]
  obtain ⟨h1, h2⟩ := dsc_ino x.b.k x.e.k t [] hs
  rw [h1, h2]
  simp [cL, cR, T.ino]
theorem putI_mem {x y : It} {l : List It} : y ∈ putI x l ↔ y = x ∨ y ∈ l := by
  unfold putI
  have h := List.takeWhile_append_dropWhile (p := beh x.b.k x.e.k) (l := l)
  rw [List.mem_append, List.mem_cons]
  conv => rhs; rw [← h, List.mem_append]
  constructor
  · rintro (h | h | h)
    · exact .inr (.inl h)
    · exact .inl h
    · exact .inr (.inr h)
  · rintro (h | h | h)
    · exact .inr (.inl h)
    · exact .inl h
    · exact .inr (.inr h)
theorem tw_true {α : Type} {p : α → Bool} : ∀ {l : List α} {y : α}, y ∈ l.takeWhile p → p y = true
  | a :: l, y, h => by
    rw [List.takeWhile_cons] at h
    split at h
    · rename_i ha
      rcases List.mem_cons.1 h with rfl | h
      · exact ha
      · exact tw_true h
    · cases h
theorem putI_srt {x : It} {l : List It} (h : Srt l) : Srt (putI x l) := by
  unfold putI Srt at *
  have e := List.takeWhile_append_dropWhile (p := beh x.b.k x.e.k) (l := l)
  rw [← e, List.pairwise_append] at h
  obtain ⟨h1, h2, h3⟩ := h
  have hd : ∀ y ∈ l.dropWhile (beh x.b.k x.e.k), leq x y := by
    intro y hy
    revert h2 hy
    generalize hm : l.dropWhile (beh x.b.k x.e.k) = m
    intro h2 hy
    cases m with
    | nil => cases hy
    | cons a m =>
      have ha : beh x.b.k x.e.k a = false := by
        have h9 := List.head?_dropWhile_not (beh x.b.k x.e.k) l
        rw [hm] at h9
        simpa using h9
      have ha' : leq x a := goK_tot (by simpa [beh] using ha)
      rcases List.mem_cons.1 hy with rfl | hy
      · exact ha'
      · exact goK_le ha' ((List.pairwise_cons.1 h2).1 y hy)
  refine List.pairwise_append.2 ⟨h1, List.pairwise_cons.2 ⟨hd, h2⟩, fun a ha b hb => ?_⟩
  rcases List.mem_cons.1 hb with rfl | hb
  · have h9 : ¬ goK b.b.k b.e.k a.b.k a.e.k := by simpa [beh] using tw_true ha
    exact h9
  · exact h3 a ha b hb
/-! ids -/
theorem insT_len {z : Nat} {x : It} {t : T} (hs : Srt t.ino) : (insT z x t).ino.length = t.ino.length + 1 := by
  rw [insT_ino hs]
  unfold putI
  have h := congrArg List.length (List.takeWhile_append_dropWhile (p := beh x.b.k x.e.k) (l := t.ino))
  rw [List.length_append] at h
  rw [List.length_append, List.length_cons]
  omega
theorem insT_red {z : Nat} {x : It} {t : T} : (insT z x t).red = false := by
  unfold insT
  cases afx (dsc x.b.k x.e.k t []) (.node z .leaf x true .leaf) <;> rfl
theorem depth_le : ∀ t : T, t.depth ≤ t.ino.length
  | .leaf => Nat.le_refl _
  | .node i l x c r => by
    have h1 := depth_le l
    have h2 := depth_le r
    simp only [T.depth, T.ino, List.length_append, List.length_cons]
    omega
end Go.Proofs.Ytbomnihiapjmpaa.TrP

