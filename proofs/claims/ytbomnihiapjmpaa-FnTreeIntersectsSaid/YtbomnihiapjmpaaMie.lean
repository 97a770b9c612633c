import Derived.Test.YtbomnihiapjmpaaMid
import Derived.Test.YtbomnihiapjmpaaMic
import Derived.Test.YtbomnihiapjmpaaMia
namespace Go.Proofs.Ytbomnihiapjmpaa.TB
open Go.RowKit Go.Proofs.Ytbomnihiapjmpaa Go.Proofs.Ytbomnihiapjmpaa.Sl Go.Proofs.Ytbomnihiapjmpaa.TrP Go.Proofs.Ytbomnihiapjmpaa.Tb Go.Proofs.Ytbomnihiapjmpaa.Tc Go.Proofs.Ytbomnihiapjmpaa.Td Go.Proofs.Ytbomnihiapjmpaa.Te Go.Proofs.Ytbomnihiapjmpaa.Tf Go.Proofs.Ytbomnihiapjmpaa.Tg Go.Proofs.Ytbomnihiapjmpaa.Th Go.Proofs.Ytbomnihiapjmpaa.Ti Go.Proofs.Ytbomnihiapjmpaa.Tj Go.Proofs.Ytbomnihiapjmpaa.Tk Go.Proofs.Ytbomnihiapjmpaa.Tr Go.Proofs.Ytbomnihiapjmpaa.Ts Go.Proofs.Ytbomnihiapjmpaa.Tt Go.Proofs.Ytbomnihiapjmpaa.Tu Go.Proofs.Ytbomnihiapjmpaa.Tv Go.Proofs.Ytbomnihiapjmpaa.Tw Go.Proofs.Ytbomnihiapjmpaa.Tx
set_option linter.unusedVariables false
set_option linter.unusedSimpArgs false
set_option linter.unusedSectionVars false


set_option maxRecDepth 100000 in
set_option maxHeartbeats 2000000 in
theorem treed_find (k : Int) (x : Sp) (hkey : x.key.size ≤ 2147483647) (hfin : x.fin.size ≤ 2147483647) (hk3 : k = 3 → x.one = false ∧ (-2305843009213693952 ≤ x.lo ∧ x.lo ≤ 2305843009213693952) ∧ (-2305843009213693952 ≤ x.hi ∧ x.hi ≤ 2305843009213693952)) (val lim : Int) (ov wv : Value) (hov : ov.oneCell' = true) (hwv : wv.oneCell' = true) (EL : List En) (hE : ∀ e ∈ EL, e.t = kt k) (s : Nat) (D : List Nat) (ZC : List Value) (tb root : Nat) (cnt : Int) (S : St) (ok : Ok s EL D S) (hroot : Is s D root) (T0 : T) (hT : RM s S T0 root s) (i : Nat) (hf : fnd (kB k x) (kE k x) T0 = some i) (his : i ≠ s) (hi : i ∈ D) (n : Int) (hval : (S i).it.v = .iface 3 (.int .i64 n)) : Does Try.prog 66 [.iface 178 (.pointer (some ⟨tb, 0, none⟩)), .int .i64 (k), .agg #[.int .i64 3, .string x.key, .string x.fin, .bool (x.one), .int .i64 (x.lo), .int .i64 (x.hi), .int .i64 (val), .int .i64 (lim), ov, wv]] [Blk tb [.pointer (some ⟨root, 0, none⟩), .int .i64 (cnt), .pointer (some ⟨s, 0, none⟩)] 180, Ens EL, Sto S D, Blk s ZC 177] (fun v L => ∃ eb ee l2 v2, v = .agg #[.bool true, .int .i64 0, .int .i64 0, l2, v2] ∧ eb.t = kt k ∧ ee.t = kt k ∧ L = [Blk tb [.pointer (some ⟨root, 0, none⟩), .int .i64 cnt, .pointer (some ⟨s, 0, none⟩)] 180, Ens (eb :: ee :: EL), Sto S D, Blk s ZC 177, Own 56 5 l2 1 (spo (S i).it.b (S i).it.e), Own 3 1 v2 1 [.int .i64 n]]) := by
  refine Does.enter 133 Try.func66 rfl rfl rfl fun W F => ?_
  show WPc _ _ _ _ _ [(0, .iface 178 (.pointer (some ⟨tb, 0, none⟩))), (1, .int .i64 (k)), (2, .agg #[.int .i64 3, .string x.key, .string x.fin, .bool (x.one), .int .i64 (x.lo), .int .i64 (x.hi), .int .i64 (val), .int .i64 (lim), ov, wv])] (Blk tb [.pointer (some ⟨root, 0, none⟩), .int .i64 (cnt), .pointer (some ⟨s, 0, none⟩)] 180 :: Ens EL :: Sto S D :: Blk s ZC 177 :: F)
  refine WPc.seq ?_
  refine WPc.region ?_
  refine WP.eff rfl rfl rfl (Eff.box (C := [.int .i64 3, .string x.key, .string x.fin, .bool (x.one), .int .i64 (x.lo), .int .i64 (x.hi), .int .i64 (val), .int .i64 (lim), ov, wv]) rfl rfl rfl) ?_
  rintro _ _ ⟨b1, rfl, rfl⟩
  refine WP.eff rfl rfl rfl (Eff.alloc rfl Ty.z62) ?_
  rintro _ _ ⟨b2, rfl, rfl⟩
  refine WP.nil ?_
  refine Out.next ?_
  refine WPc.seq ?_
  refine WPc.region ?_
  refine WP.val rfl rfl rfl (Val.mk (cs := [.bool false, .int .i64 0, .int .i64 0, .slice none 0 0, .slice none 0 0]) rfl rfl (fun _ => by kernel_rfl)) ?_
  refine WP.eff rfl rfl rfl (Eff.alloc rfl Ty.z62) ?_
  rintro _ _ ⟨b3, rfl, rfl⟩
  refine WP.eff0 rfl rfl (Eff.storeAgg (cs := [.bool false, .int .i64 0, .int .i64 0, .slice none 0 0, .slice none 0 0]) (C' := [.bool false, .int .i64 0, .int .i64 0, .slice none 0 0, .slice none 0 0]) rfl Ty.ag62 rfl rfl rfl rfl (by simp) rfl) ?_
  rintro _ _ rfl
  refine WP.nil ?_
  refine Out.next ?_
  refine WPc.seq ?_
  refine WPc.region ?_
  refine WP.val rfl rfl rfl (Val.move rfl rfl) ?_
  refine WP.val rfl rfl rfl (Val.fieldAddr (j := 1) rfl Ty.fo60_1 rfl rfl) ?_
  refine WP.val rfl rfl rfl (Val.loadAgg (cs := [.string x.key, .string x.fin, .bool (x.one), .int .i64 (x.lo), .int .i64 (x.hi)]) rfl Ty.ag56 rfl rfl (fun w h => h.range 2 rfl rfl)) ?_
  refine WP.eff rfl rfl rfl (Eff.call rfl rfl Try.call94 (spanIn_does k x hkey hfin hk3)) ?_
  rintro _ _ ⟨_, ⟨eb, ee, rfl, hbt, het, hbk, hek, rfl⟩, rfl⟩
  show WP _ _ _ _ _ _ _ (Enp eb :: Enp ee :: Blk b3 [.bool false, .int .i64 0, .int .i64 0, .slice none 0 0, .slice none 0 0] 62 :: Blk b2 [.bool false, .int .i64 0, .int .i64 0, .slice none 0 0, .slice none 0 0] 62 :: Blk b1 [.int .i64 3, .string x.key, .string x.fin, .bool (x.one), .int .i64 (x.lo), .int .i64 (x.hi), .int .i64 (val), .int .i64 (lim), ov, wv] 60 :: Blk tb [.pointer (some ⟨root, 0, none⟩), .int .i64 (cnt), .pointer (some ⟨s, 0, none⟩)] 180 :: Ens EL :: Sto S D :: Blk s ZC 177 :: F)
  have hE2 : ∀ e ∈ eb :: ee :: EL, e.t = kt k := fun e he => by rcases List.mem_cons.1 he with rfl | he; exact hbt; rcases List.mem_cons.1 he with rfl | he; exact het; exact hE e he
  have ok2 : Ok s (eb :: ee :: EL) D S := Ok.mono ok (fun e he => List.mem_cons_of_mem _ (List.mem_cons_of_mem _ he))
  refine WP.perm pl6 ?_
  refine WP.perm pl2 ?_
  refine WP.perm pl2 ?_
  refine WP.conv (fun w h => ens_add h) ?_
  show WP _ _ _ _ _ _ _ (Ens (eb :: ee :: EL) :: Blk b3 [.bool false, .int .i64 0, .int .i64 0, .slice none 0 0, .slice none 0 0] 62 :: Blk b2 [.bool false, .int .i64 0, .int .i64 0, .slice none 0 0, .slice none 0 0] 62 :: Blk b1 [.int .i64 3, .string x.key, .string x.fin, .bool (x.one), .int .i64 (x.lo), .int .i64 (x.hi), .int .i64 (val), .int .i64 (lim), ov, wv] 60 :: Blk tb [.pointer (some ⟨root, 0, none⟩), .int .i64 (cnt), .pointer (some ⟨s, 0, none⟩)] 180 :: Sto S D :: Blk s ZC 177 :: F)
  refine WP.eff rfl rfl rfl (Eff.alloc rfl Ty.z172) ?_
  rintro _ _ ⟨b4, rfl, rfl⟩
  refine WP.eff0 rfl rfl (Eff.storeAgg (cs := [.iface eb.t (eb.u), .iface ee.t (ee.u)]) (C' := [.iface eb.t (eb.u), .iface ee.t (ee.u)]) rfl Ty.ag172 rfl rfl rfl rfl (by simp) rfl) ?_
  rintro _ _ rfl
  refine WP.nil ?_
  refine Out.next ?_
  refine WPc.seq ?_
  refine WPc.region ?_
  refine WP.val rfl rfl rfl (Val.mkFunc rfl rfl rfl) ?_
  refine WP.eff rfl rfl rfl (Eff.alloc rfl Ty.z184) ?_
  rintro _ _ ⟨b5, rfl, rfl⟩
  refine WP.eff0 rfl rfl (Eff.store rfl Ty.sc184 rfl rfl rfl (by simp) st0) ?_
  rintro _ _ rfl
  refine WP.nil ?_
  refine Out.next ?_
  refine WPc.seq ?_
  refine WPc.seq ?_
  refine WPc.region ?_
  refine WP.val rfl rfl rfl (Val.fieldAddr (j := 0) rfl Ty.fo60_0 rfl rfl) ?_
  refine WP.val rfl rfl rfl (Val.load rfl Ty.sc3 rfl (fun w h => h.cell 5 rfl rfl)) ?_
  refine WP.nil ?_
  refine Out.next ?_
  refine WPc.block ?_
  refine WPc.seq ?_
  refine WPc.region ?_
  refine WP.val rfl rfl rfl (Val.eqlK rfl rfl rfl rfl) ?_
  refine WP.val rfl rfl rfl (Val.assign rfl rfl) ?_
  refine WP.nil ?_
  refine Out.next ?_
  refine WPc.condF rfl rfl ?_
  refine WPc.seq ?_
  refine WPc.region ?_
  refine WP.val rfl rfl rfl (Val.eqlK rfl rfl rfl rfl) ?_
  refine WP.val rfl rfl rfl (Val.assign rfl rfl) ?_
  refine WP.nil ?_
  refine Out.next ?_
  refine WPc.condF rfl rfl ?_
  refine WPc.seq ?_
  refine WPc.region ?_
  refine WP.val rfl rfl rfl (Val.eqlK rfl rfl rfl rfl) ?_
  refine WP.val rfl rfl rfl (Val.assign rfl rfl) ?_
  refine WP.nil ?_
  refine Out.next ?_
  refine WPc.condT rfl rfl ?_
  refine WPc.seq ?_
  refine WPc.region ?_
  refine WP.val rfl rfl rfl (Val.move rfl rfl) ?_
  refine WP.val rfl rfl rfl (Val.loadAgg (cs := [.iface eb.t (eb.u), .iface ee.t (ee.u)]) rfl Ty.ag172 rfl rfl (fun w h => h.range 1 rfl rfl)) ?_
  refine WP.perm pl8 ?_
  refine WP.perm pl8 ?_
  refine WP.perm pl4 ?_
  refine WP.perm pl8 ?_
  refine WP.eff rfl rfl rfl (Eff.invoke (f := 136) rfl rfl rfl (fun _ => by kernel_rfl) Try.call136 (Find_some (eb :: ee :: EL) (kt k) hE2 s D ZC tb root cnt S ok2 hroot T0 hT eb ee List.mem_cons_self (List.mem_cons_of_mem _ List.mem_cons_self) i (by rw [hbk, hek]; exact hf) his hi)) ?_
  rintro _ _ ⟨_, ⟨rfl, rfl⟩, rfl⟩
  show WP _ _ _ _ _ _ _ (Blk tb [.pointer (some ⟨root, 0, none⟩), .int .i64 (cnt), .pointer (some ⟨s, 0, none⟩)] 180 :: Ens (eb :: ee :: EL) :: Sto S D :: Blk s ZC 177 :: Blk b5 [.func (.func 95) #[] #[.pointer (some ⟨b3, 0, none⟩)]] 184 :: Blk b4 [.iface eb.t (eb.u), .iface ee.t (ee.u)] 172 :: Blk b3 [.bool false, .int .i64 0, .int .i64 0, .slice none 0 0, .slice none 0 0] 62 :: Blk b2 [.bool false, .int .i64 0, .int .i64 0, .slice none 0 0, .slice none 0 0] 62 :: Blk b1 [.int .i64 3, .string x.key, .string x.fin, .bool (x.one), .int .i64 (x.lo), .int .i64 (x.hi), .int .i64 (val), .int .i64 (lim), ov, wv] 60 :: F)
  refine WP.val rfl rfl rfl (Val.assign rfl rfl) ?_
  refine WP.nil ?_
  refine Out.next ?_
  refine WPc.seq ?_
  refine WPc.region ?_
  refine WP.val rfl rfl rfl (Val.move rfl rfl) ?_
  refine WP.val rfl rfl rfl (Val.nilPn rfl Ty.ip182 rfl rfl) ?_
  refine WP.nil ?_
  refine Out.next ?_
  refine WPc.condT rfl rfl ?_
  refine WPc.seq ?_
  refine WPc.region ?_
  refine WP.val rfl rfl rfl (Val.fieldAddr (j := 0) rfl Ty.fo62_0 rfl rfl) ?_
  refine WP.perm pl6 ?_
  refine WP.eff0 rfl rfl (Eff.store rfl Ty.sc4 rfl rfl rfl (by simp) st0) ?_
  rintro _ _ rfl
  refine WP.nil ?_
  refine Out.next ?_
  refine WPc.region ?_
  refine WP.val rfl rfl rfl (Val.load rfl Ty.sc184 rfl (fun w h => h.cell 5 rfl rfl)) ?_
  refine WP.val rfl rfl rfl (Val.move rfl rfl) ?_
  refine WP.conv (fun w h => (Sat.ownNil (e := 56) (k := 5) (Sat.ownNil (e := 3) (k := 1) h))) ?_
  show WP _ _ _ _ _ _ _ (Own 56 5 (.slice none 0 0) 0 (([] : List Value)) :: Own 3 1 (.slice none 0 0) 0 (([] : List Value)) :: Blk b3 [.bool true, .int .i64 0, .int .i64 0, .slice none 0 0, .slice none 0 0] 62 :: Blk tb [.pointer (some ⟨root, 0, none⟩), .int .i64 (cnt), .pointer (some ⟨s, 0, none⟩)] 180 :: Ens (eb :: ee :: EL) :: Sto S D :: Blk s ZC 177 :: Blk b5 [.func (.func 95) #[] #[.pointer (some ⟨b3, 0, none⟩)]] 184 :: Blk b4 [.iface eb.t (eb.u), .iface ee.t (ee.u)] 172 :: Blk b2 [.bool false, .int .i64 0, .int .i64 0, .slice none 0 0, .slice none 0 0] 62 :: Blk b1 [.int .i64 3, .string x.key, .string x.fin, .bool (x.one), .int .i64 (x.lo), .int .i64 (x.hi), .int .i64 (val), .int .i64 (lim), ov, wv] 60 :: F)
  refine WP.perm pl5 ?_
  refine WP.perm pl5 ?_
  refine WP.perm pl3 ?_
  refine WP.perm pl3 ?_
  refine WP.perm pl4 ?_
  refine WP.eff rfl rfl rfl (Eff.callF (args' := [.pointer (some ⟨i, 0, none⟩), .pointer (some ⟨b3, 0, none⟩)]) rfl rfl rfl rfl Try.call95 (rec_does (eb :: ee :: EL) (kt k) hE2 s D S ok2 i hi n hval b3 true 0 0 (.slice none 0 0) (.slice none 0 0) 0 (by omega) [] [])) ?_
  rintro _ _ ⟨_, ⟨l2, v2, rfl⟩, rfl⟩
  show WP _ _ _ _ _ _ _ (Blk b3 [.bool true, .int .i64 0, .int .i64 0, l2, v2] 62 :: Own 56 5 l2 ((0 + 1)) (([] : List Value) ++ spo (S i).it.b (S i).it.e) :: Own 3 1 v2 ((0 + 1)) (([] : List Value) ++ [.int .i64 n]) :: Ens (eb :: ee :: EL) :: Sto S D :: Blk tb [.pointer (some ⟨root, 0, none⟩), .int .i64 (cnt), .pointer (some ⟨s, 0, none⟩)] 180 :: Blk s ZC 177 :: Blk b5 [.func (.func 95) #[] #[.pointer (some ⟨b3, 0, none⟩)]] 184 :: Blk b4 [.iface eb.t (eb.u), .iface ee.t (ee.u)] 172 :: Blk b2 [.bool false, .int .i64 0, .int .i64 0, .slice none 0 0, .slice none 0 0] 62 :: Blk b1 [.int .i64 3, .string x.key, .string x.fin, .bool (x.one), .int .i64 (x.lo), .int .i64 (x.hi), .int .i64 (val), .int .i64 (lim), ov, wv] 60 :: F)
  refine WP.perm pl1 ?_
  refine WP.fact (fun w h => own_slice h) (fun hso1 => ?_)
  have hl2 : l2.oneCell' = true := by obtain ⟨_, _, rfl⟩ := hso1; rfl
  refine WP.perm pl2 ?_
  refine WP.fact (fun w h => own_slice h) (fun hso2 => ?_)
  have hv2 : v2.oneCell' = true := by obtain ⟨_, _, rfl⟩ := hso2; rfl
  refine WP.nil ?_
  refine Out.block ?_
  refine Out.next ?_
  refine WPc.seq ?_
  refine WPc.region ?_
  refine WP.val rfl rfl rfl (Val.loadAgg (cs := [.bool true, .int .i64 0, .int .i64 0, l2, v2]) rfl Ty.ag62 rfl rfl (fun w h => h.range 2 rfl rfl)) ?_
  refine WP.perm pl9 ?_
  refine WP.eff0 rfl rfl (Eff.storeAgg (cs := [.bool true, .int .i64 0, .int .i64 0, l2, v2]) (C' := [.bool true, .int .i64 0, .int .i64 0, l2, v2]) rfl Ty.ag62 rfl rfl rfl (by simp only [List.all_cons, List.all_nil, Bool.and_true, oc_int, oc_str, oc_bool, oc_ptr, oc_slice, oc_iface, oc_map, hl2, hv2]) (by simp) rfl) ?_
  rintro _ _ rfl
  refine WP.nil ?_
  refine Out.next ?_
  refine WPc.ret ?_
  refine Out.perm pl3 ?_
  refine Out.drop ?_
  refine Out.perm pl7 ?_
  refine Out.drop ?_
  refine Out.perm pl7 ?_
  refine Out.drop ?_
  refine Out.perm pl7 ?_
  refine Out.drop ?_
  refine Out.perm pl1 ?_
  refine Out.perm pl2 ?_
  refine Out.perm pl6 ?_
  refine Out.perm pl5 ?_
  refine Out.perm pl5 ?_
  refine Out.perm pl6 ?_
  refine Out.perm pl6 ?_
  exact Out.retRun (L' := [Blk tb [.pointer (some ⟨root, 0, none⟩), .int .i64 cnt, .pointer (some ⟨s, 0, none⟩)] 180, Ens (eb :: ee :: EL), Sto S D, Blk s ZC 177, Own 56 5 l2 1 (spo (S i).it.b (S i).it.e), Own 3 1 v2 1 [.int .i64 n]]) (results_cell (cs := [.bool true, .int .i64 0, .int .i64 0, l2, v2]) Try.results66 Ty.ag62 rfl rfl (fun w h => h.range 0 rfl rfl)) ⟨eb, ee, l2, v2, rfl, hbt, het, rfl⟩ (fun w h => h.drop)
set_option maxRecDepth 100000 in
set_option maxHeartbeats 2000000 in
theorem treed_find0 (k : Int) (x : Sp) (hkey : x.key.size ≤ 2147483647) (hfin : x.fin.size ≤ 2147483647) (hk3 : k = 3 → x.one = false ∧ (-2305843009213693952 ≤ x.lo ∧ x.lo ≤ 2305843009213693952) ∧ (-2305843009213693952 ≤ x.hi ∧ x.hi ≤ 2305843009213693952)) (val lim : Int) (ov wv : Value) (hov : ov.oneCell' = true) (hwv : wv.oneCell' = true) (EL : List En) (hE : ∀ e ∈ EL, e.t = kt k) (s : Nat) (D : List Nat) (ZC : List Value) (tb root : Nat) (cnt : Int) (S : St) (ok : Ok s EL D S) (hroot : Is s D root) (T0 : T) (hT : RM s S T0 root s) (hf : fnd (kB k x) (kE k x) T0 = none) : Does Try.prog 66 [.iface 178 (.pointer (some ⟨tb, 0, none⟩)), .int .i64 (k), .agg #[.int .i64 3, .string x.key, .string x.fin, .bool (x.one), .int .i64 (x.lo), .int .i64 (x.hi), .int .i64 (val), .int .i64 (lim), ov, wv]] [Blk tb [.pointer (some ⟨root, 0, none⟩), .int .i64 (cnt), .pointer (some ⟨s, 0, none⟩)] 180, Ens EL, Sto S D, Blk s ZC 177] (fun v L => ∃ eb ee, v = .agg #[.bool false, .int .i64 0, .int .i64 0, .slice none 0 0, .slice none 0 0] ∧ eb.t = kt k ∧ ee.t = kt k ∧ L = [Blk tb [.pointer (some ⟨root, 0, none⟩), .int .i64 cnt, .pointer (some ⟨s, 0, none⟩)] 180, Ens (eb :: ee :: EL), Sto S D, Blk s ZC 177]) := by
  refine Does.enter 133 Try.func66 rfl rfl rfl fun W F => ?_
  show WPc _ _ _ _ _ [(0, .iface 178 (.pointer (some ⟨tb, 0, none⟩))), (1, .int .i64 (k)), (2, .agg #[.int .i64 3, .string x.key, .string x.fin, .bool (x.one), .int .i64 (x.lo), .int .i64 (x.hi), .int .i64 (val), .int .i64 (lim), ov, wv])] (Blk tb [.pointer (some ⟨root, 0, none⟩), .int .i64 (cnt), .pointer (some ⟨s, 0, none⟩)] 180 :: Ens EL :: Sto S D :: Blk s ZC 177 :: F)
  refine WPc.seq ?_
  refine WPc.region ?_
  refine WP.eff rfl rfl rfl (Eff.box (C := [.int .i64 3, .string x.key, .string x.fin, .bool (x.one), .int .i64 (x.lo), .int .i64 (x.hi), .int .i64 (val), .int .i64 (lim), ov, wv]) rfl rfl rfl) ?_
  rintro _ _ ⟨b1, rfl, rfl⟩
  refine WP.eff rfl rfl rfl (Eff.alloc rfl Ty.z62) ?_
  rintro _ _ ⟨b2, rfl, rfl⟩
  refine WP.nil ?_
  refine Out.next ?_
  refine WPc.seq ?_
  refine WPc.region ?_
  refine WP.val rfl rfl rfl (Val.mk (cs := [.bool false, .int .i64 0, .int .i64 0, .slice none 0 0, .slice none 0 0]) rfl rfl (fun _ => by kernel_rfl)) ?_
  refine WP.eff rfl rfl rfl (Eff.alloc rfl Ty.z62) ?_
  rintro _ _ ⟨b3, rfl, rfl⟩
  refine WP.eff0 rfl rfl (Eff.storeAgg (cs := [.bool false, .int .i64 0, .int .i64 0, .slice none 0 0, .slice none 0 0]) (C' := [.bool false, .int .i64 0, .int .i64 0, .slice none 0 0, .slice none 0 0]) rfl Ty.ag62 rfl rfl rfl rfl (by simp) rfl) ?_
  rintro _ _ rfl
  refine WP.nil ?_
  refine Out.next ?_
  refine WPc.seq ?_
  refine WPc.region ?_
  refine WP.val rfl rfl rfl (Val.move rfl rfl) ?_
  refine WP.val rfl rfl rfl (Val.fieldAddr (j := 1) rfl Ty.fo60_1 rfl rfl) ?_
  refine WP.val rfl rfl rfl (Val.loadAgg (cs := [.string x.key, .string x.fin, .bool (x.one), .int .i64 (x.lo), .int .i64 (x.hi)]) rfl Ty.ag56 rfl rfl (fun w h => h.range 2 rfl rfl)) ?_
  refine WP.eff rfl rfl rfl (Eff.call rfl rfl Try.call94 (spanIn_does k x hkey hfin hk3)) ?_
  rintro _ _ ⟨_, ⟨eb, ee, rfl, hbt, het, hbk, hek, rfl⟩, rfl⟩
  show WP _ _ _ _ _ _ _ (Enp eb :: Enp ee :: Blk b3 [.bool false, .int .i64 0, .int .i64 0, .slice none 0 0, .slice none 0 0] 62 :: Blk b2 [.bool false, .int .i64 0, .int .i64 0, .slice none 0 0, .slice none 0 0] 62 :: Blk b1 [.int .i64 3, .string x.key, .string x.fin, .bool (x.one), .int .i64 (x.lo), .int .i64 (x.hi), .int .i64 (val), .int .i64 (lim), ov, wv] 60 :: Blk tb [.pointer (some ⟨root, 0, none⟩), .int .i64 (cnt), .pointer (some ⟨s, 0, none⟩)] 180 :: Ens EL :: Sto S D :: Blk s ZC 177 :: F)
  have hE2 : ∀ e ∈ eb :: ee :: EL, e.t = kt k := fun e he => by rcases List.mem_cons.1 he with rfl | he; exact hbt; rcases List.mem_cons.1 he with rfl | he; exact het; exact hE e he
  have ok2 : Ok s (eb :: ee :: EL) D S := Ok.mono ok (fun e he => List.mem_cons_of_mem _ (List.mem_cons_of_mem _ he))
  refine WP.perm pl6 ?_
  refine WP.perm pl2 ?_
  refine WP.perm pl2 ?_
  refine WP.conv (fun w h => ens_add h) ?_
  show WP _ _ _ _ _ _ _ (Ens (eb :: ee :: EL) :: Blk b3 [.bool false, .int .i64 0, .int .i64 0, .slice none 0 0, .slice none 0 0] 62 :: Blk b2 [.bool false, .int .i64 0, .int .i64 0, .slice none 0 0, .slice none 0 0] 62 :: Blk b1 [.int .i64 3, .string x.key, .string x.fin, .bool (x.one), .int .i64 (x.lo), .int .i64 (x.hi), .int .i64 (val), .int .i64 (lim), ov, wv] 60 :: Blk tb [.pointer (some ⟨root, 0, none⟩), .int .i64 (cnt), .pointer (some ⟨s, 0, none⟩)] 180 :: Sto S D :: Blk s ZC 177 :: F)
  refine WP.eff rfl rfl rfl (Eff.alloc rfl Ty.z172) ?_
  rintro _ _ ⟨b4, rfl, rfl⟩
  refine WP.eff0 rfl rfl (Eff.storeAgg (cs := [.iface eb.t (eb.u), .iface ee.t (ee.u)]) (C' := [.iface eb.t (eb.u), .iface ee.t (ee.u)]) rfl Ty.ag172 rfl rfl rfl rfl (by simp) rfl) ?_
  rintro _ _ rfl
  refine WP.nil ?_
  refine Out.next ?_
  refine WPc.seq ?_
  refine WPc.region ?_
  refine WP.val rfl rfl rfl (Val.mkFunc rfl rfl rfl) ?_
  refine WP.eff rfl rfl rfl (Eff.alloc rfl Ty.z184) ?_
  rintro _ _ ⟨b5, rfl, rfl⟩
  refine WP.eff0 rfl rfl (Eff.store rfl Ty.sc184 rfl rfl rfl (by simp) st0) ?_
  rintro _ _ rfl
  refine WP.nil ?_
  refine Out.next ?_
  refine WPc.seq ?_
  refine WPc.seq ?_
  refine WPc.region ?_
  refine WP.val rfl rfl rfl (Val.fieldAddr (j := 0) rfl Ty.fo60_0 rfl rfl) ?_
  refine WP.val rfl rfl rfl (Val.load rfl Ty.sc3 rfl (fun w h => h.cell 5 rfl rfl)) ?_
  refine WP.nil ?_
  refine Out.next ?_
  refine WPc.block ?_
  refine WPc.seq ?_
  refine WPc.region ?_
  refine WP.val rfl rfl rfl (Val.eqlK rfl rfl rfl rfl) ?_
  refine WP.val rfl rfl rfl (Val.assign rfl rfl) ?_
  refine WP.nil ?_
  refine Out.next ?_
  refine WPc.condF rfl rfl ?_
  refine WPc.seq ?_
  refine WPc.region ?_
  refine WP.val rfl rfl rfl (Val.eqlK rfl rfl rfl rfl) ?_
  refine WP.val rfl rfl rfl (Val.assign rfl rfl) ?_
  refine WP.nil ?_
  refine Out.next ?_
  refine WPc.condF rfl rfl ?_
  refine WPc.seq ?_
  refine WPc.region ?_
  refine WP.val rfl rfl rfl (Val.eqlK rfl rfl rfl rfl) ?_
  refine WP.val rfl rfl rfl (Val.assign rfl rfl) ?_
  refine WP.nil ?_
  refine Out.next ?_
  refine WPc.condT rfl rfl ?_
  refine WPc.seq ?_
  refine WPc.region ?_
  refine WP.val rfl rfl rfl (Val.move rfl rfl) ?_
  refine WP.val rfl rfl rfl (Val.loadAgg (cs := [.iface eb.t (eb.u), .iface ee.t (ee.u)]) rfl Ty.ag172 rfl rfl (fun w h => h.range 1 rfl rfl)) ?_
  refine WP.perm pl8 ?_
  refine WP.perm pl8 ?_
  refine WP.perm pl4 ?_
  refine WP.perm pl8 ?_
  refine WP.eff rfl rfl rfl (Eff.invoke (f := 136) rfl rfl rfl (fun _ => by kernel_rfl) Try.call136 (Find_none (eb :: ee :: EL) (kt k) hE2 s D ZC tb root cnt S ok2 hroot T0 hT eb ee List.mem_cons_self (List.mem_cons_of_mem _ List.mem_cons_self) (by rw [hbk, hek]; exact hf))) ?_
  rintro _ _ ⟨_, ⟨rfl, rfl⟩, rfl⟩
  show WP _ _ _ _ _ _ _ (Blk tb [.pointer (some ⟨root, 0, none⟩), .int .i64 (cnt), .pointer (some ⟨s, 0, none⟩)] 180 :: Ens (eb :: ee :: EL) :: Sto S D :: Blk s ZC 177 :: Blk b5 [.func (.func 95) #[] #[.pointer (some ⟨b3, 0, none⟩)]] 184 :: Blk b4 [.iface eb.t (eb.u), .iface ee.t (ee.u)] 172 :: Blk b3 [.bool false, .int .i64 0, .int .i64 0, .slice none 0 0, .slice none 0 0] 62 :: Blk b2 [.bool false, .int .i64 0, .int .i64 0, .slice none 0 0, .slice none 0 0] 62 :: Blk b1 [.int .i64 3, .string x.key, .string x.fin, .bool (x.one), .int .i64 (x.lo), .int .i64 (x.hi), .int .i64 (val), .int .i64 (lim), ov, wv] 60 :: F)
  refine WP.val rfl rfl rfl (Val.assign rfl rfl) ?_
  refine WP.nil ?_
  refine Out.next ?_
  refine WPc.seq ?_
  refine WPc.region ?_
  refine WP.val rfl rfl rfl (Val.move rfl rfl) ?_
  refine WP.val rfl rfl rfl (Val.nilPn rfl Ty.ip182 rfl rfl) ?_
  refine WP.nil ?_
  refine Out.next ?_
  refine WPc.condF rfl rfl ?_
  refine WPc.skip ?_
  refine Out.block ?_
  refine Out.next ?_
  refine WPc.seq ?_
  refine WPc.region ?_
  refine WP.val rfl rfl rfl (Val.loadAgg (cs := [.bool false, .int .i64 0, .int .i64 0, .slice none 0 0, .slice none 0 0]) rfl Ty.ag62 rfl rfl (fun w h => h.range 6 rfl rfl)) ?_
  refine WP.perm pl7 ?_
  refine WP.eff0 rfl rfl (Eff.storeAgg (cs := [.bool false, .int .i64 0, .int .i64 0, .slice none 0 0, .slice none 0 0]) (C' := [.bool false, .int .i64 0, .int .i64 0, .slice none 0 0, .slice none 0 0]) rfl Ty.ag62 rfl rfl rfl rfl (by simp) rfl) ?_
  rintro _ _ rfl
  refine WP.nil ?_
  refine Out.next ?_
  refine WPc.ret ?_
  refine Out.perm pl5 ?_
  refine Out.drop ?_
  refine Out.perm pl5 ?_
  refine Out.drop ?_
  refine Out.perm pl5 ?_
  refine Out.drop ?_
  refine Out.perm pl5 ?_
  refine Out.drop ?_
  exact Out.retRun (L' := [Blk tb [.pointer (some ⟨root, 0, none⟩), .int .i64 cnt, .pointer (some ⟨s, 0, none⟩)] 180, Ens (eb :: ee :: EL), Sto S D, Blk s ZC 177]) (results_cell (cs := [.bool false, .int .i64 0, .int .i64 0, .slice none 0 0, .slice none 0 0]) Try.results66 Ty.ag62 rfl rfl (fun w h => h.range 0 rfl rfl)) ⟨eb, ee, rfl, hbt, het, rfl⟩ (fun w h => h.drop)

end Go.Proofs.Ytbomnihiapjmpaa.TB

namespace Go.Proofs.Ytbomnihiapjmpaa.TC
open Go.RowKit Go.Proofs.Ytbomnihiapjmpaa Go.Proofs.Ytbomnihiapjmpaa.Sl Go.Proofs.Ytbomnihiapjmpaa.TrP Go.Proofs.Ytbomnihiapjmpaa.Tb Go.Proofs.Ytbomnihiapjmpaa.Tc Go.Proofs.Ytbomnihiapjmpaa.Td Go.Proofs.Ytbomnihiapjmpaa.Tn Go.Proofs.Ytbomnihiapjmpaa.Tr Go.Proofs.Ytbomnihiapjmpaa.Tx
set_option linter.unusedVariables false
set_option linter.unusedSimpArgs false
set_option linter.unusedSectionVars false


structure TOp where
  k : Int
  x : Sp
  val : Int
  lim : Int
  ov : Value
  wv : Value
def TOp.cells (o : TOp) : List Value := [.int .i64 o.k, .string o.x.key, .string o.x.fin, .bool o.x.one, .int .i64 o.x.lo, .int .i64 o.x.hi, .int .i64 o.val, .int .i64 o.lim, o.ov, o.wv]
theorem TOp.len (o : TOp) : o.cells.length = 10 := rfl
def Sp.cells (x : Sp) : List Value := [.string x.key, .string x.fin, .bool x.one, .int .i64 x.lo, .int .i64 x.hi]
theorem Sp.len (x : Sp) : (Sp.cells x).length = 5 := rfl
def iv (n : Int) : List Value := [.int .i64 n]
theorem iv_len (n : Int) : (iv n).length = 1 := rfl
def En0 : En := ⟨⟨0, 0, []⟩, 0, .nilIface⟩
def S0 : St := fun _ => ⟨⟨En0, En0, 0, .nilIface⟩, En0, 0, 0, 0, 0⟩
/-- a tree in memory -/
structure TQ where
  tb : Nat
  s : Nat
  root : Nat
  cnt : Int
  EL : List En
  D : List Nat
  S : St
abbrev ZZ : List Value := [.nilIface, .nilIface, .nilIface, .nilIface, .pointer none, .pointer none, .pointer none, .int .i64 0]
def TM (q : TQ) : HProp := Sep [Blk q.tb [.pointer (some ⟨q.root, 0, none⟩), .int .i64 q.cnt, .pointer (some ⟨q.s, 0, none⟩)] 180, Ens q.EL, Sto q.S q.D, Blk q.s ZZ 177]
structure TAns where
  ok : Bool
  n : Int
  most : Int
  l : List Sp
  vs : List Int
/-- an answer with its slices -/
structure WA where
  a : TAns
  lv : Value
  vv : Value
def WA.cells (x : WA) : List Value := [.bool x.a.ok, .int .i64 x.a.n, .int .i64 x.a.most, x.lv, x.vv]
theorem WA.len (x : WA) : x.cells.length = 5 := rfl
def AnP (a : TAns) (lv vv : Value) : List HProp := [Own 56 5 lv a.l.length (flatOf Sp.cells a.l), Own 3 1 vv a.vs.length (flatOf iv a.vs)]
def WAP (x : WA) : HProp := Sep (AnP x.a x.lv x.vv)
/-- what an operation does, as an invariant says it -/
def TStep (A : HProp) (k : Int) (ops : List TOp) (I : Nat → TQ → List TAns → Prop) : Prop := ∀ (i : Nat) (o : TOp) (q : TQ) (al : List TAns), ops[i]? = some o → al.length = i → I i q al → Does Try.prog 66 [.iface 178 (.pointer (some ⟨q.tb, 0, none⟩)), .int .i64 k, .agg o.cells.toArray] [A, TM q] (fun v L => ∃ (q' : TQ) (a : TAns) (lv vv : Value), I (i + 1) q' (al ++ [a]) ∧ q'.tb = q.tb ∧ v = .agg #[.bool a.ok, .int .i64 a.n, .int .i64 a.most, lv, vv] ∧ L = [A, TM q', Own 56 5 lv a.l.length (flatOf Sp.cells a.l), Own 3 1 vv a.vs.length (flatOf iv a.vs)])
theorem tm_mk {W w : World} {L : List HProp} {tb s root : Nat} {cnt : Int} {EL : List En} {D : List Nat} {S : St} (h : Sat W (Blk tb [.pointer (some ⟨root, 0, none⟩), .int .i64 cnt, .pointer (some ⟨s, 0, none⟩)] 180 :: Ens EL :: Sto S D :: Blk s ZZ 177 :: L) w) : Sat W (TM ⟨tb, s, root, cnt, EL, D, S⟩ :: L) w := Sat.sep_mk (M := [_, _, _, _]) h
theorem tm_new {W w : World} {L : List HProp} {tb s : Nat} {S : St} (h : Sat W (Blk tb [.pointer (some ⟨s, 0, none⟩), .int .i64 0, .pointer (some ⟨s, 0, none⟩)] 180 :: Blk s ZZ 177 :: L) w) : Sat W (TM ⟨tb, s, s, 0, [], [], S⟩ :: L) w := by
  have h1 : Sat W (Ens [] :: Sto S [] :: Blk tb [.pointer (some ⟨s, 0, none⟩), .int .i64 0, .pointer (some ⟨s, 0, none⟩)] 180 :: Blk s ZZ 177 :: L) w := Sat.allNil (Sat.kNil h)
  exact tm_mk (h1.perm pl2)
theorem kds_snoc {α : Type} {R : α → HProp} {W w : World} {L : List HProp} {x : α} {l : List α} (h : Sat W (R x :: Kds R l :: L) w) : Sat W (Kds R (l ++ [x]) :: L) w := Sat.kPerm (List.perm_append_comm (l₁ := [x]) (l₂ := l)) h.kConsMk
theorem wap_mk {W w : World} {L : List HProp} {a : TAns} {lv vv : Value} (h : Sat W (Own 56 5 lv a.l.length (flatOf Sp.cells a.l) :: Own 3 1 vv a.vs.length (flatOf iv a.vs) :: L) w) : Sat W (WAP ⟨a, lv, vv⟩ :: L) w := Sat.sep_mk (M := [_, _]) h
set_option maxRecDepth 100000 in
set_option maxHeartbeats 2000000 in
theorem tree_nil (A : HProp) (k : Int) (I : Nat → TQ → List TAns → Prop) (hI0 : ∀ tb s S, I 0 ⟨tb, s, s, 0, [], [], S⟩ []) (hS : TStep A k [] I) (a : Option Addr) (c : Nat) : Does Try.prog 27 [.int .i64 (k), .slice a 0 c] [A] (fun v L => ∃ (q : TQ) (was : List WA), I 0 q (was.map WA.a) ∧ L = [A, Own 62 5 v was.length (flatOf WA.cells was), Kds WAP was]) := by
  refine Does.enter 26 Try.func27 rfl rfl rfl fun W F => ?_
  show WPc _ _ _ _ _ [(0, .int .i64 (k)), (1, .slice a 0 c)] (A :: F)
  refine WPc.seq ?_
  refine WPc.region ?_
  refine WP.val rfl rfl rfl (Val.assign rfl rfl) ?_
  refine WP.nil ?_
  refine Out.next ?_
  refine WPc.seq ?_
  refine WPc.region ?_
  refine WP.eff rfl rfl rfl (Eff.call rfl rfl Try.call65 (new_does)) ?_
  rintro _ _ ⟨_, ⟨tb, s, rfl, rfl⟩, rfl⟩
  show WP _ _ _ _ _ _ _ (Blk tb [.pointer (some ⟨s, 0, none⟩), .int .i64 (0), .pointer (some ⟨s, 0, none⟩)] 180 :: Blk s ZZ 177 :: A :: F)
  refine WP.val rfl rfl rfl (Val.assign rfl rfl) ?_
  refine WP.nil ?_
  refine Out.next ?_
  refine WPc.seq ?_
  refine WPc.perm pl1 ?_
  refine WPc.perm pl1 ?_
  refine WPc.conv (fun w h => tm_new (S := S0) h) ?_
  refine WPc.conv (fun w h => Sat.ownNil (e := 62) (k := 5) h) ?_
  refine WPc.conv (fun w h => Sat.kNil (R := WAP) h) ?_
  show WPc _ _ _ _ _ _ (Kds WAP [] :: Own 62 5 (.slice none 0 0) 0 ([]) :: TM ⟨tb, s, s, 0, [], [], S0⟩ :: A :: F)
  refine WPc.region ?_
  refine WP.val rfl rfl rfl (Val.assign rfl rfl) ?_
  refine WP.nil ?_
  refine Out.next ?_
  refine WPc.seq ?_
  refine WPc.seq ?_
  refine WPc.region ?_
  refine WP.val rfl rfl rfl (Val.assign rfl rfl) ?_
  refine WP.nil ?_
  refine Out.next ?_
  refine WPc.block ?_
  refine WPc.perm pl1 ?_
  refine WPc.perm pl2 ?_
  refine WPc.perm pl3 ?_
  refine WPc.loop (ι := Nat × TQ × List WA × Value) (fun ⟨i, q, was, v⟩ => i ≤ 0 ∧ I i q (was.map WA.a) ∧ (was.map WA.a).length = i ∧ q.tb = tb) (fun ⟨i, q, was, v⟩ => [(0, .int .i64 (k)), (1, .slice a 0 c), (5, .iface 178 (.pointer (some ⟨tb, 0, none⟩))), (6, v), (7, .int .i64 (((i : Nat) : Int)))]) (fun ⟨i, q, was, v⟩ => A :: TM q :: Own 62 5 v was.length (flatOf WA.cells was) :: Kds WAP was :: F) (fun ⟨i, q, was, v⟩ => 0 - i) (0, ⟨tb, s, s, 0, [], [], S0⟩, [], .slice none 0 0) ⟨Nat.zero_le _, hI0 tb s _, rfl, rfl⟩ ((Sub.cons rfl (Sub.cons rfl (Sub.cons rfl (Sub.cons rfl (Sub.cons rfl Sub.nil)))))) (fun _ h => h) ?_
  rintro ⟨i, q, was, v⟩ ⟨hi, hI, hwl, htq⟩
  show WPc _ _ _ _ _ [(0, .int .i64 (k)), (1, .slice a 0 c), (5, .iface 178 (.pointer (some ⟨tb, 0, none⟩))), (6, v), (7, .int .i64 (((i : Nat) : Int)))] (A :: TM q :: Own 62 5 v was.length (flatOf WA.cells was) :: Kds WAP was :: F)
  replace hi : i ≤ 0 := hi
  replace hI : I i q (was.map WA.a) := hI
  replace hwl : (was.map WA.a).length = i := hwl
  replace htq : q.tb = tb := htq
  subst htq
  have hwl2 : was.length = i := by rw [← hwl, List.length_map]
  refine WPc.seq ?_
  refine WPc.seq ?_
  refine WPc.region ?_
  refine WP.val rfl rfl rfl (Val.move rfl rfl) ?_
  refine WP.val rfl rfl rfl (Val.move rfl rfl) ?_
  refine WP.val rfl rfl rfl (Val.len rfl Ty.sl47 rfl) ?_
  refine WP.val rfl rfl rfl (Val.lss rfl rfl rfl) ?_
  refine WP.nil ?_
  refine Out.next ?_
  refine WPc.ifP rfl (fun h1 => ?_) (fun h1 => ?_)
  · skip
    have h1 : (((i : Nat) : Int) < (0 : Int)) := h1
    exfalso; omega
  · skip
    have h1 : ¬ (((i : Nat) : Int) < (0 : Int)) := h1
    refine WPc.exit ?_
    refine Out.then_exit ?_
    refine Out.then_exit ?_
    refine Out.block_exit ?_
    refine Out.next ?_
    refine WPc.seq ?_
    refine WPc.region ?_
    refine WP.val rfl rfl rfl (Val.move rfl rfl) ?_
    refine WP.val rfl rfl rfl (Val.assign rfl rfl) ?_
    refine WP.nil ?_
    refine Out.next ?_
    refine WPc.ret ?_
    have hin : i = 0 := by omega
    rw [hin] at hI hwl
    refine Out.perm pl1 ?_
    refine Out.drop ?_
    exact Out.ret1 (L' := _) Try.results27 rfl ⟨q, was, hI, rfl⟩ (fun _ h => h)

set_option maxRecDepth 100000 in
set_option maxHeartbeats 2000000 in
theorem tree_row (A : HProp) (k : Int) (I : Nat → TQ → List TAns → Prop) (hI0 : ∀ tb s S, I 0 ⟨tb, s, s, 0, [], [], S⟩ []) (l : List TOp) (hl : l.length ≤ 65540) (hS : TStep A k l I) (b0 o0 c0 : Nat) (hr : ∀ w, Holds A w → ∀ i x, l[i]? = some x → w.rangeAt b0 (o0 + i * 10) (TOp.cells x)) : Does Try.prog 27 [.int .i64 (k), .slice (some ⟨b0, o0, none⟩) l.length c0] [A] (fun v L => ∃ (q : TQ) (was : List WA), I l.length q (was.map WA.a) ∧ L = [A, Own 62 5 v was.length (flatOf WA.cells was), Kds WAP was]) := by
  refine Does.enter 26 Try.func27 rfl rfl rfl fun W F => ?_
  show WPc _ _ _ _ _ [(0, .int .i64 (k)), (1, .slice (some ⟨b0, o0, none⟩) l.length c0)] (A :: F)
  refine WPc.seq ?_
  refine WPc.region ?_
  refine WP.val rfl rfl rfl (Val.assign rfl rfl) ?_
  refine WP.nil ?_
  refine Out.next ?_
  refine WPc.seq ?_
  refine WPc.region ?_
  refine WP.eff rfl rfl rfl (Eff.call rfl rfl Try.call65 (new_does)) ?_
  rintro _ _ ⟨_, ⟨tb, s, rfl, rfl⟩, rfl⟩
  show WP _ _ _ _ _ _ _ (Blk tb [.pointer (some ⟨s, 0, none⟩), .int .i64 (0), .pointer (some ⟨s, 0, none⟩)] 180 :: Blk s ZZ 177 :: A :: F)
  refine WP.val rfl rfl rfl (Val.assign rfl rfl) ?_
  refine WP.nil ?_
  refine Out.next ?_
  refine WPc.seq ?_
  refine WPc.perm pl1 ?_
  refine WPc.perm pl1 ?_
  refine WPc.conv (fun w h => tm_new (S := S0) h) ?_
  refine WPc.conv (fun w h => Sat.ownNil (e := 62) (k := 5) h) ?_
  refine WPc.conv (fun w h => Sat.kNil (R := WAP) h) ?_
  show WPc _ _ _ _ _ _ (Kds WAP [] :: Own 62 5 (.slice none 0 0) 0 ([]) :: TM ⟨tb, s, s, 0, [], [], S0⟩ :: A :: F)
  refine WPc.region ?_
  refine WP.val rfl rfl rfl (Val.assign rfl rfl) ?_
  refine WP.nil ?_
  refine Out.next ?_
  refine WPc.seq ?_
  refine WPc.seq ?_
  refine WPc.region ?_
  refine WP.val rfl rfl rfl (Val.assign rfl rfl) ?_
  refine WP.nil ?_
  refine Out.next ?_
  refine WPc.block ?_
  refine WPc.perm pl1 ?_
  refine WPc.perm pl2 ?_
  refine WPc.perm pl3 ?_
  refine WPc.loop (ι := Nat × TQ × List WA × Value) (fun ⟨i, q, was, v⟩ => i ≤ l.length ∧ I i q (was.map WA.a) ∧ (was.map WA.a).length = i ∧ q.tb = tb) (fun ⟨i, q, was, v⟩ => [(0, .int .i64 (k)), (1, .slice (some ⟨b0, o0, none⟩) l.length c0), (5, .iface 178 (.pointer (some ⟨tb, 0, none⟩))), (6, v), (7, .int .i64 (((i : Nat) : Int)))]) (fun ⟨i, q, was, v⟩ => A :: TM q :: Own 62 5 v was.length (flatOf WA.cells was) :: Kds WAP was :: F) (fun ⟨i, q, was, v⟩ => l.length - i) (0, ⟨tb, s, s, 0, [], [], S0⟩, [], .slice none 0 0) ⟨Nat.zero_le _, hI0 tb s _, rfl, rfl⟩ ((Sub.cons rfl (Sub.cons rfl (Sub.cons rfl (Sub.cons rfl (Sub.cons rfl Sub.nil)))))) (fun _ h => h) ?_
  rintro ⟨i, q, was, v⟩ ⟨hi, hI, hwl, htq⟩
  show WPc _ _ _ _ _ [(0, .int .i64 (k)), (1, .slice (some ⟨b0, o0, none⟩) l.length c0), (5, .iface 178 (.pointer (some ⟨tb, 0, none⟩))), (6, v), (7, .int .i64 (((i : Nat) : Int)))] (A :: TM q :: Own 62 5 v was.length (flatOf WA.cells was) :: Kds WAP was :: F)
  replace hi : i ≤ l.length := hi
  replace hI : I i q (was.map WA.a) := hI
  replace hwl : (was.map WA.a).length = i := hwl
  replace htq : q.tb = tb := htq
  subst htq
  have hwl2 : was.length = i := by rw [← hwl, List.length_map]
  refine WPc.seq ?_
  refine WPc.seq ?_
  refine WPc.region ?_
  refine WP.val rfl rfl rfl (Val.move rfl rfl) ?_
  refine WP.val rfl rfl rfl (Val.move rfl rfl) ?_
  refine WP.val rfl rfl rfl (Val.len rfl Ty.sl47 rfl) ?_
  refine WP.val rfl rfl rfl (Val.lss rfl rfl rfl) ?_
  refine WP.nil ?_
  refine Out.next ?_
  refine WPc.ifP rfl (fun h1 => ?_) (fun h1 => ?_)
  · skip
    have h1 : (((i : Nat) : Int) < ((l.length : Nat) : Int)) := h1
    refine WPc.skip ?_
    refine Out.next ?_
    refine WPc.seq ?_
    refine WPc.block ?_
    have hlt : i < l.length := by omega
    obtain ⟨x, hx⟩ : ∃ x, l[i]? = some x := ⟨_, List.getElem?_eq_getElem hlt⟩
    refine WPc.region ?_
    refine WP.val rfl rfl rfl (Val.move rfl rfl) ?_
    refine WP.val rfl rfl rfl (Val.move rfl rfl) ?_
    refine WP.val rfl rfl rfl (Val.move rfl rfl) ?_
    refine WP.val rfl rfl rfl (Val.move rfl rfl) ?_
    refine WP.val rfl rfl rfl (Val.move rfl rfl) ?_
    refine WP.val rfl rfl rfl (Val.indexAddr (j := i) (q := o0 + i * 10) rfl Ty.sl47 rfl rfl (by omega) (by omega) (by omega)) ?_
    refine WP.val rfl rfl rfl (Val.loadAgg (cs := (TOp.cells x)) rfl Ty.ag60 rfl (by rfl) (fun w h => hr w (h.at 0 rfl) i x hx)) ?_
    refine WP.perm pl1 ?_
    refine WP.perm pl1 ?_
    refine WP.eff rfl rfl rfl (Eff.call rfl rfl Try.call66 (hS i x q (was.map WA.a) hx hwl hI)) ?_
    rintro _ _ ⟨_, ⟨q', a, lv, vv, hI', htb, rfl, rfl⟩, rfl⟩
    show WP _ _ _ _ _ _ _ (A :: TM q' :: Own 56 5 lv a.l.length (flatOf Sp.cells a.l) :: Own 3 1 vv a.vs.length (flatOf iv a.vs) :: Own 62 5 v was.length (flatOf WA.cells was) :: Kds WAP was :: F)
    refine WP.perm pl2 ?_
    refine WP.fact (fun w h => own_oneCell h) (fun hlv => ?_)
    refine WP.perm pl3 ?_
    refine WP.fact (fun w h => own_oneCell h) (fun hvv => ?_)
    refine WP.eff rfl rfl rfl (Eff.mkSlice (C := [.bool (a.ok), .int .i64 (a.n), .int .i64 (a.most), lv, vv]) rfl Ty.sl50 rfl (fun _ => by kernel_rfl)) ?_
    rintro _ _ ⟨b1, rfl, rfl⟩
    refine WP.perm pl5 ?_
    refine WP.eff rfl rfl rfl (Eff.append (m := 1) (n0 := was.length) (news := [.bool (a.ok), .int .i64 (a.n), .int .i64 (a.most), lv, vv]) rfl Ty.sl50 Ty.z62 rfl rfl rfl (.slice Ty.sl50 rfl (by simp only [List.all_cons, List.all_nil, Bool.and_true, oc_int, oc_str, oc_bool, oc_ptr, oc_slice, oc_iface, oc_map, hlv, hvv]) (fun w h => cells_range (h.range 1 rfl rfl))) (by omega) (by omega)) ?_
    rintro v2 _ ⟨onev2, rfl⟩
    refine WP.val rfl rfl rfl (Val.assign rfl rfl) ?_
    refine WP.nil ?_
    refine Out.block ?_
    refine Out.next ?_
    refine WPc.perm pl2 ?_
    refine WPc.perm pl3 ?_
    refine WPc.conv (fun w h => wap_mk h) ?_
    refine WPc.perm pl5 ?_
    refine WPc.perm pl1 ?_
    refine WPc.conv (fun w h => kds_snoc h) ?_
    show WPc _ _ _ _ _ _ (Kds WAP (was ++ [⟨a, lv, vv⟩]) :: Own 62 5 v2 (was.length + 1) ((flatOf WA.cells was) ++ ([.bool (a.ok), .int .i64 (a.n), .int .i64 (a.most), lv, vv])) :: Blk b1 [.bool (a.ok), .int .i64 (a.n), .int .i64 (a.most), lv, vv] 62 :: A :: TM q' :: F)
    refine WPc.region ?_
    refine WP.val rfl rfl rfl (Val.move rfl rfl) ?_
    refine WP.val rfl rfl rfl (Val.add (z := ((i + 1 : Nat) : Int)) rfl rfl rfl ((w64 (by omega) (by omega)).trans (by omega))) ?_
    refine WP.val rfl rfl rfl (Val.assign rfl rfl) ?_
    refine WP.nil ?_
    refine Out.perm pl2 ?_
    refine Out.drop ?_
    refine Out.perm pl1 ?_
    refine Out.perm pl3 ?_
    refine Out.perm pl3 ?_
    refine Out.again (i + 1, q', was ++ [⟨a, lv, vv⟩], v2) ?_ ?_ ?_ ?_
    · exact ⟨by show i + 1 ≤ l.length; omega, by show I (i + 1) q' ((was ++ [(⟨a, lv, vv⟩ : WA)]).map WA.a); rw [List.map_append]; exact hI', by show ((was ++ [_]).map WA.a).length = i + 1; rw [List.map_append, List.length_append, hwl]; rfl, htb⟩
    · (first | omega | (dsimp only; omega))
    · exact (Sub.cons rfl (Sub.cons rfl (Sub.cons rfl (Sub.cons rfl (Sub.cons rfl Sub.nil)))))
    · exact (fun w h => by dsimp only; rw [flatOf_snoc, List.length_append]; exact h)
  · skip
    have h1 : ¬ (((i : Nat) : Int) < ((l.length : Nat) : Int)) := h1
    refine WPc.exit ?_
    refine Out.then_exit ?_
    refine Out.then_exit ?_
    refine Out.block_exit ?_
    refine Out.next ?_
    refine WPc.seq ?_
    refine WPc.region ?_
    refine WP.val rfl rfl rfl (Val.move rfl rfl) ?_
    refine WP.val rfl rfl rfl (Val.assign rfl rfl) ?_
    refine WP.nil ?_
    refine Out.next ?_
    refine WPc.ret ?_
    have hin : i = l.length := by omega
    rw [hin] at hI hwl
    refine Out.perm pl1 ?_
    refine Out.drop ?_
    exact Out.ret1 (L' := _) Try.results27 rfl ⟨q, was, hI, rfl⟩ (fun _ h => h)

theorem tree_spec (A : HProp) (k : Int) (I : Nat → TQ → List TAns → Prop) (hI0 : ∀ tb s S, I 0 ⟨tb, s, s, 0, [], [], S⟩ []) (l : List TOp) (hl : l.length ≤ 65540) (hS : TStep A k l I) (va : Value) (hva : Rd A 10 TOp.cells va l) : Does Try.prog 27 [.int .i64 (k), va] [A] (fun v L => ∃ (q : TQ) (was : List WA), I l.length q (was.map WA.a) ∧ L = [A, Own 62 5 v was.length (flatOf WA.cells was), Kds WAP was]) := by
  rcases hva with ⟨b0, o0, c0, rfl, hr⟩ | ⟨rfl, a, c, rfl⟩
  · exact tree_row A k I hI0 l hl hS b0 o0 c0 hr
  · exact tree_nil A k I hI0 hS a c

end Go.Proofs.Ytbomnihiapjmpaa.TC

namespace Go.Proofs.Ytbomnihiapjmpaa.TrP
open Go.RowKit Go.Lib Go.Proofs.Ytbomnihiapjmpaa Go.Proofs.Ytbomnihiapjmpaa.Sl
set_option linter.unusedVariables false
set_option linter.unusedSimpArgs false
set_option linter.unusedSectionVars false
/-! ## what stands in a tree, from left to right -/
def cL : Ctx → List It
  | [] => []
  | f :: fs => cL fs ++ (if f.left then [] else f.sib.ino ++ [f.x])
def cR : Ctx → List It
  | [] => []
  | f :: fs => (if f.left then f.x :: f.sib.ino else []) ++ cR fs
theorem zip_ino : ∀ (fs : Ctx) (t : T), (zip fs t).ino = cL fs ++ t.ino ++ cR fs
  | [], t => by simp [zip, cL, cR]
  | ⟨lf, i, x, c, sib⟩ :: fs, t => by
    show (zip fs (Fr.plug ⟨lf, i, x, c, sib⟩ t)).ino = _
    rw [zip_ino fs]
    cases lf <;> simp [Fr.plug, cL, cR, T.ino]
theorem blacken_ino (t : T) : t.blacken.ino = t.ino := by cases t <;> rfl
theorem flip_ino (p g : Fr) (t : T) : (flipT p g t).ino = cL [p, g] ++ t.ino ++ cR [p, g] := by
  obtain ⟨pl, pi, px, pc, ps⟩ := p
  obtain ⟨gl, gi, gx, gc, gs⟩ := g
  unfold flipT
  cases pl <;> cases gl <;> simp [Fr.plug, cL, cR, T.ino, blacken_ino]
theorem rot_ino (p g : Fr) {t : T} (ht : ∃ i l x c r, t = .node i l x c r) : (rotT p g t).ino = cL [p, g] ++ t.ino ++ cR [p, g] := by
  obtain ⟨i, l, x, c, r, rfl⟩ := ht
  obtain ⟨pl, pi, px, pc, ps⟩ := p
  obtain ⟨gl, gi, gx, gc, gs⟩ := g
  unfold rotT
  cases pl <;> cases gl <;> simp [cL, cR, T.ino]
theorem cL_two (p g : Fr) (fs : Ctx) : cL (p :: g :: fs) = cL fs ++ cL [p, g] := by simp [cL]
theorem cR_two (p g : Fr) (fs : Ctx) : cR (p :: g :: fs) = cR [p, g] ++ cR fs := by simp [cR]
theorem afx_ino : ∀ (n : Nat) (fs : Ctx) {t : T}, fs.length ≤ n → (∃ i l x c r, t = .node i l x c r) → (afx fs t).ino = cL fs ++ t.ino ++ cR fs
  | n, [], t, _, _ => by simp [afx, cL, cR]
  | n, [p], t, _, _ => by show (zip [p] t).ino = _; exact zip_ino _ _
  | n + 1, p :: g :: fs, t, hn, ht => by
    show (if p.c then (if g.sib.red then afx fs (flipT p g t) else zip fs (rotT p g t)) else zip (p :: g :: fs) t).ino = _
    split
    · split
      · obtain ⟨l, r, e⟩ := flipT_node p g t
        rw [afx_ino n fs (by simp only [List.length_cons] at hn; omega) ⟨_, _, _, _, _, e⟩, flip_ino, cL_two p g fs, cR_two p g fs]
        simp only [List.append_assoc]
      · rw [zip_ino, rot_ino p g ht, cL_two p g fs, cR_two p g fs]
        simp only [List.append_assoc]
    · exact zip_ino _ _
  | 0, p :: g :: fs, t, hn, _ => by simp at hn
/-- z stands behind y -/
def beh (zb ze : Ky) (y : It) : Bool := decide (¬ goK zb ze y.b.k y.e.k)
/-- y stands ahead of z, or with it -/
def leq (x y : It) : Prop := ¬ goK y.b.k y.e.k x.b.k x.e.k
def Srt (l : List It) : Prop := l.Pairwise leq
theorem goK_iff {zb ze xb xe : Ky} : goK zb ze xb xe ↔ klt zb xb ∨ (zb = xb ∧ klt ze xe) := Iff.rfl
theorem not_goK {zb ze xb xe : Ky} : ¬ goK zb ze xb xe ↔ klt xb zb ∨ (xb = zb ∧ ¬ klt ze xe) := by
  rw [goK_iff]
  constructor
  · intro h
    rcases klt_tri zb xb with h1 | h1 | h1
    · exact absurd (.inl h1) h
    · exact .inr ⟨h1.symm, fun h2 => h (.inr ⟨h1, h2⟩)⟩
    · exact .inl h1
  · rintro (h1 | ⟨rfl, h1⟩) (h2 | ⟨h2, h3⟩)
    · exact klt_asymm h1 h2
    · rw [h2] at h1; exact klt_irrefl _ h1
    · exact klt_irrefl _ h2
    · exact h1 h3
theorem goK_le {ab ae bb be cb ce : Ky} (h1 : ¬ goK bb be ab ae) (h2 : ¬ goK cb ce bb be) : ¬ goK cb ce ab ae := by
  rw [not_goK] at *
  rcases h1 with h1 | ⟨rfl, h1⟩
  · rcases h2 with h2 | ⟨rfl, h2⟩
    · exact .inl (klt_trans h1 h2)
    · exact .inl h1
  · rcases h2 with h2 | ⟨rfl, h2⟩
    · exact .inl h2
    · exact .inr ⟨rfl, kle_trans h1 h2⟩
theorem goK_tot {ab ae bb be : Ky} (h : goK ab ae bb be) : ¬ goK bb be ab ae := by
  rw [not_goK]
  rcases h with h | ⟨rfl, h⟩
  · exact .inl h
  · exact .inr ⟨rfl, klt_asymm h⟩
theorem tw_mid {α : Type} {p : α → Bool} {x : α} : ∀ {l r : List α}, p x = false → (l ++ x :: r).takeWhile p = l.takeWhile p ∧ (l ++ x :: r).dropWhile p = l.dropWhile p ++ x :: r
  | [], r, h => by simp [h]
  | y :: l, r, h => by
    obtain ⟨h1, h2⟩ := tw_mid (l := l) (r := r) h
    cases hy : p y
    · simp [hy]
    · simp [hy, h1, h2]
theorem tw_all {α : Type} {p : α → Bool} : ∀ {l r : List α}, (∀ y ∈ l, p y = true) → (l ++ r).takeWhile p = l ++ r.takeWhile p ∧ (l ++ r).dropWhile p = r.dropWhile p
  | [], r, h => ⟨rfl, rfl⟩
  | y :: l, r, h => by
    obtain ⟨h1, h2⟩ := tw_all (l := l) (r := r) (fun z hz => h z (List.mem_cons_of_mem _ hz))
    have hy := h y List.mem_cons_self
    simp [hy, h1, h2]
theorem dsc_ino (zb ze : Ky) : ∀ (t : T) (fs : Ctx), Srt t.ino → cL (dsc zb ze t fs) = cL fs ++ t.ino.takeWhile (beh zb ze) ∧ cR (dsc zb ze t fs) = t.ino.dropWhile (beh zb ze) ++ cR fs
  | .leaf, fs, _ => by simp [dsc, T.ino]
  | .node i l x c r, fs, hs => by
    unfold dsc
    have hs' : Srt (l.ino ++ x :: r.ino) := hs
    by_cases hg : goK zb ze x.b.k x.e.k
    · rw [if_pos hg]
      obtain ⟨h1, h2⟩ := dsc_ino zb ze l (⟨true, i, x, c, r⟩ :: fs) (List.pairwise_append.1 hs').1
      obtain ⟨h3, h4⟩ := tw_mid (p := beh zb ze) (x := x) (l := l.ino) (r := r.ino) (by simp [beh, hg])
      rw [h1, h2]
      show _ ∧ _ = List.dropWhile _ (l.ino ++ x :: r.ino) ++ _
      rw [h4]
      exact ⟨by show _ = _ ++ List.takeWhile _ (l.ino ++ x :: r.ino); rw [h3]; simp [cL], by simp [cR]⟩
    · rw [if_neg hg]
      obtain ⟨h1, h2⟩ := dsc_ino zb ze r (⟨false, i, x, c, l⟩ :: fs) (List.pairwise_cons.1 (List.pairwise_append.1 hs').2.1).2
      have hall : ∀ y ∈ l.ino ++ [x], beh zb ze y = true := by
        intro y hy
        rcases List.mem_append.1 hy with hy | hy
        · have h5 : leq y x := (List.pairwise_append.1 hs').2.2 y hy x List.mem_cons_self
          simpa [beh] using goK_le h5 hg
        · rw [List.mem_singleton.1 hy]; simpa [beh] using hg
      obtain ⟨h3, h4⟩ := tw_all (p := beh zb ze) (l := l.ino ++ [x]) (r := r.ino) hall
      rw [List.append_assoc, List.singleton_append] at h3 h4
      rw [h1, h2]
      show _ = _ ++ List.takeWhile _ (l.ino ++ x :: r.ino) ∧ _ = List.dropWhile _ (l.ino ++ x :: r.ino) ++ _
      rw [h3, h4]
      exact ⟨by simp [cL], by simp [cR]⟩
/-- put in behind those that stand ahead of it or with it -/
def putI (x : It) (l : List It) : List It := l.takeWhile (beh x.b.k x.e.k) ++ x :: l.dropWhile (beh x.b.k x.e.k)
theorem insT_ino {z : Nat} {x : It} {t : T} (hs : Srt t.ino) : (insT z x t).ino = putI x t.ino := by
  unfold insT putI
  rw [blacken_ino, afx_ino _ _ (Nat.le_refl _) ⟨_, _, _, _, _, rfl⟩]
  obtain ⟨h1, h2⟩ := dsc_ino x.b.k x.e.k t [] hs
  rw [h1, h2]
  simp [cL, cR, T.ino]
theorem putI_mem {x y : It} {l : List It} : y ∈ putI x l ↔ y = x ∨ y ∈ l := by
  unfold putI
  have h := List.takeWhile_append_dropWhile (p := beh x.b.k x.e.k) (l := l)
  rw [List.mem_append, List.mem_cons]
  conv => rhs; rw [← h, List.mem_append]
  constructor
  · rintro (h | h | h)
    · exact .inr (.inl h)
    · exact .inl h
    · exact .inr (.inr h)
  · rintro (h | h | h)
    · exact .inr (.inl h)
    · exact .inl h
    · exact .inr (.inr h)
theorem tw_true {α : Type} {p : α → Bool} : ∀ {l : List α} {y : α}, y ∈ l.takeWhile p → p y = true
  | a :: l, y, h => by
    rw [List.takeWhile_cons] at h
    split at h
    · rename_i ha
      rcases List.mem_cons.1 h with rfl | h
      · exact ha
      · exact tw_true h
    · cases h
theorem putI_srt {x : It} {l : List It} (h : Srt l) : Srt (putI x l) := by
  unfold putI Srt at *
  have e := List.takeWhile_append_dropWhile (p := beh x.b.k x.e.k) (l := l)
  rw [← e, List.pairwise_append] at h
  obtain ⟨h1, h2, h3⟩ := h
  have hd : ∀ y ∈ l.dropWhile (beh x.b.k x.e.k), leq x y := by
    intro y hy
    revert h2 hy
    generalize hm : l.dropWhile (beh x.b.k x.e.k) = m
    intro h2 hy
    cases m with
    | nil => cases hy
    | cons a m =>
      have ha : beh x.b.k x.e.k a = false := by
        have h9 := List.head?_dropWhile_not (beh x.b.k x.e.k) l
        rw [hm] at h9
        simpa using h9
      have ha' : leq x a := goK_tot (by simpa [beh] using ha)
      rcases List.mem_cons.1 hy with rfl | hy
      · exact ha'
      · exact goK_le ha' ((List.pairwise_cons.1 h2).1 y hy)
  refine List.pairwise_append.2 ⟨h1, List.pairwise_cons.2 ⟨hd, h2⟩, fun a ha b hb => ?_⟩
  rcases List.mem_cons.1 hb with rfl | hb
  · have h9 : ¬ goK b.b.k b.e.k a.b.k a.e.k := by simpa [beh] using tw_true ha
    exact h9
  · exact h3 a ha b hb
/-! ids -/
theorem insT_len {z : Nat} {x : It} {t : T} (hs : Srt t.ino) : (insT z x t).ino.length = t.ino.length + 1 := by
  rw [insT_ino hs]
  unfold putI
  have h := congrArg List.length (List.takeWhile_append_dropWhile (p := beh x.b.k x.e.k) (l := t.ino))
  rw [List.length_append] at h
  rw [List.length_append, List.length_cons]
  omega
theorem insT_red {z : Nat} {x : It} {t : T} : (insT z x t).red = false := by
  unfold insT
  cases afx (dsc x.b.k x.e.k t []) (.node z .leaf x true .leaf) <;> rfl
theorem depth_le : ∀ t : T, t.depth ≤ t.ino.length
  | .leaf => Nat.le_refl _
  | .node i l x c r => by
    have h1 := depth_le l
    have h2 := depth_le r
    simp only [T.depth, T.ino, List.length_append, List.length_cons]
    omega
end Go.Proofs.Ytbomnihiapjmpaa.TrP

namespace Go.Proofs.Ytbomnihiapjmpaa.TD
open Go.RowKit Go.Proofs.Ytbomnihiapjmpaa Go.Proofs.Ytbomnihiapjmpaa.Sl Go.Proofs.Ytbomnihiapjmpaa.TrP Go.Proofs.Ytbomnihiapjmpaa.Tb Go.Proofs.Ytbomnihiapjmpaa.Tc Go.Proofs.Ytbomnihiapjmpaa.Td Go.Proofs.Ytbomnihiapjmpaa.Tk Go.Proofs.Ytbomnihiapjmpaa.Tr Go.Proofs.Ytbomnihiapjmpaa.Ts Go.Proofs.Ytbomnihiapjmpaa.Tt Go.Proofs.Ytbomnihiapjmpaa.Tv Go.Proofs.Ytbomnihiapjmpaa.Tx Go.Proofs.Ytbomnihiapjmpaa.TA Go.Proofs.Ytbomnihiapjmpaa.TB Go.Proofs.Ytbomnihiapjmpaa.TC
set_option linter.unusedVariables false
set_option linter.unusedSimpArgs false
set_option linter.unusedSectionVars false

theorem Does.frame {P : Program} {f : FuncId} {args : List Value} {L : List HProp} {R : Value → List HProp → Prop} (A : HProp) (h : Does P f args L R) : Does P f args (A :: L) (fun v M => ∃ M', R v M' ∧ M = A :: M') := by
  intro W F w hs
  have hs' : Sat W (L ++ (A :: F)) w := hs.perm (List.perm_middle.symm)
  refine (h W (A :: F) w hs').mono ?_
  rintro e w' ⟨v, L', he, hR, hs2⟩
  exact ⟨v, A :: L', he, ⟨L', hR, rfl⟩, hs2.perm List.perm_middle⟩
/-- a tree in memory, and what tree it is -/
structure Rep (k : Int) (q : TQ) (t : T) : Prop where
  z : Z q.s q.root q.S [] t q.root
  rd : t.red = false
  ok : Ok q.s q.EL q.D q.S
  rt : Is q.s q.D q.root
  hE : ∀ e ∈ q.EL, e.t = kt k
  ids : ∀ j ∈ t.ids, j ∈ q.D
  cnt : q.cnt = t.ino.length
  srt : Srt t.ino
  vals : ∀ y ∈ t.ino, y.vt = 3 ∧ ∃ n : Int, y.vu = .int .i64 n
theorem rep_new (k : Int) (tb s : Nat) (S : St) : Rep k ⟨tb, s, s, 0, [], [], S⟩ .leaf :=
  ⟨⟨rfl, rfl, by simp [T.ids, cids]⟩, rfl, ⟨fun {i} h => (List.not_mem_nil h).elim, fun {i} h => (List.not_mem_nil h).elim, fun {i} h => (List.not_mem_nil h).elim, fun {i} h => (List.not_mem_nil h).elim, fun {i} h => (List.not_mem_nil h).elim, fun {i} h => (List.not_mem_nil h).elim⟩, .inl rfl, (fun e h => by cases h), (fun j h => by cases h), rfl, List.Pairwise.nil, fun y hy => by cases hy⟩
/-- what laws say of intervals -/
structure SpOk (k : Int) (x : Sp) : Prop where
  key : x.key.size ≤ 2147483647
  fin : x.fin.size ≤ 2147483647
  k3 : k = 3 → x.one = false ∧ (-2305843009213693952 ≤ x.lo ∧ x.lo ≤ 2305843009213693952) ∧ (-2305843009213693952 ≤ x.hi ∧ x.hi ≤ 2305843009213693952)
theorem tm_open {W w : World} {L : List HProp} {q : TQ} (h : Sat W (TM q :: L) w) : Sat W (Blk q.tb [.pointer (some ⟨q.root, 0, none⟩), .int .i64 q.cnt, .pointer (some ⟨q.s, 0, none⟩)] 180 :: Ens q.EL :: Sto q.S q.D :: Blk q.s ZZ 177 :: L) w := Sat.sep (M := [_, _, _, _]) h
theorem own_nils {W w : World} {L : List HProp} (h : Sat W L w) : Sat W (Own 56 5 (.slice none 0 0) 0 [] :: Own 3 1 (.slice none 0 0) 0 [] :: L) w := Sat.ownNil (Sat.ownNil h)
def noAns : TAns := ⟨false, 0, 0, [], []⟩
/-- the end of a step whose answer has no lists -/
theorem back_nil {W w : World} {A : HProp} {F : List HProp} {tb s root : Nat} {cnt : Int} {EL : List En} {D : List Nat} {S : St} (h : Sat W (A :: Blk tb [.pointer (some ⟨root, 0, none⟩), .int .i64 cnt, .pointer (some ⟨s, 0, none⟩)] 180 :: Ens EL :: Sto S D :: Blk s ZZ 177 :: F) w) : Sat W (A :: TM ⟨tb, s, root, cnt, EL, D, S⟩ :: Own 56 5 (.slice none 0 0) 0 [] :: Own 3 1 (.slice none 0 0) 0 [] :: F) w := by
  have h1 := own_nils h
  exact (tm_mk ((((((h1.perm pl2).perm pl6).perm pl6).perm pl6).perm pl6))).perm (List.Perm.swap _ _ _)
theorem des_is {s z : Nat} {EL : List En} {D : List Nat} {S : St} (ok : Ok s EL D S) : ∀ (k x y : Nat), Is s D x → Is s D y → Is s D (des s S z k x y)
  | 0, x, y, _, hy => hy
  | k + 1, x, y, hx, hy => by
    by_cases h : x = s
    · subst h; rw [des_s]; exact hy
    · rw [des_x h]
      refine des_is ok k _ _ ?_ hx
      split
      · exact ok.l (hx.mem h)
      · exact ok.r (hx.mem h)
theorem hang_ok {s n root z y : Nat} {EL : List En} {D : List Nat} {S : St} (ok : Ok s EL D S) (hz : z ∈ D) (hy : Is s D y) : Ok s EL D (hang s n S root z y).1 := by
  by_cases h : y = s
  · rw [hang_s h]; exact ok.setP hy
  · by_cases h2 : goL S z y
    · rw [hang_l h h2]; exact um_ok _ _ _ ((ok.setP hy).setL (.inr hz)) hy
    · rw [hang_r h h2]; exact um_ok _ _ _ ((ok.setP hy).setR (.inr hz)) hy
theorem hang_root {s n root z y : Nat} {D : List Nat} {S : St} (hr : Is s D root) (hz : z ∈ D) : Is s D (hang s n S root z y).2 := by
  by_cases h : y = s
  · rw [hang_s h]; exact .inr hz
  · by_cases h2 : goL S z y
    · rw [hang_l h h2]; exact hr
    · rw [hang_r h h2]; exact hr
theorem insF_ok {s n k root z : Nat} {EL : List En} {D : List Nat} {S : St} {eb ee : En} {v : TypeId × Value} (ok : Ok s EL D S) (hroot : Is s D root) (heb : eb ∈ EL) (hee : ee ∈ EL) (h : InsOk s n k D S root eb ee v z) : Ok s EL (z :: D) (setC (insF s n k S root eb ee v z).1 (insF s n k S root eb ee v z).2 0) := by
  refine Ok.setC ?_
  have ok1 := Ok.new (z := z) (v := v) ok heb hee
  have ok2 : Ok s EL (z :: D) (insS s n k S root eb ee v z).1 := hang_ok ok1 List.mem_cons_self (des_is ok1 _ _ _ hroot.cons (.inl rfl))
  unfold insF
  exact fx_ok ok2.setC List.mem_cons_self (hang_root hroot.cons List.mem_cons_self) h.fx
theorem op_eta (o : TOp) : (TOp.cells o).toArray = #[.int .i64 o.k, .string o.x.key, .string o.x.fin, .bool (o.x.one), .int .i64 (o.x.lo), .int .i64 (o.x.hi), .int .i64 (o.val), .int .i64 (o.lim), o.ov, o.wv] := rfl
/-- an interval is put in -/
theorem step_ins (A : HProp) (k : Int) (x : Sp) (hx : SpOk k x) (val lim : Int) (ov wv : Value) (hov : ov.oneCell' = true) (hwv : wv.oneCell' = true) (q : TQ) (t : T) (hq : Rep k q t) (hc : t.ino.length < 1000000) :
    Does Try.prog 66 [.iface 178 (.pointer (some ⟨q.tb, 0, none⟩)), .int .i64 k, .agg (TOp.cells ⟨1, x, val, lim, ov, wv⟩).toArray] [A, TM q]
      (fun v L => ∃ (q' : TQ) (z : Nat) (eb ee : En), Rep k q' (insT z ⟨eb, ee, 3, .int .i64 val⟩ t) ∧ eb.k = kB k x ∧ ee.k = kE k x ∧ q'.tb = q.tb ∧ v = .agg #[.bool false, .int .i64 0, .int .i64 0, .slice none 0 0, .slice none 0 0] ∧ L = [A, TM q', Own 56 5 (.slice none 0 0) 0 [], Own 3 1 (.slice none 0 0) 0 []]) := by
  obtain ⟨hz, hrd, ok, hrt, hE, hids, hcnt, hsrt, hvals⟩ := hq
  have hio : ∀ eb ee : En, eb.k = kB k x → ee.k = kE k x → ∀ z, z ∉ q.D → z ≠ q.s → InsOk q.s (t.depth + 2) t.depth q.D q.S q.root eb ee (3, .int .i64 val) z := fun eb ee _ _ z hz1 hz2 =>
    (ins_spec (EL := eb :: ee :: q.EL) (v := (3, .int .i64 val)) (n := t.depth + 2) hz hrd (Ok.mono ok (fun e he => List.mem_cons_of_mem _ (List.mem_cons_of_mem _ he))) hrt List.mem_cons_self (List.mem_cons_of_mem _ List.mem_cons_self) hz2 (fun h => hz1 (hids _ h)) hids (Nat.le_refl _) (by omega)).1
  have h := treed_ins k x hx.key hx.fin hx.k3 val lim ov wv hov hwv q.EL hE q.s q.D ZZ q.tb q.root q.cnt ⟨by omega, by omega⟩ q.S ok hrt (t.depth + 2) t.depth hio
  refine Does.conv (M := [A, _, _, _, _]) (fun W w F h => ?_) (((Does.frame A h)).mono ?_)
  · exact (tm_open (h.perm (List.Perm.swap _ _ _))).perm pl4
  · rintro v L ⟨M, ⟨eb, ee, z, hv, hbt, het, hb, he, hz1, hz2, rfl⟩, rfl⟩
    have hs := ins_spec (EL := eb :: ee :: q.EL) (v := (3, .int .i64 val)) (n := t.depth + 2) hz hrd (Ok.mono ok (fun e he => List.mem_cons_of_mem _ (List.mem_cons_of_mem _ he))) hrt List.mem_cons_self (List.mem_cons_of_mem _ List.mem_cons_self) hz2 (fun h => hz1 (hids _ h)) hids (Nat.le_refl _) (by omega)
    refine ⟨[A, TM ⟨q.tb, q.s, (insF q.s (t.depth + 2) t.depth q.S q.root eb ee (3, .int .i64 val) z).2, q.cnt + 1, eb :: ee :: q.EL, z :: q.D, setC (insF q.s (t.depth + 2) t.depth q.S q.root eb ee (3, .int .i64 val) z).1 (insF q.s (t.depth + 2) t.depth q.S q.root eb ee (3, .int .i64 val) z).2 0⟩, Own 56 5 (.slice none 0 0) 0 [], Own 3 1 (.slice none 0 0) 0 []],
      ⟨⟨q.tb, q.s, (insF q.s (t.depth + 2) t.depth q.S q.root eb ee (3, .int .i64 val) z).2, q.cnt + 1, eb :: ee :: q.EL, z :: q.D, setC (insF q.s (t.depth + 2) t.depth q.S q.root eb ee (3, .int .i64 val) z).1 (insF q.s (t.depth + 2) t.depth q.S q.root eb ee (3, .int .i64 val) z).2 0⟩, z, eb, ee, ⟨hs.2, insT_red, insF_ok (Ok.mono ok (fun e he => List.mem_cons_of_mem _ (List.mem_cons_of_mem _ he))) hrt List.mem_cons_self (List.mem_cons_of_mem _ List.mem_cons_self) hs.1, .inr hs.1.last, ?_, ?_, ?_, ?_, ?_⟩, hb, he, rfl, hv, rfl⟩, fun W w F h => back_nil h⟩
    · intro e he
      rcases List.mem_cons.1 he with rfl | he
      · exact hbt
      · rcases List.mem_cons.1 he with rfl | he
        · exact het
        · exact hE e he
    · intro j hj
      rcases insT_ids hj with rfl | hj
      · exact List.mem_cons_self
      · exact List.mem_cons_of_mem _ (hids _ hj)
    · rw [insT_len hsrt, hcnt]; rfl
    · rw [insT_ino hsrt]; exact putI_srt hsrt
    · intro y hy
      rw [insT_ino hsrt] at hy
      rcases putI_mem.1 hy with rfl | hy
      · exact ⟨rfl, val, rfl⟩
      · exact hvals y hy
/-- the tree with two more ends known -/
theorem rep_ens {k : Int} {q : TQ} {t : T} (hq : Rep k q t) {eb ee : En} (hb : eb.t = kt k) (he : ee.t = kt k) : Rep k ⟨q.tb, q.s, q.root, q.cnt, eb :: ee :: q.EL, q.D, q.S⟩ t := by
  obtain ⟨hz, hrd, ok, hrt, hE, hids, hcnt, hsrt, hvals⟩ := hq
  refine ⟨hz, hrd, Ok.mono ok (fun e he => List.mem_cons_of_mem _ (List.mem_cons_of_mem _ he)), hrt, ?_, hids, hcnt, hsrt, hvals⟩
  intro e he'
  rcases List.mem_cons.1 he' with rfl | he'
  · exact hb
  · rcases List.mem_cons.1 he' with rfl | he'
    · exact he
    · exact hE e he'
/-- is there one that an interval meets? -/
theorem step_isect (A : HProp) (k : Int) (x : Sp) (hx : SpOk k x) (val lim : Int) (ov wv : Value) (hov : ov.oneCell' = true) (hwv : wv.oneCell' = true) (q : TQ) (t : T) (hq : Rep k q t) :
    Does Try.prog 66 [.iface 178 (.pointer (some ⟨q.tb, 0, none⟩)), .int .i64 k, .agg (TOp.cells ⟨6, x, val, lim, ov, wv⟩).toArray] [A, TM q]
      (fun v L => ∃ (q' : TQ), Rep k q' t ∧ q'.tb = q.tb ∧ v = .agg #[.bool (isect (kB k x) (kE k x) t), .int .i64 0, .int .i64 0, .slice none 0 0, .slice none 0 0] ∧ L = [A, TM q', Own 56 5 (.slice none 0 0) 0 [], Own 3 1 (.slice none 0 0) 0 []]) := by
  have h := treed_isect k x hx.key hx.fin hx.k3 val lim ov wv hov hwv q.EL hq.hE q.s q.D ZZ q.tb q.root q.cnt q.S hq.ok hq.rt t hq.z.rm
  refine Does.conv (M := [A, _, _, _, _]) (fun W w F h => ?_) (((Does.frame A h)).mono ?_)
  · exact (tm_open (h.perm (List.Perm.swap _ _ _))).perm pl4
  · rintro v L ⟨M, ⟨eb, ee, hv, hbt, het, rfl⟩, rfl⟩
    exact ⟨_, ⟨_, rep_ens hq hbt het, rfl, hv, rfl⟩, fun W w F h => back_nil h⟩
/-- an interval is not found -/
theorem step_find0 (A : HProp) (k : Int) (x : Sp) (hx : SpOk k x) (val lim : Int) (ov wv : Value) (hov : ov.oneCell' = true) (hwv : wv.oneCell' = true) (q : TQ) (t : T) (hq : Rep k q t) (hf : fnd (kB k x) (kE k x) t = none) :
    Does Try.prog 66 [.iface 178 (.pointer (some ⟨q.tb, 0, none⟩)), .int .i64 k, .agg (TOp.cells ⟨3, x, val, lim, ov, wv⟩).toArray] [A, TM q]
      (fun v L => ∃ (q' : TQ), Rep k q' t ∧ q'.tb = q.tb ∧ v = .agg #[.bool false, .int .i64 0, .int .i64 0, .slice none 0 0, .slice none 0 0] ∧ L = [A, TM q', Own 56 5 (.slice none 0 0) 0 [], Own 3 1 (.slice none 0 0) 0 []]) := by
  have h := treed_find0 k x hx.key hx.fin hx.k3 val lim ov wv hov hwv q.EL hq.hE q.s q.D ZZ q.tb q.root q.cnt q.S hq.ok hq.rt t hq.z.rm hf
  refine Does.conv (M := [A, _, _, _, _]) (fun W w F h => ?_) (((Does.frame A h)).mono ?_)
  · exact (tm_open (h.perm (List.Perm.swap _ _ _))).perm pl4
  · rintro v L ⟨M, ⟨eb, ee, hv, hbt, het, rfl⟩, rfl⟩
    exact ⟨_, ⟨_, rep_ens hq hbt het, rfl, hv, rfl⟩, fun W w F h => back_nil h⟩
def spk (b e : Ky) : Sp := ⟨txt b, txt e, false, b.n, e.n⟩
theorem spo_spk (b e : En) : spo b e = Sp.cells (spk b.k e.k) := rfl
theorem RM_find {s : Nat} {S : St} {ib ie : Ky} : ∀ {t : T} {q p i : Nat}, RM s S t q p → fnd ib ie t = some i → i ≠ s ∧ ∃ y ∈ t.ino, (S i).it = y ∧ y.b.k = ib ∧ y.e.k = ie
  | .leaf, _, _, _, _, hf => by cases hf
  | .node j l x c r, q, p, i, h, hf => by
    obtain ⟨h1, h2, h3, h4, h5, h6, h7, h8⟩ := h
    by_cases hk : kcmp ib x.b.k = 0 ∧ kcmp ie x.e.k = 0
    · rw [fnd_y hk.1 hk.2] at hf
      obtain rfl : j = i := by injection hf
      exact ⟨h2, x, List.mem_append_right _ List.mem_cons_self, h3, (kcmp_eq.1 hk.1).symm, (kcmp_eq.1 hk.2).symm⟩
    · by_cases hg : goK ib ie x.b.k x.e.k
      · rw [fnd_l hk hg] at hf
        obtain ⟨g1, y, hy, g2⟩ := RM_find h7 hf
        exact ⟨g1, y, List.mem_append_left _ hy, g2⟩
      · rw [fnd_r hk hg] at hf
        obtain ⟨g1, y, hy, g2⟩ := RM_find h8 hf
        exact ⟨g1, y, List.mem_append_right _ (List.mem_cons_of_mem _ hy), g2⟩
theorem back_lists {W w : World} {A : HProp} {F : List HProp} {tb s root : Nat} {cnt : Int} {EL : List En} {D : List Nat} {S : St} {P Q : HProp} (h : Sat W (A :: Blk tb [.pointer (some ⟨root, 0, none⟩), .int .i64 cnt, .pointer (some ⟨s, 0, none⟩)] 180 :: Ens EL :: Sto S D :: Blk s ZZ 177 :: P :: Q :: F) w) : Sat W (A :: TM ⟨tb, s, root, cnt, EL, D, S⟩ :: P :: Q :: F) w :=
  (tm_mk (((((h.perm pl4).perm pl4).perm pl4).perm pl4))).perm (List.Perm.swap _ _ _)
/-- an interval is found -/
theorem step_find1 (A : HProp) (k : Int) (x : Sp) (hx : SpOk k x) (val lim : Int) (ov wv : Value) (hov : ov.oneCell' = true) (hwv : wv.oneCell' = true) (q : TQ) (t : T) (hq : Rep k q t) (i : Nat) (hf : fnd (kB k x) (kE k x) t = some i) :
    Does Try.prog 66 [.iface 178 (.pointer (some ⟨q.tb, 0, none⟩)), .int .i64 k, .agg (TOp.cells ⟨3, x, val, lim, ov, wv⟩).toArray] [A, TM q]
      (fun v L => ∃ (q' : TQ) (y : It) (n : Int) (lv vv : Value), Rep k q' t ∧ q'.tb = q.tb ∧ y ∈ t.ino ∧ y.b.k = kB k x ∧ y.e.k = kE k x ∧ y.vu = .int .i64 n ∧ v = .agg #[.bool true, .int .i64 0, .int .i64 0, lv, vv] ∧ L = [A, TM q', Own 56 5 lv [spk (kB k x) (kE k x)].length (flatOf Sp.cells [spk (kB k x) (kE k x)]), Own 3 1 vv [n].length (flatOf iv [n])]) := by
  obtain ⟨his, y, hy, hyi, hyb, hye⟩ := RM_find hq.z.rm hf
  obtain ⟨hvt, n, hvu⟩ := hq.vals y hy
  have h := treed_find k x hx.key hx.fin hx.k3 val lim ov wv hov hwv q.EL hq.hE q.s q.D ZZ q.tb q.root q.cnt q.S hq.ok hq.rt t hq.z.rm i hf his (hq.ids _ (fnd_ids hf)) n (by rw [hyi]; show Value.iface y.vt y.vu = _; rw [hvt, hvu])
  refine Does.conv (M := [A, _, _, _, _]) (fun W w F h => ?_) (((Does.frame A h)).mono ?_)
  · exact (tm_open (h.perm (List.Perm.swap _ _ _))).perm pl4
  · rintro v L ⟨M, ⟨eb, ee, l2, v2, hv, hbt, het, rfl⟩, rfl⟩
    refine ⟨_, ⟨_, y, n, l2, v2, rep_ens hq hbt het, rfl, hy, hyb, hye, hvu, hv, rfl⟩, fun W w F h => ?_⟩
    rw [spo_spk, hyi, hyb, hye] at h
    exact back_lists h
end Go.Proofs.Ytbomnihiapjmpaa.TD

namespace Go.Proofs.Ytbomnihiapjmpaa.TE
open Go.RowKit Go.Proofs.Ytbomnihiapjmpaa Go.Proofs.Ytbomnihiapjmpaa.Sl Go.Proofs.Ytbomnihiapjmpaa.TrP Go.Proofs.Ytbomnihiapjmpaa.Tb Go.Proofs.Ytbomnihiapjmpaa.Tc Go.Proofs.Ytbomnihiapjmpaa.Td Go.Proofs.Ytbomnihiapjmpaa.Tn Go.Proofs.Ytbomnihiapjmpaa.Tr Go.Proofs.Ytbomnihiapjmpaa.Ts Go.Proofs.Ytbomnihiapjmpaa.Tx Go.Proofs.Ytbomnihiapjmpaa.TC Go.Proofs.Ytbomnihiapjmpaa.TD
set_option linter.unusedVariables false
set_option linter.unusedSimpArgs false
set_option linter.unusedSectionVars false


def sx0 : Sp := ⟨⟨#[97]⟩, ⟨#[99]⟩, false, 0, 0⟩
theorem sx0_ok : SpOk 1 sx0 := ⟨by decide, by decide, fun h => by cases h⟩
def lops : List TOp := [⟨1, sx0, 4, 0, .slice none 0 0, .slice none 0 0⟩, ⟨3, sx0, 0, 0, .slice none 0 0, .slice none 0 0⟩]
def lans : TAns := ⟨true, 0, 0, [spk (kB 1 sx0) (kE 1 sx0)], [4]⟩
def IL : Nat → TQ → List TAns → Prop
  | 0, q, al => al = [] ∧ Rep 1 q .leaf
  | 1, q, al => al = [noAns] ∧ ∃ (z : Nat) (y : It), Rep 1 q (.node z .leaf y false .leaf) ∧ y.b.k = kB 1 sx0 ∧ y.e.k = kE 1 sx0 ∧ y.vu = .int .i64 4
  | 2, q, al => al = [noAns, lans]
  | _, _, _ => False
theorem live_step (A : HProp) : TStep A 1 lops IL := by
  intro i o q al ho hl hI
  match i, ho, hI with
  | 0, ho, hI =>
    obtain rfl : (⟨1, sx0, 4, 0, .slice none 0 0, .slice none 0 0⟩ : TOp) = o := by simpa [lops] using ho
    obtain ⟨rfl, hR⟩ := hI
    refine (step_ins A 1 sx0 sx0_ok 4 0 _ _ rfl rfl q .leaf hR (by simp [T.ino])).mono ?_
    rintro v L ⟨q', z, eb, ee, hR', hb, he, htb, hv, hL⟩
    exact ⟨L, ⟨q', noAns, _, _, ⟨rfl, z, _, hR', hb, he, rfl⟩, htb, hv, hL⟩, fun W w F h => h⟩
  | 1, ho, hI =>
    obtain rfl : (⟨3, sx0, 0, 0, .slice none 0 0, .slice none 0 0⟩ : TOp) = o := by simpa [lops] using ho
    obtain ⟨rfl, z, y, hR, hb, he, hu⟩ := hI
    have hf : fnd (kB 1 sx0) (kE 1 sx0) (.node z .leaf y false .leaf) = some z := fnd_y (kcmp_eq.2 hb.symm) (kcmp_eq.2 he.symm)
    refine (step_find1 A 1 sx0 sx0_ok 0 0 _ _ rfl rfl q _ hR z hf).mono ?_
    rintro v L ⟨q', y', n, lv, vv, hR', htb, hy, -, -, hn, hv, hL⟩
    obtain rfl : y' = y := by simpa [T.ino] using hy
    obtain rfl : n = 4 := by rw [hu] at hn; injection hn with _ h; exact h.symm
    exact ⟨L, ⟨q', lans, lv, vv, rfl, htb, hv, hL⟩, fun W w F h => h⟩
  | n + 2, ho, hI => exact absurd ho (by simp [lops])
theorem live_zero (tb s : Nat) (S : St) : IL 0 ⟨tb, s, s, 0, [], [], S⟩ [] := ⟨rfl, rep_new 1 tb s S⟩
theorem live_two {q : TQ} {was : List WA} (h : IL 2 q (was.map WA.a)) : ∃ w0 lv vv, was = [w0, ⟨lans, lv, vv⟩] := by
  have h1 : was.map WA.a = [noAns, lans] := h
  match was, h1 with
  | [], h => exact absurd (congrArg List.length h) (by simp)
  | [_], h => exact absurd (congrArg List.length h) (by simp)
  | [w0, ⟨a, lv, vv⟩], h =>
    have h1 : [w0.a, a] = [noAns, lans] := h
    obtain rfl : a = lans := by injection h1 with _ h2; injection h2
    exact ⟨w0, lv, vv, rfl⟩
  | _ :: _ :: _ :: _, h => exact absurd (congrArg List.length h) (by simp)
theorem live_kds {W w : World} {L : List HProp} {w0 : WA} {a : TAns} {lv vv : Value} (h : Sat W (Kds WAP [w0, ⟨a, lv, vv⟩] :: L) w) : Sat W (Own 3 1 vv a.vs.length (flatOf iv a.vs) :: L) w := by
  have h1 := (Sat.kCons (Sat.kCons h).drop)
  exact (Sat.sep (M := [_, _]) h1).drop |>.perm pl1 |>.drop
set_option maxRecDepth 100000 in
set_option maxHeartbeats 2000000 in
theorem live_does  : Does Try.prog 26 [] [] (fun v L => v = .bool true ∧ L = []) := by
  refine Does.enter 37 Try.func26 rfl rfl rfl fun W F => ?_
  show WPc _ _ _ _ _ [] (F)
  refine WPc.seq ?_
  refine WPc.region ?_
  refine WP.val rfl rfl rfl (Val.assign rfl rfl) ?_
  refine WP.nil ?_
  refine Out.next ?_
  refine WPc.seq ?_
  refine WPc.region ?_
  refine WP.val rfl rfl rfl (Val.mk (cs := [.string (⟨#[97]⟩), .string (⟨#[99]⟩), .bool false]) rfl rfl (fun _ => by kernel_rfl)) ?_
  refine WP.val rfl rfl rfl (Val.mk (cs := [.string (⟨#[97]⟩), .string (⟨#[99]⟩), .bool false, .int .i64 0, .int .i64 0]) rfl rfl (fun _ => by kernel_rfl)) ?_
  refine WP.eff rfl rfl rfl (Eff.alloc rfl Ty.z56) ?_
  rintro _ F ⟨b1, rfl, rfl⟩
  refine WP.eff0 rfl rfl (Eff.storeAgg (cs := [.string (⟨#[97]⟩), .string (⟨#[99]⟩), .bool false, .int .i64 0, .int .i64 0]) (C' := [.string (⟨#[97]⟩), .string (⟨#[99]⟩), .bool false, .int .i64 0, .int .i64 0]) rfl Ty.ag56 rfl rfl rfl rfl (by simp) rfl) ?_
  rintro _ _ rfl
  refine WP.nil ?_
  refine Out.next ?_
  refine WPc.seq ?_
  refine WPc.region ?_
  refine WP.val rfl rfl rfl (Val.loadAgg (cs := [.string (⟨#[97]⟩), .string (⟨#[99]⟩), .bool false, .int .i64 0, .int .i64 0]) rfl Ty.ag56 rfl rfl (fun w h => h.range 0 rfl rfl)) ?_
  refine WP.val rfl rfl rfl (Val.mk (cs := [.int .i64 1, .string (⟨#[97]⟩), .string (⟨#[99]⟩), .bool false, .int .i64 0, .int .i64 0, .int .i64 4, .int .i64 0, .slice none 0 0, .slice none 0 0]) rfl rfl (fun _ => by kernel_rfl)) ?_
  refine WP.val rfl rfl rfl (Val.loadAgg (cs := [.string (⟨#[97]⟩), .string (⟨#[99]⟩), .bool false, .int .i64 0, .int .i64 0]) rfl Ty.ag56 rfl rfl (fun w h => h.range 0 rfl rfl)) ?_
  refine WP.val rfl rfl rfl (Val.mk (cs := [.int .i64 3, .string (⟨#[97]⟩), .string (⟨#[99]⟩), .bool false, .int .i64 0, .int .i64 0, .int .i64 0, .int .i64 0, .slice none 0 0, .slice none 0 0]) rfl rfl (fun _ => by kernel_rfl)) ?_
  refine WP.eff rfl rfl rfl (Eff.mkSlice (C := [.int .i64 1, .string (⟨#[97]⟩), .string (⟨#[99]⟩), .bool false, .int .i64 0, .int .i64 0, .int .i64 4, .int .i64 0, .slice none 0 0, .slice none 0 0, .int .i64 3, .string (⟨#[97]⟩), .string (⟨#[99]⟩), .bool false, .int .i64 0, .int .i64 0, .int .i64 0, .int .i64 0, .slice none 0 0, .slice none 0 0]) rfl Ty.sl47 rfl (fun _ => by kernel_rfl)) ?_
  rintro _ _ ⟨b2, rfl, rfl⟩
  refine WP.eff rfl rfl rfl (Eff.call rfl rfl Try.call27 (tree_spec (Blk b2 [.int .i64 1, .string (⟨#[97]⟩), .string (⟨#[99]⟩), .bool false, .int .i64 0, .int .i64 0, .int .i64 4, .int .i64 0, .slice none 0 0, .slice none 0 0, .int .i64 3, .string (⟨#[97]⟩), .string (⟨#[99]⟩), .bool false, .int .i64 0, .int .i64 0, .int .i64 0, .int .i64 0, .slice none 0 0, .slice none 0 0] 60) 1 IL live_zero lops (by decide) (live_step _) (.slice (some ⟨b2, 0, none⟩) 2 2) (show Rd (Blk b2 [.int .i64 1, .string (⟨#[97]⟩), .string (⟨#[99]⟩), .bool false, .int .i64 0, .int .i64 0, .int .i64 4, .int .i64 0, .slice none 0 0, .slice none 0 0, .int .i64 3, .string (⟨#[97]⟩), .string (⟨#[99]⟩), .bool false, .int .i64 0, .int .i64 0, .int .i64 0, .int .i64 0, .slice none 0 0, .slice none 0 0] 60) 10 TOp.cells (.slice (some ⟨b2, 0, none⟩) 2 2) lops from rd_blk TOp.len _ _ _ lops))) ?_
  rintro v _ ⟨_, ⟨q, was, hI, rfl⟩, rfl⟩
  show WP _ _ _ _ _ _ _ (Blk b2 [.int .i64 1, .string (⟨#[97]⟩), .string (⟨#[99]⟩), .bool false, .int .i64 0, .int .i64 0, .int .i64 4, .int .i64 0, .slice none 0 0, .slice none 0 0, .int .i64 3, .string (⟨#[97]⟩), .string (⟨#[99]⟩), .bool false, .int .i64 0, .int .i64 0, .int .i64 0, .int .i64 0, .slice none 0 0, .slice none 0 0] 60 :: Own 62 5 v was.length (flatOf WA.cells was) :: Kds WAP was :: Blk b1 [.string (⟨#[97]⟩), .string (⟨#[99]⟩), .bool false, .int .i64 0, .int .i64 0] 56 :: F)
  obtain ⟨w0, lv, vv, rfl⟩ := live_two hI
  show WP _ _ _ _ _ _ _ (Blk b2 [.int .i64 1, .string (⟨#[97]⟩), .string (⟨#[99]⟩), .bool false, .int .i64 0, .int .i64 0, .int .i64 4, .int .i64 0, .slice none 0 0, .slice none 0 0, .int .i64 3, .string (⟨#[97]⟩), .string (⟨#[99]⟩), .bool false, .int .i64 0, .int .i64 0, .int .i64 0, .int .i64 0, .slice none 0 0, .slice none 0 0] 60 :: Own 62 5 v 2 (flatOf WA.cells [w0, ⟨lans, lv, vv⟩]) :: Kds WAP [w0, ⟨lans, lv, vv⟩] :: Blk b1 [.string (⟨#[97]⟩), .string (⟨#[99]⟩), .bool false, .int .i64 0, .int .i64 0] 56 :: F)
  refine WP.perm pl2 ?_
  refine WP.conv (fun w h => live_kds h) ?_
  show WP _ _ _ _ _ _ _ (Own 3 1 vv 1 ([.int .i64 4]) :: Blk b2 [.int .i64 1, .string (⟨#[97]⟩), .string (⟨#[99]⟩), .bool false, .int .i64 0, .int .i64 0, .int .i64 4, .int .i64 0, .slice none 0 0, .slice none 0 0, .int .i64 3, .string (⟨#[97]⟩), .string (⟨#[99]⟩), .bool false, .int .i64 0, .int .i64 0, .int .i64 0, .int .i64 0, .slice none 0 0, .slice none 0 0] 60 :: Own 62 5 v 2 (flatOf WA.cells [w0, ⟨lans, lv, vv⟩]) :: Blk b1 [.string (⟨#[97]⟩), .string (⟨#[99]⟩), .bool false, .int .i64 0, .int .i64 0] 56 :: F)
  refine WP.open (fun w h => h.ownPos (by omega)) ?_
  rintro ⟨g3, cg3, spg3⟩
  refine WP.pure (fun hvg3 => ?_)
  obtain ⟨rfl, hng3, hlg3, hsg3, hcg3⟩ := hvg3
  dsimp only at hng3 hlg3 hsg3 hcg3
  show WP _ _ _ _ _ _ _ (Blk g3 ([.int .i64 4] ++ spg3) 3 :: Blk b2 [.int .i64 1, .string (⟨#[97]⟩), .string (⟨#[99]⟩), .bool false, .int .i64 0, .int .i64 0, .int .i64 4, .int .i64 0, .slice none 0 0, .slice none 0 0, .int .i64 3, .string (⟨#[97]⟩), .string (⟨#[99]⟩), .bool false, .int .i64 0, .int .i64 0, .int .i64 0, .int .i64 0, .slice none 0 0, .slice none 0 0] 60 :: Own 62 5 v 2 (flatOf WA.cells [w0, ⟨lans, lv, .slice (some ⟨g3, 0, none⟩) 1 cg3⟩]) :: Blk b1 [.string (⟨#[97]⟩), .string (⟨#[99]⟩), .bool false, .int .i64 0, .int .i64 0] 56 :: F)
  refine WP.perm pl2 ?_
  refine WP.open (fun w h => h.ownPos (by omega)) ?_
  rintro ⟨g4, cg4, spg4⟩
  refine WP.pure (fun hvg4 => ?_)
  obtain ⟨rfl, hng4, hlg4, hsg4, hcg4⟩ := hvg4
  dsimp only at hng4 hlg4 hsg4 hcg4
  show WP _ _ _ _ _ _ _ (Blk g4 (flatOf WA.cells [w0, ⟨lans, lv, .slice (some ⟨g3, 0, none⟩) 1 cg3⟩] ++ spg4) 62 :: Blk g3 ([.int .i64 4] ++ spg3) 3 :: Blk b2 [.int .i64 1, .string (⟨#[97]⟩), .string (⟨#[99]⟩), .bool false, .int .i64 0, .int .i64 0, .int .i64 4, .int .i64 0, .slice none 0 0, .slice none 0 0, .int .i64 3, .string (⟨#[97]⟩), .string (⟨#[99]⟩), .bool false, .int .i64 0, .int .i64 0, .int .i64 0, .int .i64 0, .slice none 0 0, .slice none 0 0] 60 :: Blk b1 [.string (⟨#[97]⟩), .string (⟨#[99]⟩), .bool false, .int .i64 0, .int .i64 0] 56 :: F)
  refine WP.val rfl rfl rfl (Val.assign rfl rfl) ?_
  refine WP.nil ?_
  refine Out.next ?_
  refine WPc.seq ?_
  refine WPc.region ?_
  refine WP.val rfl rfl rfl (Val.move rfl rfl) ?_
  refine WP.val rfl rfl rfl (Val.len rfl Ty.sl50 rfl) ?_
  refine WP.val rfl rfl rfl (Val.eqlK rfl rfl rfl rfl) ?_
  refine WP.val rfl rfl rfl (Val.move rfl rfl) ?_
  refine WP.valG rfl rfl rfl rfl rfl rfl rfl (Val.move rfl rfl) ?_
  refine WP.valG rfl rfl rfl rfl rfl rfl rfl (Val.indexAddr (j := 1) (q := 5) rfl Ty.sl50 rfl rfl (by omega) (by omega) (by omega)) ?_
  refine WP.valG rfl rfl rfl rfl rfl rfl rfl (Val.fieldAddr (j := 5) rfl Ty.fo62_0 rfl rfl) ?_
  refine WP.valG rfl rfl rfl rfl rfl rfl rfl (Val.load (v := .bool true) rfl Ty.sc4 rfl (fun w h => h.cell 0 rfl rfl)) ?_
  refine WP.val rfl rfl rfl (Val.pickT rfl rfl rfl) ?_
  refine WP.val rfl rfl rfl (Val.move rfl rfl) ?_
  refine WP.valG rfl rfl rfl rfl rfl rfl rfl (Val.move rfl rfl) ?_
  refine WP.valG rfl rfl rfl rfl rfl rfl rfl (Val.indexAddr (j := 1) (q := 5) rfl Ty.sl50 rfl rfl (by omega) (by omega) (by omega)) ?_
  refine WP.valG rfl rfl rfl rfl rfl rfl rfl (Val.fieldAddr (j := 9) rfl Ty.fo62_4 rfl rfl) ?_
  refine WP.valG rfl rfl rfl rfl rfl rfl rfl (Val.load (v := .slice (some ⟨g3, 0, none⟩) 1 cg3) rfl Ty.sc58 rfl (fun w h => h.cell 0 rfl rfl)) ?_
  refine WP.valG rfl rfl rfl rfl rfl rfl rfl (Val.len rfl Ty.sl58 rfl) ?_
  refine WP.valG rfl rfl rfl rfl rfl rfl rfl (Val.eqlK rfl rfl rfl rfl) ?_
  refine WP.val rfl rfl rfl (Val.pickT rfl rfl rfl) ?_
  refine WP.val rfl rfl rfl (Val.move rfl rfl) ?_
  refine WP.valG rfl rfl rfl rfl rfl rfl rfl (Val.move rfl rfl) ?_
  refine WP.valG rfl rfl rfl rfl rfl rfl rfl (Val.indexAddr (j := 1) (q := 5) rfl Ty.sl50 rfl rfl (by omega) (by omega) (by omega)) ?_
  refine WP.valG rfl rfl rfl rfl rfl rfl rfl (Val.fieldAddr (j := 9) rfl Ty.fo62_4 rfl rfl) ?_
  refine WP.valG rfl rfl rfl rfl rfl rfl rfl (Val.load (v := .slice (some ⟨g3, 0, none⟩) 1 cg3) rfl Ty.sc58 rfl (fun w h => h.cell 0 rfl rfl)) ?_
  refine WP.valG rfl rfl rfl rfl rfl rfl rfl (Val.indexAddr (j := 0) (q := 0) rfl Ty.sl58 rfl rfl (by omega) (by omega) (by omega)) ?_
  refine WP.valG rfl rfl rfl rfl rfl rfl rfl (Val.load (v := .int .i64 4) rfl Ty.sc3 rfl (fun w h => h.cell 1 rfl rfl)) ?_
  refine WP.valG rfl rfl rfl rfl rfl rfl rfl (Val.eqlK rfl rfl rfl rfl) ?_
  refine WP.val rfl rfl rfl (Val.pickT rfl rfl rfl) ?_
  refine WP.val rfl rfl rfl (Val.assign rfl rfl) ?_
  refine WP.nil ?_
  refine Out.next ?_
  refine WPc.ret ?_
  refine Out.drop ?_
  refine Out.drop ?_
  refine Out.drop ?_
  refine Out.drop ?_
  exact Out.ret1 (L' := []) Try.results26 rfl ⟨rfl, rfl⟩ (fun w h => h)

end Go.Proofs.Ytbomnihiapjmpaa.TE

namespace Go.Proofs.Ytbomnihiapjmpaa.TF
open Go.RowKit Go.Proofs.Ytbomnihiapjmpaa Go.Proofs.Ytbomnihiapjmpaa.Sl Go.Proofs.Ytbomnihiapjmpaa.TrP Go.Proofs.Ytbomnihiapjmpaa.Tb Go.Proofs.Ytbomnihiapjmpaa.Tc Go.Proofs.Ytbomnihiapjmpaa.Td Go.Proofs.Ytbomnihiapjmpaa.Tn Go.Proofs.Ytbomnihiapjmpaa.Tr Go.Proofs.Ytbomnihiapjmpaa.Ts Go.Proofs.Ytbomnihiapjmpaa.Tx Go.Proofs.Ytbomnihiapjmpaa.TC Go.Proofs.Ytbomnihiapjmpaa.TD Go.Proofs.Ytbomnihiapjmpaa.TE
set_option linter.unusedVariables false
set_option linter.unusedSimpArgs false
set_option linter.unusedSectionVars false

set_option maxRecDepth 100000 in
set_option maxHeartbeats 2000000 in
theorem ends_law (k : Int) (x y : ByteArray) (a b : Int) : Does Try.prog 9 [.int .i64 (k), .string x, .string y, .int .i64 (a), .int .i64 (b)] [] (fun v L => v = .bool true ∧ L = []) := by
  refine Does.enter 54 Try.func9 rfl rfl rfl fun W F => ?_
  show WPc _ _ _ _ _ [(0, .int .i64 (k)), (1, .string x), (2, .string y), (3, .int .i64 (a)), (4, .int .i64 (b))] (F)
  refine WPc.seq ?_
  refine WPc.region ?_
  refine WP.val rfl rfl rfl (Val.assign rfl rfl) ?_
  refine WP.nil ?_
  refine Out.next ?_
  refine WPc.seq ?_
  refine WPc.seq ?_
  refine WPc.region ?_
  refine WP.val rfl rfl rfl (Val.move rfl rfl) ?_
  refine WP.val rfl rfl rfl (Val.lenS rfl Ty.st9 rfl) ?_
  refine WP.val rfl rfl rfl (Val.gtr rfl rfl rfl) ?_
  refine WP.val rfl rfl rfl (Val.move rfl rfl) ?_
  refine WP.split 14 rfl (fun h1 => ?_) (fun h1 => ?_)
  · skip
    have h1 : ((2147483647 : Int) < (((x).size : Nat) : Int)) := h1
    refine WP.skip rfl rfl rfl rfl rfl rfl rfl ?_
    refine WP.skip rfl rfl rfl rfl rfl rfl rfl ?_
    refine WP.skip rfl rfl rfl rfl rfl rfl rfl ?_
    refine WP.val rfl rfl rfl (Val.pickT rfl rfl rfl) ?_
    refine WP.nil ?_
    refine Out.next ?_
    refine WPc.condT rfl rfl ?_
    refine WPc.seq ?_
    refine WPc.region ?_
    refine WP.val rfl rfl rfl (Val.assign rfl rfl) ?_
    refine WP.nil ?_
    refine Out.next ?_
    refine WPc.ret ?_
    refine Out.then_ret ?_
    exact Out.ret1 (L' := []) Try.results9 rfl ⟨rfl, rfl⟩ (fun w h => h)
  · skip
    have h1 : ¬ ((2147483647 : Int) < (((x).size : Nat) : Int)) := h1
    refine WP.valG rfl rfl rfl rfl rfl rfl rfl (Val.move rfl rfl) ?_
    refine WP.valG rfl rfl rfl rfl rfl rfl rfl (Val.lenS rfl Ty.st9 rfl) ?_
    refine WP.valG rfl rfl rfl rfl rfl rfl rfl (Val.gtr rfl rfl rfl) ?_
    refine WP.val rfl rfl rfl (Val.pickF rfl rfl rfl) ?_
    refine WP.nil ?_
    refine Out.next ?_
    refine WPc.ifP rfl (fun h2 => ?_) (fun h2 => ?_)
    · skip
      have h2 : ((2147483647 : Int) < (((y).size : Nat) : Int)) := h2
      refine WPc.seq ?_
      refine WPc.region ?_
      refine WP.val rfl rfl rfl (Val.assign rfl rfl) ?_
      refine WP.nil ?_
      refine Out.next ?_
      refine WPc.ret ?_
      refine Out.then_ret ?_
      exact Out.ret1 (L' := []) Try.results9 rfl ⟨rfl, rfl⟩ (fun w h => h)
    · skip
      have h2 : ¬ ((2147483647 : Int) < (((y).size : Nat) : Int)) := h2
      refine WPc.skip ?_
      refine Out.next ?_
      refine WPc.seq ?_
      refine WPc.seq ?_
      refine WPc.region ?_
      refine WP.val rfl rfl rfl (Val.move rfl rfl) ?_
      refine WP.val rfl rfl rfl (Val.lss rfl rfl rfl) ?_
      refine WP.val rfl rfl rfl (Val.move rfl rfl) ?_
      refine WP.split 21 rfl (fun h3 => ?_) (fun h3 => ?_)
      · skip
        have h3 : (k < (0 : Int)) := h3
        refine WP.skip rfl rfl rfl rfl rfl rfl rfl ?_
        refine WP.skip rfl rfl rfl rfl rfl rfl rfl ?_
        refine WP.val rfl rfl rfl (Val.pickT rfl rfl rfl) ?_
        refine WP.val rfl rfl rfl (Val.move rfl rfl) ?_
        refine WP.skip rfl rfl rfl rfl rfl rfl rfl ?_
        refine WP.skip rfl rfl rfl rfl rfl rfl rfl ?_
        refine WP.skip rfl rfl rfl rfl rfl rfl rfl ?_
        refine WP.skip rfl rfl rfl rfl rfl rfl rfl ?_
        refine WP.val rfl rfl rfl (Val.pickT rfl rfl rfl) ?_
        refine WP.val rfl rfl rfl (Val.move rfl rfl) ?_
        refine WP.skip rfl rfl rfl rfl rfl rfl rfl ?_
        refine WP.skip rfl rfl rfl rfl rfl rfl rfl ?_
        refine WP.skip rfl rfl rfl rfl rfl rfl rfl ?_
        refine WP.skip rfl rfl rfl rfl rfl rfl rfl ?_
        refine WP.val rfl rfl rfl (Val.pickT rfl rfl rfl) ?_
        refine WP.nil ?_
        refine Out.next ?_
        refine WPc.condT rfl rfl ?_
        refine WPc.seq ?_
        refine WPc.region ?_
        refine WP.eff rfl rfl rfl (Eff.call rfl rfl Try.call26 (live_does)) ?_
        rintro _ F ⟨_, ⟨rfl, rfl⟩, rfl⟩
        show WP _ _ _ _ _ _ _ (F)
        refine WP.val rfl rfl rfl (Val.assign rfl rfl) ?_
        refine WP.nil ?_
        refine Out.next ?_
        refine WPc.ret ?_
        refine Out.then_ret ?_
        exact Out.ret1 (L' := []) Try.results9 rfl ⟨rfl, rfl⟩ (fun w h => h)
      · skip
        have h3 : ¬ (k < (0 : Int)) := h3
        refine WP.valG rfl rfl rfl rfl rfl rfl rfl (Val.move rfl rfl) ?_
        refine WP.valG rfl rfl rfl rfl rfl rfl rfl (Val.gtr rfl rfl rfl) ?_
        refine WP.val rfl rfl rfl (Val.pickF rfl rfl rfl) ?_
        refine WP.val rfl rfl rfl (Val.move rfl rfl) ?_
        refine WP.split 25 rfl (fun h4 => ?_) (fun h4 => ?_)
        · skip
          have h4 : ((3 : Int) < k) := h4
          refine WP.skip rfl rfl rfl rfl rfl rfl rfl ?_
          refine WP.skip rfl rfl rfl rfl rfl rfl rfl ?_
          refine WP.skip rfl rfl rfl rfl rfl rfl rfl ?_
          refine WP.skip rfl rfl rfl rfl rfl rfl rfl ?_
          refine WP.val rfl rfl rfl (Val.pickT rfl rfl rfl) ?_
          refine WP.val rfl rfl rfl (Val.move rfl rfl) ?_
          refine WP.skip rfl rfl rfl rfl rfl rfl rfl ?_
          refine WP.skip rfl rfl rfl rfl rfl rfl rfl ?_
          refine WP.skip rfl rfl rfl rfl rfl rfl rfl ?_
          refine WP.skip rfl rfl rfl rfl rfl rfl rfl ?_
          refine WP.val rfl rfl rfl (Val.pickT rfl rfl rfl) ?_
          refine WP.nil ?_
          refine Out.next ?_
          refine WPc.condT rfl rfl ?_
          refine WPc.seq ?_
          refine WPc.region ?_
          refine WP.eff rfl rfl rfl (Eff.call rfl rfl Try.call26 (live_does)) ?_
          rintro _ F ⟨_, ⟨rfl, rfl⟩, rfl⟩
          show WP _ _ _ _ _ _ _ (F)
          refine WP.val rfl rfl rfl (Val.assign rfl rfl) ?_
          refine WP.nil ?_
          refine Out.next ?_
          refine WPc.ret ?_
          refine Out.then_ret ?_
          exact Out.ret1 (L' := []) Try.results9 rfl ⟨rfl, rfl⟩ (fun w h => h)
        · skip
          have h4 : ¬ ((3 : Int) < k) := h4
          refine WP.valG rfl rfl rfl rfl rfl rfl rfl (Val.move rfl rfl) ?_
          refine WP.valG rfl rfl rfl rfl rfl rfl rfl (Val.move rfl rfl) ?_
          refine WP.valG rfl rfl rfl rfl rfl rfl rfl (Val.min2 (z := (if b < a then b else a)) rfl rfl rfl rfl) ?_
          refine WP.valG rfl rfl rfl rfl rfl rfl rfl (Val.lss rfl rfl rfl) ?_
          refine WP.val rfl rfl rfl (Val.pickF rfl rfl rfl) ?_
          refine WP.val rfl rfl rfl (Val.move rfl rfl) ?_
          refine WP.split 31 rfl (fun h5 => ?_) (fun h5 => ?_)
          · skip
            have h5 : ((if b < a then b else a) < (-2305843009213693952 : Int)) := h5
            refine WP.skip rfl rfl rfl rfl rfl rfl rfl ?_
            refine WP.skip rfl rfl rfl rfl rfl rfl rfl ?_
            refine WP.skip rfl rfl rfl rfl rfl rfl rfl ?_
            refine WP.skip rfl rfl rfl rfl rfl rfl rfl ?_
            refine WP.val rfl rfl rfl (Val.pickT rfl rfl rfl) ?_
            refine WP.nil ?_
            refine Out.next ?_
            refine WPc.condT rfl rfl ?_
            refine WPc.seq ?_
            refine WPc.region ?_
            refine WP.eff rfl rfl rfl (Eff.call rfl rfl Try.call26 (live_does)) ?_
            rintro _ F ⟨_, ⟨rfl, rfl⟩, rfl⟩
            show WP _ _ _ _ _ _ _ (F)
            refine WP.val rfl rfl rfl (Val.assign rfl rfl) ?_
            refine WP.nil ?_
            refine Out.next ?_
            refine WPc.ret ?_
            refine Out.then_ret ?_
            exact Out.ret1 (L' := []) Try.results9 rfl ⟨rfl, rfl⟩ (fun w h => h)
          · skip
            have h5 : ¬ ((if b < a then b else a) < (-2305843009213693952 : Int)) := h5
            refine WP.valG rfl rfl rfl rfl rfl rfl rfl (Val.move rfl rfl) ?_
            refine WP.valG rfl rfl rfl rfl rfl rfl rfl (Val.move rfl rfl) ?_
            refine WP.valG rfl rfl rfl rfl rfl rfl rfl (Val.max2 (z := (if a < b then b else a)) rfl rfl rfl rfl) ?_
            refine WP.valG rfl rfl rfl rfl rfl rfl rfl (Val.gtr rfl rfl rfl) ?_
            refine WP.val rfl rfl rfl (Val.pickF rfl rfl rfl) ?_
            refine WP.nil ?_
            refine Out.next ?_
            refine WPc.ifP rfl (fun h6 => ?_) (fun h6 => ?_)
            · skip
              have h6 : ((2305843009213693952 : Int) < (if a < b then b else a)) := h6
              refine WPc.seq ?_
              refine WPc.region ?_
              refine WP.eff rfl rfl rfl (Eff.call rfl rfl Try.call26 (live_does)) ?_
              rintro _ F ⟨_, ⟨rfl, rfl⟩, rfl⟩
              show WP _ _ _ _ _ _ _ (F)
              refine WP.val rfl rfl rfl (Val.assign rfl rfl) ?_
              refine WP.nil ?_
              refine Out.next ?_
              refine WPc.ret ?_
              refine Out.then_ret ?_
              exact Out.ret1 (L' := []) Try.results9 rfl ⟨rfl, rfl⟩ (fun w h => h)
            · skip
              have h6 : ¬ ((2305843009213693952 : Int) < (if a < b then b else a)) := h6
              refine WPc.skip ?_
              refine Out.next ?_
              refine WPc.seq ?_
              have hk3 : 0 ≤ k ∧ k ≤ 3 := by omega
              have hab : (-2305843009213693952 ≤ a ∧ a ≤ 2305843009213693952) ∧ (-2305843009213693952 ≤ b ∧ b ≤ 2305843009213693952) := by split at * <;> split at * <;> omega
              refine WPc.region ?_
              refine WP.val rfl rfl rfl (Val.move rfl rfl) ?_
              refine WP.val rfl rfl rfl (Val.move rfl rfl) ?_
              refine WP.val rfl rfl rfl (Val.move rfl rfl) ?_
              refine WP.val rfl rfl rfl (Val.move rfl rfl) ?_
              refine WP.val rfl rfl rfl (Val.move rfl rfl) ?_
              refine WP.eff rfl rfl rfl (Eff.call rfl rfl Try.call36 (ends_does k x y a b hab.1 hab.2)) ?_
              rintro _ F ⟨_, ⟨rfl, rfl⟩, rfl⟩
              show WP _ _ _ _ _ _ _ (F)
              refine WP.val rfl rfl rfl (Val.move rfl rfl) ?_
              refine WP.val rfl rfl rfl (Val.move rfl rfl) ?_
              refine WP.val rfl rfl rfl (Val.move rfl rfl) ?_
              refine WP.val rfl rfl rfl (Val.move rfl rfl) ?_
              refine WP.val rfl rfl rfl (Val.move rfl rfl) ?_
              refine WP.eff rfl rfl rfl (Eff.call rfl rfl Try.call37 (sends_does k x y a b hk3)) ?_
              rintro _ F ⟨_, ⟨rfl, rfl⟩, rfl⟩
              show WP _ _ _ _ _ _ _ (F)
              refine WP.val rfl rfl rfl (Val.eql rfl rfl rfl) ?_
              refine WP.val rfl rfl rfl (Val.move rfl rfl) ?_
              refine WP.split 51 rfl (fun h7 => ?_) (fun h7 => ?_)
              · skip
                have h7 : ((kcmp (ke k x a) (ke k y b)) = (kcmp (ke k x a) (ke k y b))) := h7
                refine WP.effG rfl rfl rfl rfl rfl rfl rfl (Eff.call rfl rfl Try.call26 (live_does)) ?_
                rintro _ F ⟨_, ⟨rfl, rfl⟩, rfl⟩
                show WP _ _ _ _ _ _ _ (F)
                refine WP.val rfl rfl rfl (Val.pickT rfl rfl rfl) ?_
                refine WP.val rfl rfl rfl (Val.assign rfl rfl) ?_
                refine WP.nil ?_
                refine Out.next ?_
                refine WPc.ret ?_
                exact Out.ret1 (L' := []) Try.results9 rfl ⟨rfl, rfl⟩ (fun w h => h)
              · skip
                have h7 : ¬ ((kcmp (ke k x a) (ke k y b)) = (kcmp (ke k x a) (ke k y b))) := h7
                exact absurd rfl (by assumption)

end Go.Proofs.Ytbomnihiapjmpaa.TF

namespace Go.Proofs.Ytbomnihiapjmpaa.Sl
set_option linter.unusedVariables false
section
variable {P : Program} {W : World} {ops : Array Oper} {Q : Exit → Act → World → Prop} {n : Nat} {l : List (Nat × Value)} {L : List HProp}
variable [Dfs]
/-- three are ready, or four: each may be the first -/
theorem WPD.pick3 {S : World → Prop} {fuel : Nat} {listed : Array Bool} (i j k : Nat) (hr : Region.ready .any ops listed = [i, j, k]) (h1 : WPO P W ops Q S fuel listed n l L i) (h2 : WPO P W ops Q S fuel listed n l L j) (h3 : WPO P W ops Q S fuel listed n l L k) : WPD P W ops Q S (fuel + 1) listed n l L := by
  intro a w hf hs
  refine wpF_all hr (by simp) fun q hq => ?_
  rcases List.mem_cons.1 hq with rfl | hq
  · exact h1 a w hf hs
  · rcases List.mem_cons.1 hq with rfl | hq
    · exact h2 a w hf hs
    · obtain rfl : q = k := by simpa using hq
      exact h3 a w hf hs
theorem WPD.pick4 {S : World → Prop} {fuel : Nat} {listed : Array Bool} (i j k m : Nat) (hr : Region.ready .any ops listed = [i, j, k, m]) (h1 : WPO P W ops Q S fuel listed n l L i) (h2 : WPO P W ops Q S fuel listed n l L j) (h3 : WPO P W ops Q S fuel listed n l L k) (h4 : WPO P W ops Q S fuel listed n l L m) : WPD P W ops Q S (fuel + 1) listed n l L := by
  intro a w hf hs
  refine wpF_all hr (by simp) fun q hq => ?_
  rcases List.mem_cons.1 hq with rfl | hq
  · exact h1 a w hf hs
  · rcases List.mem_cons.1 hq with rfl | hq
    · exact h2 a w hf hs
    · rcases List.mem_cons.1 hq with rfl | hq
      · exact h3 a w hf hs
      · obtain rfl : q = m := by simpa using hq
        exact h4 a w hf hs
end
end Go.Proofs.Ytbomnihiapjmpaa.Sl

namespace Go.Proofs.Ytbomnihiapjmpaa.TG
open Go.RowKit Go.Proofs.Ytbomnihiapjmpaa Go.Proofs.Ytbomnihiapjmpaa.Sl Go.Proofs.Ytbomnihiapjmpaa.TrP Go.Proofs.Ytbomnihiapjmpaa.Tb Go.Proofs.Ytbomnihiapjmpaa.Tc Go.Proofs.Ytbomnihiapjmpaa.Td Go.Proofs.Ytbomnihiapjmpaa.Tn Go.Proofs.Ytbomnihiapjmpaa.Tr Go.Proofs.Ytbomnihiapjmpaa.Ts Go.Proofs.Ytbomnihiapjmpaa.Tx Go.Proofs.Ytbomnihiapjmpaa.TC Go.Proofs.Ytbomnihiapjmpaa.TD Go.Proofs.Ytbomnihiapjmpaa.TE
set_option linter.unusedVariables false
set_option linter.unusedSimpArgs false
set_option linter.unusedSectionVars false


/-- an interval without a point -/
def pln (x : Sp) : Sp := ⟨x.key, x.end, false, x.lo, x.hi⟩
theorem pln_1 {x : Sp} (h : x.one = true) : pln x = ⟨x.key, x.key ++ (⟨#[0]⟩ : ByteArray), false, x.lo, x.hi⟩ := by unfold pln Sp.end; rw [h, if_pos rfl]
theorem pln_0 {x : Sp} (h : x.one = false) : pln x = x := by
 obtain ⟨a, b, c, d, e⟩ := x
 obtain rfl : c = false := h
 rfl
theorem pln_B (k : Int) (x : Sp) : kB k (pln x) = kB k x := rfl
theorem pln_E (k : Int) (x : Sp) : kE k (pln x) = kE k x := rfl
abbrev ahd (k : Int) (x y : Sp) : Prop := goK (kB k x) (kE k x) (kB k y) (kE k y)
abbrev same (k : Int) (x y : Sp) : Prop := kB k x = kB k y ∧ kE k x = kE k y
abbrev meets (k : Int) (x y : Sp) : Prop := klt (kB k x) (kE k y) ∧ klt (kB k y) (kE k x)
abbrev prp (k : Int) (x : Sp) : Prop := klt (kB k x) (kE k x)

/-- an order that there is, or another one: that counts as the first here -/
def KO (k0 k : Int) : Prop := (0 ≤ k0 ∧ k0 ≤ 3 ∧ k = k0) ∨ ((k0 < 0 ∨ 3 < k0) ∧ k = 1)
theorem KO.ne {k0 k : Int} (h : KO k0 k) (h3 : ¬ k0 = 3) : ¬ k = 3 := by rcases h with ⟨-, -, rfl⟩ | ⟨-, rfl⟩ <;> omega
theorem KO.all (k0 : Int) : ∃ k, KO k0 k := by
 by_cases h : 0 ≤ k0 ∧ k0 ≤ 3
 ·
  exact ⟨k0, .inl ⟨h.1, h.2, rfl⟩⟩
 ·
  exact ⟨1, .inr ⟨by omega, rfl⟩⟩
set_option maxRecDepth 100000 in
set_option maxHeartbeats 2000000 in
theorem sends1_does (k0 : Int) (s t : ByteArray) (m n : Int) (hk0 : k0 < 0 ∨ 3 < k0) : Does Try.prog 37 [.int .i64 (k0), .string s, .string t, .int .i64 (m), .int .i64 (n)] [] (fun v L => v = .int .i64 (kcmp (ke 1 s m) (ke 1 t n)) ∧ L = []) := by
 refine Does.enter 46 Try.func37 rfl rfl rfl fun W F => ?_
 show WPc _ _ _ _ _ [(0, .int .i64 (k0)), (1, .string s), (2, .string t), (3, .int .i64 (m)), (4, .int .i64 (n))] (F)
 refine WPc.sr ?_
 refine WP.val rfl rfl rfl (Val.assign rfl rfl) ?_
 refine WP.nx ?_
 refine WPc.sr ?_
 refine WP.val rfl rfl rfl (Val.move rfl rfl) ?_
 refine WP.val rfl rfl rfl (Val.move rfl rfl) ?_
 refine WP.val rfl rfl rfl (Val.lssS rfl rfl rfl) ?_
 refine WP.val rfl rfl rfl (Val.move rfl rfl) ?_
 refine WP.val rfl rfl rfl (Val.move rfl rfl) ?_
 refine WP.val rfl rfl rfl (Val.gtrS rfl rfl rfl) ?_
 refine WP.val rfl rfl rfl (Val.assign rfl rfl) ?_
 refine WP.val rfl rfl rfl (Val.assign rfl rfl) ?_
 refine WP.nx ?_
 refine WPc.seq ?_
 refine WPc.block ?_
 refine WPc.sr ?_
 refine WP.val rfl rfl rfl (Val.move rfl rfl) ?_
 refine WP.val rfl rfl rfl (Val.eql rfl rfl rfl) ?_
 refine WP.val rfl rfl rfl (Val.assign rfl rfl) ?_
 refine WP.nx ?_
 refine WPc.ifP rfl (fun h1 => ?_) (fun h1 => ?_)
 ·
  have h1 : (k0 = (3 : Int)) := h1
  refine WPc.region ?_
  refine WP.val rfl rfl rfl (Val.move rfl rfl) ?_
  refine WP.val rfl rfl rfl (Val.move rfl rfl) ?_
  refine WP.val rfl rfl rfl (Val.lss rfl rfl rfl) ?_
  refine WP.val rfl rfl rfl (Val.move rfl rfl) ?_
  refine WP.val rfl rfl rfl (Val.move rfl rfl) ?_
  refine WP.val rfl rfl rfl (Val.gtr rfl rfl rfl) ?_
  refine WP.val rfl rfl rfl (Val.assign rfl rfl) ?_
  refine WP.val rfl rfl rfl (Val.assign rfl rfl) ?_
  refine WP.nil ?_
  refine Out.block ?_
  refine Out.next ?_
  refine WPc.seq ?_
  refine WPc.block ?_
  refine WPc.sr ?_
  refine WP.val rfl rfl rfl (Val.move rfl rfl) ?_
  refine WP.val rfl rfl rfl (Val.assign rfl rfl) ?_
  refine WP.nx ?_
  refine WPc.ifP rfl (fun h2 => ?_) (fun h2 => ?_)
  ·
   have h2 : (m < n) := h2
   refine WPc.sr ?_
   refine WP.val rfl rfl rfl (Val.assign rfl rfl) ?_
   refine WP.nx ?_
   refine WPc.ret ?_
   refine Out.block_ret ?_
   refine Out.then_ret ?_
   exact Out.ret1 (L' := []) Try.results37 rfl ⟨congrArg (Value.int .i64) (show (-1 : Int) = kcmp (ke 1 s m) (ke 1 t n) by rw [sends_eq]; first | (exfalso; omega) | (simp_all [seq_nil]; done) | (simp_all [seq_nil]; omega)), rfl⟩ (fun _ h => h)
  ·
   have h2 : ¬ (m < n) := h2
   refine WPc.sr ?_
   refine WP.val rfl rfl rfl (Val.move rfl rfl) ?_
   refine WP.val rfl rfl rfl (Val.assign rfl rfl) ?_
   refine WP.nx ?_
   refine WPc.ifP rfl (fun h3 => ?_) (fun h3 => ?_)
   ·
    have h3 : (n < m) := h3
    refine WPc.sr ?_
    refine WP.val rfl rfl rfl (Val.assign rfl rfl) ?_
    refine WP.nx ?_
    refine WPc.ret ?_
    refine Out.block_ret ?_
    refine Out.then_ret ?_
    exact Out.ret1 (L' := []) Try.results37 rfl ⟨congrArg (Value.int .i64) (show (1 : Int) = kcmp (ke 1 s m) (ke 1 t n) by rw [sends_eq]; first | (exfalso; omega) | (simp_all [seq_nil]; done) | (simp_all [seq_nil]; omega)), rfl⟩ (fun _ h => h)
   ·
    have h3 : ¬ (n < m) := h3
    refine WPc.skip ?_
    refine Out.block ?_
    refine Out.next ?_
    refine WPc.sr ?_
    refine WP.val rfl rfl rfl (Val.assign rfl rfl) ?_
    refine WP.nx ?_
    refine WPc.ret ?_
    exact Out.ret1 (L' := []) Try.results37 rfl ⟨congrArg (Value.int .i64) (show (0 : Int) = kcmp (ke 1 s m) (ke 1 t n) by rw [sends_eq]; first | (exfalso; omega) | (simp_all [seq_nil]; done) | (simp_all [seq_nil]; omega)), rfl⟩ (fun _ h => h)
 ·
  have h1 : ¬ (k0 = (3 : Int)) := h1
  refine WPc.sr ?_
  refine WP.val rfl rfl rfl (Val.move rfl rfl) ?_
  refine WP.val rfl rfl rfl (Val.neq rfl rfl rfl) ?_
  refine WP.val rfl rfl rfl (Val.move rfl rfl) ?_
  refine WP.split 31 rfl (fun h4 => ?_) (fun h4 => ?_)
  ·
   have h4 : (k0 ≠ (0 : Int)) := h4
   refine WP.valG rfl rfl rfl rfl rfl rfl rfl (Val.move rfl rfl) ?_
   refine WP.valG rfl rfl rfl rfl rfl rfl rfl (Val.eqlS rfl rfl rfl) ?_
   refine WP.valG rfl rfl rfl rfl rfl rfl rfl (Val.move rfl rfl) ?_
   refine WP.valG rfl rfl rfl rfl rfl rfl rfl (Val.eqlS rfl rfl rfl) ?_
   refine WP.valG rfl rfl rfl rfl rfl rfl rfl (Val.neqB rfl Ty2.bo4 rfl rfl) ?_
   refine WP.val rfl rfl rfl (Val.pickT rfl rfl rfl) ?_
   refine WP.val rfl rfl rfl (Val.assign rfl rfl) ?_
   refine WP.nx ?_
   refine WPc.cond rfl (fun h5 => ?_) (fun h5 => ?_)
   ·
    have h5 : (!((seq s (⟨#[]⟩)) == (seq t (⟨#[]⟩)))) = true := h5
    refine WPc.region ?_
    refine WP.val rfl rfl rfl (Val.move rfl rfl) ?_
    refine WP.val rfl rfl rfl (Val.eqlS rfl rfl rfl) ?_
    refine WP.val rfl rfl rfl (Val.move rfl rfl) ?_
    refine WP.val rfl rfl rfl (Val.eqlS rfl rfl rfl) ?_
    refine WP.val rfl rfl rfl (Val.assign rfl rfl) ?_
    refine WP.val rfl rfl rfl (Val.assign rfl rfl) ?_
    refine WP.nil ?_
    refine Out.block ?_
    refine Out.next ?_
    refine WPc.seq ?_
    refine WPc.block ?_
    refine WPc.sr ?_
    refine WP.val rfl rfl rfl (Val.move rfl rfl) ?_
    refine WP.val rfl rfl rfl (Val.assign rfl rfl) ?_
    refine WP.nx ?_
    refine WPc.cond rfl (fun h6 => ?_) (fun h6 => ?_)
    ·
     have h6 : (seq t (⟨#[]⟩)) = true := h6
     refine WPc.sr ?_
     refine WP.val rfl rfl rfl (Val.assign rfl rfl) ?_
     refine WP.nx ?_
     refine WPc.ret ?_
     refine Out.block_ret ?_
     refine Out.then_ret ?_
     exact Out.ret1 (L' := []) Try.results37 rfl ⟨congrArg (Value.int .i64) (show (-1 : Int) = kcmp (ke 1 s m) (ke 1 t n) by rw [sends_eq]; first | (exfalso; omega) | (simp_all [seq_nil]; done) | (simp_all [seq_nil]; omega)), rfl⟩ (fun _ h => h)
    ·
     have h6 : (seq t (⟨#[]⟩)) = false := h6
     refine WPc.sr ?_
     refine WP.val rfl rfl rfl (Val.move rfl rfl) ?_
     refine WP.val rfl rfl rfl (Val.assign rfl rfl) ?_
     refine WP.nx ?_
     refine WPc.cond rfl (fun h7 => ?_) (fun h7 => ?_)
     ·
      have h7 : (seq s (⟨#[]⟩)) = true := h7
      refine WPc.sr ?_
      refine WP.val rfl rfl rfl (Val.assign rfl rfl) ?_
      refine WP.nx ?_
      refine WPc.ret ?_
      refine Out.block_ret ?_
      refine Out.then_ret ?_
      exact Out.ret1 (L' := []) Try.results37 rfl ⟨congrArg (Value.int .i64) (show (1 : Int) = kcmp (ke 1 s m) (ke 1 t n) by rw [sends_eq]; first | (exfalso; omega) | (simp_all [seq_nil]; done) | (simp_all [seq_nil]; omega)), rfl⟩ (fun _ h => h)
     ·
      have h7 : (seq s (⟨#[]⟩)) = false := h7
      refine WPc.skip ?_
      refine Out.block ?_
      refine Out.next ?_
      refine WPc.sr ?_
      refine WP.val rfl rfl rfl (Val.assign rfl rfl) ?_
      refine WP.nx ?_
      refine WPc.ret ?_
      exact Out.ret1 (L' := []) Try.results37 rfl ⟨congrArg (Value.int .i64) (show (0 : Int) = kcmp (ke 1 s m) (ke 1 t n) by rw [sends_eq]; first | (exfalso; omega) | (simp_all [seq_nil]; done) | (simp_all [seq_nil]; omega)), rfl⟩ (fun _ h => h)
   ·
    have h5 : (!((seq s (⟨#[]⟩)) == (seq t (⟨#[]⟩)))) = false := h5
    refine WPc.skip ?_
    refine Out.block ?_
    refine Out.next ?_
    refine WPc.seq ?_
    refine WPc.block ?_
    refine WPc.sr ?_
    refine WP.val rfl rfl rfl (Val.move rfl rfl) ?_
    refine WP.val rfl rfl rfl (Val.assign rfl rfl) ?_
    refine WP.nx ?_
    refine WPc.cond rfl (fun h8 => ?_) (fun h8 => ?_)
    ·
     have h8 : (Op.bytesLess (s).toList (t).toList) = true := h8
     refine WPc.sr ?_
     refine WP.val rfl rfl rfl (Val.assign rfl rfl) ?_
     refine WP.nx ?_
     refine WPc.ret ?_
     refine Out.block_ret ?_
     refine Out.then_ret ?_
     exact Out.ret1 (L' := []) Try.results37 rfl ⟨congrArg (Value.int .i64) (show (-1 : Int) = kcmp (ke 1 s m) (ke 1 t n) by rw [sends_eq]; first | (exfalso; omega) | (simp_all [seq_nil]; done) | (simp_all [seq_nil]; omega)), rfl⟩ (fun _ h => h)
    ·
     have h8 : (Op.bytesLess (s).toList (t).toList) = false := h8
     refine WPc.sr ?_
     refine WP.val rfl rfl rfl (Val.move rfl rfl) ?_
     refine WP.val rfl rfl rfl (Val.assign rfl rfl) ?_
     refine WP.nx ?_
     refine WPc.cond rfl (fun h9 => ?_) (fun h9 => ?_)
     ·
      have h9 : (Op.bytesLess (t).toList (s).toList) = true := h9
      refine WPc.sr ?_
      refine WP.val rfl rfl rfl (Val.assign rfl rfl) ?_
      refine WP.nx ?_
      refine WPc.ret ?_
      refine Out.block_ret ?_
      refine Out.then_ret ?_
      exact Out.ret1 (L' := []) Try.results37 rfl ⟨congrArg (Value.int .i64) (show (1 : Int) = kcmp (ke 1 s m) (ke 1 t n) by rw [sends_eq]; first | (exfalso; omega) | (simp_all [seq_nil]; done) | (simp_all [seq_nil]; omega)), rfl⟩ (fun _ h => h)
     ·
      have h9 : (Op.bytesLess (t).toList (s).toList) = false := h9
      refine WPc.skip ?_
      refine Out.block ?_
      refine Out.next ?_
      refine WPc.sr ?_
      refine WP.val rfl rfl rfl (Val.assign rfl rfl) ?_
      refine WP.nx ?_
      refine WPc.ret ?_
      exact Out.ret1 (L' := []) Try.results37 rfl ⟨congrArg (Value.int .i64) (show (0 : Int) = kcmp (ke 1 s m) (ke 1 t n) by rw [sends_eq]; first | (exfalso; omega) | (simp_all [seq_nil]; done) | (simp_all [seq_nil]; omega)), rfl⟩ (fun _ h => h)
  ·
   have h4 : ¬ (k0 ≠ (0 : Int)) := h4
   iterate 5 (refine WP.skip rfl rfl rfl rfl rfl rfl rfl ?_)
   refine WP.val rfl rfl rfl (Val.pickF rfl rfl rfl) ?_
   refine WP.val rfl rfl rfl (Val.assign rfl rfl) ?_
   refine WP.nx ?_
   refine WPc.condF rfl rfl ?_
   refine WPc.skip ?_
   refine Out.block ?_
   refine Out.next ?_
   refine WPc.seq ?_
   refine WPc.block ?_
   refine WPc.sr ?_
   refine WP.val rfl rfl rfl (Val.move rfl rfl) ?_
   refine WP.val rfl rfl rfl (Val.assign rfl rfl) ?_
   refine WP.nx ?_
   refine WPc.cond rfl (fun h10 => ?_) (fun h10 => ?_)
   ·
    have h10 : (Op.bytesLess (s).toList (t).toList) = true := h10
    refine WPc.sr ?_
    refine WP.val rfl rfl rfl (Val.assign rfl rfl) ?_
    refine WP.nx ?_
    refine WPc.ret ?_
    refine Out.block_ret ?_
    refine Out.then_ret ?_
    exact Out.ret1 (L' := []) Try.results37 rfl ⟨congrArg (Value.int .i64) (show (-1 : Int) = kcmp (ke 1 s m) (ke 1 t n) by rw [sends_eq]; first | (exfalso; omega) | (simp_all [seq_nil]; done) | (simp_all [seq_nil]; omega)), rfl⟩ (fun _ h => h)
   ·
    have h10 : (Op.bytesLess (s).toList (t).toList) = false := h10
    refine WPc.sr ?_
    refine WP.val rfl rfl rfl (Val.move rfl rfl) ?_
    refine WP.val rfl rfl rfl (Val.assign rfl rfl) ?_
    refine WP.nx ?_
    refine WPc.cond rfl (fun h11 => ?_) (fun h11 => ?_)
    ·
     have h11 : (Op.bytesLess (t).toList (s).toList) = true := h11
     refine WPc.sr ?_
     refine WP.val rfl rfl rfl (Val.assign rfl rfl) ?_
     refine WP.nx ?_
     refine WPc.ret ?_
     refine Out.block_ret ?_
     refine Out.then_ret ?_
     exact Out.ret1 (L' := []) Try.results37 rfl ⟨congrArg (Value.int .i64) (show (1 : Int) = kcmp (ke 1 s m) (ke 1 t n) by rw [sends_eq]; first | (exfalso; omega) | (simp_all [seq_nil]; done) | (simp_all [seq_nil]; omega)), rfl⟩ (fun _ h => h)
    ·
     have h11 : (Op.bytesLess (t).toList (s).toList) = false := h11
     refine WPc.skip ?_
     refine Out.block ?_
     refine Out.next ?_
     refine WPc.sr ?_
     refine WP.val rfl rfl rfl (Val.assign rfl rfl) ?_
     refine WP.nx ?_
     refine WPc.ret ?_
     exact Out.ret1 (L' := []) Try.results37 rfl ⟨congrArg (Value.int .i64) (show (0 : Int) = kcmp (ke 1 s m) (ke 1 t n) by rw [sends_eq]; first | (exfalso; omega) | (simp_all [seq_nil]; done) | (simp_all [seq_nil]; omega)), rfl⟩ (fun _ h => h)

theorem sends2_does (k0 k : Int) (s t : ByteArray) (m n : Int) (hk : KO k0 k) : Does Try.prog 37 [.int .i64 k0, .string s, .string t, .int .i64 m, .int .i64 n] [] (fun v L => v = .int .i64 (kcmp (ke k s m) (ke k t n)) ∧ L = []) := by
 rcases hk with ⟨h1, h2, rfl⟩ | ⟨h, rfl⟩
 ·
  exact sends_does k s t m n ⟨h1, h2⟩
 ·
  exact sends1_does k0 s t m n h
set_option maxRecDepth 100000 in
set_option maxHeartbeats 2000000 in
theorem plain_true (x : Sp) (hx : x.key.size ≤ 2147483647) : Does Try.prog 79 [.agg #[.string x.key, .string x.fin, .bool true, .int .i64 (x.lo), .int .i64 (x.hi)]] [] (fun v L => v = .agg (Sp.cells (⟨x.key, x.key ++ (⟨#[0]⟩ : ByteArray), false, x.lo, x.hi⟩)).toArray ∧ L = []) := by
 have hz1 : ({ data := #[0] } : ByteArray).size = 1 := rfl
 refine Does.enter 16 Try.func79 rfl rfl rfl fun W F => ?_
 show WPc _ _ _ _ _ [(0, .agg #[.string x.key, .string x.fin, .bool true, .int .i64 (x.lo), .int .i64 (x.hi)])] (F)
 refine WPc.sr ?_
 refine WP.eff rfl rfl rfl (Eff.box (C := [.string x.key, .string x.fin, .bool true, .int .i64 (x.lo), .int .i64 (x.hi)]) rfl rfl rfl) ?_
 rintro _ F ⟨b1, rfl, rfl⟩
 refine WP.eff rfl rfl rfl (Eff.alloc rfl Ty.z56) ?_
 rintro _ _ ⟨b2, rfl, rfl⟩
 refine WP.nx ?_
 refine WPc.seq ?_
 refine WPc.sr ?_
 refine WP.val rfl rfl rfl (Val.fieldAddr (j := 0) rfl Ty.fo56_0 rfl rfl) ?_
 refine WP.val rfl rfl rfl (Val.fieldAddr (j := 2) rfl Ty.fo54_2 rfl rfl) ?_
 refine WP.val rfl rfl rfl (Val.load rfl Ty.sc4 rfl (fun w h => h.cell 1 rfl rfl)) ?_
 refine WP.nx ?_
 refine WPc.condT rfl rfl ?_
 refine WPc.region ?_
 refine WP.val rfl rfl rfl (Val.fieldAddr (j := 0) rfl Ty.fo56_0 rfl rfl) ?_
 refine WP.val rfl rfl rfl (Val.fieldAddr (j := 0) rfl Ty.fo54_0 rfl rfl) ?_
 refine WP.val rfl rfl rfl (Val.load rfl Ty.sc9 rfl (fun w h => h.cell 1 rfl rfl)) ?_
 refine WP.val rfl rfl rfl (Val.fieldAddr (j := 0) rfl Ty.fo56_0 rfl rfl) ?_
 refine WP.val rfl rfl rfl (Val.fieldAddr (j := 0) rfl Ty.fo54_0 rfl rfl) ?_
 refine WP.val rfl rfl rfl (Val.load rfl Ty.sc9 rfl (fun w h => h.cell 1 rfl rfl)) ?_
 refine WP.val rfl rfl rfl (Val.addS rfl rfl rfl (by omega)) ?_
 refine WP.val rfl rfl rfl (Val.mk (cs := [.string x.key, .string (x.key ++ ⟨#[0]⟩), .bool false]) rfl rfl (fun _ => by kernel_rfl)) ?_
 refine WP.val rfl rfl rfl (Val.fieldAddr (j := 0) rfl Ty.fo56_0 rfl rfl) ?_
 refine WP.perm pl1 ?_
 refine WP.eff0 rfl rfl (Eff.storeAgg (cs := [.string x.key, .string (x.key ++ ⟨#[0]⟩), .bool false]) (C' := [.string x.key, .string (x.key ++ ⟨#[0]⟩), .bool false, .int .i64 (x.lo), .int .i64 (x.hi)]) rfl Ty.ag54 rfl rfl rfl rfl (by simp) rfl) ?_
 rintro _ _ rfl
 refine WP.nx ?_
 refine WPc.sr ?_
 refine WP.val rfl rfl rfl (Val.loadAgg (cs := [.string x.key, .string (x.key ++ ⟨#[0]⟩), .bool false, .int .i64 (x.lo), .int .i64 (x.hi)]) rfl Ty.ag56 rfl rfl (fun w h => h.range 0 rfl rfl)) ?_
 refine WP.perm pl1 ?_
 refine WP.eff0 rfl rfl (Eff.storeAgg (cs := [.string x.key, .string (x.key ++ ⟨#[0]⟩), .bool false, .int .i64 (x.lo), .int .i64 (x.hi)]) (C' := [.string x.key, .string (x.key ++ ⟨#[0]⟩), .bool false, .int .i64 (x.lo), .int .i64 (x.hi)]) rfl Ty.ag56 rfl rfl rfl rfl (by simp) rfl) ?_
 rintro _ _ rfl
 refine WP.nx ?_
 refine WPc.ret ?_
 refine Out.perm pl1 ?_
 refine Out.drop ?_
 exact Out.retRun (L' := []) (results_cell (cs := [.string x.key, .string (x.key ++ ⟨#[0]⟩), .bool false, .int .i64 (x.lo), .int .i64 (x.hi)]) Try.results79 Ty.ag56 rfl rfl (fun w h => h.range 0 rfl rfl)) ⟨rfl, rfl⟩ (fun w h => h.drop)
set_option maxRecDepth 100000 in
set_option maxHeartbeats 2000000 in
theorem plain_false (x : Sp) (hx : x.key.size ≤ 2147483647) : Does Try.prog 79 [.agg #[.string x.key, .string x.fin, .bool false, .int .i64 (x.lo), .int .i64 (x.hi)]] [] (fun v L => v = .agg (Sp.cells (⟨x.key, x.fin, false, x.lo, x.hi⟩)).toArray ∧ L = []) := by
 have hz1 : ({ data := #[0] } : ByteArray).size = 1 := rfl
 refine Does.enter 16 Try.func79 rfl rfl rfl fun W F => ?_
 show WPc _ _ _ _ _ [(0, .agg #[.string x.key, .string x.fin, .bool false, .int .i64 (x.lo), .int .i64 (x.hi)])] (F)
 refine WPc.sr ?_
 refine WP.eff rfl rfl rfl (Eff.box (C := [.string x.key, .string x.fin, .bool false, .int .i64 (x.lo), .int .i64 (x.hi)]) rfl rfl rfl) ?_
 rintro _ F ⟨b1, rfl, rfl⟩
 refine WP.eff rfl rfl rfl (Eff.alloc rfl Ty.z56) ?_
 rintro _ _ ⟨b2, rfl, rfl⟩
 refine WP.nx ?_
 refine WPc.seq ?_
 refine WPc.sr ?_
 refine WP.val rfl rfl rfl (Val.fieldAddr (j := 0) rfl Ty.fo56_0 rfl rfl) ?_
 refine WP.val rfl rfl rfl (Val.fieldAddr (j := 2) rfl Ty.fo54_2 rfl rfl) ?_
 refine WP.val rfl rfl rfl (Val.load rfl Ty.sc4 rfl (fun w h => h.cell 1 rfl rfl)) ?_
 refine WP.nx ?_
 refine WPc.condF rfl rfl ?_
 refine WPc.skip ?_
 refine Out.next ?_
 refine WPc.sr ?_
 refine WP.val rfl rfl rfl (Val.loadAgg (cs := [.string x.key, .string x.fin, .bool false, .int .i64 (x.lo), .int .i64 (x.hi)]) rfl Ty.ag56 rfl rfl (fun w h => h.range 1 rfl rfl)) ?_
 refine WP.eff0 rfl rfl (Eff.storeAgg (cs := [.string x.key, .string x.fin, .bool false, .int .i64 (x.lo), .int .i64 (x.hi)]) (C' := [.string x.key, .string x.fin, .bool false, .int .i64 (x.lo), .int .i64 (x.hi)]) rfl Ty.ag56 rfl rfl rfl rfl (by simp) rfl) ?_
 rintro _ _ rfl
 refine WP.nx ?_
 refine WPc.ret ?_
 refine Out.perm pl1 ?_
 refine Out.drop ?_
 exact Out.retRun (L' := []) (results_cell (cs := [.string x.key, .string x.fin, .bool false, .int .i64 (x.lo), .int .i64 (x.hi)]) Try.results79 Ty.ag56 rfl rfl (fun w h => h.range 0 rfl rfl)) ⟨rfl, rfl⟩ (fun w h => h.drop)

theorem plain_does (x : Sp) (hx : x.key.size ≤ 2147483647) : Does Try.prog 79 [.agg #[.string x.key, .string x.fin, .bool x.one, .int .i64 x.lo, .int .i64 x.hi]] [] (fun v L => v = .agg (Sp.cells (pln x)).toArray ∧ L = []) := by
 obtain ⟨a, b, c, d, e⟩ := x
 cases c
 ·
  exact plain_false ⟨a, b, false, d, e⟩ hx
 ·
  exact plain_true ⟨a, b, true, d, e⟩ hx

theorem ahd_eq {k : Int} {x y : Sp} (h : kcmp (kB k x) (kB k y) = 0) : kcmp (kE k x) (kE k y) < 0 ↔ ahd k x y := ⟨fun h2 => goK_2 h h2, fun h2 => Decidable.byContradiction fun h3 => goK_3 h h3 h2⟩
set_option maxRecDepth 100000 in
set_option maxHeartbeats 2000000 in
theorem ahead_does (k0 k : Int) (hk : KO k0 k) (x y : Sp) (hx : x.key.size ≤ 2147483647) (hy : y.key.size ≤ 2147483647) : Does Try.prog 80 [.int .i64 (k0), .agg #[.string x.key, .string x.fin, .bool (x.one), .int .i64 (x.lo), .int .i64 (x.hi)], .agg #[.string y.key, .string y.fin, .bool (y.one), .int .i64 (y.lo), .int .i64 (y.hi)]] [] (fun v L => v = .bool (decide (ahd k x y)) ∧ L = []) := by
 refine Does.enter 47 Try.func80 rfl rfl rfl fun W F => ?_
 show WPc _ _ _ _ _ [(0, .int .i64 (k0)), (1, .agg #[.string x.key, .string x.fin, .bool (x.one), .int .i64 (x.lo), .int .i64 (x.hi)]), (2, .agg #[.string y.key, .string y.fin, .bool (y.one), .int .i64 (y.lo), .int .i64 (y.hi)])] (F)
 refine WPc.sr ?_
 refine WP.eff rfl rfl rfl (Eff.box (C := [.string x.key, .string x.fin, .bool (x.one), .int .i64 (x.lo), .int .i64 (x.hi)]) rfl rfl rfl) ?_
 rintro _ F ⟨b1, rfl, rfl⟩
 refine WP.eff rfl rfl rfl (Eff.box (C := [.string y.key, .string y.fin, .bool (y.one), .int .i64 (y.lo), .int .i64 (y.hi)]) rfl rfl rfl) ?_
 rintro _ _ ⟨b2, rfl, rfl⟩
 refine WP.val rfl rfl rfl (Val.assign rfl rfl) ?_
 refine WP.nx ?_
 refine WPc.cut (ι := Nat × Nat) (fun ⟨q7, q8⟩ => True) (fun ⟨q7, q8⟩ => [(0, .int .i64 (k0)), (4, .pointer (some ⟨b1, 0, none⟩)), (5, .pointer (some ⟨b2, 0, none⟩)), (6, .bool false), (7, .pointer (some ⟨q7, 0, none⟩)), (8, .pointer (some ⟨q8, 0, none⟩))]) (fun ⟨q7, q8⟩ => Blk b1 [.string x.key, .string x.fin, .bool (x.one), .int .i64 (x.lo), .int .i64 (x.hi)] 56 :: Blk b2 [.string y.key, .string y.fin, .bool (y.one), .int .i64 (y.lo), .int .i64 (y.hi)] 56 :: Blk q7 [.string ((pln x).key), .string ((pln x).fin), .bool ((pln x).one), .int .i64 ((pln x).lo), .int .i64 ((pln x).hi)] 56 :: Blk q8 [.string ((pln y).key), .string ((pln y).fin), .bool ((pln y).one), .int .i64 ((pln y).lo), .int .i64 ((pln y).hi)] 56 :: F) ?_ ?_
 ·
  refine WPD.start (Sat W [Blk b1 [.string x.key, .string x.fin, .bool (x.one), .int .i64 (x.lo), .int .i64 (x.hi)] 56, Blk b2 [.string y.key, .string y.fin, .bool (y.one), .int .i64 (y.lo), .int .i64 (y.hi)] 56]) Ty.mixed ?_
  refine WPD.tL 0 rfl rfl rfl rfl (fun w h => ((h.perm pl1)).dropEnd (L := [_, _])) (Val.loadAgg (cs := [.string x.key, .string x.fin, .bool (x.one), .int .i64 (x.lo), .int .i64 (x.hi)]) rfl Ty.ag56 rfl rfl (fun w h => h.range 0 rfl rfl)) ?_
  refine WPD.tL 2 rfl rfl rfl rfl (fun w h => ((h.perm pl1)).dropEnd (L := [_, _])) (Val.loadAgg (cs := [.string y.key, .string y.fin, .bool (y.one), .int .i64 (y.lo), .int .i64 (y.hi)]) rfl Ty.ag56 rfl rfl (fun w h => h.range 1 rfl rfl)) ?_
  refine WPD.pick3 1 4 5 (by kernel_rfl) ?_ ?_ ?_
  ·
   refine WPO.step rfl rfl rfl rfl (Eff.call rfl rfl Try.call79 (plain_does x hx)) ?_
   rintro _ _ ⟨_, ⟨rfl, rfl⟩, rfl⟩
   refine ⟨(fun w h => ((h.perm pl1)).dropEnd (L := [_, _])), ?_⟩
   show WPD _ _ _ _ _ _ _ _ _ (Blk b2 [.string y.key, .string y.fin, .bool (y.one), .int .i64 (y.lo), .int .i64 (y.hi)] 56 :: Blk b1 [.string x.key, .string x.fin, .bool (x.one), .int .i64 (x.lo), .int .i64 (x.hi)] 56 :: _)
   refine WPD.pick3 3 4 5 (by kernel_rfl) ?_ ?_ ?_
   ·
    refine WPO.step rfl rfl rfl rfl (Eff.call rfl rfl Try.call79 (plain_does y hy)) ?_
    rintro _ _ ⟨_, ⟨rfl, rfl⟩, rfl⟩
    refine ⟨(fun w h => ((h.perm pl1)).dropEnd (L := [_, _])), ?_⟩
    refine WPD.pick2 4 5 (by kernel_rfl) ?_ ?_
    ·
     refine WPO.step rfl rfl rfl rfl (Eff.alloc rfl Ty.z56) ?_
     rintro _ _ ⟨b3, rfl, rfl⟩
     refine ⟨(fun w h => (((h.perm pl1).perm pl2)).dropEnd (L := [_, _])), ?_⟩
     refine WPD.step 5 (by kernel_rfl) rfl rfl rfl rfl (Eff.alloc rfl Ty.z56) ?_
     rintro _ _ ⟨b4, rfl, rfl⟩
     refine ⟨(fun w h => (((h.perm pl2).perm pl3)).dropEnd (L := [_, _])), ?_⟩
     refine WPD.perm pl1 ?_
     refine WPD.stepC0 6 (by kernel_rfl) rfl rfl rfl (by kernel_rfl) (Eff.storeAgg (cs := [.string ((pln x).key), .string ((pln x).fin), .bool ((pln x).one), .int .i64 ((pln x).lo), .int .i64 ((pln x).hi)]) (C' := [.string ((pln x).key), .string ((pln x).fin), .bool ((pln x).one), .int .i64 ((pln x).lo), .int .i64 ((pln x).hi)]) rfl Ty.ag56 rfl rfl rfl rfl (by simp) rfl) ?_
     rintro _ _ rfl
     refine ⟨_, (fun _ h => h), ?_⟩
     refine WPD.perm pl1 ?_
     refine WPD.stepC0 7 (by kernel_rfl) rfl rfl rfl (by kernel_rfl) (Eff.storeAgg (cs := [.string ((pln y).key), .string ((pln y).fin), .bool ((pln y).one), .int .i64 ((pln y).lo), .int .i64 ((pln y).hi)]) (C' := [.string ((pln y).key), .string ((pln y).fin), .bool ((pln y).one), .int .i64 ((pln y).lo), .int .i64 ((pln y).hi)]) rfl Ty.ag56 rfl rfl rfl rfl (by simp) rfl) ?_
     rintro _ _ rfl
     refine ⟨_, (fun _ h => h), ?_⟩
     refine WPD.done (by kernel_rfl) ?_
     refine Out.perm pl1 ?_
     refine Out.perm pl2 ?_
     refine Out.perm pl3 ?_
     refine Out.meet (b3, b4) ?_ ?_ ?_
     ·
      exact trivial
     ·
      exact (Sub.cons rfl (Sub.cons rfl (Sub.cons rfl (Sub.cons rfl (Sub.cons rfl (Sub.cons rfl Sub.nil))))))
     ·
      exact (fun _ h => h)
    ·
     refine WPO.step rfl rfl rfl rfl (Eff.alloc rfl Ty.z56) ?_
     rintro _ _ ⟨b5, rfl, rfl⟩
     refine ⟨(fun w h => (((h.perm pl1).perm pl2)).dropEnd (L := [_, _])), ?_⟩
     refine WPD.step 4 (by kernel_rfl) rfl rfl rfl rfl (Eff.alloc rfl Ty.z56) ?_
     rintro _ _ ⟨b6, rfl, rfl⟩
     refine ⟨(fun w h => (((h.perm pl2).perm pl3)).dropEnd (L := [_, _])), ?_⟩
     refine WPD.stepC0 6 (by kernel_rfl) rfl rfl rfl (by kernel_rfl) (Eff.storeAgg (cs := [.string ((pln x).key), .string ((pln x).fin), .bool ((pln x).one), .int .i64 ((pln x).lo), .int .i64 ((pln x).hi)]) (C' := [.string ((pln x).key), .string ((pln x).fin), .bool ((pln x).one), .int .i64 ((pln x).lo), .int .i64 ((pln x).hi)]) rfl Ty.ag56 rfl rfl rfl rfl (by simp) rfl) ?_
     rintro _ _ rfl
     refine ⟨_, (fun _ h => h), ?_⟩
     refine WPD.perm pl1 ?_
     refine WPD.stepC0 7 (by kernel_rfl) rfl rfl rfl (by kernel_rfl) (Eff.storeAgg (cs := [.string ((pln y).key), .string ((pln y).fin), .bool ((pln y).one), .int .i64 ((pln y).lo), .int .i64 ((pln y).hi)]) (C' := [.string ((pln y).key), .string ((pln y).fin), .bool ((pln y).one), .int .i64 ((pln y).lo), .int .i64 ((pln y).hi)]) rfl Ty.ag56 rfl rfl rfl rfl (by simp) rfl) ?_
     rintro _ _ rfl
     refine ⟨_, (fun _ h => h), ?_⟩
     refine WPD.done (by kernel_rfl) ?_
     refine Out.perm pl1 ?_
     refine Out.perm pl2 ?_
     refine Out.perm pl3 ?_
     refine Out.meet (b6, b5) ?_ ?_ ?_
     ·
      exact trivial
     ·
      exact (Sub.cons rfl (Sub.cons rfl (Sub.cons rfl (Sub.cons rfl (Sub.cons rfl (Sub.cons rfl Sub.nil))))))
     ·
      exact (fun _ h => h)
   ·
    refine WPO.step rfl rfl rfl rfl (Eff.alloc rfl Ty.z56) ?_
    rintro _ _ ⟨b7, rfl, rfl⟩
    refine ⟨(fun w h => (((h.perm pl1).perm pl2)).dropEnd (L := [_, _])), ?_⟩
    refine WPD.pick2 3 5 (by kernel_rfl) ?_ ?_
    ·
     refine WPO.step rfl rfl rfl rfl (Eff.call rfl rfl Try.call79 (plain_does y hy)) ?_
     rintro _ _ ⟨_, ⟨rfl, rfl⟩, rfl⟩
     refine ⟨(fun w h => (((h.perm pl1).perm pl2)).dropEnd (L := [_, _])), ?_⟩
     show WPD _ _ _ _ _ _ _ _ _ (Blk b7 [.string (⟨#[]⟩), .string (⟨#[]⟩), .bool false, .int .i64 0, .int .i64 0] 56 :: _)
     refine WPD.step 5 (by kernel_rfl) rfl rfl rfl rfl (Eff.alloc rfl Ty.z56) ?_
     rintro _ _ ⟨b8, rfl, rfl⟩
     refine ⟨(fun w h => (((h.perm pl2).perm pl3)).dropEnd (L := [_, _])), ?_⟩
     refine WPD.perm pl1 ?_
     refine WPD.stepC0 6 (by kernel_rfl) rfl rfl rfl (by kernel_rfl) (Eff.storeAgg (cs := [.string ((pln x).key), .string ((pln x).fin), .bool ((pln x).one), .int .i64 ((pln x).lo), .int .i64 ((pln x).hi)]) (C' := [.string ((pln x).key), .string ((pln x).fin), .bool ((pln x).one), .int .i64 ((pln x).lo), .int .i64 ((pln x).hi)]) rfl Ty.ag56 rfl rfl rfl rfl (by simp) rfl) ?_
     rintro _ _ rfl
     refine ⟨_, (fun _ h => h), ?_⟩
     refine WPD.perm pl1 ?_
     refine WPD.stepC0 7 (by kernel_rfl) rfl rfl rfl (by kernel_rfl) (Eff.storeAgg (cs := [.string ((pln y).key), .string ((pln y).fin), .bool ((pln y).one), .int .i64 ((pln y).lo), .int .i64 ((pln y).hi)]) (C' := [.string ((pln y).key), .string ((pln y).fin), .bool ((pln y).one), .int .i64 ((pln y).lo), .int .i64 ((pln y).hi)]) rfl Ty.ag56 rfl rfl rfl rfl (by simp) rfl) ?_
     rintro _ _ rfl
     refine ⟨_, (fun _ h => h), ?_⟩
     refine WPD.done (by kernel_rfl) ?_
     refine Out.perm pl1 ?_
     refine Out.perm pl2 ?_
     refine Out.perm pl3 ?_
     refine Out.meet (b7, b8) ?_ ?_ ?_
     ·
      exact trivial
     ·
      exact (Sub.cons rfl (Sub.cons rfl (Sub.cons rfl (Sub.cons rfl (Sub.cons rfl (Sub.cons rfl Sub.nil))))))
     ·
      exact (fun _ h => h)
    ·
     refine WPO.step rfl rfl rfl rfl (Eff.alloc rfl Ty.z56) ?_
     rintro _ _ ⟨b9, rfl, rfl⟩
     refine ⟨(fun w h => (((h.perm pl2).perm pl3)).dropEnd (L := [_, _])), ?_⟩
     refine WPD.step 3 (by kernel_rfl) rfl rfl rfl rfl (Eff.call rfl rfl Try.call79 (plain_does y hy)) ?_
     rintro _ _ ⟨_, ⟨rfl, rfl⟩, rfl⟩
     refine ⟨(fun w h => (((h.perm pl2).perm pl3)).dropEnd (L := [_, _])), ?_⟩
     show WPD _ _ _ _ _ _ _ _ _ (Blk b9 [.string (⟨#[]⟩), .string (⟨#[]⟩), .bool false, .int .i64 0, .int .i64 0] 56 :: Blk b7 [.string (⟨#[]⟩), .string (⟨#[]⟩), .bool false, .int .i64 0, .int .i64 0] 56 :: _)
     refine WPD.perm pl1 ?_
     refine WPD.stepC0 6 (by kernel_rfl) rfl rfl rfl (by kernel_rfl) (Eff.storeAgg (cs := [.string ((pln x).key), .string ((pln x).fin), .bool ((pln x).one), .int .i64 ((pln x).lo), .int .i64 ((pln x).hi)]) (C' := [.string ((pln x).key), .string ((pln x).fin), .bool ((pln x).one), .int .i64 ((pln x).lo), .int .i64 ((pln x).hi)]) rfl Ty.ag56 rfl rfl rfl rfl (by simp) rfl) ?_
     rintro _ _ rfl
     refine ⟨_, (fun _ h => h), ?_⟩
     refine WPD.perm pl1 ?_
     refine WPD.stepC0 7 (by kernel_rfl) rfl rfl rfl (by kernel_rfl) (Eff.storeAgg (cs := [.string ((pln y).key), .string ((pln y).fin), .bool ((pln y).one), .int .i64 ((pln y).lo), .int .i64 ((pln y).hi)]) (C' := [.string ((pln y).key), .string ((pln y).fin), .bool ((pln y).one), .int .i64 ((pln y).lo), .int .i64 ((pln y).hi)]) rfl Ty.ag56 rfl rfl rfl rfl (by simp) rfl) ?_
     rintro _ _ rfl
     refine ⟨_, (fun _ h => h), ?_⟩
     refine WPD.done (by kernel_rfl) ?_
     refine Out.perm pl1 ?_
     refine Out.perm pl2 ?_
     refine Out.perm pl3 ?_
     refine Out.meet (b7, b9) ?_ ?_ ?_
     ·
      exact trivial
     ·
      exact (Sub.cons rfl (Sub.cons rfl (Sub.cons rfl (Sub.cons rfl (Sub.cons rfl (Sub.cons rfl Sub.nil))))))
     ·
      exact (fun _ h => h)
   ·
    refine WPO.step rfl rfl rfl rfl (Eff.alloc rfl Ty.z56) ?_
    rintro _ _ ⟨b10, rfl, rfl⟩
    refine ⟨(fun w h => (((h.perm pl1).perm pl2)).dropEnd (L := [_, _])), ?_⟩
    refine WPD.pick2 3 4 (by kernel_rfl) ?_ ?_
    ·
     refine WPO.step rfl rfl rfl rfl (Eff.call rfl rfl Try.call79 (plain_does y hy)) ?_
     rintro _ _ ⟨_, ⟨rfl, rfl⟩, rfl⟩
     refine ⟨(fun w h => (((h.perm pl1).perm pl2)).dropEnd (L := [_, _])), ?_⟩
     show WPD _ _ _ _ _ _ _ _ _ (Blk b10 [.string (⟨#[]⟩), .string (⟨#[]⟩), .bool false, .int .i64 0, .int .i64 0] 56 :: _)
     refine WPD.step 4 (by kernel_rfl) rfl rfl rfl rfl (Eff.alloc rfl Ty.z56) ?_
     rintro _ _ ⟨b11, rfl, rfl⟩
     refine ⟨(fun w h => (((h.perm pl2).perm pl3)).dropEnd (L := [_, _])), ?_⟩
     refine WPD.stepC0 6 (by kernel_rfl) rfl rfl rfl (by kernel_rfl) (Eff.storeAgg (cs := [.string ((pln x).key), .string ((pln x).fin), .bool ((pln x).one), .int .i64 ((pln x).lo), .int .i64 ((pln x).hi)]) (C' := [.string ((pln x).key), .string ((pln x).fin), .bool ((pln x).one), .int .i64 ((pln x).lo), .int .i64 ((pln x).hi)]) rfl Ty.ag56 rfl rfl rfl rfl (by simp) rfl) ?_
     rintro _ _ rfl
     refine ⟨_, (fun _ h => h), ?_⟩
     refine WPD.perm pl1 ?_
     refine WPD.stepC0 7 (by kernel_rfl) rfl rfl rfl (by kernel_rfl) (Eff.storeAgg (cs := [.string ((pln y).key), .string ((pln y).fin), .bool ((pln y).one), .int .i64 ((pln y).lo), .int .i64 ((pln y).hi)]) (C' := [.string ((pln y).key), .string ((pln y).fin), .bool ((pln y).one), .int .i64 ((pln y).lo), .int .i64 ((pln y).hi)]) rfl Ty.ag56 rfl rfl rfl rfl (by simp) rfl) ?_
     rintro _ _ rfl
     refine ⟨_, (fun _ h => h), ?_⟩
     refine WPD.done (by kernel_rfl) ?_
     refine Out.perm pl1 ?_
     refine Out.perm pl2 ?_
     refine Out.perm pl3 ?_
     refine Out.meet (b11, b10) ?_ ?_ ?_
     ·
      exact trivial
     ·
      exact (Sub.cons rfl (Sub.cons rfl (Sub.cons rfl (Sub.cons rfl (Sub.cons rfl (Sub.cons rfl Sub.nil))))))
     ·
      exact (fun _ h => h)
    ·
     refine WPO.step rfl rfl rfl rfl (Eff.alloc rfl Ty.z56) ?_
     rintro _ _ ⟨b12, rfl, rfl⟩
     refine ⟨(fun w h => (((h.perm pl2).perm pl3)).dropEnd (L := [_, _])), ?_⟩
     refine WPD.step 3 (by kernel_rfl) rfl rfl rfl rfl (Eff.call rfl rfl Try.call79 (plain_does y hy)) ?_
     rintro _ _ ⟨_, ⟨rfl, rfl⟩, rfl⟩
     refine ⟨(fun w h => (((h.perm pl2).perm pl3)).dropEnd (L := [_, _])), ?_⟩
     show WPD _ _ _ _ _ _ _ _ _ (Blk b12 [.string (⟨#[]⟩), .string (⟨#[]⟩), .bool false, .int .i64 0, .int .i64 0] 56 :: Blk b10 [.string (⟨#[]⟩), .string (⟨#[]⟩), .bool false, .int .i64 0, .int .i64 0] 56 :: _)
     refine WPD.stepC0 6 (by kernel_rfl) rfl rfl rfl (by kernel_rfl) (Eff.storeAgg (cs := [.string ((pln x).key), .string ((pln x).fin), .bool ((pln x).one), .int .i64 ((pln x).lo), .int .i64 ((pln x).hi)]) (C' := [.string ((pln x).key), .string ((pln x).fin), .bool ((pln x).one), .int .i64 ((pln x).lo), .int .i64 ((pln x).hi)]) rfl Ty.ag56 rfl rfl rfl rfl (by simp) rfl) ?_
     rintro _ _ rfl
     refine ⟨_, (fun _ h => h), ?_⟩
     refine WPD.perm pl1 ?_
     refine WPD.stepC0 7 (by kernel_rfl) rfl rfl rfl (by kernel_rfl) (Eff.storeAgg (cs := [.string ((pln y).key), .string ((pln y).fin), .bool ((pln y).one), .int .i64 ((pln y).lo), .int .i64 ((pln y).hi)]) (C' := [.string ((pln y).key), .string ((pln y).fin), .bool ((pln y).one), .int .i64 ((pln y).lo), .int .i64 ((pln y).hi)]) rfl Ty.ag56 rfl rfl rfl rfl (by simp) rfl) ?_
     rintro _ _ rfl
     refine ⟨_, (fun _ h => h), ?_⟩
     refine WPD.done (by kernel_rfl) ?_
     refine Out.perm pl1 ?_
     refine Out.perm pl2 ?_
     refine Out.perm pl3 ?_
     refine Out.meet (b12, b10) ?_ ?_ ?_
     ·
      exact trivial
     ·
      exact (Sub.cons rfl (Sub.cons rfl (Sub.cons rfl (Sub.cons rfl (Sub.cons rfl (Sub.cons rfl Sub.nil))))))
     ·
      exact (fun _ h => h)
  ·
   refine WPO.step rfl rfl rfl rfl (Eff.alloc rfl Ty.z56) ?_
   rintro _ _ ⟨b13, rfl, rfl⟩
   refine ⟨(fun w h => (((h.perm pl1).perm pl2)).dropEnd (L := [_, _])), ?_⟩
   refine WPD.pick2 1 5 (by kernel_rfl) ?_ ?_
   ·
    refine WPO.step rfl rfl rfl rfl (Eff.call rfl rfl Try.call79 (plain_does x hx)) ?_
    rintro _ _ ⟨_, ⟨rfl, rfl⟩, rfl⟩
    refine ⟨(fun w h => (((h.perm pl1).perm pl2)).dropEnd (L := [_, _])), ?_⟩
    show WPD _ _ _ _ _ _ _ _ _ (Blk b13 [.string (⟨#[]⟩), .string (⟨#[]⟩), .bool false, .int .i64 0, .int .i64 0] 56 :: Blk b2 [.string y.key, .string y.fin, .bool (y.one), .int .i64 (y.lo), .int .i64 (y.hi)] 56 :: Blk b1 [.string x.key, .string x.fin, .bool (x.one), .int .i64 (x.lo), .int .i64 (x.hi)] 56 :: _)
    refine WPD.pick2 3 5 (by kernel_rfl) ?_ ?_
    ·
     refine WPO.step rfl rfl rfl rfl (Eff.call rfl rfl Try.call79 (plain_does y hy)) ?_
     rintro _ _ ⟨_, ⟨rfl, rfl⟩, rfl⟩
     refine ⟨(fun w h => (((h.perm pl1).perm pl2)).dropEnd (L := [_, _])), ?_⟩
     refine WPD.step 5 (by kernel_rfl) rfl rfl rfl rfl (Eff.alloc rfl Ty.z56) ?_
     rintro _ _ ⟨b14, rfl, rfl⟩
     refine ⟨(fun w h => (((h.perm pl2).perm pl3)).dropEnd (L := [_, _])), ?_⟩
     refine WPD.perm pl1 ?_
     refine WPD.stepC0 6 (by kernel_rfl) rfl rfl rfl (by kernel_rfl) (Eff.storeAgg (cs := [.string ((pln x).key), .string ((pln x).fin), .bool ((pln x).one), .int .i64 ((pln x).lo), .int .i64 ((pln x).hi)]) (C' := [.string ((pln x).key), .string ((pln x).fin), .bool ((pln x).one), .int .i64 ((pln x).lo), .int .i64 ((pln x).hi)]) rfl Ty.ag56 rfl rfl rfl rfl (by simp) rfl) ?_
     rintro _ _ rfl
     refine ⟨_, (fun _ h => h), ?_⟩
     refine WPD.perm pl1 ?_
     refine WPD.stepC0 7 (by kernel_rfl) rfl rfl rfl (by kernel_rfl) (Eff.storeAgg (cs := [.string ((pln y).key), .string ((pln y).fin), .bool ((pln y).one), .int .i64 ((pln y).lo), .int .i64 ((pln y).hi)]) (C' := [.string ((pln y).key), .string ((pln y).fin), .bool ((pln y).one), .int .i64 ((pln y).lo), .int .i64 ((pln y).hi)]) rfl Ty.ag56 rfl rfl rfl rfl (by simp) rfl) ?_
     rintro _ _ rfl
     refine ⟨_, (fun _ h => h), ?_⟩
     refine WPD.done (by kernel_rfl) ?_
     refine Out.perm pl1 ?_
     refine Out.perm pl2 ?_
     refine Out.perm pl3 ?_
     refine Out.meet (b13, b14) ?_ ?_ ?_
     ·
      exact trivial
     ·
      exact (Sub.cons rfl (Sub.cons rfl (Sub.cons rfl (Sub.cons rfl (Sub.cons rfl (Sub.cons rfl Sub.nil))))))
     ·
      exact (fun _ h => h)
    ·
     refine WPO.step rfl rfl rfl rfl (Eff.alloc rfl Ty.z56) ?_
     rintro _ _ ⟨b15, rfl, rfl⟩
     refine ⟨(fun w h => (((h.perm pl2).perm pl3)).dropEnd (L := [_, _])), ?_⟩
     refine WPD.step 3 (by kernel_rfl) rfl rfl rfl rfl (Eff.call rfl rfl Try.call79 (plain_does y hy)) ?_
     rintro _ _ ⟨_, ⟨rfl, rfl⟩, rfl⟩
     refine ⟨(fun w h => (((h.perm pl2).perm pl3)).dropEnd (L := [_, _])), ?_⟩
     show WPD _ _ _ _ _ _ _ _ _ (Blk b15 [.string (⟨#[]⟩), .string (⟨#[]⟩), .bool false, .int .i64 0, .int .i64 0] 56 :: _)
     refine WPD.perm pl1 ?_
     refine WPD.stepC0 6 (by kernel_rfl) rfl rfl rfl (by kernel_rfl) (Eff.storeAgg (cs := [.string ((pln x).key), .string ((pln x).fin), .bool ((pln x).one), .int .i64 ((pln x).lo), .int .i64 ((pln x).hi)]) (C' := [.string ((pln x).key), .string ((pln x).fin), .bool ((pln x).one), .int .i64 ((pln x).lo), .int .i64 ((pln x).hi)]) rfl Ty.ag56 rfl rfl rfl rfl (by simp) rfl) ?_
     rintro _ _ rfl
     refine ⟨_, (fun _ h => h), ?_⟩
     refine WPD.perm pl1 ?_
     refine WPD.stepC0 7 (by kernel_rfl) rfl rfl rfl (by kernel_rfl) (Eff.storeAgg (cs := [.string ((pln y).key), .string ((pln y).fin), .bool ((pln y).one), .int .i64 ((pln y).lo), .int .i64 ((pln y).hi)]) (C' := [.string ((pln y).key), .string ((pln y).fin), .bool ((pln y).one), .int .i64 ((pln y).lo), .int .i64 ((pln y).hi)]) rfl Ty.ag56 rfl rfl rfl rfl (by simp) rfl) ?_
     rintro _ _ rfl
     refine ⟨_, (fun _ h => h), ?_⟩
     refine WPD.done (by kernel_rfl) ?_
     refine Out.perm pl1 ?_
     refine Out.perm pl2 ?_
     refine Out.perm pl3 ?_
     refine Out.meet (b13, b15) ?_ ?_ ?_
     ·
      exact trivial
     ·
      exact (Sub.cons rfl (Sub.cons rfl (Sub.cons rfl (Sub.cons rfl (Sub.cons rfl (Sub.cons rfl Sub.nil))))))
     ·
      exact (fun _ h => h)
   ·
    refine WPO.step rfl rfl rfl rfl (Eff.alloc rfl Ty.z56) ?_
    rintro _ _ ⟨b16, rfl, rfl⟩
    refine ⟨(fun w h => (((h.perm pl2).perm pl3)).dropEnd (L := [_, _])), ?_⟩
    refine WPD.step 1 (by kernel_rfl) rfl rfl rfl rfl (Eff.call rfl rfl Try.call79 (plain_does x hx)) ?_
    rintro _ _ ⟨_, ⟨rfl, rfl⟩, rfl⟩
    refine ⟨(fun w h => (((h.perm pl2).perm pl3)).dropEnd (L := [_, _])), ?_⟩
    show WPD _ _ _ _ _ _ _ _ _ (Blk b16 [.string (⟨#[]⟩), .string (⟨#[]⟩), .bool false, .int .i64 0, .int .i64 0] 56 :: Blk b13 [.string (⟨#[]⟩), .string (⟨#[]⟩), .bool false, .int .i64 0, .int .i64 0] 56 :: Blk b2 [.string y.key, .string y.fin, .bool (y.one), .int .i64 (y.lo), .int .i64 (y.hi)] 56 :: Blk b1 [.string x.key, .string x.fin, .bool (x.one), .int .i64 (x.lo), .int .i64 (x.hi)] 56 :: _)
    refine WPD.step 3 (by kernel_rfl) rfl rfl rfl rfl (Eff.call rfl rfl Try.call79 (plain_does y hy)) ?_
    rintro _ _ ⟨_, ⟨rfl, rfl⟩, rfl⟩
    refine ⟨(fun w h => (((h.perm pl2).perm pl3)).dropEnd (L := [_, _])), ?_⟩
    refine WPD.perm pl1 ?_
    refine WPD.stepC0 6 (by kernel_rfl) rfl rfl rfl (by kernel_rfl) (Eff.storeAgg (cs := [.string ((pln x).key), .string ((pln x).fin), .bool ((pln x).one), .int .i64 ((pln x).lo), .int .i64 ((pln x).hi)]) (C' := [.string ((pln x).key), .string ((pln x).fin), .bool ((pln x).one), .int .i64 ((pln x).lo), .int .i64 ((pln x).hi)]) rfl Ty.ag56 rfl rfl rfl rfl (by simp) rfl) ?_
    rintro _ _ rfl
    refine ⟨_, (fun _ h => h), ?_⟩
    refine WPD.perm pl1 ?_
    refine WPD.stepC0 7 (by kernel_rfl) rfl rfl rfl (by kernel_rfl) (Eff.storeAgg (cs := [.string ((pln y).key), .string ((pln y).fin), .bool ((pln y).one), .int .i64 ((pln y).lo), .int .i64 ((pln y).hi)]) (C' := [.string ((pln y).key), .string ((pln y).fin), .bool ((pln y).one), .int .i64 ((pln y).lo), .int .i64 ((pln y).hi)]) rfl Ty.ag56 rfl rfl rfl rfl (by simp) rfl) ?_
    rintro _ _ rfl
    refine ⟨_, (fun _ h => h), ?_⟩
    refine WPD.done (by kernel_rfl) ?_
    refine Out.perm pl1 ?_
    refine Out.perm pl2 ?_
    refine Out.perm pl3 ?_
    refine Out.meet (b13, b16) ?_ ?_ ?_
    ·
     exact trivial
    ·
     exact (Sub.cons rfl (Sub.cons rfl (Sub.cons rfl (Sub.cons rfl (Sub.cons rfl (Sub.cons rfl Sub.nil))))))
    ·
     exact (fun _ h => h)
  ·
   refine WPO.step rfl rfl rfl rfl (Eff.alloc rfl Ty.z56) ?_
   rintro _ _ ⟨b17, rfl, rfl⟩
   refine ⟨(fun w h => (((h.perm pl1).perm pl2)).dropEnd (L := [_, _])), ?_⟩
   refine WPD.pick2 1 4 (by kernel_rfl) ?_ ?_
   ·
    refine WPO.step rfl rfl rfl rfl (Eff.call rfl rfl Try.call79 (plain_does x hx)) ?_
    rintro _ _ ⟨_, ⟨rfl, rfl⟩, rfl⟩
    refine ⟨(fun w h => (((h.perm pl1).perm pl2)).dropEnd (L := [_, _])), ?_⟩
    show WPD _ _ _ _ _ _ _ _ _ (Blk b17 [.string (⟨#[]⟩), .string (⟨#[]⟩), .bool false, .int .i64 0, .int .i64 0] 56 :: Blk b2 [.string y.key, .string y.fin, .bool (y.one), .int .i64 (y.lo), .int .i64 (y.hi)] 56 :: Blk b1 [.string x.key, .string x.fin, .bool (x.one), .int .i64 (x.lo), .int .i64 (x.hi)] 56 :: _)
    refine WPD.pick2 3 4 (by kernel_rfl) ?_ ?_
    ·
     refine WPO.step rfl rfl rfl rfl (Eff.call rfl rfl Try.call79 (plain_does y hy)) ?_
     rintro _ _ ⟨_, ⟨rfl, rfl⟩, rfl⟩
     refine ⟨(fun w h => (((h.perm pl1).perm pl2)).dropEnd (L := [_, _])), ?_⟩
     refine WPD.step 4 (by kernel_rfl) rfl rfl rfl rfl (Eff.alloc rfl Ty.z56) ?_
     rintro _ _ ⟨b18, rfl, rfl⟩
     refine ⟨(fun w h => (((h.perm pl2).perm pl3)).dropEnd (L := [_, _])), ?_⟩
     refine WPD.stepC0 6 (by kernel_rfl) rfl rfl rfl (by kernel_rfl) (Eff.storeAgg (cs := [.string ((pln x).key), .string ((pln x).fin), .bool ((pln x).one), .int .i64 ((pln x).lo), .int .i64 ((pln x).hi)]) (C' := [.string ((pln x).key), .string ((pln x).fin), .bool ((pln x).one), .int .i64 ((pln x).lo), .int .i64 ((pln x).hi)]) rfl Ty.ag56 rfl rfl rfl rfl (by simp) rfl) ?_
     rintro _ _ rfl
     refine ⟨_, (fun _ h => h), ?_⟩
     refine WPD.perm pl1 ?_
     refine WPD.stepC0 7 (by kernel_rfl) rfl rfl rfl (by kernel_rfl) (Eff.storeAgg (cs := [.string ((pln y).key), .string ((pln y).fin), .bool ((pln y).one), .int .i64 ((pln y).lo), .int .i64 ((pln y).hi)]) (C' := [.string ((pln y).key), .string ((pln y).fin), .bool ((pln y).one), .int .i64 ((pln y).lo), .int .i64 ((pln y).hi)]) rfl Ty.ag56 rfl rfl rfl rfl (by simp) rfl) ?_
     rintro _ _ rfl
     refine ⟨_, (fun _ h => h), ?_⟩
     refine WPD.done (by kernel_rfl) ?_
     refine Out.perm pl1 ?_
     refine Out.perm pl2 ?_
     refine Out.perm pl3 ?_
     refine Out.meet (b18, b17) ?_ ?_ ?_
     ·
      exact trivial
     ·
      exact (Sub.cons rfl (Sub.cons rfl (Sub.cons rfl (Sub.cons rfl (Sub.cons rfl (Sub.cons rfl Sub.nil))))))
     ·
      exact (fun _ h => h)
    ·
     refine WPO.step rfl rfl rfl rfl (Eff.alloc rfl Ty.z56) ?_
     rintro _ _ ⟨b19, rfl, rfl⟩
     refine ⟨(fun w h => (((h.perm pl2).perm pl3)).dropEnd (L := [_, _])), ?_⟩
     refine WPD.step 3 (by kernel_rfl) rfl rfl rfl rfl (Eff.call rfl rfl Try.call79 (plain_does y hy)) ?_
     rintro _ _ ⟨_, ⟨rfl, rfl⟩, rfl⟩
     refine ⟨(fun w h => (((h.perm pl2).perm pl3)).dropEnd (L := [_, _])), ?_⟩
     show WPD _ _ _ _ _ _ _ _ _ (Blk b19 [.string (⟨#[]⟩), .string (⟨#[]⟩), .bool false, .int .i64 0, .int .i64 0] 56 :: _)
     refine WPD.stepC0 6 (by kernel_rfl) rfl rfl rfl (by kernel_rfl) (Eff.storeAgg (cs := [.string ((pln x).key), .string ((pln x).fin), .bool ((pln x).one), .int .i64 ((pln x).lo), .int .i64 ((pln x).hi)]) (C' := [.string ((pln x).key), .string ((pln x).fin), .bool ((pln x).one), .int .i64 ((pln x).lo), .int .i64 ((pln x).hi)]) rfl Ty.ag56 rfl rfl rfl rfl (by simp) rfl) ?_
     rintro _ _ rfl
     refine ⟨_, (fun _ h => h), ?_⟩
     refine WPD.perm pl1 ?_
     refine WPD.stepC0 7 (by kernel_rfl) rfl rfl rfl (by kernel_rfl) (Eff.storeAgg (cs := [.string ((pln y).key), .string ((pln y).fin), .bool ((pln y).one), .int .i64 ((pln y).lo), .int .i64 ((pln y).hi)]) (C' := [.string ((pln y).key), .string ((pln y).fin), .bool ((pln y).one), .int .i64 ((pln y).lo), .int .i64 ((pln y).hi)]) rfl Ty.ag56 rfl rfl rfl rfl (by simp) rfl) ?_
     rintro _ _ rfl
     refine ⟨_, (fun _ h => h), ?_⟩
     refine WPD.done (by kernel_rfl) ?_
     refine Out.perm pl1 ?_
     refine Out.perm pl2 ?_
     refine Out.perm pl3 ?_
     refine Out.meet (b19, b17) ?_ ?_ ?_
     ·
      exact trivial
     ·
      exact (Sub.cons rfl (Sub.cons rfl (Sub.cons rfl (Sub.cons rfl (Sub.cons rfl (Sub.cons rfl Sub.nil))))))
     ·
      exact (fun _ h => h)
   ·
    refine WPO.step rfl rfl rfl rfl (Eff.alloc rfl Ty.z56) ?_
    rintro _ _ ⟨b20, rfl, rfl⟩
    refine ⟨(fun w h => (((h.perm pl2).perm pl3)).dropEnd (L := [_, _])), ?_⟩
    refine WPD.step 1 (by kernel_rfl) rfl rfl rfl rfl (Eff.call rfl rfl Try.call79 (plain_does x hx)) ?_
    rintro _ _ ⟨_, ⟨rfl, rfl⟩, rfl⟩
    refine ⟨(fun w h => (((h.perm pl2).perm pl3)).dropEnd (L := [_, _])), ?_⟩
    show WPD _ _ _ _ _ _ _ _ _ (Blk b20 [.string (⟨#[]⟩), .string (⟨#[]⟩), .bool false, .int .i64 0, .int .i64 0] 56 :: Blk b17 [.string (⟨#[]⟩), .string (⟨#[]⟩), .bool false, .int .i64 0, .int .i64 0] 56 :: Blk b2 [.string y.key, .string y.fin, .bool (y.one), .int .i64 (y.lo), .int .i64 (y.hi)] 56 :: Blk b1 [.string x.key, .string x.fin, .bool (x.one), .int .i64 (x.lo), .int .i64 (x.hi)] 56 :: _)
    refine WPD.step 3 (by kernel_rfl) rfl rfl rfl rfl (Eff.call rfl rfl Try.call79 (plain_does y hy)) ?_
    rintro _ _ ⟨_, ⟨rfl, rfl⟩, rfl⟩
    refine ⟨(fun w h => (((h.perm pl2).perm pl3)).dropEnd (L := [_, _])), ?_⟩
    refine WPD.stepC0 6 (by kernel_rfl) rfl rfl rfl (by kernel_rfl) (Eff.storeAgg (cs := [.string ((pln x).key), .string ((pln x).fin), .bool ((pln x).one), .int .i64 ((pln x).lo), .int .i64 ((pln x).hi)]) (C' := [.string ((pln x).key), .string ((pln x).fin), .bool ((pln x).one), .int .i64 ((pln x).lo), .int .i64 ((pln x).hi)]) rfl Ty.ag56 rfl rfl rfl rfl (by simp) rfl) ?_
    rintro _ _ rfl
    refine ⟨_, (fun _ h => h), ?_⟩
    refine WPD.perm pl1 ?_
    refine WPD.stepC0 7 (by kernel_rfl) rfl rfl rfl (by kernel_rfl) (Eff.storeAgg (cs := [.string ((pln y).key), .string ((pln y).fin), .bool ((pln y).one), .int .i64 ((pln y).lo), .int .i64 ((pln y).hi)]) (C' := [.string ((pln y).key), .string ((pln y).fin), .bool ((pln y).one), .int .i64 ((pln y).lo), .int .i64 ((pln y).hi)]) rfl Ty.ag56 rfl rfl rfl rfl (by simp) rfl) ?_
    rintro _ _ rfl
    refine ⟨_, (fun _ h => h), ?_⟩
    refine WPD.done (by kernel_rfl) ?_
    refine Out.perm pl1 ?_
    refine Out.perm pl2 ?_
    refine Out.perm pl3 ?_
    refine Out.meet (b20, b17) ?_ ?_ ?_
    ·
     exact trivial
    ·
     exact (Sub.cons rfl (Sub.cons rfl (Sub.cons rfl (Sub.cons rfl (Sub.cons rfl (Sub.cons rfl Sub.nil))))))
    ·
     exact (fun _ h => h)
 ·
  rintro ⟨q7, q8⟩ hI
  show WPc _ _ _ _ _ [(0, _), (4, .pointer (some ⟨b1, 0, none⟩)), (5, .pointer (some ⟨b2, 0, none⟩)), (6, .bool false), (7, .pointer (some ⟨q7, 0, none⟩)), (8, .pointer (some ⟨q8, 0, none⟩))] (Blk b1 [.string x.key, .string x.fin, .bool (x.one), .int .i64 (x.lo), .int .i64 (x.hi)] 56 :: Blk b2 [.string y.key, .string y.fin, .bool (y.one), .int .i64 (y.lo), .int .i64 (y.hi)] 56 :: Blk q7 [.string ((pln x).key), .string ((pln x).fin), .bool ((pln x).one), .int .i64 ((pln x).lo), .int .i64 ((pln x).hi)] 56 :: Blk q8 [.string ((pln y).key), .string ((pln y).fin), .bool ((pln y).one), .int .i64 ((pln y).lo), .int .i64 ((pln y).hi)] 56 :: _)
  refine WPc.sr ?_
  refine WP.val rfl rfl rfl (Val.move rfl rfl) ?_
  refine WP.val rfl rfl rfl (Val.fieldAddr (j := 0) rfl Ty.fo56_0 rfl rfl) ?_
  refine WP.val rfl rfl rfl (Val.fieldAddr (j := 0) rfl Ty.fo54_0 rfl rfl) ?_
  refine WP.val rfl rfl rfl (Val.load rfl Ty.sc9 rfl (fun w h => h.cell 2 rfl rfl)) ?_
  refine WP.val rfl rfl rfl (Val.fieldAddr (j := 0) rfl Ty.fo56_0 rfl rfl) ?_
  refine WP.val rfl rfl rfl (Val.fieldAddr (j := 0) rfl Ty.fo54_0 rfl rfl) ?_
  refine WP.val rfl rfl rfl (Val.load rfl Ty.sc9 rfl (fun w h => h.cell 3 rfl rfl)) ?_
  refine WP.val rfl rfl rfl (Val.fieldAddr (j := 3) rfl Ty.fo56_1 rfl rfl) ?_
  refine WP.val rfl rfl rfl (Val.load rfl Ty.sc2 rfl (fun w h => h.cell 2 rfl rfl)) ?_
  refine WP.val rfl rfl rfl (Val.fieldAddr (j := 3) rfl Ty.fo56_1 rfl rfl) ?_
  refine WP.val rfl rfl rfl (Val.load rfl Ty.sc2 rfl (fun w h => h.cell 3 rfl rfl)) ?_
  refine WP.eff rfl rfl rfl (Eff.call rfl rfl Try.call37 (sends2_does k0 k ((pln x).key) ((pln y).key) ((pln x).lo) ((pln y).lo) hk)) ?_
  rintro _ _ ⟨_, ⟨rfl, rfl⟩, rfl⟩
  refine WP.val rfl rfl rfl (Val.assign rfl rfl) ?_
  refine WP.nx ?_
  refine WPc.sr ?_
  refine WP.val rfl rfl rfl (Val.move rfl rfl) ?_
  refine WP.val rfl rfl rfl (Val.lss rfl rfl rfl) ?_
  refine WP.val rfl rfl rfl (Val.move rfl rfl) ?_
  refine WP.split 28 rfl (fun h1 => ?_) (fun h1 => ?_)
  ·
   have h1 : ((kcmp (ke k ((pln x).key) ((pln x).lo)) (ke k ((pln y).key) ((pln y).lo))) < (0 : Int)) := h1
   iterate 3 (refine WP.skip rfl rfl rfl rfl rfl rfl rfl ?_)
   iterate 13 (refine WP.skipU rfl rfl rfl rfl rfl rfl ?_)
   refine WP.skip rfl rfl rfl rfl rfl rfl rfl ?_
   refine WP.val rfl rfl rfl (Val.pickT rfl rfl rfl) ?_
   refine WP.val rfl rfl rfl (Val.assign rfl rfl) ?_
   refine WP.nx ?_
   refine WPc.ret ?_
   iterate 4 (refine Out.drop ?_)
   exact Out.ret1 (L' := []) Try.results80 rfl ⟨congrArg Value.bool (by first | exact (decide_eq_true (goK_1 (by assumption))).symm | exact (decide_eq_false (goK_4 (by assumption) (by assumption))).symm), rfl⟩ (fun w h => h)
  ·
   have h1 : ¬ ((kcmp (ke k ((pln x).key) ((pln x).lo)) (ke k ((pln y).key) ((pln y).lo))) < (0 : Int)) := h1
   refine WP.valG rfl rfl rfl rfl rfl rfl rfl (Val.move rfl rfl) ?_
   refine WP.valG rfl rfl rfl rfl rfl rfl rfl (Val.eql rfl rfl rfl) ?_
   refine WP.valG rfl rfl rfl rfl rfl rfl rfl (Val.move rfl rfl) ?_
   refine WP.split 31 rfl (fun h2 => ?_) (fun h2 => ?_)
   ·
    have h2 : ((kcmp (ke k ((pln x).key) ((pln x).lo)) (ke k ((pln y).key) ((pln y).lo))) = (0 : Int)) := h2
    refine WP.valG rfl rfl rfl rfl rfl rfl rfl (Val.move rfl rfl) ?_
    refine WP.valG rfl rfl rfl rfl rfl rfl rfl (Val.fieldAddr (j := 0) rfl Ty.fo56_0 rfl rfl) ?_
    refine WP.valG rfl rfl rfl rfl rfl rfl rfl (Val.fieldAddr (j := 1) rfl Ty.fo54_1 rfl rfl) ?_
    refine WP.valG rfl rfl rfl rfl rfl rfl rfl (Val.load rfl Ty.sc9 rfl (fun w h => h.cell 2 rfl rfl)) ?_
    refine WP.valG rfl rfl rfl rfl rfl rfl rfl (Val.fieldAddr (j := 0) rfl Ty.fo56_0 rfl rfl) ?_
    refine WP.valG rfl rfl rfl rfl rfl rfl rfl (Val.fieldAddr (j := 1) rfl Ty.fo54_1 rfl rfl) ?_
    refine WP.valG rfl rfl rfl rfl rfl rfl rfl (Val.load rfl Ty.sc9 rfl (fun w h => h.cell 3 rfl rfl)) ?_
    refine WP.valG rfl rfl rfl rfl rfl rfl rfl (Val.fieldAddr (j := 4) rfl Ty.fo56_2 rfl rfl) ?_
    refine WP.valG rfl rfl rfl rfl rfl rfl rfl (Val.load rfl Ty.sc2 rfl (fun w h => h.cell 2 rfl rfl)) ?_
    refine WP.valG rfl rfl rfl rfl rfl rfl rfl (Val.fieldAddr (j := 4) rfl Ty.fo56_2 rfl rfl) ?_
    refine WP.valG rfl rfl rfl rfl rfl rfl rfl (Val.load rfl Ty.sc2 rfl (fun w h => h.cell 3 rfl rfl)) ?_
    refine WP.effG rfl rfl rfl rfl rfl rfl rfl (Eff.call rfl rfl Try.call37 (sends2_does k0 k ((pln x).fin) ((pln y).fin) ((pln x).hi) ((pln y).hi) hk)) ?_
    rintro _ _ ⟨_, ⟨rfl, rfl⟩, rfl⟩
    refine WP.valG rfl rfl rfl rfl rfl rfl rfl (Val.lss rfl rfl rfl) ?_
    refine WP.valG rfl rfl rfl rfl rfl rfl rfl (Val.pickT rfl rfl rfl) ?_
    refine WP.val rfl rfl rfl (Val.pickF rfl rfl rfl) ?_
    refine WP.val rfl rfl rfl (Val.assign rfl rfl) ?_
    refine WP.nx ?_
    refine WPc.ret ?_
    iterate 4 (refine Out.drop ?_)
    exact Out.ret1 (L' := []) Try.results80 rfl ⟨congrArg Value.bool (decide_eq_decide.2 (ahd_eq (by assumption))), rfl⟩ (fun w h => h)
   ·
    have h2 : ¬ ((kcmp (ke k ((pln x).key) ((pln x).lo)) (ke k ((pln y).key) ((pln y).lo))) = (0 : Int)) := h2
    iterate 13 (refine WP.skip rfl rfl rfl rfl rfl rfl rfl ?_)
    refine WP.valG rfl rfl rfl rfl rfl rfl rfl (Val.pickF rfl rfl rfl) ?_
    refine WP.val rfl rfl rfl (Val.pickF rfl rfl rfl) ?_
    refine WP.val rfl rfl rfl (Val.assign rfl rfl) ?_
    refine WP.nx ?_
    refine WPc.ret ?_
    iterate 4 (refine Out.drop ?_)
    exact Out.ret1 (L' := []) Try.results80 rfl ⟨congrArg Value.bool (by first | exact (decide_eq_true (goK_1 (by assumption))).symm | exact (decide_eq_false (goK_4 (by assumption) (by assumption))).symm), rfl⟩ (fun w h => h)

theorem same_of {k : Int} {x y : Sp} : (¬ ahd k x y ∧ ¬ ahd k y x) ↔ same k x y := by
 constructor
 ·
  rintro ⟨h1, h2⟩
  rw [not_goK] at h1 h2
  rcases h1 with h1 | ⟨e1, h1⟩
  ·
   rcases h2 with h2 | ⟨e2, h2⟩
   ·
    exact absurd h2 (klt_asymm h1)
   ·
    rw [e2] at h1; exact absurd h1 (klt_irrefl _)
  ·
   rcases h2 with h2 | ⟨e2, h2⟩
   ·
    rw [e1] at h2; exact absurd h2 (klt_irrefl _)
   ·
    exact ⟨e1.symm, keq_of_not h1 h2⟩
 ·
  rintro ⟨h1, h2⟩
  constructor
  ·
   rintro (h | ⟨-, h⟩)
   ·
    rw [h1] at h; exact klt_irrefl _ h
   ·
    rw [h2] at h; exact klt_irrefl _ h
  ·
   rintro (h | ⟨-, h⟩)
   ·
    rw [h1] at h; exact klt_irrefl _ h
   ·
    rw [h2] at h; exact klt_irrefl _ h
set_option maxRecDepth 100000 in
set_option maxHeartbeats 2000000 in
theorem same_does (k0 k : Int) (hk : KO k0 k) (x y : Sp) (hx : x.key.size ≤ 2147483647) (hy : y.key.size ≤ 2147483647) : Does Try.prog 71 [.int .i64 (k0), .agg #[.string x.key, .string x.fin, .bool (x.one), .int .i64 (x.lo), .int .i64 (x.hi)], .agg #[.string y.key, .string y.fin, .bool (y.one), .int .i64 (y.lo), .int .i64 (y.hi)]] [] (fun v L => v = .bool (decide (same k x y)) ∧ L = []) := by
 refine Does.enter 19 Try.func71 rfl rfl rfl fun W F => ?_
 show WPc _ _ _ _ _ [(0, .int .i64 (k0)), (1, .agg #[.string x.key, .string x.fin, .bool (x.one), .int .i64 (x.lo), .int .i64 (x.hi)]), (2, .agg #[.string y.key, .string y.fin, .bool (y.one), .int .i64 (y.lo), .int .i64 (y.hi)])] (F)
 refine WPc.sr ?_
 refine WP.eff rfl rfl rfl (Eff.box (C := [.string x.key, .string x.fin, .bool (x.one), .int .i64 (x.lo), .int .i64 (x.hi)]) rfl rfl rfl) ?_
 rintro _ F ⟨b1, rfl, rfl⟩
 refine WP.eff rfl rfl rfl (Eff.box (C := [.string y.key, .string y.fin, .bool (y.one), .int .i64 (y.lo), .int .i64 (y.hi)]) rfl rfl rfl) ?_
 rintro _ _ ⟨b2, rfl, rfl⟩
 refine WP.val rfl rfl rfl (Val.assign rfl rfl) ?_
 refine WP.nx ?_
 refine WPc.sr ?_
 refine WP.val rfl rfl rfl (Val.move rfl rfl) ?_
 refine WP.val rfl rfl rfl (Val.loadAgg (cs := [.string x.key, .string x.fin, .bool (x.one), .int .i64 (x.lo), .int .i64 (x.hi)]) rfl Ty.ag56 rfl rfl (fun w h => h.range 1 rfl rfl)) ?_
 refine WP.val rfl rfl rfl (Val.loadAgg (cs := [.string y.key, .string y.fin, .bool (y.one), .int .i64 (y.lo), .int .i64 (y.hi)]) rfl Ty.ag56 rfl rfl (fun w h => h.range 0 rfl rfl)) ?_
 refine WP.eff rfl rfl rfl (Eff.call rfl rfl Try.call80 (ahead_does k0 k hk x y hx hy)) ?_
 rintro _ _ ⟨_, ⟨rfl, rfl⟩, rfl⟩
 show WP _ _ _ _ _ _ _ (Blk b2 [.string y.key, .string y.fin, .bool (y.one), .int .i64 (y.lo), .int .i64 (y.hi)] 56 :: Blk b1 [.string x.key, .string x.fin, .bool (x.one), .int .i64 (x.lo), .int .i64 (x.hi)] 56 :: _)
 refine WP.val rfl rfl rfl (Val.notP rfl rfl) ?_
 refine WP.val rfl rfl rfl (Val.move rfl rfl) ?_
 refine WP.split 12 rfl (fun h1 => ?_) (fun h1 => ?_)
 ·
  have h1 : (¬ (ahd k x y)) := h1
  refine WP.valG rfl rfl rfl rfl rfl rfl rfl (Val.move rfl rfl) ?_
  refine WP.valG rfl rfl rfl rfl rfl rfl rfl (Val.loadAgg (cs := [.string y.key, .string y.fin, .bool (y.one), .int .i64 (y.lo), .int .i64 (y.hi)]) rfl Ty.ag56 rfl rfl (fun w h => h.range 0 rfl rfl)) ?_
  refine WP.valG rfl rfl rfl rfl rfl rfl rfl (Val.loadAgg (cs := [.string x.key, .string x.fin, .bool (x.one), .int .i64 (x.lo), .int .i64 (x.hi)]) rfl Ty.ag56 rfl rfl (fun w h => h.range 1 rfl rfl)) ?_
  refine WP.effG rfl rfl rfl rfl rfl rfl rfl (Eff.call rfl rfl Try.call80 (ahead_does k0 k hk y x hy hx)) ?_
  rintro _ _ ⟨_, ⟨rfl, rfl⟩, rfl⟩
  refine WP.valG rfl rfl rfl rfl rfl rfl rfl (Val.notP rfl rfl) ?_
  refine WP.val rfl rfl rfl (Val.pickT rfl rfl rfl) ?_
  refine WP.val rfl rfl rfl (Val.assign rfl rfl) ?_
  refine WP.nx ?_
  refine WPc.ret ?_
  refine Out.drop ?_
  refine Out.drop ?_
  exact Out.ret1 (L' := []) Try.results71 rfl ⟨congrArg Value.bool (decide_eq_decide.2 ⟨fun h => same_of.1 ⟨by assumption, h⟩, fun h => (same_of.2 h).2⟩), rfl⟩ (fun w h => h)
 ·
  have h1 : ¬ (¬ (ahd k x y)) := h1
  iterate 5 (refine WP.skip rfl rfl rfl rfl rfl rfl rfl ?_)
  refine WP.val rfl rfl rfl (Val.pickF rfl rfl rfl) ?_
  refine WP.val rfl rfl rfl (Val.assign rfl rfl) ?_
  refine WP.nx ?_
  refine WPc.ret ?_
  refine Out.drop ?_
  refine Out.drop ?_
  exact Out.ret1 (L' := []) Try.results71 rfl ⟨congrArg Value.bool (decide_eq_false (fun h => absurd (same_of.2 h).1 (by assumption))).symm, rfl⟩ (fun w h => h)
set_option maxRecDepth 100000 in
set_option maxHeartbeats 2000000 in
theorem meet_does (k0 k : Int) (hk : KO k0 k) (x y : Sp) (hx : x.key.size ≤ 2147483647) (hy : y.key.size ≤ 2147483647) : Does Try.prog 41 [.int .i64 (k0), .agg #[.string x.key, .string x.fin, .bool (x.one), .int .i64 (x.lo), .int .i64 (x.hi)], .agg #[.string y.key, .string y.fin, .bool (y.one), .int .i64 (y.lo), .int .i64 (y.hi)]] [] (fun v L => v = .bool (decide (meets k x y)) ∧ L = []) := by
 refine Does.enter 41 Try.func41 rfl rfl rfl fun W F => ?_
 show WPc _ _ _ _ _ [(0, .int .i64 (k0)), (1, .agg #[.string x.key, .string x.fin, .bool (x.one), .int .i64 (x.lo), .int .i64 (x.hi)]), (2, .agg #[.string y.key, .string y.fin, .bool (y.one), .int .i64 (y.lo), .int .i64 (y.hi)])] (F)
 refine WPc.sr ?_
 refine WP.eff rfl rfl rfl (Eff.box (C := [.string x.key, .string x.fin, .bool (x.one), .int .i64 (x.lo), .int .i64 (x.hi)]) rfl rfl rfl) ?_
 rintro _ F ⟨b1, rfl, rfl⟩
 refine WP.eff rfl rfl rfl (Eff.box (C := [.string y.key, .string y.fin, .bool (y.one), .int .i64 (y.lo), .int .i64 (y.hi)]) rfl rfl rfl) ?_
 rintro _ _ ⟨b2, rfl, rfl⟩
 refine WP.val rfl rfl rfl (Val.assign rfl rfl) ?_
 refine WP.nx ?_
 refine WPc.cut (ι := Nat × Nat) (fun ⟨q7, q8⟩ => True) (fun ⟨q7, q8⟩ => [(0, .int .i64 (k0)), (4, .pointer (some ⟨b1, 0, none⟩)), (5, .pointer (some ⟨b2, 0, none⟩)), (6, .bool false), (7, .pointer (some ⟨q7, 0, none⟩)), (8, .pointer (some ⟨q8, 0, none⟩))]) (fun ⟨q7, q8⟩ => Blk b1 [.string x.key, .string x.fin, .bool (x.one), .int .i64 (x.lo), .int .i64 (x.hi)] 56 :: Blk b2 [.string y.key, .string y.fin, .bool (y.one), .int .i64 (y.lo), .int .i64 (y.hi)] 56 :: Blk q7 [.string ((pln x).key), .string ((pln x).fin), .bool ((pln x).one), .int .i64 ((pln x).lo), .int .i64 ((pln x).hi)] 56 :: Blk q8 [.string ((pln y).key), .string ((pln y).fin), .bool ((pln y).one), .int .i64 ((pln y).lo), .int .i64 ((pln y).hi)] 56 :: F) ?_ ?_
 ·
  refine WPD.start (Sat W [Blk b1 [.string x.key, .string x.fin, .bool (x.one), .int .i64 (x.lo), .int .i64 (x.hi)] 56, Blk b2 [.string y.key, .string y.fin, .bool (y.one), .int .i64 (y.lo), .int .i64 (y.hi)] 56]) Ty.mixed ?_
  refine WPD.tL 0 rfl rfl rfl rfl (fun w h => ((h.perm pl1)).dropEnd (L := [_, _])) (Val.loadAgg (cs := [.string x.key, .string x.fin, .bool (x.one), .int .i64 (x.lo), .int .i64 (x.hi)]) rfl Ty.ag56 rfl rfl (fun w h => h.range 0 rfl rfl)) ?_
  refine WPD.tL 2 rfl rfl rfl rfl (fun w h => ((h.perm pl1)).dropEnd (L := [_, _])) (Val.loadAgg (cs := [.string y.key, .string y.fin, .bool (y.one), .int .i64 (y.lo), .int .i64 (y.hi)]) rfl Ty.ag56 rfl rfl (fun w h => h.range 1 rfl rfl)) ?_
  refine WPD.pick3 1 4 5 (by kernel_rfl) ?_ ?_ ?_
  ·
   refine WPO.step rfl rfl rfl rfl (Eff.call rfl rfl Try.call79 (plain_does x hx)) ?_
   rintro _ _ ⟨_, ⟨rfl, rfl⟩, rfl⟩
   refine ⟨(fun w h => ((h.perm pl1)).dropEnd (L := [_, _])), ?_⟩
   show WPD _ _ _ _ _ _ _ _ _ (Blk b2 [.string y.key, .string y.fin, .bool (y.one), .int .i64 (y.lo), .int .i64 (y.hi)] 56 :: Blk b1 [.string x.key, .string x.fin, .bool (x.one), .int .i64 (x.lo), .int .i64 (x.hi)] 56 :: _)
   refine WPD.pick3 3 4 5 (by kernel_rfl) ?_ ?_ ?_
   ·
    refine WPO.step rfl rfl rfl rfl (Eff.call rfl rfl Try.call79 (plain_does y hy)) ?_
    rintro _ _ ⟨_, ⟨rfl, rfl⟩, rfl⟩
    refine ⟨(fun w h => ((h.perm pl1)).dropEnd (L := [_, _])), ?_⟩
    refine WPD.pick2 4 5 (by kernel_rfl) ?_ ?_
    ·
     refine WPO.step rfl rfl rfl rfl (Eff.alloc rfl Ty.z56) ?_
     rintro _ _ ⟨b3, rfl, rfl⟩
     refine ⟨(fun w h => (((h.perm pl1).perm pl2)).dropEnd (L := [_, _])), ?_⟩
     refine WPD.step 5 (by kernel_rfl) rfl rfl rfl rfl (Eff.alloc rfl Ty.z56) ?_
     rintro _ _ ⟨b4, rfl, rfl⟩
     refine ⟨(fun w h => (((h.perm pl2).perm pl3)).dropEnd (L := [_, _])), ?_⟩
     refine WPD.perm pl1 ?_
     refine WPD.stepC0 6 (by kernel_rfl) rfl rfl rfl (by kernel_rfl) (Eff.storeAgg (cs := [.string ((pln x).key), .string ((pln x).fin), .bool ((pln x).one), .int .i64 ((pln x).lo), .int .i64 ((pln x).hi)]) (C' := [.string ((pln x).key), .string ((pln x).fin), .bool ((pln x).one), .int .i64 ((pln x).lo), .int .i64 ((pln x).hi)]) rfl Ty.ag56 rfl rfl rfl rfl (by simp) rfl) ?_
     rintro _ _ rfl
     refine ⟨_, (fun _ h => h), ?_⟩
     refine WPD.perm pl1 ?_
     refine WPD.stepC0 7 (by kernel_rfl) rfl rfl rfl (by kernel_rfl) (Eff.storeAgg (cs := [.string ((pln y).key), .string ((pln y).fin), .bool ((pln y).one), .int .i64 ((pln y).lo), .int .i64 ((pln y).hi)]) (C' := [.string ((pln y).key), .string ((pln y).fin), .bool ((pln y).one), .int .i64 ((pln y).lo), .int .i64 ((pln y).hi)]) rfl Ty.ag56 rfl rfl rfl rfl (by simp) rfl) ?_
     rintro _ _ rfl
     refine ⟨_, (fun _ h => h), ?_⟩
     refine WPD.done (by kernel_rfl) ?_
     refine Out.perm pl1 ?_
     refine Out.perm pl2 ?_
     refine Out.perm pl3 ?_
     refine Out.meet (b3, b4) ?_ ?_ ?_
     ·
      exact trivial
     ·
      exact (Sub.cons rfl (Sub.cons rfl (Sub.cons rfl (Sub.cons rfl (Sub.cons rfl (Sub.cons rfl Sub.nil))))))
     ·
      exact (fun _ h => h)
    ·
     refine WPO.step rfl rfl rfl rfl (Eff.alloc rfl Ty.z56) ?_
     rintro _ _ ⟨b5, rfl, rfl⟩
     refine ⟨(fun w h => (((h.perm pl1).perm pl2)).dropEnd (L := [_, _])), ?_⟩
     refine WPD.step 4 (by kernel_rfl) rfl rfl rfl rfl (Eff.alloc rfl Ty.z56) ?_
     rintro _ _ ⟨b6, rfl, rfl⟩
     refine ⟨(fun w h => (((h.perm pl2).perm pl3)).dropEnd (L := [_, _])), ?_⟩
     refine WPD.stepC0 6 (by kernel_rfl) rfl rfl rfl (by kernel_rfl) (Eff.storeAgg (cs := [.string ((pln x).key), .string ((pln x).fin), .bool ((pln x).one), .int .i64 ((pln x).lo), .int .i64 ((pln x).hi)]) (C' := [.string ((pln x).key), .string ((pln x).fin), .bool ((pln x).one), .int .i64 ((pln x).lo), .int .i64 ((pln x).hi)]) rfl Ty.ag56 rfl rfl rfl rfl (by simp) rfl) ?_
     rintro _ _ rfl
     refine ⟨_, (fun _ h => h), ?_⟩
     refine WPD.perm pl1 ?_
     refine WPD.stepC0 7 (by kernel_rfl) rfl rfl rfl (by kernel_rfl) (Eff.storeAgg (cs := [.string ((pln y).key), .string ((pln y).fin), .bool ((pln y).one), .int .i64 ((pln y).lo), .int .i64 ((pln y).hi)]) (C' := [.string ((pln y).key), .string ((pln y).fin), .bool ((pln y).one), .int .i64 ((pln y).lo), .int .i64 ((pln y).hi)]) rfl Ty.ag56 rfl rfl rfl rfl (by simp) rfl) ?_
     rintro _ _ rfl
     refine ⟨_, (fun _ h => h), ?_⟩
     refine WPD.done (by kernel_rfl) ?_
     refine Out.perm pl1 ?_
     refine Out.perm pl2 ?_
     refine Out.perm pl3 ?_
     refine Out.meet (b6, b5) ?_ ?_ ?_
     ·
      exact trivial
     ·
      exact (Sub.cons rfl (Sub.cons rfl (Sub.cons rfl (Sub.cons rfl (Sub.cons rfl (Sub.cons rfl Sub.nil))))))
     ·
      exact (fun _ h => h)
   ·
    refine WPO.step rfl rfl rfl rfl (Eff.alloc rfl Ty.z56) ?_
    rintro _ _ ⟨b7, rfl, rfl⟩
    refine ⟨(fun w h => (((h.perm pl1).perm pl2)).dropEnd (L := [_, _])), ?_⟩
    refine WPD.pick2 3 5 (by kernel_rfl) ?_ ?_
    ·
     refine WPO.step rfl rfl rfl rfl (Eff.call rfl rfl Try.call79 (plain_does y hy)) ?_
     rintro _ _ ⟨_, ⟨rfl, rfl⟩, rfl⟩
     refine ⟨(fun w h => (((h.perm pl1).perm pl2)).dropEnd (L := [_, _])), ?_⟩
     show WPD _ _ _ _ _ _ _ _ _ (Blk b7 [.string (⟨#[]⟩), .string (⟨#[]⟩), .bool false, .int .i64 0, .int .i64 0] 56 :: _)
     refine WPD.step 5 (by kernel_rfl) rfl rfl rfl rfl (Eff.alloc rfl Ty.z56) ?_
     rintro _ _ ⟨b8, rfl, rfl⟩
     refine ⟨(fun w h => (((h.perm pl2).perm pl3)).dropEnd (L := [_, _])), ?_⟩
     refine WPD.perm pl1 ?_
     refine WPD.stepC0 6 (by kernel_rfl) rfl rfl rfl (by kernel_rfl) (Eff.storeAgg (cs := [.string ((pln x).key), .string ((pln x).fin), .bool ((pln x).one), .int .i64 ((pln x).lo), .int .i64 ((pln x).hi)]) (C' := [.string ((pln x).key), .string ((pln x).fin), .bool ((pln x).one), .int .i64 ((pln x).lo), .int .i64 ((pln x).hi)]) rfl Ty.ag56 rfl rfl rfl rfl (by simp) rfl) ?_
     rintro _ _ rfl
     refine ⟨_, (fun _ h => h), ?_⟩
     refine WPD.perm pl1 ?_
     refine WPD.stepC0 7 (by kernel_rfl) rfl rfl rfl (by kernel_rfl) (Eff.storeAgg (cs := [.string ((pln y).key), .string ((pln y).fin), .bool ((pln y).one), .int .i64 ((pln y).lo), .int .i64 ((pln y).hi)]) (C' := [.string ((pln y).key), .string ((pln y).fin), .bool ((pln y).one), .int .i64 ((pln y).lo), .int .i64 ((pln y).hi)]) rfl Ty.ag56 rfl rfl rfl rfl (by simp) rfl) ?_
     rintro _ _ rfl
     refine ⟨_, (fun _ h => h), ?_⟩
     refine WPD.done (by kernel_rfl) ?_
     refine Out.perm pl1 ?_
     refine Out.perm pl2 ?_
     refine Out.perm pl3 ?_
     refine Out.meet (b7, b8) ?_ ?_ ?_
     ·
      exact trivial
     ·
      exact (Sub.cons rfl (Sub.cons rfl (Sub.cons rfl (Sub.cons rfl (Sub.cons rfl (Sub.cons rfl Sub.nil))))))
     ·
      exact (fun _ h => h)
    ·
     refine WPO.step rfl rfl rfl rfl (Eff.alloc rfl Ty.z56) ?_
     rintro _ _ ⟨b9, rfl, rfl⟩
     refine ⟨(fun w h => (((h.perm pl2).perm pl3)).dropEnd (L := [_, _])), ?_⟩
     refine WPD.step 3 (by kernel_rfl) rfl rfl rfl rfl (Eff.call rfl rfl Try.call79 (plain_does y hy)) ?_
     rintro _ _ ⟨_, ⟨rfl, rfl⟩, rfl⟩
     refine ⟨(fun w h => (((h.perm pl2).perm pl3)).dropEnd (L := [_, _])), ?_⟩
     show WPD _ _ _ _ _ _ _ _ _ (Blk b9 [.string (⟨#[]⟩), .string (⟨#[]⟩), .bool false, .int .i64 0, .int .i64 0] 56 :: Blk b7 [.string (⟨#[]⟩), .string (⟨#[]⟩), .bool false, .int .i64 0, .int .i64 0] 56 :: _)
     refine WPD.perm pl1 ?_
     refine WPD.stepC0 6 (by kernel_rfl) rfl rfl rfl (by kernel_rfl) (Eff.storeAgg (cs := [.string ((pln x).key), .string ((pln x).fin), .bool ((pln x).one), .int .i64 ((pln x).lo), .int .i64 ((pln x).hi)]) (C' := [.string ((pln x).key), .string ((pln x).fin), .bool ((pln x).one), .int .i64 ((pln x).lo), .int .i64 ((pln x).hi)]) rfl Ty.ag56 rfl rfl rfl rfl (by simp) rfl) ?_
     rintro _ _ rfl
     refine ⟨_, (fun _ h => h), ?_⟩
     refine WPD.perm pl1 ?_
     refine WPD.stepC0 7 (by kernel_rfl) rfl rfl rfl (by kernel_rfl) (Eff.storeAgg (cs := [.string ((pln y).key), .string ((pln y).fin), .bool ((pln y).one), .int .i64 ((pln y).lo), .int .i64 ((pln y).hi)]) (C' := [.string ((pln y).key), .string ((pln y).fin), .bool ((pln y).one), .int .i64 ((pln y).lo), .int .i64 ((pln y).hi)]) rfl Ty.ag56 rfl rfl rfl rfl (by simp) rfl) ?_
     rintro _ _ rfl
     refine ⟨_, (fun _ h => h), ?_⟩
     refine WPD.done (by kernel_rfl) ?_
     refine Out.perm pl1 ?_
     refine Out.perm pl2 ?_
     refine Out.perm pl3 ?_
     refine Out.meet (b7, b9) ?_ ?_ ?_
     ·
      exact trivial
     ·
      exact (Sub.cons rfl (Sub.cons rfl (Sub.cons rfl (Sub.cons rfl (Sub.cons rfl (Sub.cons rfl Sub.nil))))))
     ·
      exact (fun _ h => h)
   ·
    refine WPO.step rfl rfl rfl rfl (Eff.alloc rfl Ty.z56) ?_
    rintro _ _ ⟨b10, rfl, rfl⟩
    refine ⟨(fun w h => (((h.perm pl1).perm pl2)).dropEnd (L := [_, _])), ?_⟩
    refine WPD.pick2 3 4 (by kernel_rfl) ?_ ?_
    ·
     refine WPO.step rfl rfl rfl rfl (Eff.call rfl rfl Try.call79 (plain_does y hy)) ?_
     rintro _ _ ⟨_, ⟨rfl, rfl⟩, rfl⟩
     refine ⟨(fun w h => (((h.perm pl1).perm pl2)).dropEnd (L := [_, _])), ?_⟩
     show WPD _ _ _ _ _ _ _ _ _ (Blk b10 [.string (⟨#[]⟩), .string (⟨#[]⟩), .bool false, .int .i64 0, .int .i64 0] 56 :: _)
     refine WPD.step 4 (by kernel_rfl) rfl rfl rfl rfl (Eff.alloc rfl Ty.z56) ?_
     rintro _ _ ⟨b11, rfl, rfl⟩
     refine ⟨(fun w h => (((h.perm pl2).perm pl3)).dropEnd (L := [_, _])), ?_⟩
     refine WPD.stepC0 6 (by kernel_rfl) rfl rfl rfl (by kernel_rfl) (Eff.storeAgg (cs := [.string ((pln x).key), .string ((pln x).fin), .bool ((pln x).one), .int .i64 ((pln x).lo), .int .i64 ((pln x).hi)]) (C' := [.string ((pln x).key), .string ((pln x).fin), .bool ((pln x).one), .int .i64 ((pln x).lo), .int .i64 ((pln x).hi)]) rfl Ty.ag56 rfl rfl rfl rfl (by simp) rfl) ?_
     rintro _ _ rfl
     refine ⟨_, (fun _ h => h), ?_⟩
     refine WPD.perm pl1 ?_
     refine WPD.stepC0 7 (by kernel_rfl) rfl rfl rfl (by kernel_rfl) (Eff.storeAgg (cs := [.string ((pln y).key), .string ((pln y).fin), .bool ((pln y).one), .int .i64 ((pln y).lo), .int .i64 ((pln y).hi)]) (C' := [.string ((pln y).key), .string ((pln y).fin), .bool ((pln y).one), .int .i64 ((pln y).lo), .int .i64 ((pln y).hi)]) rfl Ty.ag56 rfl rfl rfl rfl (by simp) rfl) ?_
     rintro _ _ rfl
     refine ⟨_, (fun _ h => h), ?_⟩
     refine WPD.done (by kernel_rfl) ?_
     refine Out.perm pl1 ?_
     refine Out.perm pl2 ?_
     refine Out.perm pl3 ?_
     refine Out.meet (b11, b10) ?_ ?_ ?_
     ·
      exact trivial
     ·
      exact (Sub.cons rfl (Sub.cons rfl (Sub.cons rfl (Sub.cons rfl (Sub.cons rfl (Sub.cons rfl Sub.nil))))))
     ·
      exact (fun _ h => h)
    ·
     refine WPO.step rfl rfl rfl rfl (Eff.alloc rfl Ty.z56) ?_
     rintro _ _ ⟨b12, rfl, rfl⟩
     refine ⟨(fun w h => (((h.perm pl2).perm pl3)).dropEnd (L := [_, _])), ?_⟩
     refine WPD.step 3 (by kernel_rfl) rfl rfl rfl rfl (Eff.call rfl rfl Try.call79 (plain_does y hy)) ?_
     rintro _ _ ⟨_, ⟨rfl, rfl⟩, rfl⟩
     refine ⟨(fun w h => (((h.perm pl2).perm pl3)).dropEnd (L := [_, _])), ?_⟩
     show WPD _ _ _ _ _ _ _ _ _ (Blk b12 [.string (⟨#[]⟩), .string (⟨#[]⟩), .bool false, .int .i64 0, .int .i64 0] 56 :: Blk b10 [.string (⟨#[]⟩), .string (⟨#[]⟩), .bool false, .int .i64 0, .int .i64 0] 56 :: _)
     refine WPD.stepC0 6 (by kernel_rfl) rfl rfl rfl (by kernel_rfl) (Eff.storeAgg (cs := [.string ((pln x).key), .string ((pln x).fin), .bool ((pln x).one), .int .i64 ((pln x).lo), .int .i64 ((pln x).hi)]) (C' := [.string ((pln x).key), .string ((pln x).fin), .bool ((pln x).one), .int .i64 ((pln x).lo), .int .i64 ((pln x).hi)]) rfl Ty.ag56 rfl rfl rfl rfl (by simp) rfl) ?_
     rintro _ _ rfl
     refine ⟨_, (fun _ h => h), ?_⟩
     refine WPD.perm pl1 ?_
     refine WPD.stepC0 7 (by kernel_rfl) rfl rfl rfl (by kernel_rfl) (Eff.storeAgg (cs := [.string ((pln y).key), .string ((pln y).fin), .bool ((pln y).one), .int .i64 ((pln y).lo), .int .i64 ((pln y).hi)]) (C' := [.string ((pln y).key), .string ((pln y).fin), .bool ((pln y).one), .int .i64 ((pln y).lo), .int .i64 ((pln y).hi)]) rfl Ty.ag56 rfl rfl rfl rfl (by simp) rfl) ?_
     rintro _ _ rfl
     refine ⟨_, (fun _ h => h), ?_⟩
     refine WPD.done (by kernel_rfl) ?_
     refine Out.perm pl1 ?_
     refine Out.perm pl2 ?_
     refine Out.perm pl3 ?_
     refine Out.meet (b12, b10) ?_ ?_ ?_
     ·
      exact trivial
     ·
      exact (Sub.cons rfl (Sub.cons rfl (Sub.cons rfl (Sub.cons rfl (Sub.cons rfl (Sub.cons rfl Sub.nil))))))
     ·
      exact (fun _ h => h)
  ·
   refine WPO.step rfl rfl rfl rfl (Eff.alloc rfl Ty.z56) ?_
   rintro _ _ ⟨b13, rfl, rfl⟩
   refine ⟨(fun w h => (((h.perm pl1).perm pl2)).dropEnd (L := [_, _])), ?_⟩
   refine WPD.pick2 1 5 (by kernel_rfl) ?_ ?_
   ·
    refine WPO.step rfl rfl rfl rfl (Eff.call rfl rfl Try.call79 (plain_does x hx)) ?_
    rintro _ _ ⟨_, ⟨rfl, rfl⟩, rfl⟩
    refine ⟨(fun w h => (((h.perm pl1).perm pl2)).dropEnd (L := [_, _])), ?_⟩
    show WPD _ _ _ _ _ _ _ _ _ (Blk b13 [.string (⟨#[]⟩), .string (⟨#[]⟩), .bool false, .int .i64 0, .int .i64 0] 56 :: Blk b2 [.string y.key, .string y.fin, .bool (y.one), .int .i64 (y.lo), .int .i64 (y.hi)] 56 :: Blk b1 [.string x.key, .string x.fin, .bool (x.one), .int .i64 (x.lo), .int .i64 (x.hi)] 56 :: _)
    refine WPD.pick2 3 5 (by kernel_rfl) ?_ ?_
    ·
     refine WPO.step rfl rfl rfl rfl (Eff.call rfl rfl Try.call79 (plain_does y hy)) ?_
     rintro _ _ ⟨_, ⟨rfl, rfl⟩, rfl⟩
     refine ⟨(fun w h => (((h.perm pl1).perm pl2)).dropEnd (L := [_, _])), ?_⟩
     refine WPD.step 5 (by kernel_rfl) rfl rfl rfl rfl (Eff.alloc rfl Ty.z56) ?_
     rintro _ _ ⟨b14, rfl, rfl⟩
     refine ⟨(fun w h => (((h.perm pl2).perm pl3)).dropEnd (L := [_, _])), ?_⟩
     refine WPD.perm pl1 ?_
     refine WPD.stepC0 6 (by kernel_rfl) rfl rfl rfl (by kernel_rfl) (Eff.storeAgg (cs := [.string ((pln x).key), .string ((pln x).fin), .bool ((pln x).one), .int .i64 ((pln x).lo), .int .i64 ((pln x).hi)]) (C' := [.string ((pln x).key), .string ((pln x).fin), .bool ((pln x).one), .int .i64 ((pln x).lo), .int .i64 ((pln x).hi)]) rfl Ty.ag56 rfl rfl rfl rfl (by simp) rfl) ?_
     rintro _ _ rfl
     refine ⟨_, (fun _ h => h), ?_⟩
     refine WPD.perm pl1 ?_
     refine WPD.stepC0 7 (by kernel_rfl) rfl rfl rfl (by kernel_rfl) (Eff.storeAgg (cs := [.string ((pln y).key), .string ((pln y).fin), .bool ((pln y).one), .int .i64 ((pln y).lo), .int .i64 ((pln y).hi)]) (C' := [.string ((pln y).key), .string ((pln y).fin), .bool ((pln y).one), .int .i64 ((pln y).lo), .int .i64 ((pln y).hi)]) rfl Ty.ag56 rfl rfl rfl rfl (by simp) rfl) ?_
     rintro _ _ rfl
     refine ⟨_, (fun _ h => h), ?_⟩
     refine WPD.done (by kernel_rfl) ?_
     refine Out.perm pl1 ?_
     refine Out.perm pl2 ?_
     refine Out.perm pl3 ?_
     refine Out.meet (b13, b14) ?_ ?_ ?_
     ·
      exact trivial
     ·
      exact (Sub.cons rfl (Sub.cons rfl (Sub.cons rfl (Sub.cons rfl (Sub.cons rfl (Sub.cons rfl Sub.nil))))))
     ·
      exact (fun _ h => h)
    ·
     refine WPO.step rfl rfl rfl rfl (Eff.alloc rfl Ty.z56) ?_
     rintro _ _ ⟨b15, rfl, rfl⟩
     refine ⟨(fun w h => (((h.perm pl2).perm pl3)).dropEnd (L := [_, _])), ?_⟩
     refine WPD.step 3 (by kernel_rfl) rfl rfl rfl rfl (Eff.call rfl rfl Try.call79 (plain_does y hy)) ?_
     rintro _ _ ⟨_, ⟨rfl, rfl⟩, rfl⟩
     refine ⟨(fun w h => (((h.perm pl2).perm pl3)).dropEnd (L := [_, _])), ?_⟩
     show WPD _ _ _ _ _ _ _ _ _ (Blk b15 [.string (⟨#[]⟩), .string (⟨#[]⟩), .bool false, .int .i64 0, .int .i64 0] 56 :: _)
     refine WPD.perm pl1 ?_
     refine WPD.stepC0 6 (by kernel_rfl) rfl rfl rfl (by kernel_rfl) (Eff.storeAgg (cs := [.string ((pln x).key), .string ((pln x).fin), .bool ((pln x).one), .int .i64 ((pln x).lo), .int .i64 ((pln x).hi)]) (C' := [.string ((pln x).key), .string ((pln x).fin), .bool ((pln x).one), .int .i64 ((pln x).lo), .int .i64 ((pln x).hi)]) rfl Ty.ag56 rfl rfl rfl rfl (by simp) rfl) ?_
     rintro _ _ rfl
     refine ⟨_, (fun _ h => h), ?_⟩
     refine WPD.perm pl1 ?_
     refine WPD.stepC0 7 (by kernel_rfl) rfl rfl rfl (by kernel_rfl) (Eff.storeAgg (cs := [.string ((pln y).key), .string ((pln y).fin), .bool ((pln y).one), .int .i64 ((pln y).lo), .int .i64 ((pln y).hi)]) (C' := [.string ((pln y).key), .string ((pln y).fin), .bool ((pln y).one), .int .i64 ((pln y).lo), .int .i64 ((pln y).hi)]) rfl Ty.ag56 rfl rfl rfl rfl (by simp) rfl) ?_
     rintro _ _ rfl
     refine ⟨_, (fun _ h => h), ?_⟩
     refine WPD.done (by kernel_rfl) ?_
     refine Out.perm pl1 ?_
     refine Out.perm pl2 ?_
     refine Out.perm pl3 ?_
     refine Out.meet (b13, b15) ?_ ?_ ?_
     ·
      exact trivial
     ·
      exact (Sub.cons rfl (Sub.cons rfl (Sub.cons rfl (Sub.cons rfl (Sub.cons rfl (Sub.cons rfl Sub.nil))))))
     ·
      exact (fun _ h => h)
   ·
    refine WPO.step rfl rfl rfl rfl (Eff.alloc rfl Ty.z56) ?_
    rintro _ _ ⟨b16, rfl, rfl⟩
    refine ⟨(fun w h => (((h.perm pl2).perm pl3)).dropEnd (L := [_, _])), ?_⟩
    refine WPD.step 1 (by kernel_rfl) rfl rfl rfl rfl (Eff.call rfl rfl Try.call79 (plain_does x hx)) ?_
    rintro _ _ ⟨_, ⟨rfl, rfl⟩, rfl⟩
    refine ⟨(fun w h => (((h.perm pl2).perm pl3)).dropEnd (L := [_, _])), ?_⟩
    show WPD _ _ _ _ _ _ _ _ _ (Blk b16 [.string (⟨#[]⟩), .string (⟨#[]⟩), .bool false, .int .i64 0, .int .i64 0] 56 :: Blk b13 [.string (⟨#[]⟩), .string (⟨#[]⟩), .bool false, .int .i64 0, .int .i64 0] 56 :: Blk b2 [.string y.key, .string y.fin, .bool (y.one), .int .i64 (y.lo), .int .i64 (y.hi)] 56 :: Blk b1 [.string x.key, .string x.fin, .bool (x.one), .int .i64 (x.lo), .int .i64 (x.hi)] 56 :: _)
    refine WPD.step 3 (by kernel_rfl) rfl rfl rfl rfl (Eff.call rfl rfl Try.call79 (plain_does y hy)) ?_
    rintro _ _ ⟨_, ⟨rfl, rfl⟩, rfl⟩
    refine ⟨(fun w h => (((h.perm pl2).perm pl3)).dropEnd (L := [_, _])), ?_⟩
    refine WPD.perm pl1 ?_
    refine WPD.stepC0 6 (by kernel_rfl) rfl rfl rfl (by kernel_rfl) (Eff.storeAgg (cs := [.string ((pln x).key), .string ((pln x).fin), .bool ((pln x).one), .int .i64 ((pln x).lo), .int .i64 ((pln x).hi)]) (C' := [.string ((pln x).key), .string ((pln x).fin), .bool ((pln x).one), .int .i64 ((pln x).lo), .int .i64 ((pln x).hi)]) rfl Ty.ag56 rfl rfl rfl rfl (by simp) rfl) ?_
    rintro _ _ rfl
    refine ⟨_, (fun _ h => h), ?_⟩
    refine WPD.perm pl1 ?_
    refine WPD.stepC0 7 (by kernel_rfl) rfl rfl rfl (by kernel_rfl) (Eff.storeAgg (cs := [.string ((pln y).key), .string ((pln y).fin), .bool ((pln y).one), .int .i64 ((pln y).lo), .int .i64 ((pln y).hi)]) (C' := [.string ((pln y).key), .string ((pln y).fin), .bool ((pln y).one), .int .i64 ((pln y).lo), .int .i64 ((pln y).hi)]) rfl Ty.ag56 rfl rfl rfl rfl (by simp) rfl) ?_
    rintro _ _ rfl
    refine ⟨_, (fun _ h => h), ?_⟩
    refine WPD.done (by kernel_rfl) ?_
    refine Out.perm pl1 ?_
    refine Out.perm pl2 ?_
    refine Out.perm pl3 ?_
    refine Out.meet (b13, b16) ?_ ?_ ?_
    ·
     exact trivial
    ·
     exact (Sub.cons rfl (Sub.cons rfl (Sub.cons rfl (Sub.cons rfl (Sub.cons rfl (Sub.cons rfl Sub.nil))))))
    ·
     exact (fun _ h => h)
  ·
   refine WPO.step rfl rfl rfl rfl (Eff.alloc rfl Ty.z56) ?_
   rintro _ _ ⟨b17, rfl, rfl⟩
   refine ⟨(fun w h => (((h.perm pl1).perm pl2)).dropEnd (L := [_, _])), ?_⟩
   refine WPD.pick2 1 4 (by kernel_rfl) ?_ ?_
   ·
    refine WPO.step rfl rfl rfl rfl (Eff.call rfl rfl Try.call79 (plain_does x hx)) ?_
    rintro _ _ ⟨_, ⟨rfl, rfl⟩, rfl⟩
    refine ⟨(fun w h => (((h.perm pl1).perm pl2)).dropEnd (L := [_, _])), ?_⟩
    show WPD _ _ _ _ _ _ _ _ _ (Blk b17 [.string (⟨#[]⟩), .string (⟨#[]⟩), .bool false, .int .i64 0, .int .i64 0] 56 :: Blk b2 [.string y.key, .string y.fin, .bool (y.one), .int .i64 (y.lo), .int .i64 (y.hi)] 56 :: Blk b1 [.string x.key, .string x.fin, .bool (x.one), .int .i64 (x.lo), .int .i64 (x.hi)] 56 :: _)
    refine WPD.pick2 3 4 (by kernel_rfl) ?_ ?_
    ·
     refine WPO.step rfl rfl rfl rfl (Eff.call rfl rfl Try.call79 (plain_does y hy)) ?_
     rintro _ _ ⟨_, ⟨rfl, rfl⟩, rfl⟩
     refine ⟨(fun w h => (((h.perm pl1).perm pl2)).dropEnd (L := [_, _])), ?_⟩
     refine WPD.step 4 (by kernel_rfl) rfl rfl rfl rfl (Eff.alloc rfl Ty.z56) ?_
     rintro _ _ ⟨b18, rfl, rfl⟩
     refine ⟨(fun w h => (((h.perm pl2).perm pl3)).dropEnd (L := [_, _])), ?_⟩
     refine WPD.stepC0 6 (by kernel_rfl) rfl rfl rfl (by kernel_rfl) (Eff.storeAgg (cs := [.string ((pln x).key), .string ((pln x).fin), .bool ((pln x).one), .int .i64 ((pln x).lo), .int .i64 ((pln x).hi)]) (C' := [.string ((pln x).key), .string ((pln x).fin), .bool ((pln x).one), .int .i64 ((pln x).lo), .int .i64 ((pln x).hi)]) rfl Ty.ag56 rfl rfl rfl rfl (by simp) rfl) ?_
     rintro _ _ rfl
     refine ⟨_, (fun _ h => h), ?_⟩
     refine WPD.perm pl1 ?_
     refine WPD.stepC0 7 (by kernel_rfl) rfl rfl rfl (by kernel_rfl) (Eff.storeAgg (cs := [.string ((pln y).key), .string ((pln y).fin), .bool ((pln y).one), .int .i64 ((pln y).lo), .int .i64 ((pln y).hi)]) (C' := [.string ((pln y).key), .string ((pln y).fin), .bool ((pln y).one), .int .i64 ((pln y).lo), .int .i64 ((pln y).hi)]) rfl Ty.ag56 rfl rfl rfl rfl (by simp) rfl) ?_
     rintro _ _ rfl
     refine ⟨_, (fun _ h => h), ?_⟩
     refine WPD.done (by kernel_rfl) ?_
     refine Out.perm pl1 ?_
     refine Out.perm pl2 ?_
     refine Out.perm pl3 ?_
     refine Out.meet (b18, b17) ?_ ?_ ?_
     ·
      exact trivial
     ·
      exact (Sub.cons rfl (Sub.cons rfl (Sub.cons rfl (Sub.cons rfl (Sub.cons rfl (Sub.cons rfl Sub.nil))))))
     ·
      exact (fun _ h => h)
    ·
     refine WPO.step rfl rfl rfl rfl (Eff.alloc rfl Ty.z56) ?_
     rintro _ _ ⟨b19, rfl, rfl⟩
     refine ⟨(fun w h => (((h.perm pl2).perm pl3)).dropEnd (L := [_, _])), ?_⟩
     refine WPD.step 3 (by kernel_rfl) rfl rfl rfl rfl (Eff.call rfl rfl Try.call79 (plain_does y hy)) ?_
     rintro _ _ ⟨_, ⟨rfl, rfl⟩, rfl⟩
     refine ⟨(fun w h => (((h.perm pl2).perm pl3)).dropEnd (L := [_, _])), ?_⟩
     show WPD _ _ _ _ _ _ _ _ _ (Blk b19 [.string (⟨#[]⟩), .string (⟨#[]⟩), .bool false, .int .i64 0, .int .i64 0] 56 :: _)
     refine WPD.stepC0 6 (by kernel_rfl) rfl rfl rfl (by kernel_rfl) (Eff.storeAgg (cs := [.string ((pln x).key), .string ((pln x).fin), .bool ((pln x).one), .int .i64 ((pln x).lo), .int .i64 ((pln x).hi)]) (C' := [.string ((pln x).key), .string ((pln x).fin), .bool ((pln x).one), .int .i64 ((pln x).lo), .int .i64 ((pln x).hi)]) rfl Ty.ag56 rfl rfl rfl rfl (by simp) rfl) ?_
     rintro _ _ rfl
     refine ⟨_, (fun _ h => h), ?_⟩
     refine WPD.perm pl1 ?_
     refine WPD.stepC0 7 (by kernel_rfl) rfl rfl rfl (by kernel_rfl) (Eff.storeAgg (cs := [.string ((pln y).key), .string ((pln y).fin), .bool ((pln y).one), .int .i64 ((pln y).lo), .int .i64 ((pln y).hi)]) (C' := [.string ((pln y).key), .string ((pln y).fin), .bool ((pln y).one), .int .i64 ((pln y).lo), .int .i64 ((pln y).hi)]) rfl Ty.ag56 rfl rfl rfl rfl (by simp) rfl) ?_
     rintro _ _ rfl
     refine ⟨_, (fun _ h => h), ?_⟩
     refine WPD.done (by kernel_rfl) ?_
     refine Out.perm pl1 ?_
     refine Out.perm pl2 ?_
     refine Out.perm pl3 ?_
     refine Out.meet (b19, b17) ?_ ?_ ?_
     ·
      exact trivial
     ·
      exact (Sub.cons rfl (Sub.cons rfl (Sub.cons rfl (Sub.cons rfl (Sub.cons rfl (Sub.cons rfl Sub.nil))))))
     ·
      exact (fun _ h => h)
   ·
    refine WPO.step rfl rfl rfl rfl (Eff.alloc rfl Ty.z56) ?_
    rintro _ _ ⟨b20, rfl, rfl⟩
    refine ⟨(fun w h => (((h.perm pl2).perm pl3)).dropEnd (L := [_, _])), ?_⟩
    refine WPD.step 1 (by kernel_rfl) rfl rfl rfl rfl (Eff.call rfl rfl Try.call79 (plain_does x hx)) ?_
    rintro _ _ ⟨_, ⟨rfl, rfl⟩, rfl⟩
    refine ⟨(fun w h => (((h.perm pl2).perm pl3)).dropEnd (L := [_, _])), ?_⟩
    show WPD _ _ _ _ _ _ _ _ _ (Blk b20 [.string (⟨#[]⟩), .string (⟨#[]⟩), .bool false, .int .i64 0, .int .i64 0] 56 :: Blk b17 [.string (⟨#[]⟩), .string (⟨#[]⟩), .bool false, .int .i64 0, .int .i64 0] 56 :: Blk b2 [.string y.key, .string y.fin, .bool (y.one), .int .i64 (y.lo), .int .i64 (y.hi)] 56 :: Blk b1 [.string x.key, .string x.fin, .bool (x.one), .int .i64 (x.lo), .int .i64 (x.hi)] 56 :: _)
    refine WPD.step 3 (by kernel_rfl) rfl rfl rfl rfl (Eff.call rfl rfl Try.call79 (plain_does y hy)) ?_
    rintro _ _ ⟨_, ⟨rfl, rfl⟩, rfl⟩
    refine ⟨(fun w h => (((h.perm pl2).perm pl3)).dropEnd (L := [_, _])), ?_⟩
    refine WPD.stepC0 6 (by kernel_rfl) rfl rfl rfl (by kernel_rfl) (Eff.storeAgg (cs := [.string ((pln x).key), .string ((pln x).fin), .bool ((pln x).one), .int .i64 ((pln x).lo), .int .i64 ((pln x).hi)]) (C' := [.string ((pln x).key), .string ((pln x).fin), .bool ((pln x).one), .int .i64 ((pln x).lo), .int .i64 ((pln x).hi)]) rfl Ty.ag56 rfl rfl rfl rfl (by simp) rfl) ?_
    rintro _ _ rfl
    refine ⟨_, (fun _ h => h), ?_⟩
    refine WPD.perm pl1 ?_
    refine WPD.stepC0 7 (by kernel_rfl) rfl rfl rfl (by kernel_rfl) (Eff.storeAgg (cs := [.string ((pln y).key), .string ((pln y).fin), .bool ((pln y).one), .int .i64 ((pln y).lo), .int .i64 ((pln y).hi)]) (C' := [.string ((pln y).key), .string ((pln y).fin), .bool ((pln y).one), .int .i64 ((pln y).lo), .int .i64 ((pln y).hi)]) rfl Ty.ag56 rfl rfl rfl rfl (by simp) rfl) ?_
    rintro _ _ rfl
    refine ⟨_, (fun _ h => h), ?_⟩
    refine WPD.done (by kernel_rfl) ?_
    refine Out.perm pl1 ?_
    refine Out.perm pl2 ?_
    refine Out.perm pl3 ?_
    refine Out.meet (b20, b17) ?_ ?_ ?_
    ·
     exact trivial
    ·
     exact (Sub.cons rfl (Sub.cons rfl (Sub.cons rfl (Sub.cons rfl (Sub.cons rfl (Sub.cons rfl Sub.nil))))))
    ·
     exact (fun _ h => h)
 ·
  rintro ⟨q7, q8⟩ hI
  show WPc _ _ _ _ _ [(0, _), (4, .pointer (some ⟨b1, 0, none⟩)), (5, .pointer (some ⟨b2, 0, none⟩)), (6, .bool false), (7, .pointer (some ⟨q7, 0, none⟩)), (8, .pointer (some ⟨q8, 0, none⟩))] (Blk b1 [.string x.key, .string x.fin, .bool (x.one), .int .i64 (x.lo), .int .i64 (x.hi)] 56 :: Blk b2 [.string y.key, .string y.fin, .bool (y.one), .int .i64 (y.lo), .int .i64 (y.hi)] 56 :: Blk q7 [.string ((pln x).key), .string ((pln x).fin), .bool ((pln x).one), .int .i64 ((pln x).lo), .int .i64 ((pln x).hi)] 56 :: Blk q8 [.string ((pln y).key), .string ((pln y).fin), .bool ((pln y).one), .int .i64 ((pln y).lo), .int .i64 ((pln y).hi)] 56 :: _)
  refine WPc.sr ?_
  refine WP.val rfl rfl rfl (Val.move rfl rfl) ?_
  refine WP.val rfl rfl rfl (Val.fieldAddr (j := 0) rfl Ty.fo56_0 rfl rfl) ?_
  refine WP.val rfl rfl rfl (Val.fieldAddr (j := 0) rfl Ty.fo54_0 rfl rfl) ?_
  refine WP.val rfl rfl rfl (Val.load rfl Ty.sc9 rfl (fun w h => h.cell 2 rfl rfl)) ?_
  refine WP.val rfl rfl rfl (Val.fieldAddr (j := 0) rfl Ty.fo56_0 rfl rfl) ?_
  refine WP.val rfl rfl rfl (Val.fieldAddr (j := 1) rfl Ty.fo54_1 rfl rfl) ?_
  refine WP.val rfl rfl rfl (Val.load rfl Ty.sc9 rfl (fun w h => h.cell 3 rfl rfl)) ?_
  refine WP.val rfl rfl rfl (Val.fieldAddr (j := 3) rfl Ty.fo56_1 rfl rfl) ?_
  refine WP.val rfl rfl rfl (Val.load rfl Ty.sc2 rfl (fun w h => h.cell 2 rfl rfl)) ?_
  refine WP.val rfl rfl rfl (Val.fieldAddr (j := 4) rfl Ty.fo56_2 rfl rfl) ?_
  refine WP.val rfl rfl rfl (Val.load rfl Ty.sc2 rfl (fun w h => h.cell 3 rfl rfl)) ?_
  refine WP.eff rfl rfl rfl (Eff.call rfl rfl Try.call37 (sends2_does k0 k ((pln x).key) ((pln y).fin) ((pln x).lo) ((pln y).hi) hk)) ?_
  rintro _ _ ⟨_, ⟨rfl, rfl⟩, rfl⟩
  refine WP.val rfl rfl rfl (Val.lss rfl rfl rfl) ?_
  refine WP.val rfl rfl rfl (Val.move rfl rfl) ?_
  refine WP.split 26 rfl (fun h1 => ?_) (fun h1 => ?_)
  ·
   have h1 : ((kcmp (ke k ((pln x).key) ((pln x).lo)) (ke k ((pln y).fin) ((pln y).hi))) < (0 : Int)) := h1
   refine WP.valG rfl rfl rfl rfl rfl rfl rfl (Val.move rfl rfl) ?_
   refine WP.valG rfl rfl rfl rfl rfl rfl rfl (Val.fieldAddr (j := 0) rfl Ty.fo56_0 rfl rfl) ?_
   refine WP.valG rfl rfl rfl rfl rfl rfl rfl (Val.fieldAddr (j := 0) rfl Ty.fo54_0 rfl rfl) ?_
   refine WP.valG rfl rfl rfl rfl rfl rfl rfl (Val.load rfl Ty.sc9 rfl (fun w h => h.cell 3 rfl rfl)) ?_
   refine WP.valG rfl rfl rfl rfl rfl rfl rfl (Val.fieldAddr (j := 0) rfl Ty.fo56_0 rfl rfl) ?_
   refine WP.valG rfl rfl rfl rfl rfl rfl rfl (Val.fieldAddr (j := 1) rfl Ty.fo54_1 rfl rfl) ?_
   refine WP.valG rfl rfl rfl rfl rfl rfl rfl (Val.load rfl Ty.sc9 rfl (fun w h => h.cell 2 rfl rfl)) ?_
   refine WP.valG rfl rfl rfl rfl rfl rfl rfl (Val.fieldAddr (j := 3) rfl Ty.fo56_1 rfl rfl) ?_
   refine WP.valG rfl rfl rfl rfl rfl rfl rfl (Val.load rfl Ty.sc2 rfl (fun w h => h.cell 3 rfl rfl)) ?_
   refine WP.valG rfl rfl rfl rfl rfl rfl rfl (Val.fieldAddr (j := 4) rfl Ty.fo56_2 rfl rfl) ?_
   refine WP.valG rfl rfl rfl rfl rfl rfl rfl (Val.load rfl Ty.sc2 rfl (fun w h => h.cell 2 rfl rfl)) ?_
   refine WP.effG rfl rfl rfl rfl rfl rfl rfl (Eff.call rfl rfl Try.call37 (sends2_does k0 k ((pln y).key) ((pln x).fin) ((pln y).lo) ((pln x).hi) hk)) ?_
   rintro _ _ ⟨_, ⟨rfl, rfl⟩, rfl⟩
   refine WP.valG rfl rfl rfl rfl rfl rfl rfl (Val.lss rfl rfl rfl) ?_
   refine WP.val rfl rfl rfl (Val.pickT rfl rfl rfl) ?_
   refine WP.val rfl rfl rfl (Val.assign rfl rfl) ?_
   refine WP.nx ?_
   refine WPc.ret ?_
   iterate 4 (refine Out.drop ?_)
   exact Out.ret1 (L' := []) Try.results41 rfl ⟨congrArg Value.bool (decide_eq_decide.2 ⟨fun h => ⟨kcmp_lt.1 (by assumption), kcmp_lt.1 h⟩, fun h => kcmp_lt.2 h.2⟩), rfl⟩ (fun w h => h)
  ·
   have h1 : ¬ ((kcmp (ke k ((pln x).key) ((pln x).lo)) (ke k ((pln y).fin) ((pln y).hi))) < (0 : Int)) := h1
   iterate 13 (refine WP.skip rfl rfl rfl rfl rfl rfl rfl ?_)
   refine WP.val rfl rfl rfl (Val.pickF rfl rfl rfl) ?_
   refine WP.val rfl rfl rfl (Val.assign rfl rfl) ?_
   refine WP.nx ?_
   refine WPc.ret ?_
   iterate 4 (refine Out.drop ?_)
   exact Out.ret1 (L' := []) Try.results41 rfl ⟨congrArg Value.bool (decide_eq_false (fun h => absurd (kcmp_lt.2 h.1) (by assumption))).symm, rfl⟩ (fun w h => h)
set_option maxRecDepth 100000 in
set_option maxHeartbeats 2000000 in
theorem proper_does (k0 k : Int) (hk : KO k0 k) (x : Sp) (hx : x.key.size ≤ 2147483647) : Does Try.prog 99 [.int .i64 (k0), .agg #[.string x.key, .string x.fin, .bool (x.one), .int .i64 (x.lo), .int .i64 (x.hi)]] [] (fun v L => v = .bool (decide (prp k x)) ∧ L = []) := by
 refine Does.enter 21 Try.func99 rfl rfl rfl fun W F => ?_
 show WPc _ _ _ _ _ [(0, .int .i64 (k0)), (1, .agg #[.string x.key, .string x.fin, .bool (x.one), .int .i64 (x.lo), .int .i64 (x.hi)])] (F)
 refine WPc.sr ?_
 refine WP.eff rfl rfl rfl (Eff.box (C := [.string x.key, .string x.fin, .bool (x.one), .int .i64 (x.lo), .int .i64 (x.hi)]) rfl rfl rfl) ?_
 rintro _ F ⟨b1, rfl, rfl⟩
 refine WP.val rfl rfl rfl (Val.assign rfl rfl) ?_
 refine WP.nx ?_
 refine WPc.sr ?_
 refine WP.val rfl rfl rfl (Val.loadAgg (cs := [.string x.key, .string x.fin, .bool (x.one), .int .i64 (x.lo), .int .i64 (x.hi)]) rfl Ty.ag56 rfl rfl (fun w h => h.range 0 rfl rfl)) ?_
 refine WP.eff rfl rfl rfl (Eff.call rfl rfl Try.call79 (plain_does x hx)) ?_
 rintro _ _ ⟨_, ⟨rfl, rfl⟩, rfl⟩
 show WP _ _ _ _ _ _ _ (Blk b1 [.string x.key, .string x.fin, .bool (x.one), .int .i64 (x.lo), .int .i64 (x.hi)] 56 :: _)
 refine WP.eff rfl rfl rfl (Eff.alloc rfl Ty.z56) ?_
 rintro _ _ ⟨b2, rfl, rfl⟩
 refine WP.eff0 rfl rfl (Eff.storeAgg (cs := [.string ((pln x).key), .string ((pln x).fin), .bool ((pln x).one), .int .i64 ((pln x).lo), .int .i64 ((pln x).hi)]) (C' := [.string ((pln x).key), .string ((pln x).fin), .bool ((pln x).one), .int .i64 ((pln x).lo), .int .i64 ((pln x).hi)]) rfl Ty.ag56 rfl rfl rfl rfl (by simp) rfl) ?_
 rintro _ _ rfl
 refine WP.nx ?_
 refine WPc.sr ?_
 refine WP.val rfl rfl rfl (Val.move rfl rfl) ?_
 refine WP.val rfl rfl rfl (Val.fieldAddr (j := 0) rfl Ty.fo56_0 rfl rfl) ?_
 refine WP.val rfl rfl rfl (Val.fieldAddr (j := 0) rfl Ty.fo54_0 rfl rfl) ?_
 refine WP.val rfl rfl rfl (Val.load rfl Ty.sc9 rfl (fun w h => h.cell 0 rfl rfl)) ?_
 refine WP.val rfl rfl rfl (Val.fieldAddr (j := 0) rfl Ty.fo56_0 rfl rfl) ?_
 refine WP.val rfl rfl rfl (Val.fieldAddr (j := 1) rfl Ty.fo54_1 rfl rfl) ?_
 refine WP.val rfl rfl rfl (Val.load rfl Ty.sc9 rfl (fun w h => h.cell 0 rfl rfl)) ?_
 refine WP.val rfl rfl rfl (Val.fieldAddr (j := 3) rfl Ty.fo56_1 rfl rfl) ?_
 refine WP.val rfl rfl rfl (Val.load rfl Ty.sc2 rfl (fun w h => h.cell 0 rfl rfl)) ?_
 refine WP.val rfl rfl rfl (Val.fieldAddr (j := 4) rfl Ty.fo56_2 rfl rfl) ?_
 refine WP.val rfl rfl rfl (Val.load rfl Ty.sc2 rfl (fun w h => h.cell 0 rfl rfl)) ?_
 refine WP.eff rfl rfl rfl (Eff.call rfl rfl Try.call37 (sends2_does k0 k ((pln x).key) ((pln x).fin) ((pln x).lo) ((pln x).hi) hk)) ?_
 rintro _ _ ⟨_, ⟨rfl, rfl⟩, rfl⟩
 show WP _ _ _ _ _ _ _ (Blk b2 [.string ((pln x).key), .string ((pln x).fin), .bool ((pln x).one), .int .i64 ((pln x).lo), .int .i64 ((pln x).hi)] 56 :: _)
 refine WP.val rfl rfl rfl (Val.lss rfl rfl rfl) ?_
 refine WP.val rfl rfl rfl (Val.assign rfl rfl) ?_
 refine WP.nx ?_
 refine WPc.ret ?_
 refine Out.drop ?_
 refine Out.drop ?_
 exact Out.ret1 (L' := []) Try.results99 rfl ⟨congrArg Value.bool (decide_eq_decide.2 kcmp_lt), rfl⟩ (fun w h => h)

def spB (k : Int) (x : Sp) : Prop := prp k x ∧ (k = 3 → x.one = false ∧ -2305843009213693952 ≤ x.lo ∧ x.hi ≤ 2305843009213693952)
theorem spB_ok {k : Int} {x : Sp} (h : spB k x) (hx : x.key.size ≤ 2147483647) (hy : x.fin.size ≤ 2147483647) : SpOk k x := by
 refine ⟨hx, hy, fun h3 => ?_⟩
 obtain ⟨h1, h2⟩ := h
 obtain ⟨a, b, c⟩ := h2 h3
 subst h3
 have h4 : klt (ki x.lo) (ki x.hi) := h1
 have h5 : x.lo < x.hi := by
  rcases h4 with h4 | ⟨-, h4 | ⟨-, h4⟩⟩
  ·
   exact h4
  ·
   exact absurd h4 (by show ¬ ((0 : Int) < 0); omega)
  ·
   exact absurd h4 (by simp [ki, Op.bytesLess])
 exact ⟨a, ⟨b, by omega⟩, by omega, c⟩
set_option maxRecDepth 100000 in
set_option maxHeartbeats 2000000 in
theorem spanOf_does (k0 k : Int) (hk : KO k0 k) (x : Sp) (hx : x.key.size ≤ 2147483647) : Does Try.prog 73 [.int .i64 (k0), .agg #[.string x.key, .string x.fin, .bool (x.one), .int .i64 (x.lo), .int .i64 (x.hi)]] [] (fun v L => ∃ b, v = .bool b ∧ (b = true → spB k x) ∧ L = []) := by
 refine Does.enter 28 Try.func73 rfl rfl rfl fun W F => ?_
 show WPc _ _ _ _ _ [(0, .int .i64 (k0)), (1, .agg #[.string x.key, .string x.fin, .bool (x.one), .int .i64 (x.lo), .int .i64 (x.hi)])] (F)
 refine WPc.sr ?_
 refine WP.eff rfl rfl rfl (Eff.box (C := [.string x.key, .string x.fin, .bool (x.one), .int .i64 (x.lo), .int .i64 (x.hi)]) rfl rfl rfl) ?_
 rintro _ F ⟨b1, rfl, rfl⟩
 refine WP.val rfl rfl rfl (Val.assign rfl rfl) ?_
 refine WP.nx ?_
 refine WPc.sr ?_
 refine WP.val rfl rfl rfl (Val.move rfl rfl) ?_
 refine WP.val rfl rfl rfl (Val.loadAgg (cs := [.string x.key, .string x.fin, .bool (x.one), .int .i64 (x.lo), .int .i64 (x.hi)]) rfl Ty.ag56 rfl rfl (fun w h => h.range 0 rfl rfl)) ?_
 refine WP.eff rfl rfl rfl (Eff.call rfl rfl Try.call99 (proper_does k0 k hk x hx)) ?_
 rintro _ _ ⟨_, ⟨rfl, rfl⟩, rfl⟩
 show WP _ _ _ _ _ _ _ (Blk b1 [.string x.key, .string x.fin, .bool (x.one), .int .i64 (x.lo), .int .i64 (x.hi)] 56 :: _)
 refine WP.val rfl rfl rfl (Val.move rfl rfl) ?_
 refine WP.split 8 rfl (fun h1 => ?_) (fun h1 => ?_)
 ·
  have h1 : (prp k x) := h1
  refine WP.valG rfl rfl rfl rfl rfl rfl rfl (Val.move rfl rfl) ?_
  refine WP.valG rfl rfl rfl rfl rfl rfl rfl (Val.neq rfl rfl rfl) ?_
  refine WP.valG rfl rfl rfl rfl rfl rfl rfl (Val.move rfl rfl) ?_
  refine WP.split 11 rfl (fun h2 => ?_) (fun h2 => ?_)
  ·
   have h2 : (k0 ≠ (3 : Int)) := h2
   iterate 5 (refine WP.skip rfl rfl rfl rfl rfl rfl rfl ?_)
   iterate 3 (refine WP.skipU rfl rfl rfl rfl rfl rfl ?_)
   refine WP.skip rfl rfl rfl rfl rfl rfl rfl ?_
   refine WP.skip rfl rfl rfl rfl rfl rfl rfl ?_
   iterate 3 (refine WP.skipU rfl rfl rfl rfl rfl rfl ?_)
   refine WP.skip rfl rfl rfl rfl rfl rfl rfl ?_
   refine WP.valG rfl rfl rfl rfl rfl rfl rfl (Val.pickT rfl rfl rfl) ?_
   refine WP.val rfl rfl rfl (Val.pickT rfl rfl rfl) ?_
   refine WP.val rfl rfl rfl (Val.assign rfl rfl) ?_
   refine WP.nx ?_
   refine WPc.ret ?_
   refine Out.drop ?_
   exact Out.ret1 (L' := []) Try.results73 rfl ⟨_, rfl, (fun _ => ⟨by assumption, fun h3 => absurd h3 (hk.ne (by assumption))⟩), rfl⟩ (fun w h => h)
  ·
   have h2 : ¬ (k0 ≠ (3 : Int)) := h2
   refine WP.valG rfl rfl rfl rfl rfl rfl rfl (Val.fieldAddr (j := 0) rfl Ty.fo56_0 rfl rfl) ?_
   refine WP.valG rfl rfl rfl rfl rfl rfl rfl (Val.fieldAddr (j := 2) rfl Ty.fo54_2 rfl rfl) ?_
   refine WP.valG rfl rfl rfl rfl rfl rfl rfl (Val.load rfl Ty.sc4 rfl (fun w h => h.cell 0 rfl rfl)) ?_
   refine WP.valG rfl rfl rfl rfl rfl rfl rfl (Val.not rfl rfl) ?_
   refine WP.valG rfl rfl rfl rfl rfl rfl rfl (Val.move rfl rfl) ?_
   refine WP.splitB 16 rfl (fun h3 => ?_) (fun h3 => ?_)
   ·
    refine WP.valG rfl rfl rfl rfl rfl rfl rfl (Val.fieldAddr (j := 3) rfl Ty.fo56_1 rfl rfl) ?_
    refine WP.valG rfl rfl rfl rfl rfl rfl rfl (Val.load rfl Ty.sc2 rfl (fun w h => h.cell 0 rfl rfl)) ?_
    refine WP.valG rfl rfl rfl rfl rfl rfl rfl (Val.geq rfl rfl rfl) ?_
    refine WP.valG rfl rfl rfl rfl rfl rfl rfl (Val.pickT rfl rfl rfl) ?_
    refine WP.valG rfl rfl rfl rfl rfl rfl rfl (Val.move rfl rfl) ?_
    refine WP.split 21 rfl (fun h4 => ?_) (fun h4 => ?_)
    ·
     have h4 : ((-2305843009213693952 : Int) ≤ x.lo) := h4
     refine WP.valG rfl rfl rfl rfl rfl rfl rfl (Val.fieldAddr (j := 4) rfl Ty.fo56_2 rfl rfl) ?_
     refine WP.valG rfl rfl rfl rfl rfl rfl rfl (Val.load rfl Ty.sc2 rfl (fun w h => h.cell 0 rfl rfl)) ?_
     refine WP.valG rfl rfl rfl rfl rfl rfl rfl (Val.leq rfl rfl rfl) ?_
     refine WP.valG rfl rfl rfl rfl rfl rfl rfl (Val.pickT rfl rfl rfl) ?_
     refine WP.valG rfl rfl rfl rfl rfl rfl rfl (Val.pickF rfl rfl rfl) ?_
     refine WP.val rfl rfl rfl (Val.pickT rfl rfl rfl) ?_
     refine WP.val rfl rfl rfl (Val.assign rfl rfl) ?_
     refine WP.nx ?_
     refine WPc.ret ?_
     refine Out.drop ?_
     exact Out.ret1 (L' := []) Try.results73 rfl ⟨_, rfl, (fun h => ⟨by assumption, fun _ => ⟨by simpa using ‹(!x.one) = true›, by assumption, of_decide_eq_true h⟩⟩), rfl⟩ (fun w h => h)
    ·
     have h4 : ¬ ((-2305843009213693952 : Int) ≤ x.lo) := h4
     iterate 3 (refine WP.skip rfl rfl rfl rfl rfl rfl rfl ?_)
     refine WP.valG rfl rfl rfl rfl rfl rfl rfl (Val.pickF rfl rfl rfl) ?_
     refine WP.valG rfl rfl rfl rfl rfl rfl rfl (Val.pickF rfl rfl rfl) ?_
     refine WP.val rfl rfl rfl (Val.pickT rfl rfl rfl) ?_
     refine WP.val rfl rfl rfl (Val.assign rfl rfl) ?_
     refine WP.nx ?_
     refine WPc.ret ?_
     refine Out.drop ?_
     exact Out.ret1 (L' := []) Try.results73 rfl ⟨_, rfl, (fun h => by cases h), rfl⟩ (fun w h => h)
   ·
    iterate 3 (refine WP.skip rfl rfl rfl rfl rfl rfl rfl ?_)
    refine WP.valG rfl rfl rfl rfl rfl rfl rfl (Val.pickF rfl rfl rfl) ?_
    refine WP.valG rfl rfl rfl rfl rfl rfl rfl (Val.move rfl rfl) ?_
    iterate 3 (refine WP.skip rfl rfl rfl rfl rfl rfl rfl ?_)
    refine WP.valG rfl rfl rfl rfl rfl rfl rfl (Val.pickF rfl rfl rfl) ?_
    refine WP.valG rfl rfl rfl rfl rfl rfl rfl (Val.pickF rfl rfl rfl) ?_
    refine WP.val rfl rfl rfl (Val.pickT rfl rfl rfl) ?_
    refine WP.val rfl rfl rfl (Val.assign rfl rfl) ?_
    refine WP.nx ?_
    refine WPc.ret ?_
    refine Out.drop ?_
    exact Out.ret1 (L' := []) Try.results73 rfl ⟨_, rfl, (fun h => by cases h), rfl⟩ (fun w h => h)
 ·
  have h1 : ¬ (prp k x) := h1
  iterate 3 (refine WP.skip rfl rfl rfl rfl rfl rfl rfl ?_)
  iterate 14 (refine WP.skipU rfl rfl rfl rfl rfl rfl ?_)
  refine WP.skip rfl rfl rfl rfl rfl rfl rfl ?_
  refine WP.val rfl rfl rfl (Val.pickF rfl rfl rfl) ?_
  refine WP.val rfl rfl rfl (Val.assign rfl rfl) ?_
  refine WP.nx ?_
  refine WPc.ret ?_
  refine Out.drop ?_
  exact Out.ret1 (L' := []) Try.results73 rfl ⟨_, rfl, (fun h => by cases h), rfl⟩ (fun w h => h)

end Go.Proofs.Ytbomnihiapjmpaa.TG

namespace Go.Proofs.Ytbomnihiapjmpaa.TH
open Go.RowKit Go.Proofs.Ytbomnihiapjmpaa Go.Proofs.Ytbomnihiapjmpaa.Sl Go.Proofs.Ytbomnihiapjmpaa.TrP Go.Proofs.Ytbomnihiapjmpaa.Tb Go.Proofs.Ytbomnihiapjmpaa.Tc Go.Proofs.Ytbomnihiapjmpaa.Td Go.Proofs.Ytbomnihiapjmpaa.Tn Go.Proofs.Ytbomnihiapjmpaa.Tr Go.Proofs.Ytbomnihiapjmpaa.Ts Go.Proofs.Ytbomnihiapjmpaa.Tx Go.Proofs.Ytbomnihiapjmpaa.TC Go.Proofs.Ytbomnihiapjmpaa.TD Go.Proofs.Ytbomnihiapjmpaa.TE Go.Proofs.Ytbomnihiapjmpaa.TG
set_option linter.unusedVariables false
set_option linter.unusedSimpArgs false
set_option linter.unusedSectionVars false


/-- a text's length and the like may be as great as that -/
def szB (x : Sp) : Prop := x.key.size ≤ 2147483647 ∧ x.fin.size ≤ 2147483647
set_option maxRecDepth 100000 in
set_option maxHeartbeats 2000000 in
theorem fits37_does (x : Sp) : Does Try.prog 72 [.agg #[.string x.key, .string x.fin, .bool (x.one)]] [] (fun v L => ∃ b, v = .bool b ∧ (b = true → szB x) ∧ L = []) := by
  refine Does.enter 11 Try.func72 rfl rfl rfl fun W F => ?_
  show WPc _ _ _ _ _ [(0, .agg #[.string x.key, .string x.fin, .bool (x.one)])] (F)
  refine WPc.seq ?_
  refine WPc.region ?_
  refine WP.eff rfl rfl rfl (Eff.box (C := [.string x.key, .string x.fin, .bool (x.one)]) rfl rfl rfl) ?_
  rintro _ F ⟨b1, rfl, rfl⟩
  refine WP.val rfl rfl rfl (Val.assign rfl rfl) ?_
  refine WP.nil ?_
  refine Out.next ?_
  refine WPc.seq ?_
  refine WPc.seq ?_
  refine WPc.region ?_
  refine WP.val rfl rfl rfl (Val.fieldAddr (j := 0) rfl Ty.fo54_0 rfl rfl) ?_
  refine WP.val rfl rfl rfl (Val.load rfl Ty.sc9 rfl (fun w h => h.cell 0 rfl rfl)) ?_
  refine WP.val rfl rfl rfl (Val.lenS rfl Ty.st9 rfl) ?_
  refine WP.val rfl rfl rfl (Val.gtr rfl rfl rfl) ?_
  refine WP.nil ?_
  refine Out.next ?_
  refine WPc.ifP rfl (fun h1 => ?_) (fun h1 => ?_)
  · skip
    have h1 : ((2147483647 : Int) < (((x.key).size : Nat) : Int)) := h1
    refine WPc.seq ?_
    refine WPc.region ?_
    refine WP.val rfl rfl rfl (Val.assign rfl rfl) ?_
    refine WP.nil ?_
    refine Out.next ?_
    refine WPc.ret ?_
    refine Out.then_ret ?_
    refine Out.drop ?_
    exact Out.ret1 (L' := []) Try.results72 rfl ⟨_, rfl, (fun h => by cases h), rfl⟩ (fun w h => h)
  · skip
    have h1 : ¬ ((2147483647 : Int) < (((x.key).size : Nat) : Int)) := h1
    refine WPc.skip ?_
    refine Out.next ?_
    refine WPc.seq ?_
    refine WPc.seq ?_
    refine WPc.region ?_
    refine WP.val rfl rfl rfl (Val.fieldAddr (j := 1) rfl Ty.fo54_1 rfl rfl) ?_
    refine WP.val rfl rfl rfl (Val.load rfl Ty.sc9 rfl (fun w h => h.cell 0 rfl rfl)) ?_
    refine WP.val rfl rfl rfl (Val.lenS rfl Ty.st9 rfl) ?_
    refine WP.val rfl rfl rfl (Val.gtr rfl rfl rfl) ?_
    refine WP.nil ?_
    refine Out.next ?_
    refine WPc.ifP rfl (fun h2 => ?_) (fun h2 => ?_)
    · skip
      have h2 : ((2147483647 : Int) < (((x.fin).size : Nat) : Int)) := h2
      refine WPc.seq ?_
      refine WPc.region ?_
      refine WP.val rfl rfl rfl (Val.assign rfl rfl) ?_
      refine WP.nil ?_
      refine Out.next ?_
      refine WPc.ret ?_
      refine Out.then_ret ?_
      refine Out.drop ?_
      exact Out.ret1 (L' := []) Try.results72 rfl ⟨_, rfl, (fun h => by cases h), rfl⟩ (fun w h => h)
    · skip
      have h2 : ¬ ((2147483647 : Int) < (((x.fin).size : Nat) : Int)) := h2
      refine WPc.skip ?_
      refine Out.next ?_
      refine WPc.seq ?_
      refine WPc.region ?_
      refine WP.val rfl rfl rfl (Val.assign rfl rfl) ?_
      refine WP.nil ?_
      refine Out.next ?_
      refine WPc.ret ?_
      refine Out.drop ?_
      exact Out.ret1 (L' := []) Try.results72 rfl ⟨_, rfl, (fun _ => ⟨by omega, by omega⟩), rfl⟩ (fun w h => h)
set_option maxRecDepth 100000 in
set_option maxHeartbeats 2000000 in
theorem fits36_does (x : Sp) : Does Try.prog 32 [.agg #[.string x.key, .string x.fin, .bool (x.one), .int .i64 (x.lo), .int .i64 (x.hi)]] [] (fun v L => ∃ b, v = .bool b ∧ (b = true → szB x) ∧ L = []) := by
  refine Does.enter 7 Try.func32 rfl rfl rfl fun W F => ?_
  show WPc _ _ _ _ _ [(0, .agg #[.string x.key, .string x.fin, .bool (x.one), .int .i64 (x.lo), .int .i64 (x.hi)])] (F)
  refine WPc.seq ?_
  refine WPc.region ?_
  refine WP.eff rfl rfl rfl (Eff.box (C := [.string x.key, .string x.fin, .bool (x.one), .int .i64 (x.lo), .int .i64 (x.hi)]) rfl rfl rfl) ?_
  rintro _ F ⟨b1, rfl, rfl⟩
  refine WP.val rfl rfl rfl (Val.assign rfl rfl) ?_
  refine WP.nil ?_
  refine Out.next ?_
  refine WPc.seq ?_
  refine WPc.seq ?_
  refine WPc.region ?_
  refine WP.val rfl rfl rfl (Val.fieldAddr (j := 0) rfl Ty.fo56_0 rfl rfl) ?_
  refine WP.val rfl rfl rfl (Val.loadAgg (cs := [.string x.key, .string x.fin, .bool (x.one)]) rfl Ty.ag54 rfl rfl (fun w h => h.range 0 rfl rfl)) ?_
  refine WP.eff rfl rfl rfl (Eff.call rfl rfl Try.call72 (fits37_does x)) ?_
  rintro _ _ ⟨_, ⟨b, rfl, hb, rfl⟩, rfl⟩
  show WP _ _ _ _ _ _ _ (Blk b1 [.string x.key, .string x.fin, .bool (x.one), .int .i64 (x.lo), .int .i64 (x.hi)] 56 :: F)
  refine WP.val rfl rfl rfl (Val.not rfl rfl) ?_
  refine WP.nil ?_
  refine Out.next ?_
  refine WPc.cond rfl (fun h1 => ?_) (fun h1 => ?_)
  · skip
    have h1 : (!b) = true := h1
    refine WPc.seq ?_
    refine WPc.region ?_
    refine WP.val rfl rfl rfl (Val.assign rfl rfl) ?_
    refine WP.nil ?_
    refine Out.next ?_
    refine WPc.ret ?_
    refine Out.then_ret ?_
    refine Out.drop ?_
    exact Out.ret1 (L' := []) Try.results32 rfl ⟨_, rfl, (fun h => by cases h), rfl⟩ (fun w h => h)
  · skip
    have h1 : (!b) = false := h1
    refine WPc.skip ?_
    refine Out.next ?_
    refine WPc.seq ?_
    refine WPc.region ?_
    refine WP.val rfl rfl rfl (Val.assign rfl rfl) ?_
    refine WP.nil ?_
    refine Out.next ?_
    refine WPc.ret ?_
    refine Out.drop ?_
    exact Out.ret1 (L' := []) Try.results32 rfl ⟨_, rfl, (fun _ => hb (by simpa using ‹(!b) = false›)), rfl⟩ (fun w h => h)
set_option maxRecDepth 100000 in
set_option maxHeartbeats 2000000 in
theorem fits38_nil (A : HProp) (a : Option Addr) (c : Nat) : Does Try.prog 31 [.slice a 0 c] [A] (fun v L => ∃ b, v = .bool b ∧ (b = true → 0 ≤ 2147483647 ∧ ∀ y ∈ ([] : List Sp), szB y) ∧ L = [A]) := by
  refine Does.enter 18 Try.func31 rfl rfl rfl fun W F => ?_
  show WPc _ _ _ _ _ [(0, .slice a 0 c)] (A :: F)
  refine WPc.seq ?_
  refine WPc.region ?_
  refine WP.val rfl rfl rfl (Val.assign rfl rfl) ?_
  refine WP.nil ?_
  refine Out.next ?_
  refine WPc.seq ?_
  refine WPc.seq ?_
  refine WPc.region ?_
  refine WP.val rfl rfl rfl (Val.move rfl rfl) ?_
  refine WP.val rfl rfl rfl (Val.len rfl Ty.sl57 rfl) ?_
  refine WP.val rfl rfl rfl (Val.gtr rfl rfl rfl) ?_
  refine WP.nil ?_
  refine Out.next ?_
  refine WPc.ifP rfl (fun h1 => ?_) (fun h1 => ?_)
  · skip
    have h1 : ((2147483647 : Int) < (0 : Int)) := h1
    refine WPc.seq ?_
    refine WPc.region ?_
    refine WP.val rfl rfl rfl (Val.assign rfl rfl) ?_
    refine WP.nil ?_
    refine Out.next ?_
    refine WPc.ret ?_
    refine Out.then_ret ?_
    exact Out.ret1 (L' := [A]) Try.results31 rfl ⟨_, rfl, (fun h => by cases h), rfl⟩ (fun w h => h)
  · skip
    have h1 : ¬ ((2147483647 : Int) < (0 : Int)) := h1
    refine WPc.skip ?_
    refine Out.next ?_
    refine WPc.seq ?_
    refine WPc.seq ?_
    refine WPc.region ?_
    refine WP.val rfl rfl rfl (Val.move rfl rfl) ?_
    refine WP.val rfl rfl rfl (Val.len rfl Ty.sl57 rfl) ?_
    refine WP.val rfl rfl rfl (Val.move rfl rfl) ?_
    refine WP.nil ?_
    refine Out.next ?_
    refine WPc.block ?_
    refine WPc.loop (ι := Nat) (fun i => i ≤ 0 ∧ ∀ j y, j < i → ([] : List Sp)[j]? = some y → szB y) (fun i => [(8, .slice a 0 c), (9, .int .i64 0), (10, .int .i64 (((i : Nat) : Int)))]) (fun i => A :: F) (fun i => 0 - i) 0 ⟨Nat.zero_le _, fun j y h => absurd h (Nat.not_lt_zero _)⟩ ((Sub.cons rfl (Sub.cons rfl (Sub.cons rfl Sub.nil)))) (fun _ h => h) ?_
    rintro i ⟨hi, hall⟩
    show WPc _ _ _ _ _ [(8, .slice a 0 c), (9, .int .i64 0), (10, .int .i64 (((i : Nat) : Int)))] (A :: F)
    replace hi : i ≤ 0 := hi
    replace hall : ∀ j y, j < i → ([] : List Sp)[j]? = some y → szB y := hall
    refine WPc.seq ?_
    refine WPc.region ?_
    refine WP.val rfl rfl rfl (Val.lss rfl rfl rfl) ?_
    refine WP.nil ?_
    refine Out.next ?_
    refine WPc.seq ?_
    refine WPc.ifP rfl (fun h2 => ?_) (fun h2 => ?_)
    · skip
      have h2 : (((i : Nat) : Int) < (0 : Int)) := h2
      exfalso; omega
    · skip
      have h2 : ¬ (((i : Nat) : Int) < (0 : Int)) := h2
      refine WPc.exit ?_
      refine Out.then_exit ?_
      refine Out.then_exit ?_
      refine Out.block_exit ?_
      refine Out.next ?_
      refine WPc.seq ?_
      refine WPc.region ?_
      refine WP.val rfl rfl rfl (Val.assign rfl rfl) ?_
      refine WP.nil ?_
      refine Out.next ?_
      refine WPc.ret ?_
      exact Out.ret1 (L' := [A]) Try.results31 rfl ⟨_, rfl, (fun _ => ⟨(by first | omega | (show (0 : Nat) ≤ _; omega)), fun y hy => by obtain ⟨j, hj⟩ := List.getElem?_of_mem hy; have hjl := (List.getElem?_eq_some_iff.1 hj).1; first | exact hall j y (by omega) hj | (exact absurd hjl (Nat.not_lt_zero _))⟩), rfl⟩ (fun w h => h)

set_option maxRecDepth 100000 in
set_option maxHeartbeats 2000000 in
theorem fits38_row (A : HProp) (l : List Sp) (hl : l.length ≤ 9223372036854775807) (b0 o0 c0 : Nat) (hr : ∀ w, Holds A w → ∀ i x, l[i]? = some x → w.rangeAt b0 (o0 + i * 5) (Sp.cells x)) : Does Try.prog 31 [.slice (some ⟨b0, o0, none⟩) l.length c0] [A] (fun v L => ∃ b, v = .bool b ∧ (b = true → l.length ≤ 2147483647 ∧ ∀ y ∈ l, szB y) ∧ L = [A]) := by
  refine Does.enter 18 Try.func31 rfl rfl rfl fun W F => ?_
  show WPc _ _ _ _ _ [(0, .slice (some ⟨b0, o0, none⟩) l.length c0)] (A :: F)
  refine WPc.seq ?_
  refine WPc.region ?_
  refine WP.val rfl rfl rfl (Val.assign rfl rfl) ?_
  refine WP.nil ?_
  refine Out.next ?_
  refine WPc.seq ?_
  refine WPc.seq ?_
  refine WPc.region ?_
  refine WP.val rfl rfl rfl (Val.move rfl rfl) ?_
  refine WP.val rfl rfl rfl (Val.len rfl Ty.sl57 rfl) ?_
  refine WP.val rfl rfl rfl (Val.gtr rfl rfl rfl) ?_
  refine WP.nil ?_
  refine Out.next ?_
  refine WPc.ifP rfl (fun h1 => ?_) (fun h1 => ?_)
  · skip
    have h1 : ((2147483647 : Int) < ((l.length : Nat) : Int)) := h1
    refine WPc.seq ?_
    refine WPc.region ?_
    refine WP.val rfl rfl rfl (Val.assign rfl rfl) ?_
    refine WP.nil ?_
    refine Out.next ?_
    refine WPc.ret ?_
    refine Out.then_ret ?_
    exact Out.ret1 (L' := [A]) Try.results31 rfl ⟨_, rfl, (fun h => by cases h), rfl⟩ (fun w h => h)
  · skip
    have h1 : ¬ ((2147483647 : Int) < ((l.length : Nat) : Int)) := h1
    refine WPc.skip ?_
    refine Out.next ?_
    refine WPc.seq ?_
    refine WPc.seq ?_
    refine WPc.region ?_
    refine WP.val rfl rfl rfl (Val.move rfl rfl) ?_
    refine WP.val rfl rfl rfl (Val.len rfl Ty.sl57 rfl) ?_
    refine WP.val rfl rfl rfl (Val.move rfl rfl) ?_
    refine WP.nil ?_
    refine Out.next ?_
    refine WPc.block ?_
    refine WPc.loop (ι := Nat) (fun i => i ≤ l.length ∧ ∀ j y, j < i → l[j]? = some y → szB y) (fun i => [(8, .slice (some ⟨b0, o0, none⟩) l.length c0), (9, .int .i64 (((l.length : Nat) : Int))), (10, .int .i64 (((i : Nat) : Int)))]) (fun i => A :: F) (fun i => l.length - i) 0 ⟨Nat.zero_le _, fun j y h => absurd h (Nat.not_lt_zero _)⟩ ((Sub.cons rfl (Sub.cons rfl (Sub.cons rfl Sub.nil)))) (fun _ h => h) ?_
    rintro i ⟨hi, hall⟩
    show WPc _ _ _ _ _ [(8, .slice (some ⟨b0, o0, none⟩) l.length c0), (9, .int .i64 (((l.length : Nat) : Int))), (10, .int .i64 (((i : Nat) : Int)))] (A :: F)
    replace hi : i ≤ l.length := hi
    replace hall : ∀ j y, j < i → l[j]? = some y → szB y := hall
    refine WPc.seq ?_
    refine WPc.region ?_
    refine WP.val rfl rfl rfl (Val.lss rfl rfl rfl) ?_
    refine WP.nil ?_
    refine Out.next ?_
    refine WPc.seq ?_
    refine WPc.ifP rfl (fun h2 => ?_) (fun h2 => ?_)
    · skip
      have h2 : (((i : Nat) : Int) < ((l.length : Nat) : Int)) := h2
      refine WPc.skip ?_
      refine Out.next ?_
      refine WPc.seq ?_
      refine WPc.block ?_
      refine WPc.seq ?_
      have hlt : i < l.length := by omega
      obtain ⟨x, hx⟩ : ∃ x, l[i]? = some x := ⟨_, List.getElem?_eq_getElem hlt⟩
      refine WPc.region ?_
      refine WP.val rfl rfl rfl (Val.indexAddr (j := i) (q := o0 + i * 5) rfl Ty.sl57 rfl rfl (by omega) (by omega) (by omega)) ?_
      refine WP.val rfl rfl rfl (Val.loadAgg (cs := (Sp.cells x)) rfl Ty.ag56 rfl (by rfl) (fun w h => hr w (h.at 0 rfl) i x hx)) ?_
      refine WP.eff rfl rfl rfl (Eff.alloc rfl Ty.z56) ?_
      rintro _ _ ⟨b1, rfl, rfl⟩
      refine WP.eff0 rfl rfl (Eff.storeAgg (cs := [.string x.key, .string x.fin, .bool (x.one), .int .i64 (x.lo), .int .i64 (x.hi)]) (C' := [.string x.key, .string x.fin, .bool (x.one), .int .i64 (x.lo), .int .i64 (x.hi)]) rfl Ty.ag56 rfl rfl rfl rfl (by simp) rfl) ?_
      rintro _ _ rfl
      refine WP.nil ?_
      refine Out.next ?_
      refine WPc.seq ?_
      refine WPc.region ?_
      refine WP.val rfl rfl rfl (Val.loadAgg (cs := [.string x.key, .string x.fin, .bool (x.one), .int .i64 (x.lo), .int .i64 (x.hi)]) rfl Ty.ag56 rfl rfl (fun w h => h.range 0 rfl rfl)) ?_
      refine WP.eff rfl rfl rfl (Eff.call rfl rfl Try.call32 (fits36_does x)) ?_
      rintro _ _ ⟨_, ⟨b, rfl, hb, rfl⟩, rfl⟩
      show WP _ _ _ _ _ _ _ (Blk b1 [.string x.key, .string x.fin, .bool (x.one), .int .i64 (x.lo), .int .i64 (x.hi)] 56 :: A :: F)
      refine WP.val rfl rfl rfl (Val.not rfl rfl) ?_
      refine WP.nil ?_
      refine Out.next ?_
      refine WPc.cond rfl (fun h3 => ?_) (fun h3 => ?_)
      · skip
        have h3 : (!b) = true := h3
        refine WPc.seq ?_
        refine WPc.region ?_
        refine WP.val rfl rfl rfl (Val.assign rfl rfl) ?_
        refine WP.nil ?_
        refine Out.next ?_
        refine WPc.ret ?_
        refine Out.block_ret ?_
        refine Out.then_ret ?_
        refine Out.then_ret ?_
        refine Out.block_ret ?_
        refine Out.then_ret ?_
        refine Out.drop ?_
        exact Out.ret1 (L' := [A]) Try.results31 rfl ⟨_, rfl, (fun h => by cases h), rfl⟩ (fun w h => h)
      · skip
        have h3 : (!b) = false := h3
        refine WPc.skip ?_
        refine Out.block ?_
        refine Out.next ?_
        refine WPc.region ?_
        refine WP.val rfl rfl rfl (Val.add (z := ((i + 1 : Nat) : Int)) rfl rfl rfl ((w64 (by omega) (by omega)).trans (by omega))) ?_
        refine WP.val rfl rfl rfl (Val.move rfl rfl) ?_
        refine WP.nil ?_
        refine Out.drop ?_
        refine Out.again (i + 1) ?_ ?_ ?_ ?_
        · exact ⟨by show i + 1 ≤ l.length; omega, fun j y hj hy => (Nat.lt_succ_iff_lt_or_eq.1 hj).elim (fun h => hall j y h hy) (fun h => by subst h; rw [hx] at hy; injection hy with hy; subst hy; exact hb (by simpa using ‹(!b) = false›))⟩
        · (first | omega | (dsimp only; omega))
        · exact (Sub.cons rfl (Sub.cons rfl (Sub.cons rfl Sub.nil)))
        · exact (fun _ h => h)
    · skip
      have h2 : ¬ (((i : Nat) : Int) < ((l.length : Nat) : Int)) := h2
      refine WPc.exit ?_
      refine Out.then_exit ?_
      refine Out.then_exit ?_
      refine Out.block_exit ?_
      refine Out.next ?_
      refine WPc.seq ?_
      refine WPc.region ?_
      refine WP.val rfl rfl rfl (Val.assign rfl rfl) ?_
      refine WP.nil ?_
      refine Out.next ?_
      refine WPc.ret ?_
      exact Out.ret1 (L' := [A]) Try.results31 rfl ⟨_, rfl, (fun _ => ⟨(by first | omega | (show (0 : Nat) ≤ _; omega)), fun y hy => by obtain ⟨j, hj⟩ := List.getElem?_of_mem hy; have hjl := (List.getElem?_eq_some_iff.1 hj).1; first | exact hall j y (by omega) hj | (exact absurd hjl (Nat.not_lt_zero _))⟩), rfl⟩ (fun w h => h)

theorem fits38_spec (A : HProp) (l : List Sp) (hl : l.length ≤ 9223372036854775807) (va : Value) (hva : Rd A 5 Sp.cells va l) : Does Try.prog 31 [va] [A] (fun v L => ∃ b, v = .bool b ∧ (b = true → l.length ≤ 2147483647 ∧ ∀ y ∈ l, szB y) ∧ L = [A]) := by
  rcases hva with ⟨b0, o0, c0, rfl, hr⟩ | ⟨rfl, a, c, rfl⟩
  · exact fits38_row A l hl b0 o0 c0 hr
  · exact fits38_nil A a c

end Go.Proofs.Ytbomnihiapjmpaa.TH

namespace Go.Proofs.Ytbomnihiapjmpaa.Sl
open Go.RowKit
set_option linter.unusedVariables false
/-- a row that stays as it is, opened ahead of a call -/
theorem Does.seq {P : Program} {f : FuncId} {args : List Value} {v : Value} {n : Nat} {xs : List Value} {L : List HProp} {R : Value → List HProp → Prop} (hn : 0 < n)
    (h : ∀ (b c : Nat) (sp : List Value) (T : TypeId), v = .slice (some ⟨b, 0, none⟩) n c → n ≤ c → Does P f args (Ro (Blk b (xs ++ sp) T) :: Seq v n xs :: L) R) : Does P f args (Seq v n xs :: L) R := by
  intro W F w hs
  obtain ⟨q, hq⟩ := Sat.seqOpen hn hs
  obtain ⟨h1, h2⟩ := hq.pure
  exact h q.1 q.2.1 q.2.2.1 q.2.2.2 h1 h2 W F w hq.drop
/-- nil, or a row -/
theorem Does.seqC {P : Program} {f : FuncId} {args : List Value} {v : Value} {n : Nat} {xs : List Value} {L : List HProp} {R : Value → List HProp → Prop}
    (h0 : v = .slice none 0 0 → n = 0 → Does P f args (Seq v n xs :: L) R)
    (h : ∀ (b c : Nat) (sp : List Value) (T : TypeId), v = .slice (some ⟨b, 0, none⟩) n c → n ≤ c → Does P f args (Ro (Blk b (xs ++ sp) T) :: Seq v n xs :: L) R) : Does P f args (Seq v n xs :: L) R := by
  intro W F w hs
  obtain ⟨q, hq⟩ := (Sat.dup (A := Seq v n xs) Seq.pers hs).ex
  cases q with
  | none => exact h0 hq.pure.1 hq.pure.2.1 W F w hs
  | some q =>
    obtain ⟨b, c, sp, T⟩ := q
    exact h b c sp T hq.sep.pure.1 hq.sep.pure.2 W F w hq.sep.drop
theorem Sat.seqNil {W w : World} {L : List HProp} (h : Sat W L w) : Sat W (Seq (.slice none 0 0) 0 [] :: L) w := Sat.ex_mk none (Sat.pure_mk ⟨rfl, rfl, rfl⟩ h)
theorem Sat.seqDup {W w : World} {v : Value} {n : Nat} {xs : List Value} {L : List HProp} (h : Sat W (Seq v n xs :: L) w) : Sat W (Seq v n xs :: Seq v n xs :: L) w := Sat.dup Seq.pers h
section
variable {P : Program} {W : World} {n : Nat} {l : List (Nat × Value)} {L : List HProp}
theorem results_cct {fn : Func} {t u s : Tmp} {ty ty' : TypeId} {x : Value} {b k b' k' : Nat} {cs cs' : List Value} (hr : fn.results = #[.cell u ty, .cell t ty', .tmp s]) (hu : Sl.look l u = some (.pointer (some ⟨b, 0, none⟩))) (hv : Sl.look l t = some (.pointer (some ⟨b', 0, none⟩))) (hx : Sl.look l s = some x) (ht : aggS P ty = some k) (hk : cs.length = k)
    (hc : ∀ w, Sat W L w → w.rangeAt b 0 cs) (ht' : aggS P ty' = some k') (hk' : cs'.length = k')
    (hc' : ∀ w, Sat W L w → w.rangeAt b' 0 cs') : ∀ a w, Fr n a l → Sat W L w → (results fn a.tmps).run P w = .ok (.tuple #[.agg cs.toArray, .agg cs'.toArray, x]) w := fun a w hf hs => by
  obtain ⟨d, h1, h2, h3⟩ := aggS_row ht
  obtain ⟨d', h1', h2', h3'⟩ := aggS_row ht'
  have := run_loadVar_mid (P := P) w b 0 ty cs d (hc w hs) h1 h2 (by rw [h3, hk])
  have this' := run_loadVar_mid (P := P) w b' 0 ty' cs' d' (hc' w hs) h1' h2' (by rw [h3', hk'])
  have e := hf.at_ u _ hu
  have e2 := hf.at_ t _ hv
  have e3 := hf.at_ s _ hx
  rw [Array.getD_eq_getD_getElem?] at e e2 e3
  simp [results, hr, e, e2, e3, asAddr, this, this']
end
end Go.Proofs.Ytbomnihiapjmpaa.Sl

namespace Go.Proofs.Ytbomnihiapjmpaa.TI
open Go.RowKit Go.Proofs.Ytbomnihiapjmpaa Go.Proofs.Ytbomnihiapjmpaa.Sl Go.Proofs.Ytbomnihiapjmpaa.TrP Go.Proofs.Ytbomnihiapjmpaa.Tb Go.Proofs.Ytbomnihiapjmpaa.Tc Go.Proofs.Ytbomnihiapjmpaa.Td Go.Proofs.Ytbomnihiapjmpaa.Tn Go.Proofs.Ytbomnihiapjmpaa.Tr Go.Proofs.Ytbomnihiapjmpaa.Ts Go.Proofs.Ytbomnihiapjmpaa.Tx Go.Proofs.Ytbomnihiapjmpaa.TC Go.Proofs.Ytbomnihiapjmpaa.TD Go.Proofs.Ytbomnihiapjmpaa.TE Go.Proofs.Ytbomnihiapjmpaa.TG Go.Proofs.Ytbomnihiapjmpaa.TH
set_option linter.unusedVariables false
set_option linter.unusedSimpArgs false
set_option linter.unusedSectionVars false


/-- an interval with its value, in the reference -/
structure Pc where
  x : Sp
  n : Int
def Pc.cells (p : Pc) : List Value := [.string p.x.key, .string p.x.fin, .bool p.x.one, .int .i64 p.x.lo, .int .i64 p.x.hi, .int .i64 p.n]
theorem Pc.len (p : Pc) : (Pc.cells p).length = 6 := rfl
/-- where an interval stands -/
def FindR (k : Int) (x : Sp) (l : List Pc) (n : Int) : Prop := (n = -1 ∧ ∀ y ∈ l, ¬ same k y.x x) ∨ ∃ (i : Nat) (y : Pc), n = i ∧ l[i]? = some y ∧ same k y.x x
theorem all_of {α : Type} {l : List α} {i : Nat} {φ : α → Prop} (h : ∀ j y, j < i → l[j]? = some y → φ y) (hi : l.length ≤ i) : ∀ y ∈ l, φ y := fun y hy => by
  obtain ⟨j, hj⟩ := List.getElem?_of_mem hy
  exact h j y (Nat.lt_of_lt_of_le (List.getElem?_eq_some_iff.1 hj).1 hi) hj
theorem all_more {α : Type} {l : List α} {i : Nat} {φ : α → Prop} {x : α} (h : ∀ j y, j < i → l[j]? = some y → φ y) (hx : l[i]? = some x) (hp : φ x) : ∀ j y, j < i + 1 → l[j]? = some y → φ y := fun j y hj hy =>
  (Nat.lt_succ_iff_lt_or_eq.1 hj).elim (fun h' => h j y h' hy) (fun h' => by subst h'; rw [hx] at hy; injection hy with hy; subst hy; exact hp)
set_option maxRecDepth 100000 in
set_option maxHeartbeats 2000000 in
theorem find_nil (pb : Nat) (k0 k : Int) (hk : KO k0 k) (x : Sp) (hx0 : x.key.size ≤ 2147483647) : Does Try.prog 67 [.pointer (some ⟨pb, 0, none⟩), .agg #[.string x.key, .string x.fin, .bool (x.one), .int .i64 (x.lo), .int .i64 (x.hi)]] [Seq (.slice none 0 0) 0 ((flatOf Pc.cells ([] : List Pc))), Blk pb [.int .i64 (k0), .slice none 0 0] 33] (fun v L => ∃ n, v = .int .i64 n ∧ FindR k x ([] : List Pc) n ∧ L = [Seq (.slice none 0 0) 0 (flatOf Pc.cells ([] : List Pc)), Blk pb [.int .i64 k0, (.slice none 0 0)] 33]) := by
  refine Does.enter 27 Try.func67 rfl rfl rfl fun W F => ?_
  show WPc _ _ _ _ _ [(0, .pointer (some ⟨pb, 0, none⟩)), (1, .agg #[.string x.key, .string x.fin, .bool (x.one), .int .i64 (x.lo), .int .i64 (x.hi)])] (Seq (.slice none 0 0) 0 ((flatOf Pc.cells ([] : List Pc))) :: Blk pb [.int .i64 (k0), .slice none 0 0] 33 :: F)
  refine WPc.seq ?_
  refine WPc.region ?_
  refine WP.eff rfl rfl rfl (Eff.box (C := [.string x.key, .string x.fin, .bool (x.one), .int .i64 (x.lo), .int .i64 (x.hi)]) rfl rfl rfl) ?_
  rintro _ _ ⟨b1, rfl, rfl⟩
  refine WP.val rfl rfl rfl (Val.assign rfl rfl) ?_
  refine WP.nil ?_
  refine Out.next ?_
  refine WPc.seq ?_
  refine WPc.seq ?_
  refine WPc.region ?_
  refine WP.val rfl rfl rfl (Val.move rfl rfl) ?_
  refine WP.val rfl rfl rfl (Val.nilCheck rfl rfl) ?_
  refine WP.val rfl rfl rfl (Val.fieldAddr (j := 1) rfl Ty.fo33_1 rfl rfl) ?_
  refine WP.val rfl rfl rfl (Val.load rfl Ty.sc31 rfl (fun w h => h.cell 2 rfl rfl)) ?_
  refine WP.val rfl rfl rfl (Val.len rfl Ty.sl31 rfl) ?_
  refine WP.val rfl rfl rfl (Val.move rfl rfl) ?_
  refine WP.nil ?_
  refine Out.next ?_
  refine WPc.block ?_
  refine WPc.loop (ι := Nat) (fun i => i ≤ 0 ∧ ∀ j y, j < i → ([] : List Pc)[j]? = some y → ¬ same k y.x x) (fun i => [(0, .pointer (some ⟨pb, 0, none⟩)), (3, .pointer (some ⟨b1, 0, none⟩)), (4, .int .i64 0), (10, .slice none 0 0), (11, .int .i64 0), (12, .int .i64 (((i : Nat) : Int)))]) (fun i => Blk b1 [.string x.key, .string x.fin, .bool (x.one), .int .i64 (x.lo), .int .i64 (x.hi)] 56 :: Seq (.slice none 0 0) 0 ((flatOf Pc.cells ([] : List Pc))) :: Blk pb [.int .i64 (k0), .slice none 0 0] 33 :: F) (fun i => 0 - i) 0 ⟨Nat.zero_le _, fun j y h => absurd h (Nat.not_lt_zero _)⟩ ((Sub.cons rfl (Sub.cons rfl (Sub.cons rfl (Sub.cons rfl (Sub.cons rfl (Sub.cons rfl Sub.nil))))))) (fun _ h => h) ?_
  rintro i ⟨hi, hall⟩
  show WPc _ _ _ _ _ [(0, .pointer (some ⟨pb, 0, none⟩)), (3, .pointer (some ⟨b1, 0, none⟩)), (4, .int .i64 0), (10, .slice none 0 0), (11, .int .i64 0), (12, .int .i64 (((i : Nat) : Int)))] (Blk b1 [.string x.key, .string x.fin, .bool (x.one), .int .i64 (x.lo), .int .i64 (x.hi)] 56 :: Seq (.slice none 0 0) 0 ((flatOf Pc.cells ([] : List Pc))) :: Blk pb [.int .i64 (k0), .slice none 0 0] 33 :: F)
  replace hi : i ≤ 0 := hi
  replace hall : ∀ j y, j < i → ([] : List Pc)[j]? = some y → ¬ same k y.x x := hall
  refine WPc.seq ?_
  refine WPc.region ?_
  refine WP.val rfl rfl rfl (Val.lss rfl rfl rfl) ?_
  refine WP.nil ?_
  refine Out.next ?_
  refine WPc.seq ?_
  refine WPc.ifP rfl (fun h1 => ?_) (fun h1 => ?_)
  · skip
    have h1 : (((i : Nat) : Int) < (0 : Int)) := h1
    exfalso; omega
  · skip
    have h1 : ¬ (((i : Nat) : Int) < (0 : Int)) := h1
    refine WPc.exit ?_
    refine Out.then_exit ?_
    refine Out.then_exit ?_
    refine Out.block_exit ?_
    refine Out.next ?_
    refine WPc.seq ?_
    refine WPc.region ?_
    refine WP.val rfl rfl rfl (Val.assign rfl rfl) ?_
    refine WP.nil ?_
    refine Out.next ?_
    refine WPc.ret ?_
    refine Out.drop ?_
    exact Out.ret1 (L' := _) Try.results67 rfl ⟨_, rfl, .inl ⟨rfl, all_of hall (by first | omega | exact Nat.zero_le _)⟩, rfl⟩ (fun _ h => h)

set_option maxRecDepth 100000 in
set_option maxHeartbeats 2000000 in
theorem find_row (pb : Nat) (k0 k : Int) (hk : KO k0 k) (x : Sp) (hx0 : x.key.size ≤ 2147483647) (l : List Pc) (hl : l.length ≤ 1000000) (hsz : ∀ y ∈ l, y.x.key.size ≤ 2147483647) (g cg : Nat) (sg : List Value) (Tg : TypeId) (hcg : l.length ≤ cg) : Does Try.prog 67 [.pointer (some ⟨pb, 0, none⟩), .agg #[.string x.key, .string x.fin, .bool (x.one), .int .i64 (x.lo), .int .i64 (x.hi)]] [Ro (Blk g (flatOf Pc.cells l ++ sg) Tg), Seq (.slice (some ⟨g, 0, none⟩) l.length cg) l.length ((flatOf Pc.cells l)), Blk pb [.int .i64 (k0), .slice (some ⟨g, 0, none⟩) l.length cg] 33] (fun v L => ∃ n, v = .int .i64 n ∧ FindR k x l n ∧ L = [Seq (.slice (some ⟨g, 0, none⟩) l.length cg) l.length (flatOf Pc.cells l), Blk pb [.int .i64 k0, (.slice (some ⟨g, 0, none⟩) l.length cg)] 33]) := by
  refine Does.enter 27 Try.func67 rfl rfl rfl fun W F => ?_
  show WPc _ _ _ _ _ [(0, .pointer (some ⟨pb, 0, none⟩)), (1, .agg #[.string x.key, .string x.fin, .bool (x.one), .int .i64 (x.lo), .int .i64 (x.hi)])] (Ro (Blk g (flatOf Pc.cells l ++ sg) Tg) :: Seq (.slice (some ⟨g, 0, none⟩) l.length cg) l.length ((flatOf Pc.cells l)) :: Blk pb [.int .i64 (k0), .slice (some ⟨g, 0, none⟩) l.length cg] 33 :: F)
  refine WPc.seq ?_
  refine WPc.region ?_
  refine WP.eff rfl rfl rfl (Eff.box (C := [.string x.key, .string x.fin, .bool (x.one), .int .i64 (x.lo), .int .i64 (x.hi)]) rfl rfl rfl) ?_
  rintro _ _ ⟨b1, rfl, rfl⟩
  refine WP.val rfl rfl rfl (Val.assign rfl rfl) ?_
  refine WP.nil ?_
  refine Out.next ?_
  refine WPc.seq ?_
  refine WPc.seq ?_
  refine WPc.region ?_
  refine WP.val rfl rfl rfl (Val.move rfl rfl) ?_
  refine WP.val rfl rfl rfl (Val.nilCheck rfl rfl) ?_
  refine WP.val rfl rfl rfl (Val.fieldAddr (j := 1) rfl Ty.fo33_1 rfl rfl) ?_
  refine WP.val rfl rfl rfl (Val.load rfl Ty.sc31 rfl (fun w h => h.cell 3 rfl rfl)) ?_
  refine WP.val rfl rfl rfl (Val.len rfl Ty.sl31 rfl) ?_
  refine WP.val rfl rfl rfl (Val.move rfl rfl) ?_
  refine WP.nil ?_
  refine Out.next ?_
  refine WPc.block ?_
  refine WPc.loop (ι := Nat) (fun i => i ≤ l.length ∧ ∀ j y, j < i → l[j]? = some y → ¬ same k y.x x) (fun i => [(0, .pointer (some ⟨pb, 0, none⟩)), (3, .pointer (some ⟨b1, 0, none⟩)), (4, .int .i64 0), (10, .slice (some ⟨g, 0, none⟩) l.length cg), (11, .int .i64 (((l.length : Nat) : Int))), (12, .int .i64 (((i : Nat) : Int)))]) (fun i => Blk b1 [.string x.key, .string x.fin, .bool (x.one), .int .i64 (x.lo), .int .i64 (x.hi)] 56 :: Ro (Blk g (flatOf Pc.cells l ++ sg) Tg) :: Seq (.slice (some ⟨g, 0, none⟩) l.length cg) l.length ((flatOf Pc.cells l)) :: Blk pb [.int .i64 (k0), .slice (some ⟨g, 0, none⟩) l.length cg] 33 :: F) (fun i => l.length - i) 0 ⟨Nat.zero_le _, fun j y h => absurd h (Nat.not_lt_zero _)⟩ ((Sub.cons rfl (Sub.cons rfl (Sub.cons rfl (Sub.cons rfl (Sub.cons rfl (Sub.cons rfl Sub.nil))))))) (fun _ h => h) ?_
  rintro i ⟨hi, hall⟩
  show WPc _ _ _ _ _ [(0, .pointer (some ⟨pb, 0, none⟩)), (3, .pointer (some ⟨b1, 0, none⟩)), (4, .int .i64 0), (10, .slice (some ⟨g, 0, none⟩) l.length cg), (11, .int .i64 (((l.length : Nat) : Int))), (12, .int .i64 (((i : Nat) : Int)))] (Blk b1 [.string x.key, .string x.fin, .bool (x.one), .int .i64 (x.lo), .int .i64 (x.hi)] 56 :: Ro (Blk g (flatOf Pc.cells l ++ sg) Tg) :: Seq (.slice (some ⟨g, 0, none⟩) l.length cg) l.length ((flatOf Pc.cells l)) :: Blk pb [.int .i64 (k0), .slice (some ⟨g, 0, none⟩) l.length cg] 33 :: F)
  replace hi : i ≤ l.length := hi
  replace hall : ∀ j y, j < i → l[j]? = some y → ¬ same k y.x x := hall
  refine WPc.seq ?_
  refine WPc.region ?_
  refine WP.val rfl rfl rfl (Val.lss rfl rfl rfl) ?_
  refine WP.nil ?_
  refine Out.next ?_
  refine WPc.seq ?_
  refine WPc.ifP rfl (fun h1 => ?_) (fun h1 => ?_)
  · skip
    have h1 : (((i : Nat) : Int) < ((l.length : Nat) : Int)) := h1
    refine WPc.skip ?_
    refine Out.next ?_
    refine WPc.seq ?_
    refine WPc.block ?_
    refine WPc.seq ?_
    have hlt : i < l.length := by omega
    obtain ⟨y, hx⟩ : ∃ y, l[i]? = some y := ⟨_, List.getElem?_eq_getElem hlt⟩
    refine WPc.region ?_
    refine WP.val rfl rfl rfl (Val.move rfl rfl) ?_
    refine WP.val rfl rfl rfl (Val.indexAddr (j := i) (q := i * 6) rfl Ty.sl31 rfl rfl (by omega) (by omega) (by omega)) ?_
    refine WP.val rfl rfl rfl (Val.loadAgg (cs := (Pc.cells y)) rfl Ty.ag89 rfl (by rfl) (fun w h => h.rangeRo 1 rfl (flatOf_range Pc.len hx))) ?_
    refine WP.eff rfl rfl rfl (Eff.alloc rfl Ty.z89) ?_
    rintro _ _ ⟨b2, rfl, rfl⟩
    refine WP.val rfl rfl rfl (Val.assign rfl rfl) ?_
    refine WP.eff0 rfl rfl (Eff.storeAgg (cs := [.string y.x.key, .string y.x.fin, .bool (y.x.one), .int .i64 (y.x.lo), .int .i64 (y.x.hi), .int .i64 (y.n)]) (C' := [.string y.x.key, .string y.x.fin, .bool (y.x.one), .int .i64 (y.x.lo), .int .i64 (y.x.hi), .int .i64 (y.n)]) rfl Ty.ag89 rfl rfl rfl rfl (by simp) rfl) ?_
    rintro _ _ rfl
    refine WP.nil ?_
    refine Out.next ?_
    refine WPc.seq ?_
    refine WPD.start (Sat W (Blk b2 [.string y.x.key, .string y.x.fin, .bool (y.x.one), .int .i64 (y.x.lo), .int .i64 (y.x.hi), .int .i64 (y.n)] 89 :: Blk b1 [.string x.key, .string x.fin, .bool (x.one), .int .i64 (x.lo), .int .i64 (x.hi)] 56 :: Ro (Blk g (flatOf Pc.cells l ++ sg) Tg) :: Seq (.slice (some ⟨g, 0, none⟩) l.length cg) l.length ((flatOf Pc.cells l)) :: Blk pb [.int .i64 (k0), .slice (some ⟨g, 0, none⟩) l.length cg] 33 :: F)) Ty.mixed ?_
    refine WPD.takeM 0 rfl rfl rfl rfl (by kernel_rfl) (by kernel_rfl) (by kernel_rfl) (by kernel_rfl) (fun _ _ _ h => h) (fun _ h => h) (Val.move rfl rfl) ?_
    refine WPD.takeM 1 rfl rfl rfl rfl (by kernel_rfl) (by kernel_rfl) (by kernel_rfl) (by kernel_rfl) (fun _ _ _ h => h) (fun _ h => h) (Val.nilCheck rfl rfl) ?_
    refine WPD.takeM 2 rfl rfl rfl rfl (by kernel_rfl) (by kernel_rfl) (by kernel_rfl) (by kernel_rfl) (fun _ _ _ h => h) (fun _ h => h) (Val.fieldAddr (j := 0) rfl Ty.fo33_0 rfl rfl) ?_
    refine WPD.take 3 rfl rfl rfl rfl (by kernel_rfl) (by kernel_rfl) (by kernel_rfl) (by kernel_rfl) (fun _ _ _ h => h) (by kernel_rfl) (fun _ h => h) (Val.load rfl Ty.sc3 rfl (fun w h => h.cell 4 rfl rfl)) ?_
    refine WPD.takeM 4 rfl rfl rfl rfl (by kernel_rfl) (by kernel_rfl) (by kernel_rfl) (by kernel_rfl) (fun _ _ _ h => h) (fun _ h => h) (Val.fieldAddr (j := 0) rfl Ty.fo89_0 rfl rfl) ?_
    refine WPD.take 5 rfl rfl rfl rfl (by kernel_rfl) (by kernel_rfl) (by kernel_rfl) (by kernel_rfl) (fun _ _ _ h => h) (by kernel_rfl) (fun _ h => h) (Val.loadAgg (cs := [.string y.x.key, .string y.x.fin, .bool (y.x.one), .int .i64 (y.x.lo), .int .i64 (y.x.hi)]) rfl Ty.ag56 rfl rfl (fun w h => h.range 0 rfl rfl)) ?_
    refine WPD.take 6 rfl rfl rfl rfl (by kernel_rfl) (by kernel_rfl) (by kernel_rfl) (by kernel_rfl) (fun _ _ _ h => h) (by kernel_rfl) (fun _ h => h) (Val.loadAgg (cs := [.string x.key, .string x.fin, .bool (x.one), .int .i64 (x.lo), .int .i64 (x.hi)]) rfl Ty.ag56 rfl rfl (fun w h => h.range 1 rfl rfl)) ?_
    refine WPD.stepC 7 (by kernel_rfl) rfl rfl rfl rfl (by kernel_rfl) (Eff.call rfl rfl Try.call71 (same_does k0 k hk y.x x (hsz y (List.mem_of_getElem? hx)) hx0)) ?_
    rintro _ _ ⟨_, ⟨rfl, rfl⟩, rfl⟩
    refine ⟨(Sat W (Blk b2 [.string y.x.key, .string y.x.fin, .bool (y.x.one), .int .i64 (y.x.lo), .int .i64 (y.x.hi), .int .i64 (y.n)] 89 :: Blk b1 [.string x.key, .string x.fin, .bool (x.one), .int .i64 (x.lo), .int .i64 (x.hi)] 56 :: Ro (Blk g (flatOf Pc.cells l ++ sg) Tg) :: Seq (.slice (some ⟨g, 0, none⟩) l.length cg) l.length ((flatOf Pc.cells l)) :: Blk pb [.int .i64 (k0), .slice (some ⟨g, 0, none⟩) l.length cg] 33 :: F)), (fun _ h => h), ?_⟩
    show WPD _ _ _ _ _ _ _ _ _ (Blk b2 [.string y.x.key, .string y.x.fin, .bool (y.x.one), .int .i64 (y.x.lo), .int .i64 (y.x.hi), .int .i64 (y.n)] 89 :: Blk b1 [.string x.key, .string x.fin, .bool (x.one), .int .i64 (x.lo), .int .i64 (x.hi)] 56 :: Ro (Blk g (flatOf Pc.cells l ++ sg) Tg) :: Seq (.slice (some ⟨g, 0, none⟩) l.length cg) l.length ((flatOf Pc.cells l)) :: Blk pb [.int .i64 (k0), .slice (some ⟨g, 0, none⟩) l.length cg] 33 :: F)
    refine WPD.done (by kernel_rfl) ?_
    refine Out.next ?_
    refine WPc.ifP rfl (fun h2 => ?_) (fun h2 => ?_)
    · skip
      have h2 : (same k y.x x) := h2
      refine WPc.seq ?_
      refine WPc.region ?_
      refine WP.val rfl rfl rfl (Val.move rfl rfl) ?_
      refine WP.val rfl rfl rfl (Val.assign rfl rfl) ?_
      refine WP.nil ?_
      refine Out.next ?_
      refine WPc.ret ?_
      refine Out.block_ret ?_
      refine Out.then_ret ?_
      refine Out.then_ret ?_
      refine Out.block_ret ?_
      refine Out.then_ret ?_
      refine Out.drop ?_
      refine Out.drop ?_
      refine Out.drop ?_
      exact Out.ret1 (L' := _) Try.results67 rfl ⟨_, rfl, .inr ⟨i, y, rfl, hx, by assumption⟩, rfl⟩ (fun _ h => h)
    · skip
      have h2 : ¬ (same k y.x x) := h2
      refine WPc.skip ?_
      refine Out.block ?_
      refine Out.next ?_
      refine WPc.region ?_
      refine WP.val rfl rfl rfl (Val.add (z := ((i + 1 : Nat) : Int)) rfl rfl rfl ((w64 (by omega) (by omega)).trans (by omega))) ?_
      refine WP.val rfl rfl rfl (Val.move rfl rfl) ?_
      refine WP.nil ?_
      refine Out.drop ?_
      refine Out.again (i + 1) ?_ ?_ ?_ ?_
      · exact ⟨by show i + 1 ≤ l.length; omega, all_more hall hx (by assumption)⟩
      · (first | omega | (dsimp only; omega))
      · exact (Sub.cons rfl (Sub.cons rfl (Sub.cons rfl (Sub.cons rfl (Sub.cons rfl (Sub.cons rfl Sub.nil))))))
      · exact (fun _ h => h)
  · skip
    have h1 : ¬ (((i : Nat) : Int) < ((l.length : Nat) : Int)) := h1
    refine WPc.exit ?_
    refine Out.then_exit ?_
    refine Out.then_exit ?_
    refine Out.block_exit ?_
    refine Out.next ?_
    refine WPc.seq ?_
    refine WPc.region ?_
    refine WP.val rfl rfl rfl (Val.assign rfl rfl) ?_
    refine WP.nil ?_
    refine Out.next ?_
    refine WPc.ret ?_
    refine Out.drop ?_
    refine Out.drop ?_
    exact Out.ret1 (L' := _) Try.results67 rfl ⟨_, rfl, .inl ⟨rfl, all_of hall (by first | omega | exact Nat.zero_le _)⟩, rfl⟩ (fun _ h => h)

theorem find_spec (pb : Nat) (k0 k : Int) (hk : KO k0 k) (x : Sp) (hx0 : x.key.size ≤ 2147483647) (l : List Pc) (hl : l.length ≤ 1000000) (hsz : ∀ y ∈ l, y.x.key.size ≤ 2147483647) (va : Value) : Does Try.prog 67 [.pointer (some ⟨pb, 0, none⟩), .agg #[.string x.key, .string x.fin, .bool (x.one), .int .i64 (x.lo), .int .i64 (x.hi)]] [Seq va l.length (flatOf Pc.cells l), Blk pb [.int .i64 (k0), va] 33] (fun v L => ∃ n, v = .int .i64 n ∧ FindR k x l n ∧ L = [Seq va l.length (flatOf Pc.cells l), Blk pb [.int .i64 k0, va] 33]) := by
  refine Does.seqC (fun h0 h1 => ?_) (fun g cg sg Tg h0 h1 => ?_)
  · obtain rfl := List.eq_nil_of_length_eq_zero h1
    subst h0
    exact find_nil pb k0 k hk x hx0
  · subst h0
    exact find_row pb k0 k hk x hx0 l hl hsz g cg sg Tg h1

end Go.Proofs.Ytbomnihiapjmpaa.TI

namespace Go.Proofs.Ytbomnihiapjmpaa.TJ
open Go.RowKit Go.Proofs.Ytbomnihiapjmpaa Go.Proofs.Ytbomnihiapjmpaa.Sl Go.Proofs.Ytbomnihiapjmpaa.TrP Go.Proofs.Ytbomnihiapjmpaa.Tb Go.Proofs.Ytbomnihiapjmpaa.Tc Go.Proofs.Ytbomnihiapjmpaa.Td Go.Proofs.Ytbomnihiapjmpaa.Tn Go.Proofs.Ytbomnihiapjmpaa.Tr Go.Proofs.Ytbomnihiapjmpaa.Ts Go.Proofs.Ytbomnihiapjmpaa.Tx Go.Proofs.Ytbomnihiapjmpaa.TC Go.Proofs.Ytbomnihiapjmpaa.TD Go.Proofs.Ytbomnihiapjmpaa.TE Go.Proofs.Ytbomnihiapjmpaa.TG Go.Proofs.Ytbomnihiapjmpaa.TH Go.Proofs.Ytbomnihiapjmpaa.TI
set_option linter.unusedVariables false
set_option linter.unusedSimpArgs false
set_option linter.unusedSectionVars false


theorem take_more {α : Type} {l : List α} {i : Nat} {x : α} (h : l[i]? = some x) : l.take (i + 1) = l.take i ++ [x] := by
  rw [List.take_add_one, h]; rfl
/-- those that an interval meets -/
def mts (k : Int) (x : Sp) (l : List Pc) : List Pc := l.filter fun y => decide (meets k y.x x)
theorem mts_yes {k : Int} {x : Sp} {l o : List Pc} {i : Nat} {y : Pc} (ho : o = mts k x (l.take i)) (h : l[i]? = some y) (hm : meets k y.x x) : o ++ [y] = mts k x (l.take (i + 1)) := by
  rw [take_more h, ho]; unfold mts; rw [List.filter_append]; simp [hm]
theorem mts_no {k : Int} {x : Sp} {l o : List Pc} {i : Nat} {y : Pc} (ho : o = mts k x (l.take i)) (h : l[i]? = some y) (hm : ¬ meets k y.x x) : o = mts k x (l.take (i + 1)) := by
  rw [take_more h, ho]; unfold mts; rw [List.filter_append]
  have : [y].filter (fun y => decide (meets k y.x x)) = [] := by rw [List.filter_cons_of_neg (by simpa using hm)]; rfl
  rw [this, List.append_nil]
theorem mts_le {k : Int} {x : Sp} {l : List Pc} : (mts k x l).length ≤ l.length := List.length_filter_le _ _
set_option maxRecDepth 100000 in
set_option maxHeartbeats 2000000 in
theorem meeting_nil (pb : Nat) (k0 k : Int) (hk : KO k0 k) (x : Sp) (hx0 : x.key.size ≤ 2147483647) : Does Try.prog 69 [.pointer (some ⟨pb, 0, none⟩), .agg #[.string x.key, .string x.fin, .bool (x.one), .int .i64 (x.lo), .int .i64 (x.hi)]] [Seq (.slice none 0 0) 0 ((flatOf Pc.cells ([] : List Pc))), Blk pb [.int .i64 (k0), .slice none 0 0] 33] (fun v L => ∃ u, v = u ∧ L = [Seq (.slice none 0 0) 0 (flatOf Pc.cells ([] : List Pc)), Blk pb [.int .i64 k0, (.slice none 0 0)] 33, Own 89 6 u (mts k x ([] : List Pc)).length (flatOf Pc.cells (mts k x ([] : List Pc)))]) := by
  refine Does.enter 31 Try.func69 rfl rfl rfl fun W F => ?_
  show WPc _ _ _ _ _ [(0, .pointer (some ⟨pb, 0, none⟩)), (1, .agg #[.string x.key, .string x.fin, .bool (x.one), .int .i64 (x.lo), .int .i64 (x.hi)])] (Seq (.slice none 0 0) 0 ((flatOf Pc.cells ([] : List Pc))) :: Blk pb [.int .i64 (k0), .slice none 0 0] 33 :: F)
  refine WPc.seq ?_
  refine WPc.region ?_
  refine WP.eff rfl rfl rfl (Eff.box (C := [.string x.key, .string x.fin, .bool (x.one), .int .i64 (x.lo), .int .i64 (x.hi)]) rfl rfl rfl) ?_
  rintro _ _ ⟨b1, rfl, rfl⟩
  refine WP.val rfl rfl rfl (Val.assign rfl rfl) ?_
  refine WP.nil ?_
  refine Out.next ?_
  refine WPc.seq ?_
  refine WPc.region ?_
  refine WP.val rfl rfl rfl (Val.assign rfl rfl) ?_
  refine WP.nil ?_
  refine Out.next ?_
  refine WPc.seq ?_
  refine WPc.seq ?_
  refine WPc.conv (fun w h => Sat.ownNil (e := 89) (k := 6) h) ?_
  show WPc _ _ _ _ _ _ (Own 89 6 (.slice none 0 0) 0 ([]) :: Blk b1 [.string x.key, .string x.fin, .bool (x.one), .int .i64 (x.lo), .int .i64 (x.hi)] 56 :: Seq (.slice none 0 0) 0 ((flatOf Pc.cells ([] : List Pc))) :: Blk pb [.int .i64 (k0), .slice none 0 0] 33 :: F)
  refine WPc.region ?_
  refine WP.val rfl rfl rfl (Val.move rfl rfl) ?_
  refine WP.val rfl rfl rfl (Val.nilCheck rfl rfl) ?_
  refine WP.val rfl rfl rfl (Val.fieldAddr (j := 1) rfl Ty.fo33_1 rfl rfl) ?_
  refine WP.val rfl rfl rfl (Val.load rfl Ty.sc31 rfl (fun w h => h.cell 3 rfl rfl)) ?_
  refine WP.val rfl rfl rfl (Val.len rfl Ty.sl31 rfl) ?_
  refine WP.val rfl rfl rfl (Val.move rfl rfl) ?_
  refine WP.nil ?_
  refine Out.next ?_
  refine WPc.block ?_
  refine WPc.loop (ι := Nat × List Pc × Value) (fun ⟨i, o, v⟩ => i ≤ 0 ∧ o = mts k x (([] : List Pc).take i)) (fun ⟨i, o, v⟩ => [(0, .pointer (some ⟨pb, 0, none⟩)), (3, .pointer (some ⟨b1, 0, none⟩)), (4, .slice none 0 0), (5, v), (11, .slice none 0 0), (12, .int .i64 0), (13, .int .i64 (((i : Nat) : Int)))]) (fun ⟨i, o, v⟩ => Own 89 6 v o.length (flatOf Pc.cells o) :: Blk b1 [.string x.key, .string x.fin, .bool (x.one), .int .i64 (x.lo), .int .i64 (x.hi)] 56 :: Seq (.slice none 0 0) 0 ((flatOf Pc.cells ([] : List Pc))) :: Blk pb [.int .i64 (k0), .slice none 0 0] 33 :: F) (fun ⟨i, o, v⟩ => 0 - i) (0, [], .slice none 0 0) ⟨Nat.zero_le _, rfl⟩ ((Sub.cons rfl (Sub.cons rfl (Sub.cons rfl (Sub.cons rfl (Sub.cons rfl (Sub.cons rfl (Sub.cons rfl Sub.nil)))))))) (fun _ h => h) ?_
  rintro ⟨i, o, v⟩ ⟨hi, ho⟩
  show WPc _ _ _ _ _ [(0, .pointer (some ⟨pb, 0, none⟩)), (3, .pointer (some ⟨b1, 0, none⟩)), (4, .slice none 0 0), (5, v), (11, .slice none 0 0), (12, .int .i64 0), (13, .int .i64 (((i : Nat) : Int)))] (Own 89 6 v o.length (flatOf Pc.cells o) :: Blk b1 [.string x.key, .string x.fin, .bool (x.one), .int .i64 (x.lo), .int .i64 (x.hi)] 56 :: Seq (.slice none 0 0) 0 ((flatOf Pc.cells ([] : List Pc))) :: Blk pb [.int .i64 (k0), .slice none 0 0] 33 :: F)
  replace hi : i ≤ 0 := hi
  replace ho : o = mts k x (([] : List Pc).take i) := ho
  have hol := congrArg List.length ho
  have hmle := mts_le (k := k) (x := x) (l := ([] : List Pc).take i)
  rw [List.length_take] at hmle
  refine WPc.seq ?_
  refine WPc.region ?_
  refine WP.val rfl rfl rfl (Val.lss rfl rfl rfl) ?_
  refine WP.nil ?_
  refine Out.next ?_
  refine WPc.seq ?_
  refine WPc.ifP rfl (fun h1 => ?_) (fun h1 => ?_)
  · skip
    have h1 : (((i : Nat) : Int) < (0 : Int)) := h1
    exfalso; omega
  · skip
    have h1 : ¬ (((i : Nat) : Int) < (0 : Int)) := h1
    refine WPc.exit ?_
    refine Out.then_exit ?_
    refine Out.then_exit ?_
    refine Out.block_exit ?_
    refine Out.next ?_
    refine WPc.seq ?_
    refine WPc.region ?_
    refine WP.val rfl rfl rfl (Val.move rfl rfl) ?_
    refine WP.val rfl rfl rfl (Val.assign rfl rfl) ?_
    refine WP.nil ?_
    refine Out.next ?_
    refine WPc.ret ?_
    have hti : ([] : List Pc).take i = ([] : List Pc) := List.take_of_length_le (by first | omega | exact Nat.zero_le _)
    rw [hti] at ho
    subst ho
    refine Out.perm pl1 ?_
    refine Out.drop ?_
    refine Out.perm pl2 ?_
    refine Out.perm pl2 ?_
    exact Out.ret1 (L' := _) Try.results69 rfl ⟨_, rfl, rfl⟩ (fun _ h => h)

set_option maxRecDepth 100000 in
set_option maxHeartbeats 2000000 in
theorem meeting_row (pb : Nat) (k0 k : Int) (hk : KO k0 k) (x : Sp) (hx0 : x.key.size ≤ 2147483647) (l : List Pc) (hl : l.length ≤ 1000000) (hsz : ∀ y ∈ l, y.x.key.size ≤ 2147483647) (g cg : Nat) (sg : List Value) (Tg : TypeId) (hcg : l.length ≤ cg) : Does Try.prog 69 [.pointer (some ⟨pb, 0, none⟩), .agg #[.string x.key, .string x.fin, .bool (x.one), .int .i64 (x.lo), .int .i64 (x.hi)]] [Ro (Blk g (flatOf Pc.cells l ++ sg) Tg), Seq (.slice (some ⟨g, 0, none⟩) l.length cg) l.length ((flatOf Pc.cells l)), Blk pb [.int .i64 (k0), .slice (some ⟨g, 0, none⟩) l.length cg] 33] (fun v L => ∃ u, v = u ∧ L = [Seq (.slice (some ⟨g, 0, none⟩) l.length cg) l.length (flatOf Pc.cells l), Blk pb [.int .i64 k0, (.slice (some ⟨g, 0, none⟩) l.length cg)] 33, Own 89 6 u (mts k x l).length (flatOf Pc.cells (mts k x l))]) := by
  refine Does.enter 31 Try.func69 rfl rfl rfl fun W F => ?_
  show WPc _ _ _ _ _ [(0, .pointer (some ⟨pb, 0, none⟩)), (1, .agg #[.string x.key, .string x.fin, .bool (x.one), .int .i64 (x.lo), .int .i64 (x.hi)])] (Ro (Blk g (flatOf Pc.cells l ++ sg) Tg) :: Seq (.slice (some ⟨g, 0, none⟩) l.length cg) l.length ((flatOf Pc.cells l)) :: Blk pb [.int .i64 (k0), .slice (some ⟨g, 0, none⟩) l.length cg] 33 :: F)
  refine WPc.seq ?_
  refine WPc.region ?_
  refine WP.eff rfl rfl rfl (Eff.box (C := [.string x.key, .string x.fin, .bool (x.one), .int .i64 (x.lo), .int .i64 (x.hi)]) rfl rfl rfl) ?_
  rintro _ _ ⟨b1, rfl, rfl⟩
  refine WP.val rfl rfl rfl (Val.assign rfl rfl) ?_
  refine WP.nil ?_
  refine Out.next ?_
  refine WPc.seq ?_
  refine WPc.region ?_
  refine WP.val rfl rfl rfl (Val.assign rfl rfl) ?_
  refine WP.nil ?_
  refine Out.next ?_
  refine WPc.seq ?_
  refine WPc.seq ?_
  refine WPc.conv (fun w h => Sat.ownNil (e := 89) (k := 6) h) ?_
  show WPc _ _ _ _ _ _ (Own 89 6 (.slice none 0 0) 0 ([]) :: Blk b1 [.string x.key, .string x.fin, .bool (x.one), .int .i64 (x.lo), .int .i64 (x.hi)] 56 :: Ro (Blk g (flatOf Pc.cells l ++ sg) Tg) :: Seq (.slice (some ⟨g, 0, none⟩) l.length cg) l.length ((flatOf Pc.cells l)) :: Blk pb [.int .i64 (k0), .slice (some ⟨g, 0, none⟩) l.length cg] 33 :: F)
  refine WPc.region ?_
  refine WP.val rfl rfl rfl (Val.move rfl rfl) ?_
  refine WP.val rfl rfl rfl (Val.nilCheck rfl rfl) ?_
  refine WP.val rfl rfl rfl (Val.fieldAddr (j := 1) rfl Ty.fo33_1 rfl rfl) ?_
  refine WP.val rfl rfl rfl (Val.load rfl Ty.sc31 rfl (fun w h => h.cell 4 rfl rfl)) ?_
  refine WP.val rfl rfl rfl (Val.len rfl Ty.sl31 rfl) ?_
  refine WP.val rfl rfl rfl (Val.move rfl rfl) ?_
  refine WP.nil ?_
  refine Out.next ?_
  refine WPc.block ?_
  refine WPc.loop (ι := Nat × List Pc × Value) (fun ⟨i, o, v⟩ => i ≤ l.length ∧ o = mts k x (l.take i)) (fun ⟨i, o, v⟩ => [(0, .pointer (some ⟨pb, 0, none⟩)), (3, .pointer (some ⟨b1, 0, none⟩)), (4, .slice none 0 0), (5, v), (11, .slice (some ⟨g, 0, none⟩) l.length cg), (12, .int .i64 (((l.length : Nat) : Int))), (13, .int .i64 (((i : Nat) : Int)))]) (fun ⟨i, o, v⟩ => Own 89 6 v o.length (flatOf Pc.cells o) :: Blk b1 [.string x.key, .string x.fin, .bool (x.one), .int .i64 (x.lo), .int .i64 (x.hi)] 56 :: Ro (Blk g (flatOf Pc.cells l ++ sg) Tg) :: Seq (.slice (some ⟨g, 0, none⟩) l.length cg) l.length ((flatOf Pc.cells l)) :: Blk pb [.int .i64 (k0), .slice (some ⟨g, 0, none⟩) l.length cg] 33 :: F) (fun ⟨i, o, v⟩ => l.length - i) (0, [], .slice none 0 0) ⟨Nat.zero_le _, rfl⟩ ((Sub.cons rfl (Sub.cons rfl (Sub.cons rfl (Sub.cons rfl (Sub.cons rfl (Sub.cons rfl (Sub.cons rfl Sub.nil)))))))) (fun _ h => h) ?_
  rintro ⟨i, o, v⟩ ⟨hi, ho⟩
  show WPc _ _ _ _ _ [(0, .pointer (some ⟨pb, 0, none⟩)), (3, .pointer (some ⟨b1, 0, none⟩)), (4, .slice none 0 0), (5, v), (11, .slice (some ⟨g, 0, none⟩) l.length cg), (12, .int .i64 (((l.length : Nat) : Int))), (13, .int .i64 (((i : Nat) : Int)))] (Own 89 6 v o.length (flatOf Pc.cells o) :: Blk b1 [.string x.key, .string x.fin, .bool (x.one), .int .i64 (x.lo), .int .i64 (x.hi)] 56 :: Ro (Blk g (flatOf Pc.cells l ++ sg) Tg) :: Seq (.slice (some ⟨g, 0, none⟩) l.length cg) l.length ((flatOf Pc.cells l)) :: Blk pb [.int .i64 (k0), .slice (some ⟨g, 0, none⟩) l.length cg] 33 :: F)
  replace hi : i ≤ l.length := hi
  replace ho : o = mts k x (l.take i) := ho
  have hol := congrArg List.length ho
  have hmle := mts_le (k := k) (x := x) (l := l.take i)
  rw [List.length_take] at hmle
  refine WPc.seq ?_
  refine WPc.region ?_
  refine WP.val rfl rfl rfl (Val.lss rfl rfl rfl) ?_
  refine WP.nil ?_
  refine Out.next ?_
  refine WPc.seq ?_
  refine WPc.ifP rfl (fun h1 => ?_) (fun h1 => ?_)
  · skip
    have h1 : (((i : Nat) : Int) < ((l.length : Nat) : Int)) := h1
    refine WPc.skip ?_
    refine Out.next ?_
    refine WPc.seq ?_
    refine WPc.block ?_
    refine WPc.seq ?_
    have hlt : i < l.length := by omega
    obtain ⟨y, hx⟩ : ∃ y, l[i]? = some y := ⟨_, List.getElem?_eq_getElem hlt⟩
    refine WPc.region ?_
    refine WP.val rfl rfl rfl (Val.indexAddr (j := i) (q := i * 6) rfl Ty.sl31 rfl rfl (by omega) (by omega) (by omega)) ?_
    refine WP.val rfl rfl rfl (Val.loadAgg (cs := (Pc.cells y)) rfl Ty.ag89 rfl (by rfl) (fun w h => h.rangeRo 2 rfl (flatOf_range Pc.len hx))) ?_
    refine WP.eff rfl rfl rfl (Eff.alloc rfl Ty.z89) ?_
    rintro _ _ ⟨b2, rfl, rfl⟩
    refine WP.eff0 rfl rfl (Eff.storeAgg (cs := [.string y.x.key, .string y.x.fin, .bool (y.x.one), .int .i64 (y.x.lo), .int .i64 (y.x.hi), .int .i64 (y.n)]) (C' := [.string y.x.key, .string y.x.fin, .bool (y.x.one), .int .i64 (y.x.lo), .int .i64 (y.x.hi), .int .i64 (y.n)]) rfl Ty.ag89 rfl rfl rfl rfl (by simp) rfl) ?_
    rintro _ _ rfl
    refine WP.nil ?_
    refine Out.next ?_
    refine WPc.seq ?_
    refine WPD.start (Sat W (Blk b2 [.string y.x.key, .string y.x.fin, .bool (y.x.one), .int .i64 (y.x.lo), .int .i64 (y.x.hi), .int .i64 (y.n)] 89 :: Own 89 6 v o.length (flatOf Pc.cells o) :: Blk b1 [.string x.key, .string x.fin, .bool (x.one), .int .i64 (x.lo), .int .i64 (x.hi)] 56 :: Ro (Blk g (flatOf Pc.cells l ++ sg) Tg) :: Seq (.slice (some ⟨g, 0, none⟩) l.length cg) l.length ((flatOf Pc.cells l)) :: Blk pb [.int .i64 (k0), .slice (some ⟨g, 0, none⟩) l.length cg] 33 :: F)) Ty.mixed ?_
    refine WPD.takeM 0 rfl rfl rfl rfl (by kernel_rfl) (by kernel_rfl) (by kernel_rfl) (by kernel_rfl) (fun _ _ _ h => h) (fun _ h => h) (Val.move rfl rfl) ?_
    refine WPD.takeM 1 rfl rfl rfl rfl (by kernel_rfl) (by kernel_rfl) (by kernel_rfl) (by kernel_rfl) (fun _ _ _ h => h) (fun _ h => h) (Val.nilCheck rfl rfl) ?_
    refine WPD.takeM 2 rfl rfl rfl rfl (by kernel_rfl) (by kernel_rfl) (by kernel_rfl) (by kernel_rfl) (fun _ _ _ h => h) (fun _ h => h) (Val.fieldAddr (j := 0) rfl Ty.fo33_0 rfl rfl) ?_
    refine WPD.take 3 rfl rfl rfl rfl (by kernel_rfl) (by kernel_rfl) (by kernel_rfl) (by kernel_rfl) (fun _ _ _ h => h) (by kernel_rfl) (fun _ h => h) (Val.load rfl Ty.sc3 rfl (fun w h => h.cell 5 rfl rfl)) ?_
    refine WPD.takeM 4 rfl rfl rfl rfl (by kernel_rfl) (by kernel_rfl) (by kernel_rfl) (by kernel_rfl) (fun _ _ _ h => h) (fun _ h => h) (Val.fieldAddr (j := 0) rfl Ty.fo89_0 rfl rfl) ?_
    refine WPD.take 5 rfl rfl rfl rfl (by kernel_rfl) (by kernel_rfl) (by kernel_rfl) (by kernel_rfl) (fun _ _ _ h => h) (by kernel_rfl) (fun _ h => h) (Val.loadAgg (cs := [.string y.x.key, .string y.x.fin, .bool (y.x.one), .int .i64 (y.x.lo), .int .i64 (y.x.hi)]) rfl Ty.ag56 rfl rfl (fun w h => h.range 0 rfl rfl)) ?_
    refine WPD.take 6 rfl rfl rfl rfl (by kernel_rfl) (by kernel_rfl) (by kernel_rfl) (by kernel_rfl) (fun _ _ _ h => h) (by kernel_rfl) (fun _ h => h) (Val.loadAgg (cs := [.string x.key, .string x.fin, .bool (x.one), .int .i64 (x.lo), .int .i64 (x.hi)]) rfl Ty.ag56 rfl rfl (fun w h => h.range 2 rfl rfl)) ?_
    refine WPD.stepC 7 (by kernel_rfl) rfl rfl rfl rfl (by kernel_rfl) (Eff.call rfl rfl Try.call41 (meet_does k0 k hk y.x x (hsz y (List.mem_of_getElem? hx)) hx0)) ?_
    rintro _ _ ⟨_, ⟨rfl, rfl⟩, rfl⟩
    refine ⟨(Sat W (Blk b2 [.string y.x.key, .string y.x.fin, .bool (y.x.one), .int .i64 (y.x.lo), .int .i64 (y.x.hi), .int .i64 (y.n)] 89 :: Own 89 6 v o.length (flatOf Pc.cells o) :: Blk b1 [.string x.key, .string x.fin, .bool (x.one), .int .i64 (x.lo), .int .i64 (x.hi)] 56 :: Ro (Blk g (flatOf Pc.cells l ++ sg) Tg) :: Seq (.slice (some ⟨g, 0, none⟩) l.length cg) l.length ((flatOf Pc.cells l)) :: Blk pb [.int .i64 (k0), .slice (some ⟨g, 0, none⟩) l.length cg] 33 :: F)), (fun _ h => h), ?_⟩
    show WPD _ _ _ _ _ _ _ _ _ (Blk b2 [.string y.x.key, .string y.x.fin, .bool (y.x.one), .int .i64 (y.x.lo), .int .i64 (y.x.hi), .int .i64 (y.n)] 89 :: Own 89 6 v o.length (flatOf Pc.cells o) :: Blk b1 [.string x.key, .string x.fin, .bool (x.one), .int .i64 (x.lo), .int .i64 (x.hi)] 56 :: Ro (Blk g (flatOf Pc.cells l ++ sg) Tg) :: Seq (.slice (some ⟨g, 0, none⟩) l.length cg) l.length ((flatOf Pc.cells l)) :: Blk pb [.int .i64 (k0), .slice (some ⟨g, 0, none⟩) l.length cg] 33 :: F)
    refine WPD.done (by kernel_rfl) ?_
    refine Out.next ?_
    refine WPc.ifP rfl (fun h2 => ?_) (fun h2 => ?_)
    · skip
      have h2 : (meets k y.x x) := h2
      refine WPc.region ?_
      refine WP.val rfl rfl rfl (Val.move rfl rfl) ?_
      refine WP.val rfl rfl rfl (Val.loadAgg (cs := [.string y.x.key, .string y.x.fin, .bool (y.x.one), .int .i64 (y.x.lo), .int .i64 (y.x.hi), .int .i64 (y.n)]) rfl Ty.ag89 rfl rfl (fun w h => h.range 0 rfl rfl)) ?_
      refine WP.eff rfl rfl rfl (Eff.mkSlice (C := [.string y.x.key, .string y.x.fin, .bool (y.x.one), .int .i64 (y.x.lo), .int .i64 (y.x.hi), .int .i64 (y.n)]) rfl Ty.sl31 rfl (fun _ => by kernel_rfl)) ?_
      rintro _ _ ⟨b3, rfl, rfl⟩
      refine WP.perm pl2 ?_
      refine WP.eff rfl rfl rfl (Eff.append (m := 1) (n0 := o.length) (news := [.string y.x.key, .string y.x.fin, .bool (y.x.one), .int .i64 (y.x.lo), .int .i64 (y.x.hi), .int .i64 (y.n)]) rfl Ty.sl31 Ty.z89 rfl rfl rfl (.slice Ty.sl31 rfl rfl (fun w h => cells_range (h.range 1 rfl rfl))) (by omega) (by omega)) ?_
      rintro v4 _ ⟨onev4, rfl⟩
      refine WP.val rfl rfl rfl (Val.assign rfl rfl) ?_
      refine WP.nil ?_
      refine Out.block ?_
      refine Out.next ?_
      refine WPc.region ?_
      refine WP.val rfl rfl rfl (Val.add (z := ((i + 1 : Nat) : Int)) rfl rfl rfl ((w64 (by omega) (by omega)).trans (by omega))) ?_
      refine WP.val rfl rfl rfl (Val.move rfl rfl) ?_
      refine WP.nil ?_
      refine Out.perm pl1 ?_
      refine Out.drop ?_
      refine Out.perm pl1 ?_
      refine Out.drop ?_
      refine Out.again (i + 1, o ++ [y], v4) ?_ ?_ ?_ ?_
      · exact ⟨by show i + 1 ≤ l.length; omega, mts_yes ho hx (by assumption)⟩
      · (first | omega | (dsimp only; omega))
      · exact (Sub.cons rfl (Sub.cons rfl (Sub.cons rfl (Sub.cons rfl (Sub.cons rfl (Sub.cons rfl (Sub.cons rfl Sub.nil)))))))
      · exact (fun w h => by dsimp only; rw [flatOf_snoc, List.length_append]; exact h)
    · skip
      have h2 : ¬ (meets k y.x x) := h2
      refine WPc.skip ?_
      refine Out.block ?_
      refine Out.next ?_
      refine WPc.region ?_
      refine WP.val rfl rfl rfl (Val.add (z := ((i + 1 : Nat) : Int)) rfl rfl rfl ((w64 (by omega) (by omega)).trans (by omega))) ?_
      refine WP.val rfl rfl rfl (Val.move rfl rfl) ?_
      refine WP.nil ?_
      refine Out.drop ?_
      refine Out.again (i + 1, o, v) ?_ ?_ ?_ ?_
      · exact ⟨by show i + 1 ≤ l.length; omega, mts_no ho hx (by assumption)⟩
      · (first | omega | (dsimp only; omega))
      · exact (Sub.cons rfl (Sub.cons rfl (Sub.cons rfl (Sub.cons rfl (Sub.cons rfl (Sub.cons rfl (Sub.cons rfl Sub.nil)))))))
      · exact (fun w h => h)
  · skip
    have h1 : ¬ (((i : Nat) : Int) < ((l.length : Nat) : Int)) := h1
    refine WPc.exit ?_
    refine Out.then_exit ?_
    refine Out.then_exit ?_
    refine Out.block_exit ?_
    refine Out.next ?_
    refine WPc.seq ?_
    refine WPc.region ?_
    refine WP.val rfl rfl rfl (Val.move rfl rfl) ?_
    refine WP.val rfl rfl rfl (Val.assign rfl rfl) ?_
    refine WP.nil ?_
    refine Out.next ?_
    refine WPc.ret ?_
    have hti : l.take i = l := List.take_of_length_le (by first | omega | exact Nat.zero_le _)
    rw [hti] at ho
    subst ho
    refine Out.perm pl1 ?_
    refine Out.drop ?_
    refine Out.perm pl1 ?_
    refine Out.drop ?_
    refine Out.perm pl2 ?_
    refine Out.perm pl2 ?_
    exact Out.ret1 (L' := _) Try.results69 rfl ⟨_, rfl, rfl⟩ (fun _ h => h)

theorem meeting_spec (pb : Nat) (k0 k : Int) (hk : KO k0 k) (x : Sp) (hx0 : x.key.size ≤ 2147483647) (l : List Pc) (hl : l.length ≤ 1000000) (hsz : ∀ y ∈ l, y.x.key.size ≤ 2147483647) (va : Value) : Does Try.prog 69 [.pointer (some ⟨pb, 0, none⟩), .agg #[.string x.key, .string x.fin, .bool (x.one), .int .i64 (x.lo), .int .i64 (x.hi)]] [Seq va l.length (flatOf Pc.cells l), Blk pb [.int .i64 (k0), va] 33] (fun v L => ∃ u, v = u ∧ L = [Seq va l.length (flatOf Pc.cells l), Blk pb [.int .i64 k0, va] 33, Own 89 6 u (mts k x l).length (flatOf Pc.cells (mts k x l))]) := by
  refine Does.seqC (fun h0 h1 => ?_) (fun g cg sg Tg h0 h1 => ?_)
  · obtain rfl := List.eq_nil_of_length_eq_zero h1
    subst h0
    exact meeting_nil pb k0 k hk x hx0
  · subst h0
    exact meeting_row pb k0 k hk x hx0 l hl hsz g cg sg Tg h1

end Go.Proofs.Ytbomnihiapjmpaa.TJ

