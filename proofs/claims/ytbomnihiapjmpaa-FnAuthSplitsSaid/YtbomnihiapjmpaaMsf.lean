import Derived.Test.YtbomnihiapjmpaaMse
namespace Go.Proofs.Ytbomnihiapjmpaa.Ah
open Go.RowKit Go.Proofs.Ytbomnihiapjmpaa Go.Proofs.Ytbomnihiapjmpaa.Sl Go.Proofs.Ytbomnihiapjmpaa.TrP Go.Proofs.Ytbomnihiapjmpaa.Tb Go.Proofs.Ytbomnihiapjmpaa.Tc Go.Proofs.Ytbomnihiapjmpaa.Td Go.Proofs.Ytbomnihiapjmpaa.Te Go.Proofs.Ytbomnihiapjmpaa.Tk Go.Proofs.Ytbomnihiapjmpaa.Tl Go.Proofs.Ytbomnihiapjmpaa.Tm Go.Proofs.Ytbomnihiapjmpaa.Tj Go.Proofs.Ytbomnihiapjmpaa.Tn Go.Proofs.Ytbomnihiapjmpaa.Tp Go.Proofs.Ytbomnihiapjmpaa.Tq Go.Proofs.Ytbomnihiapjmpaa.Tr Go.Proofs.Ytbomnihiapjmpaa.Tx Go.Proofs.Ytbomnihiapjmpaa.TC Go.Proofs.Ytbomnihiapjmpaa.TD Go.Proofs.Ytbomnihiapjmpaa.TP Go.Proofs.Ytbomnihiapjmpaa.Aa Go.Proofs.Ytbomnihiapjmpaa.Ab Go.Proofs.Ytbomnihiapjmpaa.Ac Go.Proofs.Ytbomnihiapjmpaa.Ad Go.Proofs.Ytbomnihiapjmpaa.Ae Go.Proofs.Ytbomnihiapjmpaa.Af Go.Proofs.Ytbomnihiapjmpaa.Ag
set_option linter.unusedVariables false
set_option linter.unusedSimpArgs false
set_option linter.unusedSectionVars false


theorem tm_two0 {W w : World} {F : List HProp} {q : TQ} {eb ee : En} (h : Sat W (Enp eb :: Enp ee :: TM q :: F) w) : Sat W (Blk q.tb [.pointer (some ⟨q.root, 0, none⟩), .int .i64 q.cnt, .pointer (some ⟨q.s, 0, none⟩)] 180 :: Ens (eb :: ee :: q.EL) :: Sto q.S q.D :: Blk q.s ZZ 177 :: F) w :=
  (tm_open ((tm_two h).drop.drop))
theorem isect0_does (t0 : TypeId) (tb : Nat) (q : TQ) (t : T) (hq : Rep0 t0 q t) (htb : q.tb = tb) (eb ee : En) (hb : eb.t = t0) (he : ee.t = t0) :
    Does Try.prog 139 [.pointer (some ⟨tb, 0, none⟩), .agg #[.iface eb.t eb.u, .iface ee.t ee.u]] [Enp eb, Enp ee, TM q] (fun v L => v = .bool (isect eb.k ee.k t) ∧ L = []) := by
  subst htb
  have hq2 := rep0_two hq hb he
  have h := isect_does (eb :: ee :: q.EL) t0 hq2.hE q.s q.D ZZ q.tb q.root q.cnt q.S hq2.ok hq.rt t hq.z.rm eb ee List.mem_cons_self (List.mem_cons_of_mem _ List.mem_cons_self)
  refine Does.conv (fun W w F h => tm_two0 h) (h.mono ?_)
  rintro v L ⟨hv, rfl⟩
  exact ⟨[], ⟨hv, rfl⟩, fun W w F h => h.drop.drop.drop.drop⟩
theorem pm132 : NilOk Try.prog 132 "Compare" := nilOk_valM (by kernel_rfl)
theorem cont0_does (tb : Nat) (q : TQ) (t : T) (hq : Rep0 132 q t) (htb : q.tb = tb) (hpr : ∀ y ∈ t.ino, klt y.b.k y.e.k) (eb ee : En) (hb : eb.t = 132) (he : ee.t = 132) (hp : klt eb.k ee.k) :
    Does Try.prog 134 [.pointer (some ⟨tb, 0, none⟩), .agg #[.iface eb.t eb.u, .iface ee.t ee.u]] [Enp eb, Enp ee, TM q] (fun v L => v = .bool (contV (cf ⟨none, true⟩ (hits eb.k ee.k t.ino)) eb.k ee.k) ∧ L = []) := by
  subst htb
  have hq2 := rep0_two hq hb he
  have h := contains_does (eb :: ee :: q.EL) 132 hq2.hE q.s q.D ZZ q.tb q.root q.cnt q.S hq2.ok hq.rt t hq.z.rm hq.ids pm132 eb ee List.mem_cons_self (List.mem_cons_of_mem _ List.mem_cons_self)
  refine Does.conv (fun W w F h => tm_two0 h) (h.mono ?_)
  rintro v L ⟨hv, rfl⟩
  have e : contQ q.S q.D eb.k ee.k t = cf ⟨none, true⟩ (hits eb.k ee.k t.ino) := by
    unfold contQ
    rw [cf_vfold _ _ (fun j hj => hq.ids j (vl_ids hj)), vl_items hp hq.z.rm hq.srt hpr]
  rw [e] at hv
  exact ⟨[], ⟨hv, rfl⟩, fun W w F h => h.drop.drop.drop.drop⟩
theorem opn_y {x : ByteArray} (h : x.size = 1) {c : UInt8} (hc : x.toList = [c]) (h0 : ((c.toNat : Nat) : Int) = 0) : opn x = true := by
  have : c = 0 := UInt8.toNat_inj.1 (by have : c.toNat = 0 := by omega
                                        rw [this]; rfl)
  unfold opn; rw [hc, this]; rfl
theorem opn_n {x : ByteArray} {c : UInt8} (hc : x.toList = [c]) (h0 : ¬ ((c.toNat : Nat) : Int) = 0) : opn x = false := by
  unfold opn; rw [decide_eq_false_iff_not, hc]
  intro h1; injection h1 with h1; rw [h1] at h0; exact h0 rfl
theorem opn_s {x : ByteArray} (h : ¬ x.size = 1) : opn x = false := by
  unfold opn; rw [decide_eq_false_iff_not]
  intro h1
  have h2 := congrArg List.length h1
  rw [ByteArray.toList_eq, Array.length_toList] at h2
  exact h h2
set_option maxRecDepth 100000 in
set_option maxHeartbeats 2000000 in
theorem open_does (b cap : Nat) (x : ByteArray) (sp : List Value) (hcap : x.size ≤ cap) : Does Try.prog 106 [.slice (some ⟨b, 0, none⟩) x.size cap] [Blk b (byteCells x ++ sp) 5] (fun v L => v = .bool (opn x) ∧ L = [Blk b (byteCells x ++ sp) 5]) := by
  refine Does.enter 12 Try.func106 rfl rfl rfl fun W F => ?_
  show WPc _ _ _ _ _ [(0, .slice (some ⟨b, 0, none⟩) x.size cap)] (Blk b (byteCells x ++ sp) 5 :: F)
  refine WPc.seq ?_
  refine WPc.region ?_
  refine WP.val rfl rfl rfl (Val.assign rfl rfl) ?_
  refine WP.nil ?_
  refine Out.next ?_
  refine WPc.seq ?_
  refine WPc.region ?_
  refine WP.val rfl rfl rfl (Val.move rfl rfl) ?_
  refine WP.val rfl rfl rfl (Val.len rfl Ty.sl110 rfl) ?_
  refine WP.val rfl rfl rfl (Val.eql rfl rfl rfl) ?_
  refine WP.val rfl rfl rfl (Val.move rfl rfl) ?_
  refine WP.split 6 rfl (fun h1 => ?_) (fun h1 => ?_)
  · skip
    have h1 : (((x.size : Nat) : Int) = (1 : Int)) := h1
    have hz1 : x.size = 1 := by omega
    obtain ⟨c, hc, hcell⟩ := byte0 (x := x) (sp := sp) hz1
    refine WP.valG rfl rfl rfl rfl rfl rfl rfl (Val.move rfl rfl) ?_
    refine WP.valG rfl rfl rfl rfl rfl rfl rfl (Val.indexAddr (j := 0) (q := 0) rfl Ty.sl110 rfl rfl (by omega) (by omega) (by omega)) ?_
    refine WP.valG rfl rfl rfl rfl rfl rfl rfl (Val.load (v := .int .u8 (((c.toNat : Nat) : Int))) rfl Ty.sc5 rfl (fun w h => h.cell 0 rfl hcell)) ?_
    refine WP.valG rfl rfl rfl rfl rfl rfl rfl (Val.eql rfl rfl rfl) ?_
    refine WP.val rfl rfl rfl (Val.pickT rfl rfl rfl) ?_
    refine WP.val rfl rfl rfl (Val.assign rfl rfl) ?_
    refine WP.nil ?_
    refine Out.next ?_
    refine WPc.ret ?_
    exact Out.ret1 (L' := _) Try.results106 rfl ⟨congrArg Value.bool (by by_cases hz : ((c.toNat : Nat) : Int) = 0; rw [opn_y hz1 hc hz]; exact decide_eq_true hz; rw [opn_n hc hz]; exact decide_eq_false hz), rfl⟩ (fun _ h => h)
  · skip
    have h1 : ¬ (((x.size : Nat) : Int) = (1 : Int)) := h1
    refine WP.skip rfl rfl rfl rfl rfl rfl rfl ?_
    refine WP.skip rfl rfl rfl rfl rfl rfl rfl ?_
    refine WP.skip rfl rfl rfl rfl rfl rfl rfl ?_
    refine WP.skip rfl rfl rfl rfl rfl rfl rfl ?_
    refine WP.val rfl rfl rfl (Val.pickF rfl rfl rfl) ?_
    refine WP.val rfl rfl rfl (Val.assign rfl rfl) ?_
    refine WP.nil ?_
    refine Out.next ?_
    refine WPc.ret ?_
    exact Out.ret1 (L' := _) Try.results106 rfl ⟨congrArg Value.bool (opn_s (by omega)).symm, rfl⟩ (fun _ h => h)
set_option maxRecDepth 100000 in
set_option maxHeartbeats 2000000 in
theorem point_does (ub kb ck : Nat) (key : ByteArray) (sk : List Value) (hck : key.size ≤ ck) (hkz : key.size ≤ 1000) (q1 q2 : TQ) (t1 t2 : T) (hR1 : Rep0 132 q1 t1) (hR2 : Rep0 132 q2 t2) (kd : Int) (hkd : kd = 0 ∨ kd = 1) : Does Try.prog 91 [.pointer none, .pointer (some ⟨ub, 0, none⟩), .slice (some ⟨kb, 0, none⟩) key.size ck, .int .i32 (kd)] [Blk ub [.iface 178 (.pointer (some ⟨q1.tb, 0, none⟩)), .iface 178 (.pointer (some ⟨q2.tb, 0, none⟩))] 252, Blk kb (byteCells key ++ sk) 5, TM q1, TM q2] (fun v L => v = .bool (isect (ka key) (ka (key ++ (⟨#[0]⟩ : ByteArray))) (if kd = 0 then t1 else t2)) ∧ L = []) := by
  refine Does.enter 30 Try.func91 rfl rfl rfl fun W F => ?_
  show WPc _ _ _ _ _ [(0, .pointer none), (1, .pointer (some ⟨ub, 0, none⟩)), (2, .slice (some ⟨kb, 0, none⟩) key.size ck), (3, .int .i32 (kd))] (Blk ub [.iface 178 (.pointer (some ⟨q1.tb, 0, none⟩)), .iface 178 (.pointer (some ⟨q2.tb, 0, none⟩))] 252 :: Blk kb (byteCells key ++ sk) 5 :: TM q1 :: TM q2 :: F)
  refine WPc.seq ?_
  refine WPc.region ?_
  refine WP.val rfl rfl rfl (Val.assign rfl rfl) ?_
  refine WP.nil ?_
  refine Out.next ?_
  refine WPc.seq ?_
  refine WPc.region ?_
  refine WP.val rfl rfl rfl (Val.move rfl rfl) ?_
  refine WP.perm pl1 ?_
  refine WP.eff rfl rfl rfl (Eff.call rfl rfl Try.call105 (bap_does kb ck sk key (by omega) hck)) ?_
  rintro _ _ ⟨_, ⟨gp, rfl, rfl⟩, rfl⟩
  show WP _ _ _ _ _ _ _ (Blk kb (byteCells key ++ sk) 5 :: Blk gp (byteCells key ++ [Value.int .u8 0]) 5 :: Blk ub [.iface 178 (.pointer (some ⟨q1.tb, 0, none⟩)), .iface 178 (.pointer (some ⟨q2.tb, 0, none⟩))] 252 :: TM q1 :: TM q2 :: F)
  refine WP.eff rfl rfl rfl (Eff.alloc rfl Ty.z172) ?_
  rintro _ _ ⟨b1, rfl, rfl⟩
  refine WP.eff0 rfl rfl (Eff.storeAgg (cs := [.iface 132 (.slice (some ⟨kb, 0, none⟩) key.size ck), .iface 132 (.slice (some ⟨gp, 0, none⟩) ((key.size + 1)) ((key.size + 1)))]) (C' := [.iface 132 (.slice (some ⟨kb, 0, none⟩) key.size ck), .iface 132 (.slice (some ⟨gp, 0, none⟩) ((key.size + 1)) ((key.size + 1)))]) rfl Ty.ag172 rfl rfl rfl rfl (by simp) rfl) ?_
  rintro _ _ rfl
  refine WP.nil ?_
  refine Out.next ?_
  refine WPc.seq ?_
  refine WPc.seq ?_
  refine WPc.perm pl1 ?_
  refine WPc.conv (fun w h => enp_b key hck h) ?_
  refine WPc.perm pl2 ?_
  refine WPc.conv (fun w h => enp_0 key h) ?_
  show WPc _ _ _ _ _ _ (Enp (⟨ka (key ++ (⟨#[0]⟩ : ByteArray)), 132, .slice (some ⟨gp, 0, none⟩) (key.size + 1) (key.size + 1)⟩ : En) :: Enp (⟨ka key, 132, .slice (some ⟨kb, 0, none⟩) key.size ck⟩ : En) :: Blk b1 [.iface 132 (.slice (some ⟨kb, 0, none⟩) key.size ck), .iface 132 (.slice (some ⟨gp, 0, none⟩) ((key.size + 1)) ((key.size + 1)))] 172 :: Blk ub [.iface 178 (.pointer (some ⟨q1.tb, 0, none⟩)), .iface 178 (.pointer (some ⟨q2.tb, 0, none⟩))] 252 :: TM q1 :: TM q2 :: F)
  refine WPc.region ?_
  refine WP.val rfl rfl rfl (Val.move rfl rfl) ?_
  refine WP.nil ?_
  refine Out.next ?_
  refine WPc.block ?_
  refine WPc.seq ?_
  refine WPc.region ?_
  refine WP.val rfl rfl rfl (Val.eql rfl rfl rfl) ?_
  refine WP.val rfl rfl rfl (Val.assign rfl rfl) ?_
  refine WP.nil ?_
  refine Out.next ?_
  refine WPc.ifP rfl (fun h1 => ?_) (fun h1 => ?_)
  · skip
    have h1 : (kd = (0 : Int)) := h1
    refine WPc.seq ?_
    refine WPD.start (Sat W (Enp (⟨ka (key ++ (⟨#[0]⟩ : ByteArray)), 132, .slice (some ⟨gp, 0, none⟩) (key.size + 1) (key.size + 1)⟩ : En) :: Enp (⟨ka key, 132, .slice (some ⟨kb, 0, none⟩) key.size ck⟩ : En) :: Blk b1 [.iface 132 (.slice (some ⟨kb, 0, none⟩) key.size ck), .iface 132 (.slice (some ⟨gp, 0, none⟩) ((key.size + 1)) ((key.size + 1)))] 172 :: Blk ub [.iface 178 (.pointer (some ⟨q1.tb, 0, none⟩)), .iface 178 (.pointer (some ⟨q2.tb, 0, none⟩))] 252 :: TM q1 :: TM q2 :: F)) Ty.mixed ?_
    refine WPD.takeM 0 rfl rfl rfl rfl (by kernel_rfl) (by kernel_rfl) (by kernel_rfl) (by kernel_rfl) (fun _ _ _ h => h) (fun _ h => h) (Val.move rfl rfl) ?_
    refine WPD.takeM 1 rfl rfl rfl rfl (by kernel_rfl) (by kernel_rfl) (by kernel_rfl) (by kernel_rfl) (fun _ _ _ h => h) (fun _ h => h) (Val.nilCheck rfl rfl) ?_
    refine WPD.takeM 2 rfl rfl rfl rfl (by kernel_rfl) (by kernel_rfl) (by kernel_rfl) (by kernel_rfl) (fun _ _ _ h => h) (fun _ h => h) (Val.fieldAddr (j := 0) rfl Ty.fo252_0 rfl rfl) ?_
    refine WPD.take 3 rfl rfl rfl rfl (by kernel_rfl) (by kernel_rfl) (by kernel_rfl) (by kernel_rfl) (fun _ _ _ h => h) (by kernel_rfl) (fun _ h => h) (Val.load rfl Ty.sc122 rfl (fun w h => h.cell 3 rfl rfl)) ?_
    refine WPD.take 4 rfl rfl rfl rfl (by kernel_rfl) (by kernel_rfl) (by kernel_rfl) (by kernel_rfl) (fun _ _ _ h => h) (by kernel_rfl) (fun _ h => h) (Val.loadAgg (cs := [.iface 132 (.slice (some ⟨kb, 0, none⟩) key.size ck), .iface 132 (.slice (some ⟨gp, 0, none⟩) ((key.size + 1)) ((key.size + 1)))]) rfl Ty.ag172 rfl rfl (fun w h => h.range 2 rfl rfl)) ?_
    refine WPD.perm pl4 ?_
    refine WPD.perm pl1 ?_
    refine WPD.perm pl2 ?_
    refine WPD.stepC 5 (by kernel_rfl) rfl rfl rfl rfl (by kernel_rfl) (Eff.invoke (f := 139) rfl rfl rfl (fun _ => by kernel_rfl) Try.call139 (isect0_does 132 q1.tb q1 t1 hR1 rfl (⟨ka key, 132, .slice (some ⟨kb, 0, none⟩) key.size ck⟩ : En) (⟨ka (key ++ (⟨#[0]⟩ : ByteArray)), 132, .slice (some ⟨gp, 0, none⟩) (key.size + 1) (key.size + 1)⟩ : En) rfl rfl)) ?_
    rintro _ _ ⟨_, ⟨rfl, rfl⟩, rfl⟩
    refine ⟨(Sat W (Blk b1 [.iface 132 (.slice (some ⟨kb, 0, none⟩) key.size ck), .iface 132 (.slice (some ⟨gp, 0, none⟩) ((key.size + 1)) ((key.size + 1)))] 172 :: Blk ub [.iface 178 (.pointer (some ⟨q1.tb, 0, none⟩)), .iface 178 (.pointer (some ⟨q2.tb, 0, none⟩))] 252 :: TM q2 :: F)), (fun _ h => h), ?_⟩
    show WPD _ _ _ _ _ _ _ _ _ (Blk b1 [.iface 132 (.slice (some ⟨kb, 0, none⟩) key.size ck), .iface 132 (.slice (some ⟨gp, 0, none⟩) ((key.size + 1)) ((key.size + 1)))] 172 :: Blk ub [.iface 178 (.pointer (some ⟨q1.tb, 0, none⟩)), .iface 178 (.pointer (some ⟨q2.tb, 0, none⟩))] 252 :: TM q2 :: F)
    refine WPD.takeM 6 rfl rfl rfl rfl (by kernel_rfl) (by kernel_rfl) (by kernel_rfl) (by kernel_rfl) (fun _ _ _ h => h) (fun _ h => h) (Val.assign rfl rfl) ?_
    refine WPD.done (by kernel_rfl) ?_
    refine Out.next ?_
    refine WPc.ret ?_
    refine Out.block_ret ?_
    refine Out.then_ret ?_
    refine Out.drop ?_
    refine Out.drop ?_
    refine Out.drop ?_
    exact Out.ret1 (L' := []) Try.results91 rfl ⟨congrArg Value.bool (by rw [if_pos (by assumption)]), rfl⟩ (fun w h => by first | exact h | exact h.drop | exact h.drop.drop | exact h.drop.drop.drop)
  · skip
    have h1 : ¬ (kd = (0 : Int)) := h1
    refine WPc.seq ?_
    refine WPc.region ?_
    refine WP.val rfl rfl rfl (Val.eql rfl rfl rfl) ?_
    refine WP.val rfl rfl rfl (Val.assign rfl rfl) ?_
    refine WP.nil ?_
    refine Out.next ?_
    refine WPc.ifP rfl (fun h2 => ?_) (fun h2 => ?_)
    · skip
      have h2 : (kd = (1 : Int)) := h2
      refine WPc.seq ?_
      refine WPD.start (Sat W (Enp (⟨ka (key ++ (⟨#[0]⟩ : ByteArray)), 132, .slice (some ⟨gp, 0, none⟩) (key.size + 1) (key.size + 1)⟩ : En) :: Enp (⟨ka key, 132, .slice (some ⟨kb, 0, none⟩) key.size ck⟩ : En) :: Blk b1 [.iface 132 (.slice (some ⟨kb, 0, none⟩) key.size ck), .iface 132 (.slice (some ⟨gp, 0, none⟩) ((key.size + 1)) ((key.size + 1)))] 172 :: Blk ub [.iface 178 (.pointer (some ⟨q1.tb, 0, none⟩)), .iface 178 (.pointer (some ⟨q2.tb, 0, none⟩))] 252 :: TM q1 :: TM q2 :: F)) Ty.mixed ?_
      refine WPD.takeM 0 rfl rfl rfl rfl (by kernel_rfl) (by kernel_rfl) (by kernel_rfl) (by kernel_rfl) (fun _ _ _ h => h) (fun _ h => h) (Val.move rfl rfl) ?_
      refine WPD.takeM 1 rfl rfl rfl rfl (by kernel_rfl) (by kernel_rfl) (by kernel_rfl) (by kernel_rfl) (fun _ _ _ h => h) (fun _ h => h) (Val.nilCheck rfl rfl) ?_
      refine WPD.takeM 2 rfl rfl rfl rfl (by kernel_rfl) (by kernel_rfl) (by kernel_rfl) (by kernel_rfl) (fun _ _ _ h => h) (fun _ h => h) (Val.fieldAddr (j := 1) rfl Ty.fo252_1 rfl rfl) ?_
      refine WPD.take 3 rfl rfl rfl rfl (by kernel_rfl) (by kernel_rfl) (by kernel_rfl) (by kernel_rfl) (fun _ _ _ h => h) (by kernel_rfl) (fun _ h => h) (Val.load rfl Ty.sc122 rfl (fun w h => h.cell 3 rfl rfl)) ?_
      refine WPD.take 4 rfl rfl rfl rfl (by kernel_rfl) (by kernel_rfl) (by kernel_rfl) (by kernel_rfl) (fun _ _ _ h => h) (by kernel_rfl) (fun _ h => h) (Val.loadAgg (cs := [.iface 132 (.slice (some ⟨kb, 0, none⟩) key.size ck), .iface 132 (.slice (some ⟨gp, 0, none⟩) ((key.size + 1)) ((key.size + 1)))]) rfl Ty.ag172 rfl rfl (fun w h => h.range 2 rfl rfl)) ?_
      refine WPD.perm pl5 ?_
      refine WPD.perm pl1 ?_
      refine WPD.perm pl2 ?_
      refine WPD.stepC 5 (by kernel_rfl) rfl rfl rfl rfl (by kernel_rfl) (Eff.invoke (f := 139) rfl rfl rfl (fun _ => by kernel_rfl) Try.call139 (isect0_does 132 q2.tb q2 t2 hR2 rfl (⟨ka key, 132, .slice (some ⟨kb, 0, none⟩) key.size ck⟩ : En) (⟨ka (key ++ (⟨#[0]⟩ : ByteArray)), 132, .slice (some ⟨gp, 0, none⟩) (key.size + 1) (key.size + 1)⟩ : En) rfl rfl)) ?_
      rintro _ _ ⟨_, ⟨rfl, rfl⟩, rfl⟩
      refine ⟨(Sat W (Blk b1 [.iface 132 (.slice (some ⟨kb, 0, none⟩) key.size ck), .iface 132 (.slice (some ⟨gp, 0, none⟩) ((key.size + 1)) ((key.size + 1)))] 172 :: Blk ub [.iface 178 (.pointer (some ⟨q1.tb, 0, none⟩)), .iface 178 (.pointer (some ⟨q2.tb, 0, none⟩))] 252 :: TM q1 :: F)), (fun _ h => h), ?_⟩
      show WPD _ _ _ _ _ _ _ _ _ (Blk b1 [.iface 132 (.slice (some ⟨kb, 0, none⟩) key.size ck), .iface 132 (.slice (some ⟨gp, 0, none⟩) ((key.size + 1)) ((key.size + 1)))] 172 :: Blk ub [.iface 178 (.pointer (some ⟨q1.tb, 0, none⟩)), .iface 178 (.pointer (some ⟨q2.tb, 0, none⟩))] 252 :: TM q1 :: F)
      refine WPD.takeM 6 rfl rfl rfl rfl (by kernel_rfl) (by kernel_rfl) (by kernel_rfl) (by kernel_rfl) (fun _ _ _ h => h) (fun _ h => h) (Val.assign rfl rfl) ?_
      refine WPD.done (by kernel_rfl) ?_
      refine Out.next ?_
      refine WPc.ret ?_
      refine Out.block_ret ?_
      refine Out.then_ret ?_
      refine Out.drop ?_
      refine Out.drop ?_
      refine Out.drop ?_
      exact Out.ret1 (L' := []) Try.results91 rfl ⟨congrArg Value.bool (by rw [if_neg (by assumption)]), rfl⟩ (fun w h => by first | exact h | exact h.drop | exact h.drop.drop | exact h.drop.drop.drop)
    · skip
      have h2 : ¬ (kd = (1 : Int)) := h2
      exfalso; omega
set_option maxRecDepth 100000 in
set_option maxHeartbeats 2000000 in
theorem intv_does (ub kb ck : Nat) (key : ByteArray) (sk : List Value) (hck : key.size ≤ ck) (hkz : key.size ≤ 1000) (fb cf0 : Nat) (fin : ByteArray) (sf : List Value) (hcf : fin.size ≤ cf0) (hf0 : fin.size ≠ 0) (q1 q2 : TQ) (t1 t2 : T) (hR1 : Rep0 132 q1 t1) (hR2 : Rep0 132 q2 t2) (hp1 : ∀ y ∈ t1.ino, klt y.b.k y.e.k) (hp2 : ∀ y ∈ t2.ino, klt y.b.k y.e.k) (hpq : klt (ka key) (qE key fin)) (kd : Int) (hkd : kd = 0 ∨ kd = 1) : Does Try.prog 92 [.pointer none, .pointer (some ⟨ub, 0, none⟩), .slice (some ⟨kb, 0, none⟩) key.size ck, .slice (some ⟨fb, 0, none⟩) fin.size cf0, .int .i32 (kd)] [Blk ub [.iface 178 (.pointer (some ⟨q1.tb, 0, none⟩)), .iface 178 (.pointer (some ⟨q2.tb, 0, none⟩))] 252, Blk kb (byteCells key ++ sk) 5, Blk fb (byteCells fin ++ sf) 5, TM q1, TM q2] (fun v L => v = .bool (contV (cf ⟨none, true⟩ (hits (ka key) (qE key fin) (if kd = 0 then t1 else t2).ino)) (ka key) (qE key fin)) ∧ L = []) := by
  refine Does.enter 35 Try.func92 rfl rfl rfl fun W F => ?_
  show WPc _ _ _ _ _ [(0, .pointer none), (1, .pointer (some ⟨ub, 0, none⟩)), (2, .slice (some ⟨kb, 0, none⟩) key.size ck), (3, .slice (some ⟨fb, 0, none⟩) fin.size cf0), (4, .int .i32 (kd))] (Blk ub [.iface 178 (.pointer (some ⟨q1.tb, 0, none⟩)), .iface 178 (.pointer (some ⟨q2.tb, 0, none⟩))] 252 :: Blk kb (byteCells key ++ sk) 5 :: Blk fb (byteCells fin ++ sf) 5 :: TM q1 :: TM q2 :: F)
  refine WPc.seq ?_
  refine WPc.region ?_
  refine WP.val rfl rfl rfl (Val.assign rfl rfl) ?_
  refine WP.nil ?_
  refine Out.next ?_
  refine WPc.seq ?_
  refine WPc.seq ?_
  refine WPc.region ?_
  refine WP.val rfl rfl rfl (Val.move rfl rfl) ?_
  refine WP.perm pl2 ?_
  refine WP.eff rfl rfl rfl (Eff.call rfl rfl Try.call106 (open_does fb cf0 fin sf hcf)) ?_
  rintro _ _ ⟨_, ⟨rfl, rfl⟩, rfl⟩
  show WP _ _ _ _ _ _ _ (Blk fb (byteCells fin ++ sf) 5 :: Blk ub [.iface 178 (.pointer (some ⟨q1.tb, 0, none⟩)), .iface 178 (.pointer (some ⟨q2.tb, 0, none⟩))] 252 :: Blk kb (byteCells key ++ sk) 5 :: TM q1 :: TM q2 :: F)
  refine WP.nil ?_
  refine Out.next ?_
  refine WPc.cond rfl (fun h1 => ?_) (fun h1 => ?_)
  · skip
    have h1 : (opn fin) = true := h1
    refine WPc.region ?_
    refine WP.val rfl rfl rfl (Val.assign rfl rfl) ?_
    refine WP.nil ?_
    refine Out.next ?_
    refine WPc.seq ?_
    refine WPc.region ?_
    refine WP.val rfl rfl rfl (Val.move rfl rfl) ?_
    refine WP.val rfl rfl rfl (Val.move rfl rfl) ?_
    refine WP.eff rfl rfl rfl (Eff.call rfl rfl Try.call104 (bai_does (.slice (some ⟨kb, 0, none⟩) key.size ck) (.slice none 0 0))) ?_
    rintro _ _ ⟨_, ⟨rfl, rfl⟩, rfl⟩
    show WP _ _ _ _ _ _ _ (Blk fb (byteCells fin ++ sf) 5 :: Blk ub [.iface 178 (.pointer (some ⟨q1.tb, 0, none⟩)), .iface 178 (.pointer (some ⟨q2.tb, 0, none⟩))] 252 :: Blk kb (byteCells key ++ sk) 5 :: TM q1 :: TM q2 :: F)
    refine WP.eff rfl rfl rfl (Eff.alloc rfl Ty.z172) ?_
    rintro _ _ ⟨b1, rfl, rfl⟩
    refine WP.eff0 rfl rfl (Eff.storeAgg (cs := [.iface 132 (.slice (some ⟨kb, 0, none⟩) key.size ck), .iface 132 (.slice none 0 0)]) (C' := [.iface 132 (.slice (some ⟨kb, 0, none⟩) key.size ck), .iface 132 (.slice none 0 0)]) rfl Ty.ag172 rfl rfl rfl rfl (by simp) rfl) ?_
    rintro _ _ rfl
    refine WP.nil ?_
    refine Out.next ?_
    refine WPc.seq ?_
    refine WPc.seq ?_
    refine WPc.perm pl3 ?_
    refine WPc.conv (fun w h => enp_b key hck h) ?_
    refine WPc.conv (fun w h => enp_nil h) ?_
    show WPc _ _ _ _ _ _ (Enp (⟨top, 132, .slice none 0 0⟩ : En) :: Enp (⟨ka key, 132, .slice (some ⟨kb, 0, none⟩) key.size ck⟩ : En) :: Blk b1 [.iface 132 (.slice (some ⟨kb, 0, none⟩) key.size ck), .iface 132 (.slice none 0 0)] 172 :: Blk fb (byteCells fin ++ sf) 5 :: Blk ub [.iface 178 (.pointer (some ⟨q1.tb, 0, none⟩)), .iface 178 (.pointer (some ⟨q2.tb, 0, none⟩))] 252 :: TM q1 :: TM q2 :: F)
    have hee : (⟨top, 132, .slice none 0 0⟩ : En).k = qE key fin := by show _ = if fin.size = 0 then _ else _; rw [if_neg hf0]; first | (rw [if_pos (by assumption)]; done) | (rw [if_neg (by simp_all)]; done)
    refine WPc.region ?_
    refine WP.val rfl rfl rfl (Val.move rfl rfl) ?_
    refine WP.nil ?_
    refine Out.next ?_
    refine WPc.block ?_
    refine WPc.seq ?_
    refine WPc.region ?_
    refine WP.val rfl rfl rfl (Val.eql rfl rfl rfl) ?_
    refine WP.val rfl rfl rfl (Val.assign rfl rfl) ?_
    refine WP.nil ?_
    refine Out.next ?_
    refine WPc.ifP rfl (fun h2 => ?_) (fun h2 => ?_)
    · skip
      have h2 : (kd = (0 : Int)) := h2
      refine WPc.seq ?_
      refine WPD.start (Sat W (Enp (⟨top, 132, .slice none 0 0⟩ : En) :: Enp (⟨ka key, 132, .slice (some ⟨kb, 0, none⟩) key.size ck⟩ : En) :: Blk b1 [.iface 132 (.slice (some ⟨kb, 0, none⟩) key.size ck), .iface 132 (.slice none 0 0)] 172 :: Blk fb (byteCells fin ++ sf) 5 :: Blk ub [.iface 178 (.pointer (some ⟨q1.tb, 0, none⟩)), .iface 178 (.pointer (some ⟨q2.tb, 0, none⟩))] 252 :: TM q1 :: TM q2 :: F)) Ty.mixed ?_
      refine WPD.takeM 0 rfl rfl rfl rfl (by kernel_rfl) (by kernel_rfl) (by kernel_rfl) (by kernel_rfl) (fun _ _ _ h => h) (fun _ h => h) (Val.move rfl rfl) ?_
      refine WPD.takeM 1 rfl rfl rfl rfl (by kernel_rfl) (by kernel_rfl) (by kernel_rfl) (by kernel_rfl) (fun _ _ _ h => h) (fun _ h => h) (Val.nilCheck rfl rfl) ?_
      refine WPD.takeM 2 rfl rfl rfl rfl (by kernel_rfl) (by kernel_rfl) (by kernel_rfl) (by kernel_rfl) (fun _ _ _ h => h) (fun _ h => h) (Val.fieldAddr (j := 0) rfl Ty.fo252_0 rfl rfl) ?_
      refine WPD.take 3 rfl rfl rfl rfl (by kernel_rfl) (by kernel_rfl) (by kernel_rfl) (by kernel_rfl) (fun _ _ _ h => h) (by kernel_rfl) (fun _ h => h) (Val.load rfl Ty.sc122 rfl (fun w h => h.cell 4 rfl rfl)) ?_
      refine WPD.take 4 rfl rfl rfl rfl (by kernel_rfl) (by kernel_rfl) (by kernel_rfl) (by kernel_rfl) (fun _ _ _ h => h) (by kernel_rfl) (fun _ h => h) (Val.loadAgg (cs := [.iface 132 (.slice (some ⟨kb, 0, none⟩) key.size ck), .iface 132 (.slice none 0 0)]) rfl Ty.ag172 rfl rfl (fun w h => h.range 2 rfl rfl)) ?_
      refine WPD.perm pl5 ?_
      refine WPD.perm pl1 ?_
      refine WPD.perm pl2 ?_
      refine WPD.stepC 5 (by kernel_rfl) rfl rfl rfl rfl (by kernel_rfl) (Eff.invoke (f := 134) rfl rfl rfl (fun _ => by kernel_rfl) Try.call134 (cont0_does q1.tb q1 t1 hR1 rfl hp1 (⟨ka key, 132, .slice (some ⟨kb, 0, none⟩) key.size ck⟩ : En) (⟨top, 132, .slice none 0 0⟩ : En) rfl rfl (by have h := hpq; rw [← hee] at h; exact h))) ?_
      rintro _ _ ⟨_, ⟨rfl, rfl⟩, rfl⟩
      refine ⟨(Sat W (Blk b1 [.iface 132 (.slice (some ⟨kb, 0, none⟩) key.size ck), .iface 132 (.slice none 0 0)] 172 :: Blk fb (byteCells fin ++ sf) 5 :: Blk ub [.iface 178 (.pointer (some ⟨q1.tb, 0, none⟩)), .iface 178 (.pointer (some ⟨q2.tb, 0, none⟩))] 252 :: TM q2 :: F)), (fun _ h => h), ?_⟩
      show WPD _ _ _ _ _ _ _ _ _ (Blk b1 [.iface 132 (.slice (some ⟨kb, 0, none⟩) key.size ck), .iface 132 (.slice none 0 0)] 172 :: Blk fb (byteCells fin ++ sf) 5 :: Blk ub [.iface 178 (.pointer (some ⟨q1.tb, 0, none⟩)), .iface 178 (.pointer (some ⟨q2.tb, 0, none⟩))] 252 :: TM q2 :: F)
      refine WPD.takeM 6 rfl rfl rfl rfl (by kernel_rfl) (by kernel_rfl) (by kernel_rfl) (by kernel_rfl) (fun _ _ _ h => h) (fun _ h => h) (Val.assign rfl rfl) ?_
      refine WPD.done (by kernel_rfl) ?_
      refine Out.next ?_
      refine WPc.ret ?_
      refine Out.block_ret ?_
      refine Out.then_ret ?_
      refine Out.drop ?_
      refine Out.drop ?_
      refine Out.drop ?_
      refine Out.drop ?_
      exact Out.ret1 (L' := []) Try.results92 rfl ⟨congrArg Value.bool (by rw [if_pos (by assumption), ← hee]), rfl⟩ (fun w h => by first | exact h | exact h.drop | exact h.drop.drop | exact h.drop.drop.drop)
    · skip
      have h2 : ¬ (kd = (0 : Int)) := h2
      refine WPc.seq ?_
      refine WPc.region ?_
      refine WP.val rfl rfl rfl (Val.eql rfl rfl rfl) ?_
      refine WP.val rfl rfl rfl (Val.assign rfl rfl) ?_
      refine WP.nil ?_
      refine Out.next ?_
      refine WPc.ifP rfl (fun h3 => ?_) (fun h3 => ?_)
      · skip
        have h3 : (kd = (1 : Int)) := h3
        refine WPc.seq ?_
        refine WPD.start (Sat W (Enp (⟨top, 132, .slice none 0 0⟩ : En) :: Enp (⟨ka key, 132, .slice (some ⟨kb, 0, none⟩) key.size ck⟩ : En) :: Blk b1 [.iface 132 (.slice (some ⟨kb, 0, none⟩) key.size ck), .iface 132 (.slice none 0 0)] 172 :: Blk fb (byteCells fin ++ sf) 5 :: Blk ub [.iface 178 (.pointer (some ⟨q1.tb, 0, none⟩)), .iface 178 (.pointer (some ⟨q2.tb, 0, none⟩))] 252 :: TM q1 :: TM q2 :: F)) Ty.mixed ?_
        refine WPD.takeM 0 rfl rfl rfl rfl (by kernel_rfl) (by kernel_rfl) (by kernel_rfl) (by kernel_rfl) (fun _ _ _ h => h) (fun _ h => h) (Val.move rfl rfl) ?_
        refine WPD.takeM 1 rfl rfl rfl rfl (by kernel_rfl) (by kernel_rfl) (by kernel_rfl) (by kernel_rfl) (fun _ _ _ h => h) (fun _ h => h) (Val.nilCheck rfl rfl) ?_
        refine WPD.takeM 2 rfl rfl rfl rfl (by kernel_rfl) (by kernel_rfl) (by kernel_rfl) (by kernel_rfl) (fun _ _ _ h => h) (fun _ h => h) (Val.fieldAddr (j := 1) rfl Ty.fo252_1 rfl rfl) ?_
        refine WPD.take 3 rfl rfl rfl rfl (by kernel_rfl) (by kernel_rfl) (by kernel_rfl) (by kernel_rfl) (fun _ _ _ h => h) (by kernel_rfl) (fun _ h => h) (Val.load rfl Ty.sc122 rfl (fun w h => h.cell 4 rfl rfl)) ?_
        refine WPD.take 4 rfl rfl rfl rfl (by kernel_rfl) (by kernel_rfl) (by kernel_rfl) (by kernel_rfl) (fun _ _ _ h => h) (by kernel_rfl) (fun _ h => h) (Val.loadAgg (cs := [.iface 132 (.slice (some ⟨kb, 0, none⟩) key.size ck), .iface 132 (.slice none 0 0)]) rfl Ty.ag172 rfl rfl (fun w h => h.range 2 rfl rfl)) ?_
        refine WPD.perm pl6 ?_
        refine WPD.perm pl1 ?_
        refine WPD.perm pl2 ?_
        refine WPD.stepC 5 (by kernel_rfl) rfl rfl rfl rfl (by kernel_rfl) (Eff.invoke (f := 134) rfl rfl rfl (fun _ => by kernel_rfl) Try.call134 (cont0_does q2.tb q2 t2 hR2 rfl hp2 (⟨ka key, 132, .slice (some ⟨kb, 0, none⟩) key.size ck⟩ : En) (⟨top, 132, .slice none 0 0⟩ : En) rfl rfl (by have h := hpq; rw [← hee] at h; exact h))) ?_
        rintro _ _ ⟨_, ⟨rfl, rfl⟩, rfl⟩
        refine ⟨(Sat W (Blk b1 [.iface 132 (.slice (some ⟨kb, 0, none⟩) key.size ck), .iface 132 (.slice none 0 0)] 172 :: Blk fb (byteCells fin ++ sf) 5 :: Blk ub [.iface 178 (.pointer (some ⟨q1.tb, 0, none⟩)), .iface 178 (.pointer (some ⟨q2.tb, 0, none⟩))] 252 :: TM q1 :: F)), (fun _ h => h), ?_⟩
        show WPD _ _ _ _ _ _ _ _ _ (Blk b1 [.iface 132 (.slice (some ⟨kb, 0, none⟩) key.size ck), .iface 132 (.slice none 0 0)] 172 :: Blk fb (byteCells fin ++ sf) 5 :: Blk ub [.iface 178 (.pointer (some ⟨q1.tb, 0, none⟩)), .iface 178 (.pointer (some ⟨q2.tb, 0, none⟩))] 252 :: TM q1 :: F)
        refine WPD.takeM 6 rfl rfl rfl rfl (by kernel_rfl) (by kernel_rfl) (by kernel_rfl) (by kernel_rfl) (fun _ _ _ h => h) (fun _ h => h) (Val.assign rfl rfl) ?_
        refine WPD.done (by kernel_rfl) ?_
        refine Out.next ?_
        refine WPc.ret ?_
        refine Out.block_ret ?_
        refine Out.then_ret ?_
        refine Out.drop ?_
        refine Out.drop ?_
        refine Out.drop ?_
        refine Out.drop ?_
        exact Out.ret1 (L' := []) Try.results92 rfl ⟨congrArg Value.bool (by rw [if_neg (by assumption), ← hee]), rfl⟩ (fun w h => by first | exact h | exact h.drop | exact h.drop.drop | exact h.drop.drop.drop)
      · skip
        have h3 : ¬ (kd = (1 : Int)) := h3
        exfalso; omega
  · skip
    have h1 : (opn fin) = false := h1
    refine WPc.skip ?_
    refine Out.next ?_
    refine WPc.seq ?_
    refine WPc.region ?_
    refine WP.val rfl rfl rfl (Val.move rfl rfl) ?_
    refine WP.val rfl rfl rfl (Val.move rfl rfl) ?_
    refine WP.eff rfl rfl rfl (Eff.call rfl rfl Try.call104 (bai_does (.slice (some ⟨kb, 0, none⟩) key.size ck) (.slice (some ⟨fb, 0, none⟩) fin.size cf0))) ?_
    rintro _ _ ⟨_, ⟨rfl, rfl⟩, rfl⟩
    show WP _ _ _ _ _ _ _ (Blk fb (byteCells fin ++ sf) 5 :: Blk ub [.iface 178 (.pointer (some ⟨q1.tb, 0, none⟩)), .iface 178 (.pointer (some ⟨q2.tb, 0, none⟩))] 252 :: Blk kb (byteCells key ++ sk) 5 :: TM q1 :: TM q2 :: F)
    refine WP.eff rfl rfl rfl (Eff.alloc rfl Ty.z172) ?_
    rintro _ _ ⟨b2, rfl, rfl⟩
    refine WP.eff0 rfl rfl (Eff.storeAgg (cs := [.iface 132 (.slice (some ⟨kb, 0, none⟩) key.size ck), .iface 132 (.slice (some ⟨fb, 0, none⟩) fin.size cf0)]) (C' := [.iface 132 (.slice (some ⟨kb, 0, none⟩) key.size ck), .iface 132 (.slice (some ⟨fb, 0, none⟩) fin.size cf0)]) rfl Ty.ag172 rfl rfl rfl rfl (by simp) rfl) ?_
    rintro _ _ rfl
    refine WP.nil ?_
    refine Out.next ?_
    refine WPc.seq ?_
    refine WPc.seq ?_
    refine WPc.perm pl3 ?_
    refine WPc.conv (fun w h => enp_b key hck h) ?_
    refine WPc.perm pl2 ?_
    refine WPc.conv (fun w h => enp_b fin hcf h) ?_
    show WPc _ _ _ _ _ _ (Enp (⟨ka fin, 132, .slice (some ⟨fb, 0, none⟩) fin.size cf0⟩ : En) :: Enp (⟨ka key, 132, .slice (some ⟨kb, 0, none⟩) key.size ck⟩ : En) :: Blk b2 [.iface 132 (.slice (some ⟨kb, 0, none⟩) key.size ck), .iface 132 (.slice (some ⟨fb, 0, none⟩) fin.size cf0)] 172 :: Blk ub [.iface 178 (.pointer (some ⟨q1.tb, 0, none⟩)), .iface 178 (.pointer (some ⟨q2.tb, 0, none⟩))] 252 :: TM q1 :: TM q2 :: F)
    have hee : (⟨ka fin, 132, .slice (some ⟨fb, 0, none⟩) fin.size cf0⟩ : En).k = qE key fin := by show _ = if fin.size = 0 then _ else _; rw [if_neg hf0]; first | (rw [if_pos (by assumption)]; done) | (rw [if_neg (by simp_all)]; done)
    refine WPc.region ?_
    refine WP.val rfl rfl rfl (Val.move rfl rfl) ?_
    refine WP.nil ?_
    refine Out.next ?_
    refine WPc.block ?_
    refine WPc.seq ?_
    refine WPc.region ?_
    refine WP.val rfl rfl rfl (Val.eql rfl rfl rfl) ?_
    refine WP.val rfl rfl rfl (Val.assign rfl rfl) ?_
    refine WP.nil ?_
    refine Out.next ?_
    refine WPc.ifP rfl (fun h4 => ?_) (fun h4 => ?_)
    · skip
      have h4 : (kd = (0 : Int)) := h4
      refine WPc.seq ?_
      refine WPD.start (Sat W (Enp (⟨ka fin, 132, .slice (some ⟨fb, 0, none⟩) fin.size cf0⟩ : En) :: Enp (⟨ka key, 132, .slice (some ⟨kb, 0, none⟩) key.size ck⟩ : En) :: Blk b2 [.iface 132 (.slice (some ⟨kb, 0, none⟩) key.size ck), .iface 132 (.slice (some ⟨fb, 0, none⟩) fin.size cf0)] 172 :: Blk ub [.iface 178 (.pointer (some ⟨q1.tb, 0, none⟩)), .iface 178 (.pointer (some ⟨q2.tb, 0, none⟩))] 252 :: TM q1 :: TM q2 :: F)) Ty.mixed ?_
      refine WPD.takeM 0 rfl rfl rfl rfl (by kernel_rfl) (by kernel_rfl) (by kernel_rfl) (by kernel_rfl) (fun _ _ _ h => h) (fun _ h => h) (Val.move rfl rfl) ?_
      refine WPD.takeM 1 rfl rfl rfl rfl (by kernel_rfl) (by kernel_rfl) (by kernel_rfl) (by kernel_rfl) (fun _ _ _ h => h) (fun _ h => h) (Val.nilCheck rfl rfl) ?_
      refine WPD.takeM 2 rfl rfl rfl rfl (by kernel_rfl) (by kernel_rfl) (by kernel_rfl) (by kernel_rfl) (fun _ _ _ h => h) (fun _ h => h) (Val.fieldAddr (j := 0) rfl Ty.fo252_0 rfl rfl) ?_
      refine WPD.take 3 rfl rfl rfl rfl (by kernel_rfl) (by kernel_rfl) (by kernel_rfl) (by kernel_rfl) (fun _ _ _ h => h) (by kernel_rfl) (fun _ h => h) (Val.load rfl Ty.sc122 rfl (fun w h => h.cell 3 rfl rfl)) ?_
      refine WPD.take 4 rfl rfl rfl rfl (by kernel_rfl) (by kernel_rfl) (by kernel_rfl) (by kernel_rfl) (fun _ _ _ h => h) (by kernel_rfl) (fun _ h => h) (Val.loadAgg (cs := [.iface 132 (.slice (some ⟨kb, 0, none⟩) key.size ck), .iface 132 (.slice (some ⟨fb, 0, none⟩) fin.size cf0)]) rfl Ty.ag172 rfl rfl (fun w h => h.range 2 rfl rfl)) ?_
      refine WPD.perm pl4 ?_
      refine WPD.perm pl1 ?_
      refine WPD.perm pl2 ?_
      refine WPD.stepC 5 (by kernel_rfl) rfl rfl rfl rfl (by kernel_rfl) (Eff.invoke (f := 134) rfl rfl rfl (fun _ => by kernel_rfl) Try.call134 (cont0_does q1.tb q1 t1 hR1 rfl hp1 (⟨ka key, 132, .slice (some ⟨kb, 0, none⟩) key.size ck⟩ : En) (⟨ka fin, 132, .slice (some ⟨fb, 0, none⟩) fin.size cf0⟩ : En) rfl rfl (by have h := hpq; rw [← hee] at h; exact h))) ?_
      rintro _ _ ⟨_, ⟨rfl, rfl⟩, rfl⟩
      refine ⟨(Sat W (Blk b2 [.iface 132 (.slice (some ⟨kb, 0, none⟩) key.size ck), .iface 132 (.slice (some ⟨fb, 0, none⟩) fin.size cf0)] 172 :: Blk ub [.iface 178 (.pointer (some ⟨q1.tb, 0, none⟩)), .iface 178 (.pointer (some ⟨q2.tb, 0, none⟩))] 252 :: TM q2 :: F)), (fun _ h => h), ?_⟩
      show WPD _ _ _ _ _ _ _ _ _ (Blk b2 [.iface 132 (.slice (some ⟨kb, 0, none⟩) key.size ck), .iface 132 (.slice (some ⟨fb, 0, none⟩) fin.size cf0)] 172 :: Blk ub [.iface 178 (.pointer (some ⟨q1.tb, 0, none⟩)), .iface 178 (.pointer (some ⟨q2.tb, 0, none⟩))] 252 :: TM q2 :: F)
      refine WPD.takeM 6 rfl rfl rfl rfl (by kernel_rfl) (by kernel_rfl) (by kernel_rfl) (by kernel_rfl) (fun _ _ _ h => h) (fun _ h => h) (Val.assign rfl rfl) ?_
      refine WPD.done (by kernel_rfl) ?_
      refine Out.next ?_
      refine WPc.ret ?_
      refine Out.block_ret ?_
      refine Out.then_ret ?_
      refine Out.drop ?_
      refine Out.drop ?_
      refine Out.drop ?_
      exact Out.ret1 (L' := []) Try.results92 rfl ⟨congrArg Value.bool (by rw [if_pos (by assumption), ← hee]), rfl⟩ (fun w h => by first | exact h | exact h.drop | exact h.drop.drop | exact h.drop.drop.drop)
    · skip
      have h4 : ¬ (kd = (0 : Int)) := h4
      refine WPc.seq ?_
      refine WPc.region ?_
      refine WP.val rfl rfl rfl (Val.eql rfl rfl rfl) ?_
      refine WP.val rfl rfl rfl (Val.assign rfl rfl) ?_
      refine WP.nil ?_
      refine Out.next ?_
      refine WPc.ifP rfl (fun h5 => ?_) (fun h5 => ?_)
      · skip
        have h5 : (kd = (1 : Int)) := h5
        refine WPc.seq ?_
        refine WPD.start (Sat W (Enp (⟨ka fin, 132, .slice (some ⟨fb, 0, none⟩) fin.size cf0⟩ : En) :: Enp (⟨ka key, 132, .slice (some ⟨kb, 0, none⟩) key.size ck⟩ : En) :: Blk b2 [.iface 132 (.slice (some ⟨kb, 0, none⟩) key.size ck), .iface 132 (.slice (some ⟨fb, 0, none⟩) fin.size cf0)] 172 :: Blk ub [.iface 178 (.pointer (some ⟨q1.tb, 0, none⟩)), .iface 178 (.pointer (some ⟨q2.tb, 0, none⟩))] 252 :: TM q1 :: TM q2 :: F)) Ty.mixed ?_
        refine WPD.takeM 0 rfl rfl rfl rfl (by kernel_rfl) (by kernel_rfl) (by kernel_rfl) (by kernel_rfl) (fun _ _ _ h => h) (fun _ h => h) (Val.move rfl rfl) ?_
        refine WPD.takeM 1 rfl rfl rfl rfl (by kernel_rfl) (by kernel_rfl) (by kernel_rfl) (by kernel_rfl) (fun _ _ _ h => h) (fun _ h => h) (Val.nilCheck rfl rfl) ?_
        refine WPD.takeM 2 rfl rfl rfl rfl (by kernel_rfl) (by kernel_rfl) (by kernel_rfl) (by kernel_rfl) (fun _ _ _ h => h) (fun _ h => h) (Val.fieldAddr (j := 1) rfl Ty.fo252_1 rfl rfl) ?_
        refine WPD.take 3 rfl rfl rfl rfl (by kernel_rfl) (by kernel_rfl) (by kernel_rfl) (by kernel_rfl) (fun _ _ _ h => h) (by kernel_rfl) (fun _ h => h) (Val.load rfl Ty.sc122 rfl (fun w h => h.cell 3 rfl rfl)) ?_
        refine WPD.take 4 rfl rfl rfl rfl (by kernel_rfl) (by kernel_rfl) (by kernel_rfl) (by kernel_rfl) (fun _ _ _ h => h) (by kernel_rfl) (fun _ h => h) (Val.loadAgg (cs := [.iface 132 (.slice (some ⟨kb, 0, none⟩) key.size ck), .iface 132 (.slice (some ⟨fb, 0, none⟩) fin.size cf0)]) rfl Ty.ag172 rfl rfl (fun w h => h.range 2 rfl rfl)) ?_
        refine WPD.perm pl5 ?_
        refine WPD.perm pl1 ?_
        refine WPD.perm pl2 ?_
        refine WPD.stepC 5 (by kernel_rfl) rfl rfl rfl rfl (by kernel_rfl) (Eff.invoke (f := 134) rfl rfl rfl (fun _ => by kernel_rfl) Try.call134 (cont0_does q2.tb q2 t2 hR2 rfl hp2 (⟨ka key, 132, .slice (some ⟨kb, 0, none⟩) key.size ck⟩ : En) (⟨ka fin, 132, .slice (some ⟨fb, 0, none⟩) fin.size cf0⟩ : En) rfl rfl (by have h := hpq; rw [← hee] at h; exact h))) ?_
        rintro _ _ ⟨_, ⟨rfl, rfl⟩, rfl⟩
        refine ⟨(Sat W (Blk b2 [.iface 132 (.slice (some ⟨kb, 0, none⟩) key.size ck), .iface 132 (.slice (some ⟨fb, 0, none⟩) fin.size cf0)] 172 :: Blk ub [.iface 178 (.pointer (some ⟨q1.tb, 0, none⟩)), .iface 178 (.pointer (some ⟨q2.tb, 0, none⟩))] 252 :: TM q1 :: F)), (fun _ h => h), ?_⟩
        show WPD _ _ _ _ _ _ _ _ _ (Blk b2 [.iface 132 (.slice (some ⟨kb, 0, none⟩) key.size ck), .iface 132 (.slice (some ⟨fb, 0, none⟩) fin.size cf0)] 172 :: Blk ub [.iface 178 (.pointer (some ⟨q1.tb, 0, none⟩)), .iface 178 (.pointer (some ⟨q2.tb, 0, none⟩))] 252 :: TM q1 :: F)
        refine WPD.takeM 6 rfl rfl rfl rfl (by kernel_rfl) (by kernel_rfl) (by kernel_rfl) (by kernel_rfl) (fun _ _ _ h => h) (fun _ h => h) (Val.assign rfl rfl) ?_
        refine WPD.done (by kernel_rfl) ?_
        refine Out.next ?_
        refine WPc.ret ?_
        refine Out.block_ret ?_
        refine Out.then_ret ?_
        refine Out.drop ?_
        refine Out.drop ?_
        refine Out.drop ?_
        exact Out.ret1 (L' := []) Try.results92 rfl ⟨congrArg Value.bool (by rw [if_neg (by assumption), ← hee]), rfl⟩ (fun w h => by first | exact h | exact h.drop | exact h.drop.drop | exact h.drop.drop.drop)
      · skip
        have h5 : ¬ (kd = (1 : Int)) := h5
        exfalso; omega

end Go.Proofs.Ytbomnihiapjmpaa.Ah

namespace Go.Proofs.Ytbomnihiapjmpaa.Ai
open Go.RowKit Go.Proofs.Ytbomnihiapjmpaa Go.Proofs.Ytbomnihiapjmpaa.Sl Go.Proofs.Ytbomnihiapjmpaa.TrP Go.Proofs.Ytbomnihiapjmpaa.Tb Go.Proofs.Ytbomnihiapjmpaa.Tc Go.Proofs.Ytbomnihiapjmpaa.Td Go.Proofs.Ytbomnihiapjmpaa.Te Go.Proofs.Ytbomnihiapjmpaa.Tk Go.Proofs.Ytbomnihiapjmpaa.Tl Go.Proofs.Ytbomnihiapjmpaa.Tm Go.Proofs.Ytbomnihiapjmpaa.Tj Go.Proofs.Ytbomnihiapjmpaa.Tn Go.Proofs.Ytbomnihiapjmpaa.Tp Go.Proofs.Ytbomnihiapjmpaa.Tq Go.Proofs.Ytbomnihiapjmpaa.Tr Go.Proofs.Ytbomnihiapjmpaa.Tx Go.Proofs.Ytbomnihiapjmpaa.TC Go.Proofs.Ytbomnihiapjmpaa.TD Go.Proofs.Ytbomnihiapjmpaa.TP Go.Proofs.Ytbomnihiapjmpaa.Aa Go.Proofs.Ytbomnihiapjmpaa.Ab Go.Proofs.Ytbomnihiapjmpaa.Ac Go.Proofs.Ytbomnihiapjmpaa.Ad Go.Proofs.Ytbomnihiapjmpaa.Ae Go.Proofs.Ytbomnihiapjmpaa.Af Go.Proofs.Ytbomnihiapjmpaa.Ag Go.Proofs.Ytbomnihiapjmpaa.Ah
set_option linter.unusedVariables false
set_option linter.unusedSimpArgs false
set_option linter.unusedSectionVars false


def VR (key fin : ByteArray) : Prop := key.size ≠ 0 ∧ (fin.size = 0 ∨ opn fin = true ∨ Op.bytesLess key.toList fin.toList = true)
theorem ka_ne {x : ByteArray} (h : x.size ≠ 0) : ka x = ⟨0, 0, x.toList⟩ := if_neg h
theorem snoc_size (x : ByteArray) : (x ++ (⟨#[0]⟩ : ByteArray)).size = x.size + 1 := by rw [ByteArray.size_append]; rfl
theorem snoc_list (x : ByteArray) : (x ++ (⟨#[0]⟩ : ByteArray)).toList = x.toList ++ [0] := by simp [ByteArray.toList_eq]
theorem bl_snoc : ∀ (x k : List UInt8), Op.bytesLess x (k ++ [0]) = true ↔ ¬ Op.bytesLess k x = true
  | [], [] => by simp [Op.bytesLess]
  | [], b :: k => by simp [Op.bytesLess]
  | a :: x, [] => by
    cases x with
    | nil => simp [Op.bytesLess]
    | cons c x => simp [Op.bytesLess]
  | a :: x, b :: k => by
    rw [List.cons_append, bl_cons, bl_cons, bl_snoc x k]
    constructor
    · rintro (h | ⟨rfl, h⟩) (h2 | ⟨h2, h3⟩)
      · exact absurd (UInt8.lt_trans h h2) (UInt8.lt_irrefl _)
      · rw [h2] at h; exact UInt8.lt_irrefl _ h
      · exact UInt8.lt_irrefl _ h2
      · exact h h3
    · intro h
      rcases UInt8.lt_or_eq_of_le (UInt8.not_lt.1 (fun h2 => h (.inl h2))) with h2 | h2
      · exact .inl h2
      · exact .inr ⟨h2, fun h3 => h (.inr ⟨h2.symm, h3⟩)⟩
theorem pt_ka {x : ByteArray} (h : x.size ≠ 0) : Pt (ka x) := by rw [ka_ne h]; exact ⟨rfl, rfl⟩
theorem vk_ka (x : ByteArray) : Vk (ka x) := by
  by_cases h : x.size = 0
  · left; unfold ka; rw [if_pos h]; rfl
  · exact .inr (pt_ka h)
theorem lt_snoc {p : Ky} {key : ByteArray} (hp : Pt p) (hk : key.size ≠ 0) : klt p (ka (key ++ (⟨#[0]⟩ : ByteArray))) ↔ ¬ klt (ka key) p := by
  rw [ka_ne (x := key ++ _) (by rw [snoc_size]; omega), ka_ne hk, snoc_list]
  obtain ⟨n, t, l⟩ := p
  obtain ⟨h1, h2⟩ := hp
  dsimp only at h1 h2
  subst h1 h2
  unfold klt
  simp only [Int.lt_irrefl, false_or, true_and]
  exact bl_snoc l key.toList
theorem vr_lt {key fin : ByteArray} (h : VR key fin) : klt (ka key) (qE key fin) := by
  obtain ⟨h1, h2⟩ := h
  unfold qE
  by_cases h3 : fin.size = 0
  · rw [if_pos h3]; exact (lt_snoc (pt_ka h1) h1).2 (klt_irrefl _)
  · rw [if_neg h3]
    by_cases h4 : opn fin = true
    · rw [if_pos h4, ka_ne h1]; exact .inr ⟨rfl, .inl (by show (0 : Int) < 1; decide)⟩
    · rw [if_neg h4, ka_ne h1, ka_ne h3]
      rcases h2 with h2 | h2 | h2
      · exact absurd h2 h3
      · exact absurd h2 h4
      · exact .inr ⟨rfl, .inr ⟨rfl, h2⟩⟩
theorem vk_qE (key fin : ByteArray) : Vk (qE key fin) := by
  unfold qE
  split
  · exact vk_ka _
  · split
    · exact .inl rfl
    · exact vk_ka _
/-- each point of a range is in the range of a permission for it -/
def Cov (kd : Int) (ps : List Pm) (ib ie : Ky) : Prop := ∀ p, Pt p → inI p ib ie → ∃ r ∈ ps, alw kd r ∧ inI p (ka r.key) (qE r.key r.fin)
theorem cov_mem {kd : Int} {rs : List PmR} {t : T} (hM : Mem kd rs t) {ib ie : Ky} : CovI ib ie t.ino ↔ Cov kd (rs.map PmR.p) ib ie := by
  constructor
  · intro h p hp hin
    obtain ⟨y, hy, h2⟩ := h p hp hin
    obtain ⟨r, hr, h3, h4, h5⟩ := (hM.iff y.b.k y.e.k).1 ⟨y, hy, rfl, rfl⟩
    exact ⟨r.p, List.mem_map_of_mem hr, h3, by rw [h4, h5]; exact h2⟩
  · intro h p hp hin
    obtain ⟨q, hq, h3, h2⟩ := h p hp hin
    obtain ⟨r, hr, rfl⟩ := List.mem_map.1 hq
    obtain ⟨y, hy, h4, h5⟩ := (hM.iff _ _).2 ⟨r, hr, h3, rfl, rfl⟩
    exact ⟨y, hy, by rw [h4, h5]; exact h2⟩
theorem mem_ok {kd : Int} {rs : List PmR} {t : T} (hM : Mem kd rs t) (hv : ∀ r ∈ rs, VR r.p.key r.p.fin) : ∀ y ∈ t.ino, (Pt y.b.k ∧ Vk y.e.k) ∧ klt y.b.k y.e.k := fun y hy => by
  obtain ⟨r, hr, h3, h4, h5⟩ := (hM.iff y.b.k y.e.k).1 ⟨y, hy, rfl, rfl⟩
  rw [← h4, ← h5]
  exact ⟨⟨pt_ka (hv r hr).1, vk_qE _ _⟩, vr_lt (hv r hr)⟩
theorem point_cov {key : ByteArray} (hk : key.size ≠ 0) {t : T} (hs : Srt t.ino) (hv : ∀ y ∈ t.ino, Pt y.b.k) : isect (ka key) (ka (key ++ (⟨#[0]⟩ : ByteArray))) t = true ↔ CovI (ka key) (ka (key ++ (⟨#[0]⟩ : ByteArray))) t.ino := by
  have hlt := (lt_snoc (pt_ka hk) hk).2 (klt_irrefl (ka key))
  rw [isect_iff hlt hs]
  constructor
  · rintro ⟨y, hy, h1, h2⟩ p hp ⟨h3, h4⟩
    have e : p = ka key := keq_of_not h3 ((lt_snoc hp hk).1 h4)
    rw [e]
    exact ⟨y, hy, (lt_snoc (hv y hy) hk).1 h1, h2⟩
  · intro h
    obtain ⟨y, hy, h1, h2⟩ := h (ka key) (pt_ka hk) ⟨klt_irrefl _, hlt⟩
    exact ⟨y, hy, (lt_snoc (hv y hy) hk).2 h1, h2⟩

theorem zz_pt {key fin : ByteArray} {kd : Int} {rs : List PmR} {t1 t2 : T} (hk : key.size ≠ 0) (hf : fin.size = 0) (hkd : kd = 0 ∨ kd = 1) (hs1 : Srt t1.ino) (hs2 : Srt t2.ino) (hM1 : Mem 0 rs t1) (hM2 : Mem 1 rs t2) (ho1 : ∀ y ∈ t1.ino, (Pt y.b.k ∧ Vk y.e.k) ∧ klt y.b.k y.e.k) (ho2 : ∀ y ∈ t2.ino, (Pt y.b.k ∧ Vk y.e.k) ∧ klt y.b.k y.e.k) : isect (ka key) (ka (key ++ (⟨#[0]⟩ : ByteArray))) (if kd = 0 then t1 else t2) = true ↔ Cov kd (rs.map PmR.p) (ka key) (qE key fin) := by
  rw [qE_pt hf]
  rcases hkd with rfl | rfl
  · rw [if_pos rfl, point_cov hk hs1 (fun y hy => (ho1 y hy).1.1), cov_mem hM1]
  · rw [if_neg (by decide), point_cov hk hs2 (fun y hy => (ho2 y hy).1.1), cov_mem hM2]
theorem zz_iv {key fin : ByteArray} {kd : Int} {rs : List PmR} {t1 t2 : T} (hvr : VR key fin) (hkd : kd = 0 ∨ kd = 1) (hs1 : Srt t1.ino) (hs2 : Srt t2.ino) (hM1 : Mem 0 rs t1) (hM2 : Mem 1 rs t2) (ho1 : ∀ y ∈ t1.ino, (Pt y.b.k ∧ Vk y.e.k) ∧ klt y.b.k y.e.k) (ho2 : ∀ y ∈ t2.ino, (Pt y.b.k ∧ Vk y.e.k) ∧ klt y.b.k y.e.k) : contV (cf ⟨none, true⟩ (hits (ka key) (qE key fin) (if kd = 0 then t1 else t2).ino)) (ka key) (qE key fin) = true ↔ Cov kd (rs.map PmR.p) (ka key) (qE key fin) := by
  rcases hkd with rfl | rfl
  · rw [if_pos rfl, cont_law (pt_ka hvr.1) (vk_qE _ _) (vr_lt hvr) hs1 (fun y hy => (ho1 y hy).1), cov_mem hM1]
  · rw [if_neg (by decide), cont_law (pt_ka hvr.1) (vk_qE _ _) (vr_lt hvr) hs2 (fun y hy => (ho2 y hy).1), cov_mem hM2]
set_option maxRecDepth 100000 in
set_option maxHeartbeats 2000000 in
theorem zz_nil (key fin : ByteArray) (hkz : key.size ≤ 1000) (hfz : fin.size ≤ 1000) (hvr : VR key fin) (kd : Int) (hkd : kd = 0 ∨ kd = 1) (kb ck fb cf0 : Nat) (sk sf : List Value) (hck : key.size ≤ ck) (hcf : fin.size ≤ cf0) : Does Try.prog 59 [.slice none 0 0, .slice (some ⟨kb, 0, none⟩) key.size ck, .slice (some ⟨fb, 0, none⟩) fin.size cf0, .int .i32 (kd)] [Seq (.slice none 0 0) 0 ((flatOf ptr1 ([] : List PmR))), Kds PmP ([] : List PmR), Blk kb (byteCells key ++ sk) 5, Blk fb (byteCells fin ++ sf) 5] (fun v L => ∃ b, v = .bool b ∧ (b = true ↔ Cov kd (([] : List PmR).map PmR.p) (ka key) (qE key fin)) ∧ L = []) := by
  refine Does.enter 26 Try.func59 rfl rfl rfl fun W F => ?_
  show WPc _ _ _ _ _ [(0, .slice none 0 0), (1, .slice (some ⟨kb, 0, none⟩) key.size ck), (2, .slice (some ⟨fb, 0, none⟩) fin.size cf0), (3, .int .i32 (kd))] (Seq (.slice none 0 0) 0 ((flatOf ptr1 ([] : List PmR))) :: Kds PmP ([] : List PmR) :: Blk kb (byteCells key ++ sk) 5 :: Blk fb (byteCells fin ++ sf) 5 :: F)
  refine WPc.seq ?_
  refine WPc.region ?_
  refine WP.val rfl rfl rfl (Val.assign rfl rfl) ?_
  refine WP.nil ?_
  refine Out.next ?_
  refine WPc.seq ?_
  refine WPc.region ?_
  refine WP.val rfl rfl rfl (Val.move rfl rfl) ?_
  refine WP.val rfl rfl rfl (Val.mk (cs := [.slice none 0 0]) rfl rfl (fun _ => by kernel_rfl)) ?_
  refine WP.val rfl rfl rfl (Val.iface rfl rfl Ty.ni164) ?_
  refine WP.perm pl1 ?_
  refine WP.perm pl1 ?_
  refine WP.eff rfl rfl rfl (Eff.call rfl rfl Try.call90 (merged_spec (⟨#[117]⟩) ([] : List PmR) (Nat.zero_le _) (fun r h => by cases h) (.slice none 0 0))) ?_
  rintro _ _ ⟨_, ⟨ub, q1, q2, t1, t2, rfl, hR1, hR2, hM1, hM2, rfl⟩, rfl⟩
  show WP _ _ _ _ _ _ _ (Blk ub [.iface 178 (.pointer (some ⟨q1.tb, 0, none⟩)), .iface 178 (.pointer (some ⟨q2.tb, 0, none⟩))] 252 :: TM q1 :: TM q2 :: Blk kb (byteCells key ++ sk) 5 :: Blk fb (byteCells fin ++ sf) 5 :: F)
  refine WP.val rfl rfl rfl (Val.assign rfl rfl) ?_
  refine WP.nil ?_
  refine Out.next ?_
  refine WPc.seq ?_
  refine WPc.seq ?_
  have ho1 := mem_ok hM1 (fun r h => by cases h)
  have ho2 := mem_ok hM2 (fun r h => by cases h)
  refine WPc.region ?_
  refine WP.val rfl rfl rfl (Val.move rfl rfl) ?_
  refine WP.val rfl rfl rfl (Val.len rfl Ty.sl110 rfl) ?_
  refine WP.val rfl rfl rfl (Val.eql rfl rfl rfl) ?_
  refine WP.nil ?_
  refine Out.next ?_
  refine WPc.ifP rfl (fun h1 => ?_) (fun h1 => ?_)
  · skip
    have h1 : (((fin.size : Nat) : Int) = (0 : Int)) := h1
    refine WPc.seq ?_
    refine WPc.region ?_
    refine WP.val rfl rfl rfl (Val.move rfl rfl) ?_
    refine WP.val rfl rfl rfl (Val.move rfl rfl) ?_
    refine WP.val rfl rfl rfl (Val.move rfl rfl) ?_
    refine WP.perm pl2 ?_
    refine WP.perm pl2 ?_
    refine WP.perm pl3 ?_
    refine WP.perm pl3 ?_
    refine WP.eff rfl rfl rfl (Eff.call rfl rfl Try.call91 (point_does ub kb ck key sk hck hkz q1 q2 t1 t2 hR1 hR2 kd hkd)) ?_
    rintro _ _ ⟨_, ⟨rfl, rfl⟩, rfl⟩
    show WP _ _ _ _ _ _ _ (Blk fb (byteCells fin ++ sf) 5 :: F)
    refine WP.val rfl rfl rfl (Val.assign rfl rfl) ?_
    refine WP.nil ?_
    refine Out.next ?_
    refine WPc.ret ?_
    refine Out.then_ret ?_
    refine Out.drop ?_
    exact Out.ret1 (L' := []) Try.results59 rfl ⟨_, rfl, zz_pt hvr.1 (by omega) hkd hR1.srt hR2.srt hM1 hM2 ho1 ho2, rfl⟩ (fun w h => by first | exact h | exact h.drop | exact h.drop.drop | exact h.drop.drop.drop)
  · skip
    have h1 : ¬ (((fin.size : Nat) : Int) = (0 : Int)) := h1
    refine WPc.skip ?_
    refine Out.next ?_
    refine WPc.seq ?_
    refine WPc.region ?_
    refine WP.val rfl rfl rfl (Val.move rfl rfl) ?_
    refine WP.val rfl rfl rfl (Val.move rfl rfl) ?_
    refine WP.val rfl rfl rfl (Val.move rfl rfl) ?_
    refine WP.val rfl rfl rfl (Val.move rfl rfl) ?_
    refine WP.perm pl2 ?_
    refine WP.perm pl2 ?_
    refine WP.perm pl4 ?_
    refine WP.perm pl4 ?_
    refine WP.perm pl4 ?_
    refine WP.eff rfl rfl rfl (Eff.call rfl rfl Try.call92 (intv_does ub kb ck key sk hck hkz fb cf0 fin sf hcf (by omega) q1 q2 t1 t2 hR1 hR2 (fun y hy => (ho1 y hy).2) (fun y hy => (ho2 y hy).2) (vr_lt hvr) kd hkd)) ?_
    rintro _ F ⟨_, ⟨rfl, rfl⟩, rfl⟩
    show WP _ _ _ _ _ _ _ (F)
    refine WP.val rfl rfl rfl (Val.assign rfl rfl) ?_
    refine WP.nil ?_
    refine Out.next ?_
    refine WPc.ret ?_
    exact Out.ret1 (L' := []) Try.results59 rfl ⟨_, rfl, zz_iv hvr hkd hR1.srt hR2.srt hM1 hM2 ho1 ho2, rfl⟩ (fun w h => by first | exact h | exact h.drop | exact h.drop.drop | exact h.drop.drop.drop)

set_option maxRecDepth 100000 in
set_option maxHeartbeats 2000000 in
theorem zz_row (key fin : ByteArray) (hkz : key.size ≤ 1000) (hfz : fin.size ≤ 1000) (hvr : VR key fin) (kd : Int) (hkd : kd = 0 ∨ kd = 1) (kb ck fb cf0 : Nat) (sk sf : List Value) (hck : key.size ≤ ck) (hcf : fin.size ≤ cf0) (l : List PmR) (hl : l.length ≤ 1000) (hok : ∀ r ∈ l, (0 ≤ r.p.k ∧ r.p.k ≤ 2) ∧ r.p.key.size ≤ 1000 ∧ r.p.fin.size ≤ 1000) (hv : ∀ r ∈ l, VR r.p.key r.p.fin) (g cg : Nat) (sg : List Value) (Tg : TypeId) (hcg : l.length ≤ cg) : Does Try.prog 59 [.slice (some ⟨g, 0, none⟩) l.length cg, .slice (some ⟨kb, 0, none⟩) key.size ck, .slice (some ⟨fb, 0, none⟩) fin.size cf0, .int .i32 (kd)] [Ro (Blk g (flatOf ptr1 l ++ sg) Tg), Seq (.slice (some ⟨g, 0, none⟩) l.length cg) l.length ((flatOf ptr1 l)), Kds PmP l, Blk kb (byteCells key ++ sk) 5, Blk fb (byteCells fin ++ sf) 5] (fun v L => ∃ b, v = .bool b ∧ (b = true ↔ Cov kd (l.map PmR.p) (ka key) (qE key fin)) ∧ L = []) := by
  refine Does.enter 26 Try.func59 rfl rfl rfl fun W F => ?_
  show WPc _ _ _ _ _ [(0, .slice (some ⟨g, 0, none⟩) l.length cg), (1, .slice (some ⟨kb, 0, none⟩) key.size ck), (2, .slice (some ⟨fb, 0, none⟩) fin.size cf0), (3, .int .i32 (kd))] (Ro (Blk g (flatOf ptr1 l ++ sg) Tg) :: Seq (.slice (some ⟨g, 0, none⟩) l.length cg) l.length ((flatOf ptr1 l)) :: Kds PmP l :: Blk kb (byteCells key ++ sk) 5 :: Blk fb (byteCells fin ++ sf) 5 :: F)
  refine WPc.seq ?_
  refine WPc.region ?_
  refine WP.val rfl rfl rfl (Val.assign rfl rfl) ?_
  refine WP.nil ?_
  refine Out.next ?_
  refine WPc.seq ?_
  refine WPc.region ?_
  refine WP.val rfl rfl rfl (Val.move rfl rfl) ?_
  refine WP.val rfl rfl rfl (Val.mk (cs := [.slice (some ⟨g, 0, none⟩) l.length cg]) rfl rfl (fun _ => by kernel_rfl)) ?_
  refine WP.val rfl rfl rfl (Val.iface rfl rfl Ty.ni164) ?_
  refine WP.perm pl2 ?_
  refine WP.perm pl2 ?_
  refine WP.eff rfl rfl rfl (Eff.call rfl rfl Try.call90 (merged_spec (⟨#[117]⟩) l hl hok (.slice (some ⟨g, 0, none⟩) l.length cg))) ?_
  rintro _ _ ⟨_, ⟨ub, q1, q2, t1, t2, rfl, hR1, hR2, hM1, hM2, rfl⟩, rfl⟩
  show WP _ _ _ _ _ _ _ (Blk ub [.iface 178 (.pointer (some ⟨q1.tb, 0, none⟩)), .iface 178 (.pointer (some ⟨q2.tb, 0, none⟩))] 252 :: TM q1 :: TM q2 :: Ro (Blk g (flatOf ptr1 l ++ sg) Tg) :: Blk kb (byteCells key ++ sk) 5 :: Blk fb (byteCells fin ++ sf) 5 :: F)
  refine WP.val rfl rfl rfl (Val.assign rfl rfl) ?_
  refine WP.nil ?_
  refine Out.next ?_
  refine WPc.seq ?_
  refine WPc.seq ?_
  have ho1 := mem_ok hM1 hv
  have ho2 := mem_ok hM2 hv
  refine WPc.region ?_
  refine WP.val rfl rfl rfl (Val.move rfl rfl) ?_
  refine WP.val rfl rfl rfl (Val.len rfl Ty.sl110 rfl) ?_
  refine WP.val rfl rfl rfl (Val.eql rfl rfl rfl) ?_
  refine WP.nil ?_
  refine Out.next ?_
  refine WPc.ifP rfl (fun h1 => ?_) (fun h1 => ?_)
  · skip
    have h1 : (((fin.size : Nat) : Int) = (0 : Int)) := h1
    refine WPc.seq ?_
    refine WPc.region ?_
    refine WP.val rfl rfl rfl (Val.move rfl rfl) ?_
    refine WP.val rfl rfl rfl (Val.move rfl rfl) ?_
    refine WP.val rfl rfl rfl (Val.move rfl rfl) ?_
    refine WP.perm pl2 ?_
    refine WP.perm pl2 ?_
    refine WP.perm pl4 ?_
    refine WP.perm pl3 ?_
    refine WP.eff rfl rfl rfl (Eff.call rfl rfl Try.call91 (point_does ub kb ck key sk hck hkz q1 q2 t1 t2 hR1 hR2 kd hkd)) ?_
    rintro _ _ ⟨_, ⟨rfl, rfl⟩, rfl⟩
    show WP _ _ _ _ _ _ _ (Ro (Blk g (flatOf ptr1 l ++ sg) Tg) :: Blk fb (byteCells fin ++ sf) 5 :: F)
    refine WP.val rfl rfl rfl (Val.assign rfl rfl) ?_
    refine WP.nil ?_
    refine Out.next ?_
    refine WPc.ret ?_
    refine Out.then_ret ?_
    refine Out.drop ?_
    refine Out.drop ?_
    exact Out.ret1 (L' := []) Try.results59 rfl ⟨_, rfl, zz_pt hvr.1 (by omega) hkd hR1.srt hR2.srt hM1 hM2 ho1 ho2, rfl⟩ (fun w h => by first | exact h | exact h.drop | exact h.drop.drop | exact h.drop.drop.drop)
  · skip
    have h1 : ¬ (((fin.size : Nat) : Int) = (0 : Int)) := h1
    refine WPc.skip ?_
    refine Out.next ?_
    refine WPc.seq ?_
    refine WPc.region ?_
    refine WP.val rfl rfl rfl (Val.move rfl rfl) ?_
    refine WP.val rfl rfl rfl (Val.move rfl rfl) ?_
    refine WP.val rfl rfl rfl (Val.move rfl rfl) ?_
    refine WP.val rfl rfl rfl (Val.move rfl rfl) ?_
    refine WP.perm pl2 ?_
    refine WP.perm pl2 ?_
    refine WP.perm pl5 ?_
    refine WP.perm pl5 ?_
    refine WP.perm pl4 ?_
    refine WP.eff rfl rfl rfl (Eff.call rfl rfl Try.call92 (intv_does ub kb ck key sk hck hkz fb cf0 fin sf hcf (by omega) q1 q2 t1 t2 hR1 hR2 (fun y hy => (ho1 y hy).2) (fun y hy => (ho2 y hy).2) (vr_lt hvr) kd hkd)) ?_
    rintro _ _ ⟨_, ⟨rfl, rfl⟩, rfl⟩
    show WP _ _ _ _ _ _ _ (Ro (Blk g (flatOf ptr1 l ++ sg) Tg) :: F)
    refine WP.val rfl rfl rfl (Val.assign rfl rfl) ?_
    refine WP.nil ?_
    refine Out.next ?_
    refine WPc.ret ?_
    refine Out.drop ?_
    exact Out.ret1 (L' := []) Try.results59 rfl ⟨_, rfl, zz_iv hvr hkd hR1.srt hR2.srt hM1 hM2 ho1 ho2, rfl⟩ (fun w h => by first | exact h | exact h.drop | exact h.drop.drop | exact h.drop.drop.drop)

theorem zz_spec (key fin : ByteArray) (hkz : key.size ≤ 1000) (hfz : fin.size ≤ 1000) (hvr : VR key fin) (kd : Int) (hkd : kd = 0 ∨ kd = 1) (kb ck fb cf0 : Nat) (sk sf : List Value) (hck : key.size ≤ ck) (hcf : fin.size ≤ cf0) (l : List PmR) (hl : l.length ≤ 1000) (hok : ∀ r ∈ l, (0 ≤ r.p.k ∧ r.p.k ≤ 2) ∧ r.p.key.size ≤ 1000 ∧ r.p.fin.size ≤ 1000) (hv : ∀ r ∈ l, VR r.p.key r.p.fin) (va : Value) : Does Try.prog 59 [va, .slice (some ⟨kb, 0, none⟩) key.size ck, .slice (some ⟨fb, 0, none⟩) fin.size cf0, .int .i32 (kd)] [Seq va l.length (flatOf ptr1 l), Kds PmP l, Blk kb (byteCells key ++ sk) 5, Blk fb (byteCells fin ++ sf) 5] (fun v L => ∃ b, v = .bool b ∧ (b = true ↔ Cov kd (l.map PmR.p) (ka key) (qE key fin)) ∧ L = []) := by
  refine Does.seqC (fun h0 h1 => ?_) (fun g cg sg Tg h0 h1 => ?_)
  · obtain rfl := List.eq_nil_of_length_eq_zero h1
    subst h0
    exact zz_nil key fin hkz hfz hvr kd hkd kb ck fb cf0 sk sf hck hcf
  · subst h0
    exact zz_row key fin hkz hfz hvr kd hkd kb ck fb cf0 sk sf hck hcf l hl hok hv g cg sg Tg h1

end Go.Proofs.Ytbomnihiapjmpaa.Ai

namespace Go.Proofs.Ytbomnihiapjmpaa.Aj
open Go.RowKit Go.Proofs.Ytbomnihiapjmpaa Go.Proofs.Ytbomnihiapjmpaa.Sl Go.Proofs.Ytbomnihiapjmpaa.TrP Go.Proofs.Ytbomnihiapjmpaa.Tb Go.Proofs.Ytbomnihiapjmpaa.Tc Go.Proofs.Ytbomnihiapjmpaa.Td Go.Proofs.Ytbomnihiapjmpaa.Te Go.Proofs.Ytbomnihiapjmpaa.Tk Go.Proofs.Ytbomnihiapjmpaa.Tl Go.Proofs.Ytbomnihiapjmpaa.Tm Go.Proofs.Ytbomnihiapjmpaa.Tj Go.Proofs.Ytbomnihiapjmpaa.Tn Go.Proofs.Ytbomnihiapjmpaa.Tp Go.Proofs.Ytbomnihiapjmpaa.Tq Go.Proofs.Ytbomnihiapjmpaa.Tr Go.Proofs.Ytbomnihiapjmpaa.Tx Go.Proofs.Ytbomnihiapjmpaa.TC Go.Proofs.Ytbomnihiapjmpaa.TD Go.Proofs.Ytbomnihiapjmpaa.TP Go.Proofs.Ytbomnihiapjmpaa.Aa Go.Proofs.Ytbomnihiapjmpaa.Ab Go.Proofs.Ytbomnihiapjmpaa.Ac Go.Proofs.Ytbomnihiapjmpaa.Ad Go.Proofs.Ytbomnihiapjmpaa.Ae Go.Proofs.Ytbomnihiapjmpaa.Af Go.Proofs.Ytbomnihiapjmpaa.Ag Go.Proofs.Ytbomnihiapjmpaa.Ah Go.Proofs.Ytbomnihiapjmpaa.Ai
set_option linter.unusedVariables false
set_option linter.unusedSimpArgs false
set_option linter.unusedSectionVars false


theorem kds_snoc {α : Type} {R : α → HProp} {W w : World} {L : List HProp} {x : α} {l : List α} (h : Sat W (R x :: Kds R l :: L) w) : Sat W (Kds R (l ++ [x]) :: L) w := Sat.kPerm (List.perm_append_comm (l₁ := [x]) (l₂ := l)) h.kConsMk
/-- what laws say of permissions -/
def PmOk (p : Pm) : Prop := (0 ≤ p.k ∧ p.k ≤ 2) ∧ p.key.size ≤ 64 ∧ p.fin.size ≤ 64 ∧ VR p.key p.fin
theorem rs_ok {rs : List PmR} {l : List Pm} (h : rs.map PmR.p = l) (hl : ∀ p ∈ l, PmOk p) : (∀ r ∈ rs, (0 ≤ r.p.k ∧ r.p.k ≤ 2) ∧ r.p.key.size ≤ 1000 ∧ r.p.fin.size ≤ 1000) ∧ ∀ r ∈ rs, VR r.p.key r.p.fin := by
  have h1 : ∀ r ∈ rs, PmOk r.p := fun r hr => hl _ (by rw [← h]; exact List.mem_map_of_mem hr)
  exact ⟨fun r hr => ⟨(h1 r hr).1, by have := (h1 r hr).2.1; omega, by have := (h1 r hr).2.2.1; omega⟩, fun r hr => (h1 r hr).2.2.2⟩
theorem wrap01 {z : Int} (h : z = 0 ∨ z = 1) : IntKind.wrap .i32 z = z := wrap3 (by omega)
set_option maxRecDepth 100000 in
set_option maxHeartbeats 2000000 in
theorem permits_nil (A : HProp) (key fin : ByteArray) (hkz : key.size ≤ 64) (hfz : fin.size ≤ 64) (hvr : VR key fin) (kind : Int) (hkd : kind = 0 ∨ kind = 1) (a : Option Addr) (c : Nat) : Does Try.prog 22 [.slice a 0 c, .string key, .string fin, .int .i64 (kind)] [A] (fun v L => ∃ b, v = .bool b ∧ (b = true ↔ Cov kind ([] : List Pm) (ka key) (qE key fin)) ∧ L = [A]) := by
  refine Does.enter 39 Try.func22 rfl rfl rfl fun W F => ?_
  show WPc _ _ _ _ _ [(0, .slice a 0 c), (1, .string key), (2, .string fin), (3, .int .i64 (kind))] (A :: F)
  refine WPc.seq ?_
  refine WPc.region ?_
  refine WP.val rfl rfl rfl (Val.assign rfl rfl) ?_
  refine WP.nil ?_
  refine Out.next ?_
  refine WPc.seq ?_
  refine WPc.region ?_
  refine WP.val rfl rfl rfl (Val.assign rfl rfl) ?_
  refine WP.nil ?_
  refine Out.next ?_
  refine WPc.seq ?_
  refine WPc.seq ?_
  refine WPc.conv (fun w h => Sat.ownNil (e := 107) (k := 1) h) ?_
  refine WPc.conv (fun w h => Sat.kNil (R := PmP) h) ?_
  show WPc _ _ _ _ _ _ (Kds PmP [] :: Own 107 1 (.slice none 0 0) 0 ([]) :: A :: F)
  refine WPc.region ?_
  refine WP.val rfl rfl rfl (Val.assign rfl rfl) ?_
  refine WP.nil ?_
  refine Out.next ?_
  refine WPc.block ?_
  refine WPc.perm pl1 ?_
  refine WPc.perm pl2 ?_
  refine WPc.loop (ι := Nat × List PmR × Value) (fun ⟨i, rs, v⟩ => i ≤ 0 ∧ rs.map PmR.p = ([] : List Pm).take i) (fun ⟨i, rs, v⟩ => [(0, .slice a 0 c), (1, .string key), (2, .string fin), (3, .int .i64 (kind)), (8, .bool false), (9, v), (10, .int .i64 (((i : Nat) : Int)))]) (fun ⟨i, rs, v⟩ => A :: Own 107 1 v rs.length (flatOf ptr1 rs) :: Kds PmP rs :: F) (fun ⟨i, rs, v⟩ => 0 - i) (0, [], .slice none 0 0) ⟨Nat.zero_le _, rfl⟩ ((Sub.cons rfl (Sub.cons rfl (Sub.cons rfl (Sub.cons rfl (Sub.cons rfl (Sub.cons rfl (Sub.cons rfl Sub.nil)))))))) (fun _ h => h) ?_
  rintro ⟨i, rs, v⟩ ⟨hi, hrs⟩
  show WPc _ _ _ _ _ [(0, .slice a 0 c), (1, .string key), (2, .string fin), (3, .int .i64 (kind)), (8, .bool false), (9, v), (10, .int .i64 (((i : Nat) : Int)))] (A :: Own 107 1 v rs.length (flatOf ptr1 rs) :: Kds PmP rs :: F)
  replace hi : i ≤ 0 := hi
  replace hrs : rs.map PmR.p = ([] : List Pm).take i := hrs
  have hrn : rs.length = i := by have := congrArg List.length hrs; rw [List.length_map, List.length_take] at this; omega
  refine WPc.seq ?_
  refine WPc.seq ?_
  refine WPc.region ?_
  refine WP.val rfl rfl rfl (Val.move rfl rfl) ?_
  refine WP.val rfl rfl rfl (Val.move rfl rfl) ?_
  refine WP.val rfl rfl rfl (Val.len rfl Ty.sl39 rfl) ?_
  refine WP.val rfl rfl rfl (Val.lss rfl rfl rfl) ?_
  refine WP.nil ?_
  refine Out.next ?_
  refine WPc.ifP rfl (fun h1 => ?_) (fun h1 => ?_)
  · skip
    have h1 : (((i : Nat) : Int) < (0 : Int)) := h1
    exfalso; omega
  · skip
    have h1 : ¬ (((i : Nat) : Int) < (0 : Int)) := h1
    refine WPc.exit ?_
    refine Out.then_exit ?_
    refine Out.then_exit ?_
    refine Out.block_exit ?_
    refine Out.next ?_
    refine WPc.seq ?_
    refine WPc.seq ?_
    have hti : ([] : List Pm).take i = ([] : List Pm) := List.take_of_length_le (by first | omega | exact Nat.zero_le _)
    rw [hti] at hrs
    obtain ⟨hro, hrv⟩ := rs_ok hrs (fun p h => (List.not_mem_nil h).elim)
    have hrl : rs.length ≤ 1000 := by omega
    refine WPc.region ?_
    refine WP.val rfl rfl rfl (Val.move rfl rfl) ?_
    refine WP.val rfl rfl rfl (Val.neq rfl rfl rfl) ?_
    refine WP.val rfl rfl rfl (Val.move rfl rfl) ?_
    refine WP.split 27 rfl (fun h2 => ?_) (fun h2 => ?_)
    · skip
      have h2 : (kind ≠ (0 : Int)) := h2
      refine WP.valG rfl rfl rfl rfl rfl rfl rfl (Val.move rfl rfl) ?_
      refine WP.valG rfl rfl rfl rfl rfl rfl rfl (Val.neq rfl rfl rfl) ?_
      refine WP.val rfl rfl rfl (Val.pickT rfl rfl rfl) ?_
      refine WP.nil ?_
      refine Out.next ?_
      refine WPc.ifP rfl (fun h3 => ?_) (fun h3 => ?_)
      · skip
        have h3 : (kind ≠ (1 : Int)) := h3
        exfalso; omega
      · skip
        have h3 : ¬ (kind ≠ (1 : Int)) := h3
        refine WPc.skip ?_
        refine Out.next ?_
        refine WPc.seq ?_
        refine WPc.perm pl1 ?_
        refine WPc.conv (fun w h => h.seqMk) ?_
        show WPc _ _ _ _ _ _ (Seq v rs.length ((flatOf ptr1 rs)) :: A :: Kds PmP rs :: F)
        refine WPc.region ?_
        refine WP.val rfl rfl rfl (Val.move rfl rfl) ?_
        refine WP.val rfl rfl rfl (Val.move rfl rfl) ?_
        refine WP.eff rfl rfl rfl (Eff.bytes rfl Ty.st9 Ty.by110 rfl) ?_
        rintro _ _ ⟨b1, capb1, spb1, rfl, hcb1, hsb1, rfl⟩
        refine WP.val rfl rfl rfl (Val.move rfl rfl) ?_
        refine WP.eff rfl rfl rfl (Eff.bytes rfl Ty.st9 Ty.by110 rfl) ?_
        rintro _ _ ⟨b2, capb2, spb2, rfl, hcb2, hsb2, rfl⟩
        refine WP.val rfl rfl rfl (Val.move rfl rfl) ?_
        refine WP.val rfl rfl rfl (Val.conv (z := kind) rfl Ty.ik111 Ty.un3 rfl (wrap01 hkd)) ?_
        refine WP.perm pl1 ?_
        refine WP.perm pl4 ?_
        refine WP.perm pl3 ?_
        refine WP.eff rfl rfl rfl (Eff.call rfl rfl Try.call59 (zz_spec key fin (by omega) (by omega) hvr kind hkd b1 capb1 b2 capb2 spb1 spb2 hcb1 hcb2 rs hrl hro hrv v)) ?_
        rintro _ _ ⟨_, ⟨b, rfl, hb, rfl⟩, rfl⟩
        show WP _ _ _ _ _ _ _ (A :: F)
        refine WP.val rfl rfl rfl (Val.assign rfl rfl) ?_
        refine WP.nil ?_
        refine Out.next ?_
        refine WPc.ret ?_
        exact Out.ret1 (L' := [A]) Try.results22 rfl ⟨_, rfl, by rw [hrs] at hb; exact hb, rfl⟩ (fun w h => h)
    · skip
      have h2 : ¬ (kind ≠ (0 : Int)) := h2
      refine WP.skip rfl rfl rfl rfl rfl rfl rfl ?_
      refine WP.skip rfl rfl rfl rfl rfl rfl rfl ?_
      refine WP.val rfl rfl rfl (Val.pickF rfl rfl rfl) ?_
      refine WP.nil ?_
      refine Out.next ?_
      refine WPc.condF rfl rfl ?_
      refine WPc.skip ?_
      refine Out.next ?_
      refine WPc.seq ?_
      refine WPc.perm pl1 ?_
      refine WPc.conv (fun w h => h.seqMk) ?_
      show WPc _ _ _ _ _ _ (Seq v rs.length ((flatOf ptr1 rs)) :: A :: Kds PmP rs :: F)
      refine WPc.region ?_
      refine WP.val rfl rfl rfl (Val.move rfl rfl) ?_
      refine WP.val rfl rfl rfl (Val.move rfl rfl) ?_
      refine WP.eff rfl rfl rfl (Eff.bytes rfl Ty.st9 Ty.by110 rfl) ?_
      rintro _ _ ⟨b3, capb3, spb3, rfl, hcb3, hsb3, rfl⟩
      refine WP.val rfl rfl rfl (Val.move rfl rfl) ?_
      refine WP.eff rfl rfl rfl (Eff.bytes rfl Ty.st9 Ty.by110 rfl) ?_
      rintro _ _ ⟨b4, capb4, spb4, rfl, hcb4, hsb4, rfl⟩
      refine WP.val rfl rfl rfl (Val.move rfl rfl) ?_
      refine WP.val rfl rfl rfl (Val.conv (z := kind) rfl Ty.ik111 Ty.un3 rfl (wrap01 hkd)) ?_
      refine WP.perm pl1 ?_
      refine WP.perm pl4 ?_
      refine WP.perm pl3 ?_
      refine WP.eff rfl rfl rfl (Eff.call rfl rfl Try.call59 (zz_spec key fin (by omega) (by omega) hvr kind hkd b3 capb3 b4 capb4 spb3 spb4 hcb3 hcb4 rs hrl hro hrv v)) ?_
      rintro _ _ ⟨_, ⟨b, rfl, hb, rfl⟩, rfl⟩
      show WP _ _ _ _ _ _ _ (A :: F)
      refine WP.val rfl rfl rfl (Val.assign rfl rfl) ?_
      refine WP.nil ?_
      refine Out.next ?_
      refine WPc.ret ?_
      exact Out.ret1 (L' := [A]) Try.results22 rfl ⟨_, rfl, by rw [hrs] at hb; exact hb, rfl⟩ (fun w h => h)

set_option maxRecDepth 100000 in
set_option maxHeartbeats 2000000 in
theorem permits_row (A : HProp) (key fin : ByteArray) (hkz : key.size ≤ 64) (hfz : fin.size ≤ 64) (hvr : VR key fin) (kind : Int) (hkd : kind = 0 ∨ kind = 1) (l : List Pm) (hl : l.length ≤ 1000) (hok : ∀ p ∈ l, PmOk p) (b0 o0 c0 : Nat) (hr : ∀ w, Holds A w → ∀ i x, l[i]? = some x → w.rangeAt b0 (o0 + i * 3) (Pm.cells x)) : Does Try.prog 22 [.slice (some ⟨b0, o0, none⟩) l.length c0, .string key, .string fin, .int .i64 (kind)] [A] (fun v L => ∃ b, v = .bool b ∧ (b = true ↔ Cov kind l (ka key) (qE key fin)) ∧ L = [A]) := by
  refine Does.enter 39 Try.func22 rfl rfl rfl fun W F => ?_
  show WPc _ _ _ _ _ [(0, .slice (some ⟨b0, o0, none⟩) l.length c0), (1, .string key), (2, .string fin), (3, .int .i64 (kind))] (A :: F)
  refine WPc.seq ?_
  refine WPc.region ?_
  refine WP.val rfl rfl rfl (Val.assign rfl rfl) ?_
  refine WP.nil ?_
  refine Out.next ?_
  refine WPc.seq ?_
  refine WPc.region ?_
  refine WP.val rfl rfl rfl (Val.assign rfl rfl) ?_
  refine WP.nil ?_
  refine Out.next ?_
  refine WPc.seq ?_
  refine WPc.seq ?_
  refine WPc.conv (fun w h => Sat.ownNil (e := 107) (k := 1) h) ?_
  refine WPc.conv (fun w h => Sat.kNil (R := PmP) h) ?_
  show WPc _ _ _ _ _ _ (Kds PmP [] :: Own 107 1 (.slice none 0 0) 0 ([]) :: A :: F)
  refine WPc.region ?_
  refine WP.val rfl rfl rfl (Val.assign rfl rfl) ?_
  refine WP.nil ?_
  refine Out.next ?_
  refine WPc.block ?_
  refine WPc.perm pl1 ?_
  refine WPc.perm pl2 ?_
  refine WPc.loop (ι := Nat × List PmR × Value) (fun ⟨i, rs, v⟩ => i ≤ l.length ∧ rs.map PmR.p = l.take i) (fun ⟨i, rs, v⟩ => [(0, .slice (some ⟨b0, o0, none⟩) l.length c0), (1, .string key), (2, .string fin), (3, .int .i64 (kind)), (8, .bool false), (9, v), (10, .int .i64 (((i : Nat) : Int)))]) (fun ⟨i, rs, v⟩ => A :: Own 107 1 v rs.length (flatOf ptr1 rs) :: Kds PmP rs :: F) (fun ⟨i, rs, v⟩ => l.length - i) (0, [], .slice none 0 0) ⟨Nat.zero_le _, rfl⟩ ((Sub.cons rfl (Sub.cons rfl (Sub.cons rfl (Sub.cons rfl (Sub.cons rfl (Sub.cons rfl (Sub.cons rfl Sub.nil)))))))) (fun _ h => h) ?_
  rintro ⟨i, rs, v⟩ ⟨hi, hrs⟩
  show WPc _ _ _ _ _ [(0, .slice (some ⟨b0, o0, none⟩) l.length c0), (1, .string key), (2, .string fin), (3, .int .i64 (kind)), (8, .bool false), (9, v), (10, .int .i64 (((i : Nat) : Int)))] (A :: Own 107 1 v rs.length (flatOf ptr1 rs) :: Kds PmP rs :: F)
  replace hi : i ≤ l.length := hi
  replace hrs : rs.map PmR.p = l.take i := hrs
  have hrn : rs.length = i := by have := congrArg List.length hrs; rw [List.length_map, List.length_take] at this; omega
  refine WPc.seq ?_
  refine WPc.seq ?_
  refine WPc.region ?_
  refine WP.val rfl rfl rfl (Val.move rfl rfl) ?_
  refine WP.val rfl rfl rfl (Val.move rfl rfl) ?_
  refine WP.val rfl rfl rfl (Val.len rfl Ty.sl39 rfl) ?_
  refine WP.val rfl rfl rfl (Val.lss rfl rfl rfl) ?_
  refine WP.nil ?_
  refine Out.next ?_
  refine WPc.ifP rfl (fun h1 => ?_) (fun h1 => ?_)
  · skip
    have h1 : (((i : Nat) : Int) < ((l.length : Nat) : Int)) := h1
    refine WPc.skip ?_
    refine Out.next ?_
    refine WPc.seq ?_
    refine WPc.block ?_
    have hlt : i < l.length := by omega
    obtain ⟨x, hx⟩ : ∃ x, l[i]? = some x := ⟨_, List.getElem?_eq_getElem hlt⟩
    refine WPc.region ?_
    refine WP.val rfl rfl rfl (Val.move rfl rfl) ?_
    refine WP.val rfl rfl rfl (Val.move rfl rfl) ?_
    refine WP.val rfl rfl rfl (Val.move rfl rfl) ?_
    refine WP.val rfl rfl rfl (Val.indexAddr (j := i) (q := o0 + i * 3) rfl Ty.sl39 rfl rfl (by omega) (by omega) (by omega)) ?_
    refine WP.val rfl rfl rfl (Val.loadAgg (cs := (Pm.cells x)) rfl Ty.ag45 rfl (by rfl) (fun w h => hr w (h.at 0 rfl) i x hx)) ?_
    refine WP.eff rfl rfl rfl (Eff.call rfl rfl Try.call58 (permIn_does x (hok x (List.mem_of_getElem? hx)).1)) ?_
    rintro _ _ ⟨_, ⟨r, hrx, rfl, rfl⟩, rfl⟩
    show WP _ _ _ _ _ _ _ (PmP r :: A :: Own 107 1 v rs.length (flatOf ptr1 rs) :: Kds PmP rs :: F)
    refine WP.eff rfl rfl rfl (Eff.mkSlice (C := [.pointer (some ⟨r.b, 0, none⟩)]) rfl Ty.sl106 rfl (fun _ => by kernel_rfl)) ?_
    rintro _ _ ⟨b1, rfl, rfl⟩
    refine WP.perm pl3 ?_
    refine WP.eff rfl rfl rfl (Eff.append (m := 1) (n0 := rs.length) (news := [.pointer (some ⟨r.b, 0, none⟩)]) rfl Ty.sl106 Ty.z107 rfl rfl rfl (.slice Ty.sl106 rfl rfl (fun w h => cells_range (h.range 1 rfl rfl))) (by omega) (by omega)) ?_
    rintro v2 _ ⟨onev2, rfl⟩
    refine WP.val rfl rfl rfl (Val.assign rfl rfl) ?_
    refine WP.nil ?_
    refine Out.block ?_
    refine Out.next ?_
    refine WPc.perm pl4 ?_
    refine WPc.perm pl3 ?_
    refine WPc.conv (fun w h => kds_snoc h) ?_
    show WPc _ _ _ _ _ _ (Kds PmP (rs ++ [r]) :: Own 107 1 v2 (rs.length + 1) ((flatOf ptr1 rs) ++ ([.pointer (some ⟨r.b, 0, none⟩)])) :: Blk b1 [.pointer (some ⟨r.b, 0, none⟩)] 107 :: A :: F)
    refine WPc.region ?_
    refine WP.val rfl rfl rfl (Val.move rfl rfl) ?_
    refine WP.val rfl rfl rfl (Val.add (z := ((i + 1 : Nat) : Int)) rfl rfl rfl ((w64 (by omega) (by omega)).trans (by omega))) ?_
    refine WP.val rfl rfl rfl (Val.assign rfl rfl) ?_
    refine WP.nil ?_
    refine Out.perm pl2 ?_
    refine Out.drop ?_
    refine Out.perm pl1 ?_
    refine Out.perm pl2 ?_
    refine Out.again (i + 1, rs ++ [r], v2) ?_ ?_ ?_ ?_
    · exact ⟨by show i + 1 ≤ l.length; omega, by show (rs ++ [r]).map PmR.p = l.take (i + 1); rw [Ag.take_more hx, List.map_append, hrs, List.map_singleton, hrx]⟩
    · (first | omega | (dsimp only; omega))
    · exact (Sub.cons rfl (Sub.cons rfl (Sub.cons rfl (Sub.cons rfl (Sub.cons rfl (Sub.cons rfl (Sub.cons rfl Sub.nil)))))))
    · exact (fun w h => by dsimp only; rw [flatOf_snoc, List.length_append]; exact h)
  · skip
    have h1 : ¬ (((i : Nat) : Int) < ((l.length : Nat) : Int)) := h1
    refine WPc.exit ?_
    refine Out.then_exit ?_
    refine Out.then_exit ?_
    refine Out.block_exit ?_
    refine Out.next ?_
    refine WPc.seq ?_
    refine WPc.seq ?_
    have hti : l.take i = l := List.take_of_length_le (by first | omega | exact Nat.zero_le _)
    rw [hti] at hrs
    obtain ⟨hro, hrv⟩ := rs_ok hrs hok
    have hrl : rs.length ≤ 1000 := by omega
    refine WPc.region ?_
    refine WP.val rfl rfl rfl (Val.move rfl rfl) ?_
    refine WP.val rfl rfl rfl (Val.neq rfl rfl rfl) ?_
    refine WP.val rfl rfl rfl (Val.move rfl rfl) ?_
    refine WP.split 27 rfl (fun h2 => ?_) (fun h2 => ?_)
    · skip
      have h2 : (kind ≠ (0 : Int)) := h2
      refine WP.valG rfl rfl rfl rfl rfl rfl rfl (Val.move rfl rfl) ?_
      refine WP.valG rfl rfl rfl rfl rfl rfl rfl (Val.neq rfl rfl rfl) ?_
      refine WP.val rfl rfl rfl (Val.pickT rfl rfl rfl) ?_
      refine WP.nil ?_
      refine Out.next ?_
      refine WPc.ifP rfl (fun h3 => ?_) (fun h3 => ?_)
      · skip
        have h3 : (kind ≠ (1 : Int)) := h3
        exfalso; omega
      · skip
        have h3 : ¬ (kind ≠ (1 : Int)) := h3
        refine WPc.skip ?_
        refine Out.next ?_
        refine WPc.seq ?_
        refine WPc.perm pl1 ?_
        refine WPc.conv (fun w h => h.seqMk) ?_
        show WPc _ _ _ _ _ _ (Seq v rs.length ((flatOf ptr1 rs)) :: A :: Kds PmP rs :: F)
        refine WPc.region ?_
        refine WP.val rfl rfl rfl (Val.move rfl rfl) ?_
        refine WP.val rfl rfl rfl (Val.move rfl rfl) ?_
        refine WP.eff rfl rfl rfl (Eff.bytes rfl Ty.st9 Ty.by110 rfl) ?_
        rintro _ _ ⟨b3, capb3, spb3, rfl, hcb3, hsb3, rfl⟩
        refine WP.val rfl rfl rfl (Val.move rfl rfl) ?_
        refine WP.eff rfl rfl rfl (Eff.bytes rfl Ty.st9 Ty.by110 rfl) ?_
        rintro _ _ ⟨b4, capb4, spb4, rfl, hcb4, hsb4, rfl⟩
        refine WP.val rfl rfl rfl (Val.move rfl rfl) ?_
        refine WP.val rfl rfl rfl (Val.conv (z := kind) rfl Ty.ik111 Ty.un3 rfl (wrap01 hkd)) ?_
        refine WP.perm pl1 ?_
        refine WP.perm pl4 ?_
        refine WP.perm pl3 ?_
        refine WP.eff rfl rfl rfl (Eff.call rfl rfl Try.call59 (zz_spec key fin (by omega) (by omega) hvr kind hkd b3 capb3 b4 capb4 spb3 spb4 hcb3 hcb4 rs hrl hro hrv v)) ?_
        rintro _ _ ⟨_, ⟨b, rfl, hb, rfl⟩, rfl⟩
        show WP _ _ _ _ _ _ _ (A :: F)
        refine WP.val rfl rfl rfl (Val.assign rfl rfl) ?_
        refine WP.nil ?_
        refine Out.next ?_
        refine WPc.ret ?_
        exact Out.ret1 (L' := [A]) Try.results22 rfl ⟨_, rfl, by rw [hrs] at hb; exact hb, rfl⟩ (fun w h => h)
    · skip
      have h2 : ¬ (kind ≠ (0 : Int)) := h2
      refine WP.skip rfl rfl rfl rfl rfl rfl rfl ?_
      refine WP.skip rfl rfl rfl rfl rfl rfl rfl ?_
      refine WP.val rfl rfl rfl (Val.pickF rfl rfl rfl) ?_
      refine WP.nil ?_
      refine Out.next ?_
      refine WPc.condF rfl rfl ?_
      refine WPc.skip ?_
      refine Out.next ?_
      refine WPc.seq ?_
      refine WPc.perm pl1 ?_
      refine WPc.conv (fun w h => h.seqMk) ?_
      show WPc _ _ _ _ _ _ (Seq v rs.length ((flatOf ptr1 rs)) :: A :: Kds PmP rs :: F)
      refine WPc.region ?_
      refine WP.val rfl rfl rfl (Val.move rfl rfl) ?_
      refine WP.val rfl rfl rfl (Val.move rfl rfl) ?_
      refine WP.eff rfl rfl rfl (Eff.bytes rfl Ty.st9 Ty.by110 rfl) ?_
      rintro _ _ ⟨b5, capb5, spb5, rfl, hcb5, hsb5, rfl⟩
      refine WP.val rfl rfl rfl (Val.move rfl rfl) ?_
      refine WP.eff rfl rfl rfl (Eff.bytes rfl Ty.st9 Ty.by110 rfl) ?_
      rintro _ _ ⟨b6, capb6, spb6, rfl, hcb6, hsb6, rfl⟩
      refine WP.val rfl rfl rfl (Val.move rfl rfl) ?_
      refine WP.val rfl rfl rfl (Val.conv (z := kind) rfl Ty.ik111 Ty.un3 rfl (wrap01 hkd)) ?_
      refine WP.perm pl1 ?_
      refine WP.perm pl4 ?_
      refine WP.perm pl3 ?_
      refine WP.eff rfl rfl rfl (Eff.call rfl rfl Try.call59 (zz_spec key fin (by omega) (by omega) hvr kind hkd b5 capb5 b6 capb6 spb5 spb6 hcb5 hcb6 rs hrl hro hrv v)) ?_
      rintro _ _ ⟨_, ⟨b, rfl, hb, rfl⟩, rfl⟩
      show WP _ _ _ _ _ _ _ (A :: F)
      refine WP.val rfl rfl rfl (Val.assign rfl rfl) ?_
      refine WP.nil ?_
      refine Out.next ?_
      refine WPc.ret ?_
      exact Out.ret1 (L' := [A]) Try.results22 rfl ⟨_, rfl, by rw [hrs] at hb; exact hb, rfl⟩ (fun w h => h)

theorem permits_spec (A : HProp) (key fin : ByteArray) (hkz : key.size ≤ 64) (hfz : fin.size ≤ 64) (hvr : VR key fin) (kind : Int) (hkd : kind = 0 ∨ kind = 1) (l : List Pm) (hl : l.length ≤ 1000) (hok : ∀ p ∈ l, PmOk p) (va : Value) (hva : Rd A 3 Pm.cells va l) : Does Try.prog 22 [va, .string key, .string fin, .int .i64 (kind)] [A] (fun v L => ∃ b, v = .bool b ∧ (b = true ↔ Cov kind l (ka key) (qE key fin)) ∧ L = [A]) := by
  rcases hva with ⟨b0, o0, c0, rfl, hr⟩ | ⟨rfl, a, c, rfl⟩
  · exact permits_row A key fin hkz hfz hvr kind hkd l hl hok b0 o0 c0 hr
  · exact permits_nil A key fin hkz hfz hvr kind hkd a c
set_option maxRecDepth 100000 in
set_option maxHeartbeats 2000000 in
theorem fits3_does (x : Pm) : Does Try.prog 57 [.agg #[.int .i64 (x.k), .string x.key, .string x.fin]] [] (fun v L => ∃ b, v = .bool b ∧ L = []) := by
  refine Does.enter 11 Try.func57 rfl rfl rfl fun W F => ?_
  show WPc _ _ _ _ _ [(0, .agg #[.int .i64 (x.k), .string x.key, .string x.fin])] (F)
  refine WPc.seq ?_
  refine WPc.region ?_
  refine WP.eff rfl rfl rfl (Eff.box (C := [.int .i64 (x.k), .string x.key, .string x.fin]) rfl rfl rfl) ?_
  rintro _ F ⟨b1, rfl, rfl⟩
  refine WP.val rfl rfl rfl (Val.assign rfl rfl) ?_
  refine WP.nil ?_
  refine Out.next ?_
  refine WPc.seq ?_
  refine WPc.seq ?_
  refine WPc.region ?_
  refine WP.val rfl rfl rfl (Val.fieldAddr (j := 1) rfl Ty.fo45_1 rfl rfl) ?_
  refine WP.val rfl rfl rfl (Val.load rfl Ty.sc9 rfl (fun w h => h.cell 0 rfl rfl)) ?_
  refine WP.val rfl rfl rfl (Val.lenS rfl Ty.st9 rfl) ?_
  refine WP.val rfl rfl rfl (Val.gtr rfl rfl rfl) ?_
  refine WP.nil ?_
  refine Out.next ?_
  refine WPc.ifP rfl (fun h1 => ?_) (fun h1 => ?_)
  · skip
    have h1 : ((2147483647 : Int) < (((x.key).size : Nat) : Int)) := h1
    refine WPc.seq ?_
    refine WPc.region ?_
    refine WP.val rfl rfl rfl (Val.assign rfl rfl) ?_
    refine WP.nil ?_
    refine Out.next ?_
    refine WPc.ret ?_
    refine Out.then_ret ?_
    refine Out.drop ?_
    exact Out.ret1 (L' := []) Try.results57 rfl ⟨_, rfl, rfl⟩ (fun w h => h)
  · skip
    have h1 : ¬ ((2147483647 : Int) < (((x.key).size : Nat) : Int)) := h1
    refine WPc.skip ?_
    refine Out.next ?_
    refine WPc.seq ?_
    refine WPc.seq ?_
    refine WPc.region ?_
    refine WP.val rfl rfl rfl (Val.fieldAddr (j := 2) rfl Ty.fo45_2 rfl rfl) ?_
    refine WP.val rfl rfl rfl (Val.load rfl Ty.sc9 rfl (fun w h => h.cell 0 rfl rfl)) ?_
    refine WP.val rfl rfl rfl (Val.lenS rfl Ty.st9 rfl) ?_
    refine WP.val rfl rfl rfl (Val.gtr rfl rfl rfl) ?_
    refine WP.nil ?_
    refine Out.next ?_
    refine WPc.ifP rfl (fun h2 => ?_) (fun h2 => ?_)
    · skip
      have h2 : ((2147483647 : Int) < (((x.fin).size : Nat) : Int)) := h2
      refine WPc.seq ?_
      refine WPc.region ?_
      refine WP.val rfl rfl rfl (Val.assign rfl rfl) ?_
      refine WP.nil ?_
      refine Out.next ?_
      refine WPc.ret ?_
      refine Out.then_ret ?_
      refine Out.drop ?_
      exact Out.ret1 (L' := []) Try.results57 rfl ⟨_, rfl, rfl⟩ (fun w h => h)
    · skip
      have h2 : ¬ ((2147483647 : Int) < (((x.fin).size : Nat) : Int)) := h2
      refine WPc.skip ?_
      refine Out.next ?_
      refine WPc.seq ?_
      refine WPc.region ?_
      refine WP.val rfl rfl rfl (Val.assign rfl rfl) ?_
      refine WP.nil ?_
      refine Out.next ?_
      refine WPc.ret ?_
      refine Out.drop ?_
      exact Out.ret1 (L' := []) Try.results57 rfl ⟨_, rfl, rfl⟩ (fun w h => h)
set_option maxRecDepth 100000 in
set_option maxHeartbeats 2000000 in
theorem fits4_nil (A : HProp) (a : Option Addr) (c : Nat) : Does Try.prog 18 [.slice a 0 c] [A] (fun v L => ∃ b, v = .bool b ∧ (b = true → 0 ≤ 2147483647) ∧ L = [A]) := by
  refine Does.enter 18 Try.func18 rfl rfl rfl fun W F => ?_
  show WPc _ _ _ _ _ [(0, .slice a 0 c)] (A :: F)
  refine WPc.seq ?_
  refine WPc.region ?_
  refine WP.val rfl rfl rfl (Val.assign rfl rfl) ?_
  refine WP.nil ?_
  refine Out.next ?_
  refine WPc.seq ?_
  refine WPc.seq ?_
  refine WPc.region ?_
  refine WP.val rfl rfl rfl (Val.move rfl rfl) ?_
  refine WP.val rfl rfl rfl (Val.len rfl Ty.sl39 rfl) ?_
  refine WP.val rfl rfl rfl (Val.gtr rfl rfl rfl) ?_
  refine WP.nil ?_
  refine Out.next ?_
  refine WPc.ifP rfl (fun h1 => ?_) (fun h1 => ?_)
  · skip
    have h1 : ((2147483647 : Int) < (0 : Int)) := h1
    refine WPc.seq ?_
    refine WPc.region ?_
    refine WP.val rfl rfl rfl (Val.assign rfl rfl) ?_
    refine WP.nil ?_
    refine Out.next ?_
    refine WPc.ret ?_
    refine Out.then_ret ?_
    exact Out.ret1 (L' := [A]) Try.results18 rfl ⟨_, rfl, (fun h => by cases h), rfl⟩ (fun w h => h)
  · skip
    have h1 : ¬ ((2147483647 : Int) < (0 : Int)) := h1
    refine WPc.skip ?_
    refine Out.next ?_
    refine WPc.seq ?_
    refine WPc.seq ?_
    refine WPc.region ?_
    refine WP.val rfl rfl rfl (Val.move rfl rfl) ?_
    refine WP.val rfl rfl rfl (Val.len rfl Ty.sl39 rfl) ?_
    refine WP.val rfl rfl rfl (Val.move rfl rfl) ?_
    refine WP.nil ?_
    refine Out.next ?_
    refine WPc.block ?_
    refine WPc.loop (ι := Nat) (fun i => i ≤ 0) (fun i => [(8, .slice a 0 c), (9, .int .i64 0), (10, .int .i64 (((i : Nat) : Int)))]) (fun i => A :: F) (fun i => 0 - i) 0 (Nat.zero_le _) ((Sub.cons rfl (Sub.cons rfl (Sub.cons rfl Sub.nil)))) (fun _ h => h) ?_
    rintro i hi
    show WPc _ _ _ _ _ [(8, .slice a 0 c), (9, .int .i64 0), (10, .int .i64 (((i : Nat) : Int)))] (A :: F)
    replace hi : i ≤ 0 := hi
    refine WPc.seq ?_
    refine WPc.region ?_
    refine WP.val rfl rfl rfl (Val.lss rfl rfl rfl) ?_
    refine WP.nil ?_
    refine Out.next ?_
    refine WPc.seq ?_
    refine WPc.ifP rfl (fun h2 => ?_) (fun h2 => ?_)
    · skip
      have h2 : (((i : Nat) : Int) < (0 : Int)) := h2
      exfalso; omega
    · skip
      have h2 : ¬ (((i : Nat) : Int) < (0 : Int)) := h2
      refine WPc.exit ?_
      refine Out.then_exit ?_
      refine Out.then_exit ?_
      refine Out.block_exit ?_
      refine Out.next ?_
      refine WPc.seq ?_
      refine WPc.region ?_
      refine WP.val rfl rfl rfl (Val.assign rfl rfl) ?_
      refine WP.nil ?_
      refine Out.next ?_
      refine WPc.ret ?_
      exact Out.ret1 (L' := [A]) Try.results18 rfl ⟨_, rfl, (fun _ => by first | omega | exact Nat.zero_le _), rfl⟩ (fun w h => h)

set_option maxRecDepth 100000 in
set_option maxHeartbeats 2000000 in
theorem fits4_row (A : HProp) (l : List Pm) (hl : l.length ≤ 9223372036854775807) (b0 o0 c0 : Nat) (hr : ∀ w, Holds A w → ∀ i x, l[i]? = some x → w.rangeAt b0 (o0 + i * 3) (Pm.cells x)) : Does Try.prog 18 [.slice (some ⟨b0, o0, none⟩) l.length c0] [A] (fun v L => ∃ b, v = .bool b ∧ (b = true → l.length ≤ 2147483647) ∧ L = [A]) := by
  refine Does.enter 18 Try.func18 rfl rfl rfl fun W F => ?_
  show WPc _ _ _ _ _ [(0, .slice (some ⟨b0, o0, none⟩) l.length c0)] (A :: F)
  refine WPc.seq ?_
  refine WPc.region ?_
  refine WP.val rfl rfl rfl (Val.assign rfl rfl) ?_
  refine WP.nil ?_
  refine Out.next ?_
  refine WPc.seq ?_
  refine WPc.seq ?_
  refine WPc.region ?_
  refine WP.val rfl rfl rfl (Val.move rfl rfl) ?_
  refine WP.val rfl rfl rfl (Val.len rfl Ty.sl39 rfl) ?_
  refine WP.val rfl rfl rfl (Val.gtr rfl rfl rfl) ?_
  refine WP.nil ?_
  refine Out.next ?_
  refine WPc.ifP rfl (fun h1 => ?_) (fun h1 => ?_)
  · skip
    have h1 : ((2147483647 : Int) < ((l.length : Nat) : Int)) := h1
    refine WPc.seq ?_
    refine WPc.region ?_
    refine WP.val rfl rfl rfl (Val.assign rfl rfl) ?_
    refine WP.nil ?_
    refine Out.next ?_
    refine WPc.ret ?_
    refine Out.then_ret ?_
    exact Out.ret1 (L' := [A]) Try.results18 rfl ⟨_, rfl, (fun h => by cases h), rfl⟩ (fun w h => h)
  · skip
    have h1 : ¬ ((2147483647 : Int) < ((l.length : Nat) : Int)) := h1
    refine WPc.skip ?_
    refine Out.next ?_
    refine WPc.seq ?_
    refine WPc.seq ?_
    refine WPc.region ?_
    refine WP.val rfl rfl rfl (Val.move rfl rfl) ?_
    refine WP.val rfl rfl rfl (Val.len rfl Ty.sl39 rfl) ?_
    refine WP.val rfl rfl rfl (Val.move rfl rfl) ?_
    refine WP.nil ?_
    refine Out.next ?_
    refine WPc.block ?_
    refine WPc.loop (ι := Nat) (fun i => i ≤ l.length) (fun i => [(8, .slice (some ⟨b0, o0, none⟩) l.length c0), (9, .int .i64 (((l.length : Nat) : Int))), (10, .int .i64 (((i : Nat) : Int)))]) (fun i => A :: F) (fun i => l.length - i) 0 (Nat.zero_le _) ((Sub.cons rfl (Sub.cons rfl (Sub.cons rfl Sub.nil)))) (fun _ h => h) ?_
    rintro i hi
    show WPc _ _ _ _ _ [(8, .slice (some ⟨b0, o0, none⟩) l.length c0), (9, .int .i64 (((l.length : Nat) : Int))), (10, .int .i64 (((i : Nat) : Int)))] (A :: F)
    replace hi : i ≤ l.length := hi
    refine WPc.seq ?_
    refine WPc.region ?_
    refine WP.val rfl rfl rfl (Val.lss rfl rfl rfl) ?_
    refine WP.nil ?_
    refine Out.next ?_
    refine WPc.seq ?_
    refine WPc.ifP rfl (fun h2 => ?_) (fun h2 => ?_)
    · skip
      have h2 : (((i : Nat) : Int) < ((l.length : Nat) : Int)) := h2
      refine WPc.skip ?_
      refine Out.next ?_
      refine WPc.seq ?_
      refine WPc.block ?_
      refine WPc.seq ?_
      have hlt : i < l.length := by omega
      obtain ⟨x, hx⟩ : ∃ x, l[i]? = some x := ⟨_, List.getElem?_eq_getElem hlt⟩
      refine WPc.region ?_
      refine WP.val rfl rfl rfl (Val.indexAddr (j := i) (q := o0 + i * 3) rfl Ty.sl39 rfl rfl (by omega) (by omega) (by omega)) ?_
      refine WP.val rfl rfl rfl (Val.loadAgg (cs := (Pm.cells x)) rfl Ty.ag45 rfl (by rfl) (fun w h => hr w (h.at 0 rfl) i x hx)) ?_
      refine WP.eff rfl rfl rfl (Eff.alloc rfl Ty.z45) ?_
      rintro _ _ ⟨b1, rfl, rfl⟩
      refine WP.eff0 rfl rfl (Eff.storeAgg (cs := [.int .i64 (x.k), .string x.key, .string x.fin]) (C' := [.int .i64 (x.k), .string x.key, .string x.fin]) rfl Ty.ag45 rfl rfl rfl rfl (by simp) rfl) ?_
      rintro _ _ rfl
      refine WP.nil ?_
      refine Out.next ?_
      refine WPc.seq ?_
      refine WPc.region ?_
      refine WP.val rfl rfl rfl (Val.loadAgg (cs := [.int .i64 (x.k), .string x.key, .string x.fin]) rfl Ty.ag45 rfl rfl (fun w h => h.range 0 rfl rfl)) ?_
      refine WP.eff rfl rfl rfl (Eff.call rfl rfl Try.call57 (fits3_does x)) ?_
      rintro _ _ ⟨_, ⟨b, rfl, rfl⟩, rfl⟩
      show WP _ _ _ _ _ _ _ (Blk b1 [.int .i64 (x.k), .string x.key, .string x.fin] 45 :: A :: F)
      refine WP.val rfl rfl rfl (Val.not rfl rfl) ?_
      refine WP.nil ?_
      refine Out.next ?_
      refine WPc.cond rfl (fun h3 => ?_) (fun h3 => ?_)
      · skip
        have h3 : (!b) = true := h3
        refine WPc.seq ?_
        refine WPc.region ?_
        refine WP.val rfl rfl rfl (Val.assign rfl rfl) ?_
        refine WP.nil ?_
        refine Out.next ?_
        refine WPc.ret ?_
        refine Out.block_ret ?_
        refine Out.then_ret ?_
        refine Out.then_ret ?_
        refine Out.block_ret ?_
        refine Out.then_ret ?_
        refine Out.drop ?_
        exact Out.ret1 (L' := [A]) Try.results18 rfl ⟨_, rfl, (fun h => by cases h), rfl⟩ (fun w h => h)
      · skip
        have h3 : (!b) = false := h3
        refine WPc.skip ?_
        refine Out.block ?_
        refine Out.next ?_
        refine WPc.region ?_
        refine WP.val rfl rfl rfl (Val.add (z := ((i + 1 : Nat) : Int)) rfl rfl rfl ((w64 (by omega) (by omega)).trans (by omega))) ?_
        refine WP.val rfl rfl rfl (Val.move rfl rfl) ?_
        refine WP.nil ?_
        refine Out.drop ?_
        refine Out.again (i + 1) ?_ ?_ ?_ ?_
        · exact (by show i + 1 ≤ l.length; omega)
        · (first | omega | (dsimp only; omega))
        · exact (Sub.cons rfl (Sub.cons rfl (Sub.cons rfl Sub.nil)))
        · exact (fun _ h => h)
    · skip
      have h2 : ¬ (((i : Nat) : Int) < ((l.length : Nat) : Int)) := h2
      refine WPc.exit ?_
      refine Out.then_exit ?_
      refine Out.then_exit ?_
      refine Out.block_exit ?_
      refine Out.next ?_
      refine WPc.seq ?_
      refine WPc.region ?_
      refine WP.val rfl rfl rfl (Val.assign rfl rfl) ?_
      refine WP.nil ?_
      refine Out.next ?_
      refine WPc.ret ?_
      exact Out.ret1 (L' := [A]) Try.results18 rfl ⟨_, rfl, (fun _ => by first | omega | exact Nat.zero_le _), rfl⟩ (fun w h => h)

theorem fits4_spec (A : HProp) (l : List Pm) (hl : l.length ≤ 9223372036854775807) (va : Value) (hva : Rd A 3 Pm.cells va l) : Does Try.prog 18 [va] [A] (fun v L => ∃ b, v = .bool b ∧ (b = true → l.length ≤ 2147483647) ∧ L = [A]) := by
  rcases hva with ⟨b0, o0, c0, rfl, hr⟩ | ⟨rfl, a, c, rfl⟩
  · exact fits4_row A l hl b0 o0 c0 hr
  · exact fits4_nil A a c
set_option maxRecDepth 100000 in
set_option maxHeartbeats 2000000 in
theorem key_does (x : ByteArray) : Does Try.prog 20 [.string x] [] (fun v L => v = .bool (decide (((x.size : Nat) : Int) ≤ 64)) ∧ L = []) := by
  refine Does.enter 6 Try.func20 rfl rfl rfl fun W F => ?_
  show WPc _ _ _ _ _ [(0, .string x)] (F)
  refine WPc.seq ?_
  refine WPc.region ?_
  refine WP.val rfl rfl rfl (Val.assign rfl rfl) ?_
  refine WP.nil ?_
  refine Out.next ?_
  refine WPc.seq ?_
  refine WPc.region ?_
  refine WP.val rfl rfl rfl (Val.move rfl rfl) ?_
  refine WP.val rfl rfl rfl (Val.lenS rfl Ty.st9 rfl) ?_
  refine WP.val rfl rfl rfl (Val.leq rfl rfl rfl) ?_
  refine WP.val rfl rfl rfl (Val.assign rfl rfl) ?_
  refine WP.nil ?_
  refine Out.next ?_
  refine WPc.ret ?_
  exact Out.ret1 (L' := []) Try.results20 rfl ⟨rfl, rfl⟩ (fun w h => h)

theorem seq0 (x : ByteArray) : seq x ⟨#[0]⟩ = opn x := by
  have e : (⟨#[0]⟩ : ByteArray).toList = [0] := by rw [ByteArray.toList_eq]
  unfold seq opn; rw [e, Bool.eq_iff_iff]; simp
set_option maxRecDepth 100000 in
set_option maxHeartbeats 2000000 in
theorem vr_does (key fin : ByteArray) : Does Try.prog 21 [.string key, .string fin] [] (fun v L => ∃ b, v = .bool b ∧ (b = true → VR key fin) ∧ L = []) := by
  refine Does.enter 20 Try.func21 rfl rfl rfl fun W F => ?_
  show WPc _ _ _ _ _ [(0, .string key), (1, .string fin)] (F)
  refine WPc.seq ?_
  refine WPc.region ?_
  refine WP.val rfl rfl rfl (Val.assign rfl rfl) ?_
  refine WP.nil ?_
  refine Out.next ?_
  refine WPc.seq ?_
  refine WPc.region ?_
  refine WP.val rfl rfl rfl (Val.move rfl rfl) ?_
  refine WP.val rfl rfl rfl (Val.neqS rfl rfl rfl) ?_
  refine WP.val rfl rfl rfl (Val.move rfl rfl) ?_
  refine WP.splitB 7 rfl (fun h1 => ?_) (fun h1 => ?_)
  · skip
    refine WP.valG rfl rfl rfl rfl rfl rfl rfl (Val.move rfl rfl) ?_
    refine WP.valG rfl rfl rfl rfl rfl rfl rfl (Val.eqlS rfl rfl rfl) ?_
    refine WP.valG rfl rfl rfl rfl rfl rfl rfl (Val.move rfl rfl) ?_
    refine WP.splitB 10 rfl (fun h2 => ?_) (fun h2 => ?_)
    · skip
      refine WP.skip rfl rfl rfl rfl rfl rfl rfl ?_
      refine WP.skip rfl rfl rfl rfl rfl rfl rfl ?_
      refine WP.valG rfl rfl rfl rfl rfl rfl rfl (Val.pickT rfl rfl rfl) ?_
      refine WP.valG rfl rfl rfl rfl rfl rfl rfl (Val.move rfl rfl) ?_
      refine WP.skip rfl rfl rfl rfl rfl rfl rfl ?_
      refine WP.skip rfl rfl rfl rfl rfl rfl rfl ?_
      refine WP.skip rfl rfl rfl rfl rfl rfl rfl ?_
      refine WP.valG rfl rfl rfl rfl rfl rfl rfl (Val.pickT rfl rfl rfl) ?_
      refine WP.val rfl rfl rfl (Val.pickT rfl rfl rfl) ?_
      refine WP.val rfl rfl rfl (Val.assign rfl rfl) ?_
      refine WP.nil ?_
      refine Out.next ?_
      refine WPc.ret ?_
      exact Out.ret1 (L' := []) Try.results21 rfl ⟨_, rfl, (fun hb => by simp_all [VR, seq_nil, seq0]), rfl⟩ (fun w h => h)
    · skip
      refine WP.valG rfl rfl rfl rfl rfl rfl rfl (Val.move rfl rfl) ?_
      refine WP.valG rfl rfl rfl rfl rfl rfl rfl (Val.eqlS rfl rfl rfl) ?_
      refine WP.valG rfl rfl rfl rfl rfl rfl rfl (Val.pickF rfl rfl rfl) ?_
      refine WP.valG rfl rfl rfl rfl rfl rfl rfl (Val.move rfl rfl) ?_
      refine WP.splitB 14 rfl (fun h3 => ?_) (fun h3 => ?_)
      · skip
        refine WP.skip rfl rfl rfl rfl rfl rfl rfl ?_
        refine WP.skip rfl rfl rfl rfl rfl rfl rfl ?_
        refine WP.skip rfl rfl rfl rfl rfl rfl rfl ?_
        refine WP.valG rfl rfl rfl rfl rfl rfl rfl (Val.pickT rfl rfl rfl) ?_
        refine WP.val rfl rfl rfl (Val.pickT rfl rfl rfl) ?_
        refine WP.val rfl rfl rfl (Val.assign rfl rfl) ?_
        refine WP.nil ?_
        refine Out.next ?_
        refine WPc.ret ?_
        exact Out.ret1 (L' := []) Try.results21 rfl ⟨_, rfl, (fun hb => by simp_all [VR, seq_nil, seq0]), rfl⟩ (fun w h => h)
      · skip
        refine WP.valG rfl rfl rfl rfl rfl rfl rfl (Val.move rfl rfl) ?_
        refine WP.valG rfl rfl rfl rfl rfl rfl rfl (Val.move rfl rfl) ?_
        refine WP.valG rfl rfl rfl rfl rfl rfl rfl (Val.lssS rfl rfl rfl) ?_
        refine WP.valG rfl rfl rfl rfl rfl rfl rfl (Val.pickF rfl rfl rfl) ?_
        refine WP.val rfl rfl rfl (Val.pickT rfl rfl rfl) ?_
        refine WP.val rfl rfl rfl (Val.assign rfl rfl) ?_
        refine WP.nil ?_
        refine Out.next ?_
        refine WPc.ret ?_
        exact Out.ret1 (L' := []) Try.results21 rfl ⟨_, rfl, (fun hb => by simp_all [VR, seq_nil, seq0]), rfl⟩ (fun w h => h)
  · skip
    refine WP.skip rfl rfl rfl rfl rfl rfl rfl ?_
    refine WP.skip rfl rfl rfl rfl rfl rfl rfl ?_
    refine WP.skip rfl rfl rfl rfl rfl rfl rfl ?_
    refine WP.skipU rfl rfl rfl rfl rfl rfl ?_
    refine WP.skipU rfl rfl rfl rfl rfl rfl ?_
    refine WP.skip rfl rfl rfl rfl rfl rfl rfl ?_
    refine WP.skip rfl rfl rfl rfl rfl rfl rfl ?_
    refine WP.skipU rfl rfl rfl rfl rfl rfl ?_
    refine WP.skipU rfl rfl rfl rfl rfl rfl ?_
    refine WP.skipU rfl rfl rfl rfl rfl rfl ?_
    refine WP.skip rfl rfl rfl rfl rfl rfl rfl ?_
    refine WP.val rfl rfl rfl (Val.pickF rfl rfl rfl) ?_
    refine WP.val rfl rfl rfl (Val.assign rfl rfl) ?_
    refine WP.nil ?_
    refine Out.next ?_
    refine WPc.ret ?_
    exact Out.ret1 (L' := []) Try.results21 rfl ⟨_, rfl, (fun h => by cases h), rfl⟩ (fun w h => h)

end Go.Proofs.Ytbomnihiapjmpaa.Aj

