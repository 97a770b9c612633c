import Derived.Test.YthicijpjpijdjaaDoorWi
namespace Go.Proofs.YthicijpjpijdjaaDoor.Wj
open Go.RowKit Go.Proofs.YthicijpjpijdjaaDoor Go.Proofs.YthicijpjpijdjaaDoor.Sl Go.Proofs.YthicijpjpijdjaaDoor.Wa Go.Proofs.YthicijpjpijdjaaDoor.Wb Go.Proofs.YthicijpjpijdjaaDoor.Wc Go.Proofs.YthicijpjpijdjaaDoor.Wd Go.Proofs.YthicijpjpijdjaaDoor.We Go.Proofs.YthicijpjpijdjaaDoor.Wf Go.Proofs.YthicijpjpijdjaaDoor.Wg Go.Proofs.YthicijpjpijdjaaDoor.Wh Go.Proofs.YthicijpjpijdjaaDoor.Wi
set_option linter.unusedVariables false
set_option linter.unusedSimpArgs false
set_option linter.unusedSectionVars false

set_option maxRecDepth 100000 in
set_option maxHeartbeats 2000000 in
theorem take_ty (A : HProp) (l r : List UInt8) (b0 o0 c0 : Nat) (hr : ∀ w, Holds A w → w.rangeAt b0 o0 (byt l)) (hlen : l.length ≤ 4294967296) (hlc : l.length ≤ c0) (z0 : Int) (hz : 0 ≤ z0 ∧ z0 < 18446744073709551616) (hl : l = vint 8 ++ (vint z0 ++ r)) : Does Tryd.prog 93 [.slice (some ⟨b0, o0, none⟩) l.length c0, .int .i64 0] [A] (fun v L => ∃ o' c' : Nat, r.length ≤ c' ∧ v = .tuple #[.agg #[.int .i64 1, .bool false, .int .i64 (IntKind.wrap .i64 z0), .slice none 0 0], .slice (some ⟨b0, o', none⟩) r.length c', .bool true] ∧ L = [A] ∧ ∀ w, Holds A w → w.rangeAt b0 o' (byt r)) := by
  have hb1 : (vint z0 ++ r).length ≤ 4294967296 := by rw [hl] at hlen; simp at hlen ⊢; omega
  refine Does.enter 136 Tryd.func93 rfl rfl rfl fun W F => ?_
  show WPc _ _ _ _ _ [(0, .slice (some ⟨b0, o0, none⟩) l.length c0), (1, .int .i64 0)] (A :: F)
  refine WPc.seq ?_
  refine WPc.region ?_
  refine WP.eff rfl rfl rfl (Eff.alloc rfl Ty.z162) ?_
  rintro _ _ ⟨b1, rfl, rfl⟩
  refine WP.val rfl rfl rfl (Val.assign rfl rfl) ?_
  refine WP.val rfl rfl rfl (Val.assign rfl rfl) ?_
  refine WP.nil ?_
  refine Out.next ?_
  refine WPc.seq ?_
  refine WPc.region ?_
  refine WP.val rfl rfl rfl (Val.move rfl rfl) ?_
  refine WP.perm pl1 ?_
  refine WP.eff rfl rfl rfl (Eff.call rfl rfl Tryd.call94 (tv_spec A (l) (vint z0 ++ r) 8 b0 o0 c0 hr (by first | omega | (simp; omega)) hlc (by decide) hl)) ?_
  rintro _ _ ⟨_, ⟨o2, k2, hk2, rfl, rfl, hq2⟩, rfl⟩
  show WP _ _ _ _ _ _ _ (A :: Blk b1 [.int .i64 0, .bool false, .int .i64 0, .slice none 0 0] 162 :: F)
  refine WP.val rfl rfl rfl (Val.move rfl rfl) ?_
  refine WP.val rfl rfl rfl (Val.extract rfl rfl rfl) ?_
  refine WP.val rfl rfl rfl (Val.extract rfl rfl rfl) ?_
  refine WP.val rfl rfl rfl (Val.extract rfl rfl rfl) ?_
  refine WP.val rfl rfl rfl (Val.assign rfl rfl) ?_
  refine WP.val rfl rfl rfl (Val.assign rfl rfl) ?_
  refine WP.val rfl rfl rfl (Val.assign rfl rfl) ?_
  refine WP.nil ?_
  refine Out.next ?_
  refine WPc.seq ?_
  refine WPc.seq ?_
  refine WPc.region ?_
  refine WP.val rfl rfl rfl (Val.move rfl rfl) ?_
  refine WP.val rfl rfl rfl (Val.not rfl rfl) ?_
  refine WP.val rfl rfl rfl (Val.move rfl rfl) ?_
  refine WP.valG rfl rfl rfl rfl rfl rfl rfl (Val.move rfl rfl) ?_
  refine WP.valG rfl rfl rfl rfl rfl rfl rfl (Val.intK (z := 1) (Val.shr rfl rfl rfl (by decide)) (by decide)) ?_
  refine WP.valG rfl rfl rfl rfl rfl rfl rfl (Val.eqlK rfl rfl rfl rfl) ?_
  refine WP.val rfl rfl rfl (Val.pickF rfl rfl rfl) ?_
  refine WP.val rfl rfl rfl (Val.move rfl rfl) ?_
  refine WP.valG rfl rfl rfl rfl rfl rfl rfl (Val.move rfl rfl) ?_
  refine WP.valG rfl rfl rfl rfl rfl rfl rfl (Val.intK (z := 1) (Val.shr rfl rfl rfl (by decide)) (by decide)) ?_
  refine WP.valG rfl rfl rfl rfl rfl rfl rfl (Val.boolK (q := false) (Val.gtr rfl rfl rfl) (by decide)) ?_
  refine WP.val rfl rfl rfl (Val.pickF rfl rfl rfl) ?_
  refine WP.val rfl rfl rfl (Val.move rfl rfl) ?_
  refine WP.valG rfl rfl rfl rfl rfl rfl rfl (Val.move rfl rfl) ?_
  refine WP.valG rfl rfl rfl rfl rfl rfl rfl (Val.boolK (q := false) (Val.gtr rfl rfl rfl) (by decide)) ?_
  refine WP.val rfl rfl rfl (Val.pickF rfl rfl rfl) ?_
  refine WP.nil ?_
  refine Out.next ?_
  refine WPc.condF rfl rfl ?_
  refine WPc.skip ?_
  refine Out.next ?_
  refine WPc.seq ?_
  refine WPc.seq ?_
  refine WPc.region ?_
  refine WP.val rfl rfl rfl (Val.move rfl rfl) ?_
  refine WP.val rfl rfl rfl (Val.intK (z := 0) (Val.and rfl rfl rfl) (by decide)) ?_
  refine WP.nil ?_
  refine Out.next ?_
  refine WPc.block ?_
  refine WPc.seq ?_
  refine WPc.region ?_
  refine WP.val rfl rfl rfl (Val.eqlK rfl rfl rfl rfl) ?_
  refine WP.val rfl rfl rfl (Val.assign rfl rfl) ?_
  refine WP.nil ?_
  refine Out.next ?_
  refine WPc.condT rfl rfl ?_
  refine WPc.seq ?_
  refine WPc.region ?_
  refine WP.val rfl rfl rfl (Val.move rfl rfl) ?_
  refine WP.eff rfl rfl rfl (Eff.call rfl rfl Tryd.call94 (tv_spec A (vint z0 ++ r) (r) z0 b0 o2 k2 hq2 (by first | omega | (simp; omega)) hk2 hz rfl)) ?_
  rintro _ _ ⟨_, ⟨o3, k3, hk3, rfl, rfl, hq3⟩, rfl⟩
  show WP _ _ _ _ _ _ _ (A :: Blk b1 [.int .i64 0, .bool false, .int .i64 0, .slice none 0 0] 162 :: F)
  refine WP.val rfl rfl rfl (Val.move rfl rfl) ?_
  refine WP.val rfl rfl rfl (Val.extract rfl rfl rfl) ?_
  refine WP.val rfl rfl rfl (Val.extract rfl rfl rfl) ?_
  refine WP.val rfl rfl rfl (Val.extract rfl rfl rfl) ?_
  refine WP.val rfl rfl rfl (Val.assign rfl rfl) ?_
  refine WP.val rfl rfl rfl (Val.assign rfl rfl) ?_
  refine WP.val rfl rfl rfl (Val.assign rfl rfl) ?_
  refine WP.nil ?_
  refine Out.next ?_
  refine WPc.seq ?_
  refine WPc.region ?_
  refine WP.val rfl rfl rfl (Val.move rfl rfl) ?_
  refine WP.val rfl rfl rfl (Val.intK (z := 1) (Val.shr rfl rfl rfl (by decide)) (by decide)) ?_
  refine WP.val rfl rfl rfl (Val.conv (z := 1) rfl Ty.ik3 Ty.un94 rfl (by decide)) ?_
  refine WP.val rfl rfl rfl (Val.move rfl rfl) ?_
  refine WP.val rfl rfl rfl (Val.conv (z := IntKind.wrap .i64 z0) rfl Ty.ik2 Ty.un94 rfl rfl) ?_
  refine WP.val rfl rfl rfl (Val.mk (cs := [.int .i64 1, .bool false, .int .i64 ((IntKind.wrap .i64 z0)), .slice none 0 0]) rfl rfl (fun _ => by kernel_rfl)) ?_
  refine WP.val rfl rfl rfl (Val.move rfl rfl) ?_
  refine WP.val rfl rfl rfl (Val.move rfl rfl) ?_
  refine WP.perm pl1 ?_
  refine WP.eff0 rfl rfl (Eff.storeAgg (cs := [.int .i64 1, .bool false, .int .i64 ((IntKind.wrap .i64 z0)), .slice none 0 0]) (C' := [.int .i64 1, .bool false, .int .i64 ((IntKind.wrap .i64 z0)), .slice none 0 0]) rfl Ty.ag162 rfl rfl rfl rfl (by simp) rfl) ?_
  rintro _ _ rfl
  refine WP.val rfl rfl rfl (Val.assign rfl rfl) ?_
  refine WP.val rfl rfl rfl (Val.assign rfl rfl) ?_
  refine WP.nil ?_
  refine Out.next ?_
  refine WPc.ret ?_
  refine Out.block_ret ?_
  refine Out.then_ret ?_
  exact Out.retRun (L' := _) (results_ctt (cs := [.int .i64 1, .bool false, .int .i64 ((IntKind.wrap .i64 z0)), .slice none 0 0]) Tryd.results93 rfl rfl rfl Ty.ag162 rfl (fun w h => h.range 0 rfl rfl)) ⟨_, _, hk3, rfl, rfl, hq3⟩ (fun w h => h.drop)

set_option maxRecDepth 100000 in
set_option maxHeartbeats 2000000 in
theorem take_su (A : HProp) (l r : List UInt8) (b0 o0 c0 : Nat) (hr : ∀ w, Holds A w → w.rangeAt b0 o0 (byt l)) (hlen : l.length ≤ 4294967296) (hlc : l.length ≤ c0) (z0 : Int) (hz : 0 ≤ z0 ∧ z0 < 18446744073709551616) (hl : l = vint 16 ++ (vint z0 ++ r)) : Does Tryd.prog 93 [.slice (some ⟨b0, o0, none⟩) l.length c0, .int .i64 0] [A] (fun v L => ∃ o' c' : Nat, r.length ≤ c' ∧ v = .tuple #[.agg #[.int .i64 2, .bool false, .int .i64 (IntKind.wrap .i64 z0), .slice none 0 0], .slice (some ⟨b0, o', none⟩) r.length c', .bool true] ∧ L = [A] ∧ ∀ w, Holds A w → w.rangeAt b0 o' (byt r)) := by
  have hb1 : (vint z0 ++ r).length ≤ 4294967296 := by rw [hl] at hlen; simp at hlen ⊢; omega
  refine Does.enter 136 Tryd.func93 rfl rfl rfl fun W F => ?_
  show WPc _ _ _ _ _ [(0, .slice (some ⟨b0, o0, none⟩) l.length c0), (1, .int .i64 0)] (A :: F)
  refine WPc.seq ?_
  refine WPc.region ?_
  refine WP.eff rfl rfl rfl (Eff.alloc rfl Ty.z162) ?_
  rintro _ _ ⟨b1, rfl, rfl⟩
  refine WP.val rfl rfl rfl (Val.assign rfl rfl) ?_
  refine WP.val rfl rfl rfl (Val.assign rfl rfl) ?_
  refine WP.nil ?_
  refine Out.next ?_
  refine WPc.seq ?_
  refine WPc.region ?_
  refine WP.val rfl rfl rfl (Val.move rfl rfl) ?_
  refine WP.perm pl1 ?_
  refine WP.eff rfl rfl rfl (Eff.call rfl rfl Tryd.call94 (tv_spec A (l) (vint z0 ++ r) 16 b0 o0 c0 hr (by first | omega | (simp; omega)) hlc (by decide) hl)) ?_
  rintro _ _ ⟨_, ⟨o2, k2, hk2, rfl, rfl, hq2⟩, rfl⟩
  show WP _ _ _ _ _ _ _ (A :: Blk b1 [.int .i64 0, .bool false, .int .i64 0, .slice none 0 0] 162 :: F)
  refine WP.val rfl rfl rfl (Val.move rfl rfl) ?_
  refine WP.val rfl rfl rfl (Val.extract rfl rfl rfl) ?_
  refine WP.val rfl rfl rfl (Val.extract rfl rfl rfl) ?_
  refine WP.val rfl rfl rfl (Val.extract rfl rfl rfl) ?_
  refine WP.val rfl rfl rfl (Val.assign rfl rfl) ?_
  refine WP.val rfl rfl rfl (Val.assign rfl rfl) ?_
  refine WP.val rfl rfl rfl (Val.assign rfl rfl) ?_
  refine WP.nil ?_
  refine Out.next ?_
  refine WPc.seq ?_
  refine WPc.seq ?_
  refine WPc.region ?_
  refine WP.val rfl rfl rfl (Val.move rfl rfl) ?_
  refine WP.val rfl rfl rfl (Val.not rfl rfl) ?_
  refine WP.val rfl rfl rfl (Val.move rfl rfl) ?_
  refine WP.valG rfl rfl rfl rfl rfl rfl rfl (Val.move rfl rfl) ?_
  refine WP.valG rfl rfl rfl rfl rfl rfl rfl (Val.intK (z := 2) (Val.shr rfl rfl rfl (by decide)) (by decide)) ?_
  refine WP.valG rfl rfl rfl rfl rfl rfl rfl (Val.eqlK rfl rfl rfl rfl) ?_
  refine WP.val rfl rfl rfl (Val.pickF rfl rfl rfl) ?_
  refine WP.val rfl rfl rfl (Val.move rfl rfl) ?_
  refine WP.valG rfl rfl rfl rfl rfl rfl rfl (Val.move rfl rfl) ?_
  refine WP.valG rfl rfl rfl rfl rfl rfl rfl (Val.intK (z := 2) (Val.shr rfl rfl rfl (by decide)) (by decide)) ?_
  refine WP.valG rfl rfl rfl rfl rfl rfl rfl (Val.boolK (q := false) (Val.gtr rfl rfl rfl) (by decide)) ?_
  refine WP.val rfl rfl rfl (Val.pickF rfl rfl rfl) ?_
  refine WP.val rfl rfl rfl (Val.move rfl rfl) ?_
  refine WP.valG rfl rfl rfl rfl rfl rfl rfl (Val.move rfl rfl) ?_
  refine WP.valG rfl rfl rfl rfl rfl rfl rfl (Val.boolK (q := false) (Val.gtr rfl rfl rfl) (by decide)) ?_
  refine WP.val rfl rfl rfl (Val.pickF rfl rfl rfl) ?_
  refine WP.nil ?_
  refine Out.next ?_
  refine WPc.condF rfl rfl ?_
  refine WPc.skip ?_
  refine Out.next ?_
  refine WPc.seq ?_
  refine WPc.seq ?_
  refine WPc.region ?_
  refine WP.val rfl rfl rfl (Val.move rfl rfl) ?_
  refine WP.val rfl rfl rfl (Val.intK (z := 0) (Val.and rfl rfl rfl) (by decide)) ?_
  refine WP.nil ?_
  refine Out.next ?_
  refine WPc.block ?_
  refine WPc.seq ?_
  refine WPc.region ?_
  refine WP.val rfl rfl rfl (Val.eqlK rfl rfl rfl rfl) ?_
  refine WP.val rfl rfl rfl (Val.assign rfl rfl) ?_
  refine WP.nil ?_
  refine Out.next ?_
  refine WPc.condT rfl rfl ?_
  refine WPc.seq ?_
  refine WPc.region ?_
  refine WP.val rfl rfl rfl (Val.move rfl rfl) ?_
  refine WP.eff rfl rfl rfl (Eff.call rfl rfl Tryd.call94 (tv_spec A (vint z0 ++ r) (r) z0 b0 o2 k2 hq2 (by first | omega | (simp; omega)) hk2 hz rfl)) ?_
  rintro _ _ ⟨_, ⟨o3, k3, hk3, rfl, rfl, hq3⟩, rfl⟩
  show WP _ _ _ _ _ _ _ (A :: Blk b1 [.int .i64 0, .bool false, .int .i64 0, .slice none 0 0] 162 :: F)
  refine WP.val rfl rfl rfl (Val.move rfl rfl) ?_
  refine WP.val rfl rfl rfl (Val.extract rfl rfl rfl) ?_
  refine WP.val rfl rfl rfl (Val.extract rfl rfl rfl) ?_
  refine WP.val rfl rfl rfl (Val.extract rfl rfl rfl) ?_
  refine WP.val rfl rfl rfl (Val.assign rfl rfl) ?_
  refine WP.val rfl rfl rfl (Val.assign rfl rfl) ?_
  refine WP.val rfl rfl rfl (Val.assign rfl rfl) ?_
  refine WP.nil ?_
  refine Out.next ?_
  refine WPc.seq ?_
  refine WPc.region ?_
  refine WP.val rfl rfl rfl (Val.move rfl rfl) ?_
  refine WP.val rfl rfl rfl (Val.intK (z := 2) (Val.shr rfl rfl rfl (by decide)) (by decide)) ?_
  refine WP.val rfl rfl rfl (Val.conv (z := 2) rfl Ty.ik3 Ty.un94 rfl (by decide)) ?_
  refine WP.val rfl rfl rfl (Val.move rfl rfl) ?_
  refine WP.val rfl rfl rfl (Val.conv (z := IntKind.wrap .i64 z0) rfl Ty.ik2 Ty.un94 rfl rfl) ?_
  refine WP.val rfl rfl rfl (Val.mk (cs := [.int .i64 2, .bool false, .int .i64 ((IntKind.wrap .i64 z0)), .slice none 0 0]) rfl rfl (fun _ => by kernel_rfl)) ?_
  refine WP.val rfl rfl rfl (Val.move rfl rfl) ?_
  refine WP.val rfl rfl rfl (Val.move rfl rfl) ?_
  refine WP.perm pl1 ?_
  refine WP.eff0 rfl rfl (Eff.storeAgg (cs := [.int .i64 2, .bool false, .int .i64 ((IntKind.wrap .i64 z0)), .slice none 0 0]) (C' := [.int .i64 2, .bool false, .int .i64 ((IntKind.wrap .i64 z0)), .slice none 0 0]) rfl Ty.ag162 rfl rfl rfl rfl (by simp) rfl) ?_
  rintro _ _ rfl
  refine WP.val rfl rfl rfl (Val.assign rfl rfl) ?_
  refine WP.val rfl rfl rfl (Val.assign rfl rfl) ?_
  refine WP.nil ?_
  refine Out.next ?_
  refine WPc.ret ?_
  refine Out.block_ret ?_
  refine Out.then_ret ?_
  exact Out.retRun (L' := _) (results_ctt (cs := [.int .i64 2, .bool false, .int .i64 ((IntKind.wrap .i64 z0)), .slice none 0 0]) Tryd.results93 rfl rfl rfl Ty.ag162 rfl (fun w h => h.range 0 rfl rfl)) ⟨_, _, hk3, rfl, rfl, hq3⟩ (fun w h => h.drop)

set_option maxRecDepth 100000 in
set_option maxHeartbeats 2000000 in
theorem take_d (A : HProp) (l r : List UInt8) (b0 o0 c0 : Nat) (hr : ∀ w, Holds A w → w.rangeAt b0 o0 (byt l)) (hlen : l.length ≤ 4294967296) (hlc : l.length ≤ c0) (d : List UInt8) (hl : l = vint 26 ++ (vint ((d.length : Nat) : Int) ++ (d ++ r))) : Does Tryd.prog 93 [.slice (some ⟨b0, o0, none⟩) l.length c0, .int .i64 0] [A] (fun v L => ∃ (o' c' : Nat) (u : Value), r.length ≤ c' ∧ v = .tuple #[.agg #[.int .i64 3, .bool true, .int .i64 0, u], .slice (some ⟨b0, o', none⟩) r.length c', .bool true] ∧ L = [Own 5 1 u d.length (byt d), A] ∧ ∀ w, Holds A w → w.rangeAt b0 o' (byt r)) := by
  have hb1 : d.length + r.length ≤ 4294967296 ∧ (vint ((d.length : Nat) : Int) ++ (d ++ r)).length ≤ 4294967296 := by rw [hl] at hlen; simp at hlen ⊢; omega
  refine Does.enter 136 Tryd.func93 rfl rfl rfl fun W F => ?_
  show WPc _ _ _ _ _ [(0, .slice (some ⟨b0, o0, none⟩) l.length c0), (1, .int .i64 0)] (A :: F)
  refine WPc.seq ?_
  refine WPc.region ?_
  refine WP.eff rfl rfl rfl (Eff.alloc rfl Ty.z162) ?_
  rintro _ _ ⟨b1, rfl, rfl⟩
  refine WP.val rfl rfl rfl (Val.assign rfl rfl) ?_
  refine WP.val rfl rfl rfl (Val.assign rfl rfl) ?_
  refine WP.nil ?_
  refine Out.next ?_
  refine WPc.seq ?_
  refine WPc.region ?_
  refine WP.val rfl rfl rfl (Val.move rfl rfl) ?_
  refine WP.perm pl1 ?_
  refine WP.eff rfl rfl rfl (Eff.call rfl rfl Tryd.call94 (tv_spec A (l) (vint ((d.length : Nat) : Int) ++ (d ++ r)) 26 b0 o0 c0 hr (by first | omega | (simp; omega)) hlc (by decide) hl)) ?_
  rintro _ _ ⟨_, ⟨o2, k2, hk2, rfl, rfl, hq2⟩, rfl⟩
  show WP _ _ _ _ _ _ _ (A :: Blk b1 [.int .i64 0, .bool false, .int .i64 0, .slice none 0 0] 162 :: F)
  refine WP.val rfl rfl rfl (Val.move rfl rfl) ?_
  refine WP.val rfl rfl rfl (Val.extract rfl rfl rfl) ?_
  refine WP.val rfl rfl rfl (Val.extract rfl rfl rfl) ?_
  refine WP.val rfl rfl rfl (Val.extract rfl rfl rfl) ?_
  refine WP.val rfl rfl rfl (Val.assign rfl rfl) ?_
  refine WP.val rfl rfl rfl (Val.assign rfl rfl) ?_
  refine WP.val rfl rfl rfl (Val.assign rfl rfl) ?_
  refine WP.nil ?_
  refine Out.next ?_
  refine WPc.seq ?_
  refine WPc.seq ?_
  refine WPc.region ?_
  refine WP.val rfl rfl rfl (Val.move rfl rfl) ?_
  refine WP.val rfl rfl rfl (Val.not rfl rfl) ?_
  refine WP.val rfl rfl rfl (Val.move rfl rfl) ?_
  refine WP.valG rfl rfl rfl rfl rfl rfl rfl (Val.move rfl rfl) ?_
  refine WP.valG rfl rfl rfl rfl rfl rfl rfl (Val.intK (z := 3) (Val.shr rfl rfl rfl (by decide)) (by decide)) ?_
  refine WP.valG rfl rfl rfl rfl rfl rfl rfl (Val.eqlK rfl rfl rfl rfl) ?_
  refine WP.val rfl rfl rfl (Val.pickF rfl rfl rfl) ?_
  refine WP.val rfl rfl rfl (Val.move rfl rfl) ?_
  refine WP.valG rfl rfl rfl rfl rfl rfl rfl (Val.move rfl rfl) ?_
  refine WP.valG rfl rfl rfl rfl rfl rfl rfl (Val.intK (z := 3) (Val.shr rfl rfl rfl (by decide)) (by decide)) ?_
  refine WP.valG rfl rfl rfl rfl rfl rfl rfl (Val.boolK (q := false) (Val.gtr rfl rfl rfl) (by decide)) ?_
  refine WP.val rfl rfl rfl (Val.pickF rfl rfl rfl) ?_
  refine WP.val rfl rfl rfl (Val.move rfl rfl) ?_
  refine WP.valG rfl rfl rfl rfl rfl rfl rfl (Val.move rfl rfl) ?_
  refine WP.valG rfl rfl rfl rfl rfl rfl rfl (Val.boolK (q := false) (Val.gtr rfl rfl rfl) (by decide)) ?_
  refine WP.val rfl rfl rfl (Val.pickF rfl rfl rfl) ?_
  refine WP.nil ?_
  refine Out.next ?_
  refine WPc.condF rfl rfl ?_
  refine WPc.skip ?_
  refine Out.next ?_
  refine WPc.seq ?_
  refine WPc.seq ?_
  refine WPc.region ?_
  refine WP.val rfl rfl rfl (Val.move rfl rfl) ?_
  refine WP.val rfl rfl rfl (Val.intK (z := 2) (Val.and rfl rfl rfl) (by decide)) ?_
  refine WP.nil ?_
  refine Out.next ?_
  refine WPc.block ?_
  refine WPc.seq ?_
  refine WPc.region ?_
  refine WP.val rfl rfl rfl (Val.eqlK rfl rfl rfl rfl) ?_
  refine WP.val rfl rfl rfl (Val.assign rfl rfl) ?_
  refine WP.nil ?_
  refine Out.next ?_
  refine WPc.condF rfl rfl ?_
  refine WPc.seq ?_
  refine WPc.region ?_
  refine WP.val rfl rfl rfl (Val.eqlK rfl rfl rfl rfl) ?_
  refine WP.val rfl rfl rfl (Val.assign rfl rfl) ?_
  refine WP.nil ?_
  refine Out.next ?_
  refine WPc.condF rfl rfl ?_
  refine WPc.seq ?_
  refine WPc.region ?_
  refine WP.val rfl rfl rfl (Val.eqlK rfl rfl rfl rfl) ?_
  refine WP.val rfl rfl rfl (Val.assign rfl rfl) ?_
  refine WP.nil ?_
  refine Out.next ?_
  refine WPc.condT rfl rfl ?_
  refine WPc.seq ?_
  refine WPc.region ?_
  refine WP.val rfl rfl rfl (Val.move rfl rfl) ?_
  refine WP.eff rfl rfl rfl (Eff.call rfl rfl Tryd.call94 (tv_spec A (vint ((d.length : Nat) : Int) ++ (d ++ r)) (d ++ r) ((d.length : Nat) : Int) b0 o2 k2 hq2 (by first | omega | (simp; omega)) hk2 (by constructor <;> omega) rfl)) ?_
  rintro _ _ ⟨_, ⟨o3, k3, hk3, rfl, rfl, hq3⟩, rfl⟩
  show WP _ _ _ _ _ _ _ (A :: Blk b1 [.int .i64 0, .bool false, .int .i64 0, .slice none 0 0] 162 :: F)
  refine WP.val rfl rfl rfl (Val.move rfl rfl) ?_
  refine WP.val rfl rfl rfl (Val.extract rfl rfl rfl) ?_
  refine WP.val rfl rfl rfl (Val.extract rfl rfl rfl) ?_
  refine WP.val rfl rfl rfl (Val.extract rfl rfl rfl) ?_
  refine WP.val rfl rfl rfl (Val.assign rfl rfl) ?_
  refine WP.val rfl rfl rfl (Val.assign rfl rfl) ?_
  refine WP.val rfl rfl rfl (Val.assign rfl rfl) ?_
  refine WP.nil ?_
  refine Out.next ?_
  refine WPc.seq ?_
  refine WPc.seq ?_
  refine WPc.region ?_
  refine WP.val rfl rfl rfl (Val.move rfl rfl) ?_
  refine WP.val rfl rfl rfl (Val.not rfl rfl) ?_
  refine WP.val rfl rfl rfl (Val.move rfl rfl) ?_
  refine WP.valG rfl rfl rfl rfl rfl rfl rfl (Val.move rfl rfl) ?_
  refine WP.valG rfl rfl rfl rfl rfl rfl rfl (Val.move rfl rfl) ?_
  refine WP.valG rfl rfl rfl rfl rfl rfl rfl (Val.len rfl Ty.sl40 rfl) ?_
  refine WP.valG rfl rfl rfl rfl rfl rfl rfl (Val.conv (z := (((d ++ r).length : Nat) : Int)) rfl Ty.ik94 Ty.un3 rfl (u64_nat (by rw [List.length_append]; omega))) ?_
  refine WP.valG rfl rfl rfl rfl rfl rfl rfl (Val.gtr rfl rfl rfl) ?_
  refine WP.val rfl rfl rfl (Val.pickF rfl rfl rfl) ?_
  refine WP.nil ?_
  refine Out.next ?_
  refine WPc.ifP rfl (fun h1 => ?_) (fun h1 => ?_)
  · skip
    have h1 : ((((d ++ r).length : Nat) : Int) < ((d.length : Nat) : Int)) := h1
    exfalso; rw [List.length_append] at *; omega
  · skip
    have h1 : ¬ ((((d ++ r).length : Nat) : Int) < ((d.length : Nat) : Int)) := h1
    refine WPc.skip ?_
    refine Out.next ?_
    refine WPc.seq ?_
    have hdr : (d ++ r).length = d.length + r.length := List.length_append
    refine WPD.start (Sat W []) Ty.mixed ?_
    refine WPD.takeM 0 rfl rfl rfl rfl (by kernel_rfl) (by kernel_rfl) (by kernel_rfl) (by kernel_rfl) (fun _ _ _ h => h) (fun w h => (h).dropEnd (L := [])) (Val.move rfl rfl) ?_
    refine WPD.takeM 1 rfl rfl rfl rfl (by kernel_rfl) (by kernel_rfl) (by kernel_rfl) (by kernel_rfl) (fun _ _ _ h => h) (fun w h => (h).dropEnd (L := [])) (Val.intK (z := 3) (Val.shr rfl rfl rfl (by decide)) (by decide)) ?_
    refine WPD.take 2 rfl rfl rfl rfl (by kernel_rfl) (by kernel_rfl) (by kernel_rfl) (by kernel_rfl) (fun _ _ _ h => h) (by kernel_rfl) (fun w h => (h).dropEnd (L := [])) (Val.conv (z := 3) rfl Ty.ik3 Ty.un94 rfl (by decide)) ?_
    refine WPD.takeM 4 rfl rfl rfl rfl (by kernel_rfl) (by kernel_rfl) (by kernel_rfl) (by kernel_rfl) (fun _ _ _ h => h) (fun w h => (h).dropEnd (L := [])) (Val.move rfl rfl) ?_
    refine WPD.takeM 5 rfl rfl rfl rfl (by kernel_rfl) (by kernel_rfl) (by kernel_rfl) (by kernel_rfl) (fun _ _ _ h => h) (fun w h => (h).dropEnd (L := [])) (Val.move rfl rfl) ?_
    refine WPD.takeM 6 rfl rfl rfl rfl (by kernel_rfl) (by kernel_rfl) (by kernel_rfl) (by kernel_rfl) (fun _ _ _ h => h) (fun w h => (h).dropEnd (L := [])) (Val.slice (lo := 0) (hi := d.length) (j := o3) (vlo := none) (vhi := some (.u64, ((d.length : Nat) : Int))) rfl Ty.sl40 rfl rfl rfl (by simp [bnd]) (by simp [bnd]; try omega) (by omega) (by omega) (by omega) (by simp)) ?_
    refine WPD.takeM 9 rfl rfl rfl rfl (by kernel_rfl) (by kernel_rfl) (by kernel_rfl) (by kernel_rfl) (fun _ _ _ h => h) (fun w h => (h).dropEnd (L := [])) (Val.move rfl rfl) ?_
    refine WPD.takeM 10 rfl rfl rfl rfl (by kernel_rfl) (by kernel_rfl) (by kernel_rfl) (by kernel_rfl) (fun _ _ _ h => h) (fun w h => (h).dropEnd (L := [])) (Val.move rfl rfl) ?_
    refine WPD.takeM 11 rfl rfl rfl rfl (by kernel_rfl) (by kernel_rfl) (by kernel_rfl) (by kernel_rfl) (fun _ _ _ h => h) (fun w h => (h).dropEnd (L := [])) (Val.slice (lo := d.length) (hi := (d ++ r).length) (j := (if k3 = d.length then o3 else o3 + d.length)) (vlo := some (.u64, ((d.length : Nat) : Int))) (vhi := none) rfl Ty.sl40 rfl rfl rfl (by simp [bnd]; try omega) (by simp [bnd]; try omega) (by omega) (by omega) (by omega) (by simp)) ?_
    refine WPD.step 3 (by kernel_rfl) rfl rfl rfl rfl (Eff.mkSlice (C := []) rfl Ty.sl40 rfl (fun _ => by kernel_rfl)) ?_
    rintro _ _ ⟨b4, rfl, rfl⟩
    refine ⟨(fun w h => (h).dropEnd (L := [])), ?_⟩
    refine WPD.conv (fun w h => Sat.ownMk (e := 5) (k := 1) (b := b4) (m := 0) (cap := 0) (xs := []) (sp := []) h (by omega) rfl rfl (by decide)) ?_
    refine WPD.step 7 (by kernel_rfl) rfl rfl rfl rfl (Eff.append (m := d.length) (n0 := 0) (news := byt d) rfl Ty.sl40 Ty.z5 rfl rfl rfl (Srcs.slice Ty.sl40 (by simp [byt]) (byt_one _) (fun w h => cells_range (by have := rangeAt_take (k := d.length) (hq3 w (h.at 1 rfl)); rwa [List.take_left' rfl] at this))) (by omega) (by omega)) ?_
    rintro v5 _ ⟨onev5, rfl⟩
    refine ⟨(fun w h => (h).dropEnd (L := [])), ?_⟩
    refine WPD.conv (M := Own 5 1 v5 d.length (byt d) :: A :: Blk b1 [.int .i64 0, .bool false, .int .i64 0, .slice none 0 0] 162 :: F) (fun w h => by rw [Nat.zero_add] at h; exact h) ?_
    refine WPD.fact (fun w h => own_slice h) (fun hsl6 => ?_)
    obtain ⟨a6, k6, rfl⟩ := hsl6
    show WPD _ _ _ _ _ _ _ _ _ (Own 5 1 (.slice a6 d.length k6) d.length (byt d) :: A :: Blk b1 [.int .i64 0, .bool false, .int .i64 0, .slice none 0 0] 162 :: F)
    refine WPD.takeM 8 rfl rfl rfl rfl (by kernel_rfl) (by kernel_rfl) (by kernel_rfl) (by kernel_rfl) (fun _ _ _ h => h) (fun w h => (h).dropEnd (L := [])) (Val.mk (cs := [.int .i64 3, .bool true, .int .i64 0, .slice a6 d.length k6]) rfl rfl (fun _ => by kernel_rfl)) ?_
    refine WPD.perm pl2 ?_
    refine WPD.stepC0 12 (by kernel_rfl) rfl rfl rfl (by kernel_rfl) (Eff.storeAgg (cs := [.int .i64 3, .bool true, .int .i64 0, .slice a6 d.length k6]) (C' := [.int .i64 3, .bool true, .int .i64 0, .slice a6 d.length k6]) rfl Ty.ag162 rfl rfl rfl rfl (by simp) rfl) ?_
    rintro _ _ rfl
    refine ⟨(Sat W (Blk b1 [.int .i64 3, .bool true, .int .i64 0, .slice a6 d.length k6] 162 :: Own 5 1 (.slice a6 d.length k6) d.length (byt d) :: A :: F)), (fun _ h => h), ?_⟩
    refine WPD.takeM 13 rfl rfl rfl rfl (by kernel_rfl) (by kernel_rfl) (by kernel_rfl) (by kernel_rfl) (fun _ _ _ h => h) (fun _ h => h) (Val.assign rfl rfl) ?_
    refine WPD.takeM 14 rfl rfl rfl rfl (by kernel_rfl) (by kernel_rfl) (by kernel_rfl) (by kernel_rfl) (fun _ _ _ h => h) (fun _ h => h) (Val.assign rfl rfl) ?_
    refine WPD.done (by kernel_rfl) ?_
    refine Out.next ?_
    refine WPc.ret ?_
    refine Out.block_ret ?_
    refine Out.then_ret ?_
    have hdl : (d ++ r).length - d.length = r.length := by omega
    exact Out.retRun (L' := _) (results_ctt (cs := [.int .i64 3, .bool true, .int .i64 0, .slice a6 d.length k6]) Tryd.results93 rfl rfl rfl Ty.ag162 rfl (fun w h => h.range 0 rfl rfl)) ⟨_, k3 - d.length, _, by omega, by rw [← hdl], rfl, fun w h => by have := rangeAt_cut (k := d.length) (hq3 w h) hk3; rw [List.drop_left' rfl] at this; exact this⟩ (fun w h => by first | exact h.drop | (simpa using h.drop))

set_option maxRecDepth 100000 in
set_option maxHeartbeats 2000000 in
theorem Take_ty (A : HProp) (l r : List UInt8) (b0 o0 c0 : Nat) (hr : ∀ w, Holds A w → w.rangeAt b0 o0 (byt l)) (hlen : l.length ≤ 4294967296) (hlc : l.length ≤ c0) (z0 : Int) (hz : 0 ≤ z0 ∧ z0 < 18446744073709551616) (hl : l = vint 8 ++ (vint z0 ++ r)) : Does Tryd.prog 92 [.slice (some ⟨b0, o0, none⟩) l.length c0] [A] (fun v L => ∃ o' c' : Nat, r.length ≤ c' ∧ v = .tuple #[.agg #[.int .i64 1, .bool false, .int .i64 (IntKind.wrap .i64 z0), .slice none 0 0], .slice (some ⟨b0, o', none⟩) r.length c', .bool true] ∧ L = [A] ∧ ∀ w, Holds A w → w.rangeAt b0 o' (byt r)) := by
  refine Does.enter 10 Tryd.func92 rfl rfl rfl fun W F => ?_
  show WPc _ _ _ _ _ [(0, .slice (some ⟨b0, o0, none⟩) l.length c0)] (A :: F)
  refine WPc.seq ?_
  refine WPc.region ?_
  refine WP.eff rfl rfl rfl (Eff.alloc rfl Ty.z162) ?_
  rintro _ _ ⟨b1, rfl, rfl⟩
  refine WP.val rfl rfl rfl (Val.assign rfl rfl) ?_
  refine WP.val rfl rfl rfl (Val.assign rfl rfl) ?_
  refine WP.nil ?_
  refine Out.next ?_
  refine WPc.seq ?_
  refine WPc.region ?_
  refine WP.val rfl rfl rfl (Val.move rfl rfl) ?_
  refine WP.perm pl1 ?_
  refine WP.eff rfl rfl rfl (Eff.call rfl rfl Tryd.call93 (take_ty A l r b0 o0 c0 hr hlen hlc z0 hz hl)) ?_
  rintro _ _ ⟨_, ⟨o1, k1, hk1, rfl, rfl, hh1⟩, rfl⟩
  show WP _ _ _ _ _ _ _ (A :: Blk b1 [.int .i64 0, .bool false, .int .i64 0, .slice none 0 0] 162 :: F)
  refine WP.val rfl rfl rfl (Val.extract rfl rfl rfl) ?_
  refine WP.val rfl rfl rfl (Val.extract rfl rfl rfl) ?_
  refine WP.val rfl rfl rfl (Val.extract rfl rfl rfl) ?_
  refine WP.perm pl1 ?_
  refine WP.eff0 rfl rfl (Eff.storeAgg (cs := [.int .i64 1, .bool false, .int .i64 ((IntKind.wrap .i64 z0)), .slice none 0 0]) (C' := [.int .i64 1, .bool false, .int .i64 ((IntKind.wrap .i64 z0)), .slice none 0 0]) rfl Ty.ag162 rfl rfl rfl rfl (by simp) rfl) ?_
  rintro _ _ rfl
  refine WP.val rfl rfl rfl (Val.assign rfl rfl) ?_
  refine WP.val rfl rfl rfl (Val.assign rfl rfl) ?_
  refine WP.nil ?_
  refine Out.next ?_
  refine WPc.ret ?_
  exact Out.retRun (L' := _) (results_ctt (cs := [.int .i64 1, .bool false, .int .i64 ((IntKind.wrap .i64 z0)), .slice none 0 0]) Tryd.results92 rfl rfl rfl Ty.ag162 rfl (fun w h => h.range 0 rfl rfl)) ⟨_, _, hk1, rfl, rfl, hh1⟩ (fun w h => h.drop)

set_option maxRecDepth 100000 in
set_option maxHeartbeats 2000000 in
theorem Take_su (A : HProp) (l r : List UInt8) (b0 o0 c0 : Nat) (hr : ∀ w, Holds A w → w.rangeAt b0 o0 (byt l)) (hlen : l.length ≤ 4294967296) (hlc : l.length ≤ c0) (z0 : Int) (hz : 0 ≤ z0 ∧ z0 < 18446744073709551616) (hl : l = vint 16 ++ (vint z0 ++ r)) : Does Tryd.prog 92 [.slice (some ⟨b0, o0, none⟩) l.length c0] [A] (fun v L => ∃ o' c' : Nat, r.length ≤ c' ∧ v = .tuple #[.agg #[.int .i64 2, .bool false, .int .i64 (IntKind.wrap .i64 z0), .slice none 0 0], .slice (some ⟨b0, o', none⟩) r.length c', .bool true] ∧ L = [A] ∧ ∀ w, Holds A w → w.rangeAt b0 o' (byt r)) := by
  refine Does.enter 10 Tryd.func92 rfl rfl rfl fun W F => ?_
  show WPc _ _ _ _ _ [(0, .slice (some ⟨b0, o0, none⟩) l.length c0)] (A :: F)
  refine WPc.seq ?_
  refine WPc.region ?_
  refine WP.eff rfl rfl rfl (Eff.alloc rfl Ty.z162) ?_
  rintro _ _ ⟨b1, rfl, rfl⟩
  refine WP.val rfl rfl rfl (Val.assign rfl rfl) ?_
  refine WP.val rfl rfl rfl (Val.assign rfl rfl) ?_
  refine WP.nil ?_
  refine Out.next ?_
  refine WPc.seq ?_
  refine WPc.region ?_
  refine WP.val rfl rfl rfl (Val.move rfl rfl) ?_
  refine WP.perm pl1 ?_
  refine WP.eff rfl rfl rfl (Eff.call rfl rfl Tryd.call93 (take_su A l r b0 o0 c0 hr hlen hlc z0 hz hl)) ?_
  rintro _ _ ⟨_, ⟨o1, k1, hk1, rfl, rfl, hh1⟩, rfl⟩
  show WP _ _ _ _ _ _ _ (A :: Blk b1 [.int .i64 0, .bool false, .int .i64 0, .slice none 0 0] 162 :: F)
  refine WP.val rfl rfl rfl (Val.extract rfl rfl rfl) ?_
  refine WP.val rfl rfl rfl (Val.extract rfl rfl rfl) ?_
  refine WP.val rfl rfl rfl (Val.extract rfl rfl rfl) ?_
  refine WP.perm pl1 ?_
  refine WP.eff0 rfl rfl (Eff.storeAgg (cs := [.int .i64 2, .bool false, .int .i64 ((IntKind.wrap .i64 z0)), .slice none 0 0]) (C' := [.int .i64 2, .bool false, .int .i64 ((IntKind.wrap .i64 z0)), .slice none 0 0]) rfl Ty.ag162 rfl rfl rfl rfl (by simp) rfl) ?_
  rintro _ _ rfl
  refine WP.val rfl rfl rfl (Val.assign rfl rfl) ?_
  refine WP.val rfl rfl rfl (Val.assign rfl rfl) ?_
  refine WP.nil ?_
  refine Out.next ?_
  refine WPc.ret ?_
  exact Out.retRun (L' := _) (results_ctt (cs := [.int .i64 2, .bool false, .int .i64 ((IntKind.wrap .i64 z0)), .slice none 0 0]) Tryd.results92 rfl rfl rfl Ty.ag162 rfl (fun w h => h.range 0 rfl rfl)) ⟨_, _, hk1, rfl, rfl, hh1⟩ (fun w h => h.drop)

set_option maxRecDepth 100000 in
set_option maxHeartbeats 2000000 in
theorem Take_d (A : HProp) (l r : List UInt8) (b0 o0 c0 : Nat) (hr : ∀ w, Holds A w → w.rangeAt b0 o0 (byt l)) (hlen : l.length ≤ 4294967296) (hlc : l.length ≤ c0) (d : List UInt8) (hl : l = vint 26 ++ (vint ((d.length : Nat) : Int) ++ (d ++ r))) : Does Tryd.prog 92 [.slice (some ⟨b0, o0, none⟩) l.length c0] [A] (fun v L => ∃ (o' c' : Nat) (u : Value), r.length ≤ c' ∧ v = .tuple #[.agg #[.int .i64 3, .bool true, .int .i64 0, u], .slice (some ⟨b0, o', none⟩) r.length c', .bool true] ∧ L = [Own 5 1 u d.length (byt d), A] ∧ ∀ w, Holds A w → w.rangeAt b0 o' (byt r)) := by
  refine Does.enter 10 Tryd.func92 rfl rfl rfl fun W F => ?_
  show WPc _ _ _ _ _ [(0, .slice (some ⟨b0, o0, none⟩) l.length c0)] (A :: F)
  refine WPc.seq ?_
  refine WPc.region ?_
  refine WP.eff rfl rfl rfl (Eff.alloc rfl Ty.z162) ?_
  rintro _ _ ⟨b1, rfl, rfl⟩
  refine WP.val rfl rfl rfl (Val.assign rfl rfl) ?_
  refine WP.val rfl rfl rfl (Val.assign rfl rfl) ?_
  refine WP.nil ?_
  refine Out.next ?_
  refine WPc.seq ?_
  refine WPc.region ?_
  refine WP.val rfl rfl rfl (Val.move rfl rfl) ?_
  refine WP.perm pl1 ?_
  refine WP.eff rfl rfl rfl (Eff.call rfl rfl Tryd.call93 (take_d A l r b0 o0 c0 hr hlen hlc d hl)) ?_
  rintro _ _ ⟨_, ⟨o1, k1, u, hk1, rfl, rfl, hh1⟩, rfl⟩
  show WP _ _ _ _ _ _ _ (Own 5 1 u d.length (byt d) :: A :: Blk b1 [.int .i64 0, .bool false, .int .i64 0, .slice none 0 0] 162 :: F)
  refine WP.fact (fun w h => own_oneCell h) (fun oneu => ?_)
  refine WP.val rfl rfl rfl (Val.extract rfl rfl rfl) ?_
  refine WP.val rfl rfl rfl (Val.extract rfl rfl rfl) ?_
  refine WP.val rfl rfl rfl (Val.extract rfl rfl rfl) ?_
  refine WP.perm pl2 ?_
  refine WP.eff0 rfl rfl (Eff.storeAgg (cs := [.int .i64 3, .bool true, .int .i64 0, u]) (C' := [.int .i64 3, .bool true, .int .i64 0, u]) rfl Ty.ag162 rfl rfl rfl (by simp only [List.all_cons, List.all_nil, Bool.and_true, oc_int, oc_str, oc_bool, oc_ptr, oc_slice, oc_iface, oc_map, oneu]) (by simp) rfl) ?_
  rintro _ _ rfl
  refine WP.val rfl rfl rfl (Val.assign rfl rfl) ?_
  refine WP.val rfl rfl rfl (Val.assign rfl rfl) ?_
  refine WP.nil ?_
  refine Out.next ?_
  refine WPc.ret ?_
  exact Out.retRun (L' := _) (results_ctt (cs := [.int .i64 3, .bool true, .int .i64 0, u]) Tryd.results92 rfl rfl rfl Ty.ag162 rfl (fun w h => h.range 0 rfl rfl)) ⟨_, _, u, hk1, rfl, rfl, hh1⟩ (fun w h => h.drop)


end Go.Proofs.YthicijpjpijdjaaDoor.Wj
