import Derived.Test.YthmkdioafjmclaaSlTerse
import Derived.Test.YthmkdioafjmclaaBt10
namespace Go.Proofs.Ythmkdioafjmclaa.Bt11
open Go.RowKit Go.Proofs.Ythmkdioafjmclaa Go.Proofs.Ythmkdioafjmclaa.Sl Go.Proofs.Ythmkdioafjmclaa.Bt Go.Proofs.Ythmkdioafjmclaa.Bt2 Go.Proofs.Ythmkdioafjmclaa.Bt3 Go.Proofs.Ythmkdioafjmclaa.Bt4 Go.Proofs.Ythmkdioafjmclaa.Bt5 Go.Proofs.Ythmkdioafjmclaa.Bt6 Go.Proofs.Ythmkdioafjmclaa.Bt7 Go.Proofs.Ythmkdioafjmclaa.Bt8 Go.Proofs.Ythmkdioafjmclaa.Bt9 Go.Proofs.Ythmkdioafjmclaa.Bt10
set_option linter.unusedVariables false
set_option linter.unusedSimpArgs false
set_option linter.unusedSectionVars false


theorem dmin_some {m : Nat} : ∀ (h : Nat) (t : Tr), (dmin m h t).2.isSome = true
 | 0, _ => rfl
 | h + 1, t => by simp only [dmin]; exact dmin_some h _
theorem dmax_some {m : Nat} : ∀ (h : Nat) (t : Tr), (dmax m h t).2.isSome = true
 | 0, _ => rfl
 | h + 1, t => by simp only [dmax]; exact dmax_some h _
theorem dmin_bal {m M : Nat} (hM : M = 2 * m + 1) (hm : 1 ≤ m) : ∀ {h : Nat} {t : Tr}, Bal m M h t → 1 ≤ t.is.length → Bal m M h (dmin m h t).1 ∧ t.is.length ≤ (dmin m h t).1.is.length + 1
 | 0, t, hb, h1 => by
  have hl : (t.is.eraseIdx 0).length = t.is.length - 1 := List.length_eraseIdx_of_lt (by omega)
  exact ⟨⟨hb.1, by show (t.is.eraseIdx 0).length ≤ M; have := hb.2; omega⟩, by show t.is.length ≤ (t.is.eraseIdx 0).length + 1; omega⟩
 | h + 1, t, hb, h1 => by
  have key : ∀ t1 : Tr, Bal m M (h + 1) t1 → m < (kid t1 0).is.length → Bal m M (h + 1) (.nd t1.is (t1.ks.set 0 (dmin m h (kid t1 0)).1)) := fun t1 b1 hk => by
   have hx : t1.ks[0]? = some (kid t1 0) := kid_get (by rw [b1.1]; omega)
   have hbk := bal_kid b1 hx
   have ih := dmin_bal hM hm hbk.2 (by omega)
   refine ⟨by show (t1.ks.set 0 _).length = _; rw [List.length_set]; exact b1.1, b1.2.1, fun q hq => ?_⟩
   rcases List.mem_or_eq_of_mem_set (show q ∈ t1.ks.set 0 _ from hq) with hq | rfl
   ·
    exact b1.2.2 q hq
   ·
    exact ⟨by omega, ih.1⟩
  by_cases hk : (kid t 0).is.length ≤ m
  ·
   obtain ⟨g1, g2, -⟩ := grow_bal (i := 0) hM hm hb (by omega) h1 hk
   rw [dmin_small hk (g2 rfl), dmin_big (g2 rfl)]
   exact ⟨key _ g1.bal (g2 rfl), g1.lo⟩
  ·
   rw [dmin_big (by omega)]
   exact ⟨key t hb (by omega), Nat.le_succ _⟩
theorem dmax_bal {m M : Nat} (hM : M = 2 * m + 1) (hm : 1 ≤ m) : ∀ {h : Nat} {t : Tr}, Bal m M h t → 1 ≤ t.is.length → Bal m M h (dmax m h t).1 ∧ t.is.length ≤ (dmax m h t).1.is.length + 1
 | 0, t, hb, h1 => by
  have hl : (t.is.take (t.is.length - 1)).length = t.is.length - 1 := by rw [List.length_take]; omega
  exact ⟨⟨hb.1, by show (t.is.take _).length ≤ M; have := hb.2; omega⟩, by show t.is.length ≤ (t.is.take _).length + 1; omega⟩
 | h + 1, t, hb, h1 => by
  have key : ∀ t1 : Tr, Bal m M (h + 1) t1 → m < (kid t1 t1.is.length).is.length → Bal m M (h + 1) (.nd t1.is (t1.ks.set t1.is.length (dmax m h (kid t1 t1.is.length)).1)) := fun t1 b1 hk => by
   have hx : t1.ks[t1.is.length]? = some (kid t1 t1.is.length) := kid_get (by rw [b1.1]; omega)
   have hbk := bal_kid b1 hx
   have ih := dmax_bal hM hm hbk.2 (by omega)
   refine ⟨by show (t1.ks.set _ _).length = _; rw [List.length_set]; exact b1.1, b1.2.1, fun q hq => ?_⟩
   rcases List.mem_or_eq_of_mem_set (show q ∈ t1.ks.set _ _ from hq) with hq | rfl
   ·
    exact b1.2.2 q hq
   ·
    exact ⟨by omega, ih.1⟩
  by_cases hk : (kid t t.is.length).is.length ≤ m
  ·
   obtain ⟨g1, -, g3⟩ := grow_bal (i := t.is.length) hM hm hb (by omega) h1 hk
   rw [dmax_small hk (g3 rfl), dmax_big (g3 rfl)]
   exact ⟨key _ g1.bal (g3 rfl), g1.lo⟩
  ·
   rw [dmax_big (by omega)]
   exact ⟨key t hb (by omega), Nat.le_succ _⟩
/-- a root without items goes -/
def shrink (h : Nat) (t : Tr) : Nat × Tr := if t.is.length = 0 ∧ 0 < t.ks.length then (h - 1, kid t 0) else (h, t)
set_option maxRecDepth 100000 in
set_option maxHeartbeats 2000000 in
theorem del_nil (c d tb : Nat) (n : Int) (x : El) (typ : Int) : Does Try.prog 104 [.pointer (some ⟨tb, 0, none⟩), .agg #[.int .i64 (x.k), .int .i64 (x.v)], .int .i64 (typ)] [Blk tb [.int .i64 (((d : Nat) : Int)), .int .i64 (n), .pointer none, .pointer (some ⟨c, 0, none⟩)] 174] (fun v L => v = opv none ∧ L = [Blk tb [.int .i64 ((d : Nat) : Int), .int .i64 n, .pointer none, .pointer (some ⟨c, 0, none⟩)] 174]) := by
 refine Does.enter 103 Try.func104 rfl rfl rfl fun W F => ?_
 show WPc _ _ _ _ _ [(0, .pointer (some ⟨tb, 0, none⟩)), (1, .agg #[.int .i64 (x.k), .int .i64 (x.v)]), (2, .int .i64 (typ))] (Blk tb [.int .i64 (((d : Nat) : Int)), .int .i64 (n), .pointer none, .pointer (some ⟨c, 0, none⟩)] 174 :: F)
 refine WPc.sr ?_
 refine WP.eff rfl rfl rfl (Eff.box (C := [.int .i64 (x.k), .int .i64 (x.v)]) rfl rfl rfl) ?_
 rintro _ _ ⟨b1, rfl, rfl⟩
 refine WP.eff rfl rfl rfl (Eff.alloc rfl Ty.z55) ?_
 rintro _ _ ⟨b2, rfl, rfl⟩
 refine WP.val rfl rfl rfl (Val.assign rfl rfl) ?_
 refine WP.nx ?_
 refine WPc.seq ?_
 refine WPc.sr ?_
 refine WP.val rfl rfl rfl (Val.move rfl rfl) ?_
 refine WP.val rfl rfl rfl (Val.nilCheck rfl rfl) ?_
 refine WP.val rfl rfl rfl (Val.fieldAddr (j := 2) rfl Ty.fo174_2 rfl rfl) ?_
 refine WP.val rfl rfl rfl (Val.load rfl Ty.sc171 rfl (fun w h => h.cell 2 rfl rfl)) ?_
 refine WP.val rfl rfl rfl (Val.nilP rfl Ty.ip171 rfl rfl) ?_
 refine WP.val rfl rfl rfl (Val.move rfl rfl) ?_
 iterate 9 (refine WP.skip rfl rfl rfl rfl rfl rfl rfl ?_)
 refine WP.val rfl rfl rfl (Val.pickT rfl rfl rfl) ?_
 refine WP.nx ?_
 refine WPc.condT rfl rfl ?_
 refine WPc.ret ?_
 refine Out.then_ret ?_
 refine Out.perm pl1 ?_
 refine Out.drop ?_
 exact Out.retRun (L' := _) (results_ct Try.results104 rfl Ty.ag55 rfl rfl (fun w h => h.range 0 rfl rfl)) ⟨rfl, rfl⟩ (fun w h => h.drop)
set_option maxRecDepth 100000 in
set_option maxHeartbeats 2000000 in
theorem del_empty (c d tb p ht : Nat) (t : Tr) (n : Int) (x : El) (typ : Int) (he : t.is.length = 0) : Does Try.prog 104 [.pointer (some ⟨tb, 0, none⟩), .agg #[.int .i64 (x.k), .int .i64 (x.v)], .int .i64 (typ)] [Blk tb [.int .i64 (((d : Nat) : Int)), .int .i64 (n), .pointer (some ⟨p, 0, none⟩), .pointer (some ⟨c, 0, none⟩)] 174, Nd c ht (p, t)] (fun v L => v = opv none ∧ L = [Blk tb [.int .i64 ((d : Nat) : Int), .int .i64 n, .pointer (some ⟨p, 0, none⟩), .pointer (some ⟨c, 0, none⟩)] 174, Nd c ht (p, t)]) := by
 refine Does.enter 103 Try.func104 rfl rfl rfl fun W F => ?_
 show WPc _ _ _ _ _ [(0, .pointer (some ⟨tb, 0, none⟩)), (1, .agg #[.int .i64 (x.k), .int .i64 (x.v)]), (2, .int .i64 (typ))] (Blk tb [.int .i64 (((d : Nat) : Int)), .int .i64 (n), .pointer (some ⟨p, 0, none⟩), .pointer (some ⟨c, 0, none⟩)] 174 :: Nd c ht (p, t) :: F)
 refine WPc.sr ?_
 refine WP.eff rfl rfl rfl (Eff.box (C := [.int .i64 (x.k), .int .i64 (x.v)]) rfl rfl rfl) ?_
 rintro _ _ ⟨b1, rfl, rfl⟩
 refine WP.eff rfl rfl rfl (Eff.alloc rfl Ty.z55) ?_
 rintro _ _ ⟨b2, rfl, rfl⟩
 refine WP.val rfl rfl rfl (Val.assign rfl rfl) ?_
 refine WP.nx ?_
 refine WPc.seq ?_
 refine WPc.seq ?_
 refine WPc.perm pl3 ?_
 refine WPc.open (fun w h => h.ndOpen) ?_
 rintro ⟨vi, vc, ks⟩
 refine WPc.pure (fun hk => ?_)
 obtain ⟨hk, hl⟩ := hk
 dsimp only at hk hl
 have hkl := ks_len hk
 show WPc _ _ _ _ _ _ (Blk p [vi, vc, .pointer (some ⟨c, 0, none⟩)] 213 :: Own 55 2 vi t.is.length (flatOf El.cells t.is) :: Own 171 1 vc ks.length (flatOf vcf (kp ks)) :: Kds (Rk c ht) ks :: Blk b2 [.int .i64 0, .int .i64 0] 55 :: Blk b1 [.int .i64 (x.k), .int .i64 (x.v)] 55 :: _)
 refine WPc.region ?_
 refine WP.val rfl rfl rfl (Val.move rfl rfl) ?_
 refine WP.val rfl rfl rfl (Val.nilCheck rfl rfl) ?_
 refine WP.val rfl rfl rfl (Val.fieldAddr (j := 2) rfl Ty.fo174_2 rfl rfl) ?_
 refine WP.val rfl rfl rfl (Val.load rfl Ty.sc171 rfl (fun w h => h.cell 6 rfl rfl)) ?_
 refine WP.val rfl rfl rfl (Val.nilP rfl Ty.ip171 rfl rfl) ?_
 refine WP.val rfl rfl rfl (Val.move rfl rfl) ?_
 refine WP.valG rfl rfl rfl rfl rfl rfl rfl (Val.move rfl rfl) ?_
 refine WP.valG rfl rfl rfl rfl rfl rfl rfl (Val.nilCheck rfl rfl) ?_
 refine WP.valG rfl rfl rfl rfl rfl rfl rfl (Val.fieldAddr (j := 2) rfl Ty.fo174_2 rfl rfl) ?_
 refine WP.valG rfl rfl rfl rfl rfl rfl rfl (Val.load rfl Ty.sc171 rfl (fun w h => h.cell 6 rfl rfl)) ?_
 refine WP.valG rfl rfl rfl rfl rfl rfl rfl (Val.nilCheck rfl rfl) ?_
 refine WP.valG rfl rfl rfl rfl rfl rfl rfl (Val.fieldAddr (j := 0) rfl Ty.fo213_0 rfl rfl) ?_
 refine WP.valG rfl rfl rfl rfl rfl rfl rfl (Val.load rfl Ty.sc210 rfl (fun w h => h.cell 0 rfl rfl)) ?_
 refine WP.valG rfl rfl rfl rfl rfl rfl rfl (Val.lenOwn rfl Ty.sl210 rfl (fun w h => h.at 1 rfl)) ?_
 refine WP.valG rfl rfl rfl rfl rfl rfl rfl (Val.eql rfl rfl rfl) ?_
 refine WP.val rfl rfl rfl (Val.pickF rfl rfl rfl) ?_
 refine WP.nx ?_
 refine WPc.ifP rfl (fun h1 => ?_) (fun h1 => ?_)
 ·
  have h1 : (((t.is.length : Nat) : Int) = (0 : Int)) := h1
  refine WPc.ret ?_
  refine Out.then_ret ?_
  iterate 4 (refine Out.perm pl3 ?_)
  refine Out.conv (fun w h => Sat.ndMk (c := c) (h := ht) (t := t) (ks := ks) hk hl h) ?_
  show Out _ _ _ _ _ (Nd c ht (p, t) :: _)
  refine Out.perm pl2 ?_
  refine Out.drop ?_
  refine Out.perm pl2 ?_
  refine Out.perm pl2 ?_
  exact Out.retRun (L' := _) (results_ct Try.results104 rfl Ty.ag55 rfl rfl (fun w h => h.range 0 rfl rfl)) ⟨rfl, rfl⟩ (fun w h => h.drop)
 ·
  have h1 : ¬ (((t.is.length : Nat) : Int) = (0 : Int)) := h1
  exfalso; omega
set_option maxRecDepth 100000 in
set_option maxHeartbeats 2000000 in
theorem del1_some (c f d tb m M : Nat) (n : Int) (hn0 : 0 ≤ n) (hn1 : n < 1000000) (hd1 : 2 ≤ d) (hd2 : d ≤ 100) (hM : M = 2 * m + 1) (hM2 : M ≤ 1000) (hm1 : 1 ≤ m) (hmd : m = d - 1) (x : El) (ht p : Nat) (t : Tr) (hbal : Bal m M ht t) (hi1 : 1 ≤ t.is.length) : Does Try.prog 104 [.pointer (some ⟨tb, 0, none⟩), .agg #[.int .i64 (x.k), .int .i64 (x.v)], .int .i64 1] [Blk tb [.int .i64 (((d : Nat) : Int)), .int .i64 (n), .pointer (some ⟨p, 0, none⟩), .pointer (some ⟨c, 0, none⟩)] 174, Nd c ht (p, t), Blk c [.pointer (some ⟨f, 0, none⟩), .func (.func 53) #[] #[]] 170, FL f] (fun v L => ∃ q, v = opv (dmin m ht t).2 ∧ L = [Blk tb [.int .i64 ((d : Nat) : Int), .int .i64 (n - 1), .pointer (some ⟨q, 0, none⟩), .pointer (some ⟨c, 0, none⟩)] 174, Nd c (shrink ht (dmin m ht t).1).1 (q, (shrink ht (dmin m ht t).1).2), Blk c [.pointer (some ⟨f, 0, none⟩), .func (.func 53) #[] #[]] 170, FL f]) := by
 refine Does.enter 103 Try.func104 rfl rfl rfl fun W F => ?_
 show WPc _ _ _ _ _ [(0, .pointer (some ⟨tb, 0, none⟩)), (1, .agg #[.int .i64 (x.k), .int .i64 (x.v)]), (2, .int .i64 1)] (Blk tb [.int .i64 (((d : Nat) : Int)), .int .i64 (n), .pointer (some ⟨p, 0, none⟩), .pointer (some ⟨c, 0, none⟩)] 174 :: Nd c ht (p, t) :: Blk c [.pointer (some ⟨f, 0, none⟩), .func (.func 53) #[] #[]] 170 :: FL f :: F)
 refine WPc.sr ?_
 refine WP.eff rfl rfl rfl (Eff.box (C := [.int .i64 (x.k), .int .i64 (x.v)]) rfl rfl rfl) ?_
 rintro _ _ ⟨b1, rfl, rfl⟩
 refine WP.eff rfl rfl rfl (Eff.alloc rfl Ty.z55) ?_
 rintro _ _ ⟨b2, rfl, rfl⟩
 refine WP.val rfl rfl rfl (Val.assign rfl rfl) ?_
 refine WP.nx ?_
 refine WPc.seq ?_
 refine WPc.seq ?_
 refine WPc.perm pl3 ?_
 refine WPc.open (fun w h => h.ndOpen) ?_
 rintro ⟨vi, vc, ks⟩
 refine WPc.pure (fun hk => ?_)
 obtain ⟨hk, hl⟩ := hk
 dsimp only at hk hl
 have hkl := ks_len hk
 show WPc _ _ _ _ _ _ (Blk p [vi, vc, .pointer (some ⟨c, 0, none⟩)] 213 :: Own 55 2 vi t.is.length (flatOf El.cells t.is) :: Own 171 1 vc ks.length (flatOf vcf (kp ks)) :: Kds (Rk c ht) ks :: Blk b2 [.int .i64 0, .int .i64 0] 55 :: Blk b1 [.int .i64 (x.k), .int .i64 (x.v)] 55 :: _)
 obtain ⟨D, hD⟩ : ∃ D, D = dmin m ht t := ⟨_, rfl⟩
 have hDb := dmin_bal hM hm1 hbal hi1
 have hDs := dmin_some (m := m) ht t
 have hrem := rem1_spec c f m M hM hM2 hm1 x ht p t hbal hi1
 rw [← hD] at hDb hDs hrem
 rw [show m = d - 1 from hmd] at hrem
 refine WPc.region ?_
 refine WP.val rfl rfl rfl (Val.move rfl rfl) ?_
 refine WP.val rfl rfl rfl (Val.nilCheck rfl rfl) ?_
 refine WP.val rfl rfl rfl (Val.fieldAddr (j := 2) rfl Ty.fo174_2 rfl rfl) ?_
 refine WP.val rfl rfl rfl (Val.load rfl Ty.sc171 rfl (fun w h => h.cell 6 rfl rfl)) ?_
 refine WP.val rfl rfl rfl (Val.nilP rfl Ty.ip171 rfl rfl) ?_
 refine WP.val rfl rfl rfl (Val.move rfl rfl) ?_
 refine WP.valG rfl rfl rfl rfl rfl rfl rfl (Val.move rfl rfl) ?_
 refine WP.valG rfl rfl rfl rfl rfl rfl rfl (Val.nilCheck rfl rfl) ?_
 refine WP.valG rfl rfl rfl rfl rfl rfl rfl (Val.fieldAddr (j := 2) rfl Ty.fo174_2 rfl rfl) ?_
 refine WP.valG rfl rfl rfl rfl rfl rfl rfl (Val.load rfl Ty.sc171 rfl (fun w h => h.cell 6 rfl rfl)) ?_
 refine WP.valG rfl rfl rfl rfl rfl rfl rfl (Val.nilCheck rfl rfl) ?_
 refine WP.valG rfl rfl rfl rfl rfl rfl rfl (Val.fieldAddr (j := 0) rfl Ty.fo213_0 rfl rfl) ?_
 refine WP.valG rfl rfl rfl rfl rfl rfl rfl (Val.load rfl Ty.sc210 rfl (fun w h => h.cell 0 rfl rfl)) ?_
 refine WP.valG rfl rfl rfl rfl rfl rfl rfl (Val.lenOwn rfl Ty.sl210 rfl (fun w h => h.at 1 rfl)) ?_
 refine WP.valG rfl rfl rfl rfl rfl rfl rfl (Val.eql rfl rfl rfl) ?_
 refine WP.val rfl rfl rfl (Val.pickF rfl rfl rfl) ?_
 refine WP.nx ?_
 refine WPc.ifP rfl (fun h1 => ?_) (fun h1 => ?_)
 ·
  have h1 : (((t.is.length : Nat) : Int) = (0 : Int)) := h1
  exfalso; omega
 ·
  have h1 : ¬ (((t.is.length : Nat) : Int) = (0 : Int)) := h1
  refine WPc.skip ?_
  refine Out.next ?_
  refine WPc.seq ?_
  refine WPD.s0 Ty.mixed ?_
  refine WPD.tM 0 rfl rfl rfl rfl (Val.move rfl rfl) ?_
  refine WPD.tM 1 rfl rfl rfl rfl (Val.move rfl rfl) ?_
  refine WPD.tM 2 rfl rfl rfl rfl (Val.nilCheck rfl rfl) ?_
  refine WPD.tM 3 rfl rfl rfl rfl (Val.fieldAddr (j := 2) rfl Ty.fo174_2 rfl rfl) ?_
  refine WPD.tL 4 rfl rfl rfl rfl (fun _ h => h) (Val.load rfl Ty.sc171 rfl (fun w h => h.cell 6 rfl rfl)) ?_
  refine WPD.tM 5 rfl rfl rfl rfl (Val.move rfl rfl) ?_
  refine WPD.tM 6 rfl rfl rfl rfl (Val.nilCheck rfl rfl) ?_
  refine WPD.tM 7 rfl rfl rfl rfl (Val.fieldAddr (j := 3) rfl Ty.fo174_3 rfl rfl) ?_
  refine WPD.tL 8 rfl rfl rfl rfl (fun _ h => h) (Val.load rfl Ty.sc172 rfl (fun w h => h.cell 6 rfl rfl)) ?_
  refine WPD.stepC 9 (by kernel_rfl) rfl rfl rfl rfl (by kernel_rfl) (Eff.call rfl rfl Try.call100 (mut_spec c p vi vc)) ?_
  rintro _ _ ⟨_, ⟨rfl, rfl⟩, rfl⟩
  refine ⟨_, (fun _ h => h), ?_⟩
  refine WPD.tM 10 rfl rfl rfl rfl (Val.nilCheck rfl rfl) ?_
  refine WPD.tM 11 rfl rfl rfl rfl (Val.fieldAddr (j := 2) rfl Ty.fo174_2 rfl rfl) ?_
  refine WPD.perm pl6 ?_
  refine WPD.stepC0 12 (by kernel_rfl) rfl rfl rfl (by kernel_rfl) (Eff.store rfl Ty.sc171 rfl rfl rfl (by simp) st2) ?_
  rintro _ _ rfl
  refine ⟨_, (fun _ h => h), ?_⟩
  refine WPD.done (by kernel_rfl) ?_
  refine Out.next ?_
  refine WPc.seq ?_
  iterate 4 (refine WPc.perm pl4 ?_)
  refine WPc.conv (fun w h => Sat.ndMk (c := c) (h := ht) (t := t) (ks := ks) hk hl h) ?_
  show WPc _ _ _ _ _ _ (Nd c ht (p, t) :: _)
  refine WPD.start (Sat W [Blk tb [.int .i64 (((d : Nat) : Int)), .int .i64 (n), .pointer (some ⟨p, 0, none⟩), .pointer (some ⟨c, 0, none⟩)] 174, Blk b1 [.int .i64 (x.k), .int .i64 (x.v)] 55]) Ty.mixed ?_
  refine WPD.tS 0 rfl rfl rfl rfl (fun w h => (((h.perm pl3).perm pl2)).dropEnd (L := [_, _])) (Val.move rfl rfl) ?_
  refine WPD.tS 1 rfl rfl rfl rfl (fun w h => (((h.perm pl3).perm pl2)).dropEnd (L := [_, _])) (Val.nilCheck rfl rfl) ?_
  refine WPD.tS 2 rfl rfl rfl rfl (fun w h => (((h.perm pl3).perm pl2)).dropEnd (L := [_, _])) (Val.fieldAddr (j := 2) rfl Ty.fo174_2 rfl rfl) ?_
  refine WPD.tL 3 rfl rfl rfl rfl (fun w h => (((h.perm pl3).perm pl2)).dropEnd (L := [_, _])) (Val.load rfl Ty.sc171 rfl (fun w h => h.cell 0 rfl rfl)) ?_
  refine WPD.tL 4 rfl rfl rfl rfl (fun w h => (((h.perm pl3).perm pl2)).dropEnd (L := [_, _])) (Val.loadAgg (cs := [.int .i64 (x.k), .int .i64 (x.v)]) rfl Ty.ag55 rfl rfl (fun w h => h.range 1 rfl rfl)) ?_
  refine WPD.tS 5 rfl rfl rfl rfl (fun w h => (((h.perm pl3).perm pl2)).dropEnd (L := [_, _])) (Val.move rfl rfl) ?_
  refine WPD.tS 7 rfl rfl rfl rfl (fun w h => (((h.perm pl3).perm pl2)).dropEnd (L := [_, _])) (Val.move rfl rfl) ?_
  refine WPD.pick2 6 12 (by kernel_rfl) ?_ ?_
  ·
   refine WPO.perm pl1 ?_
   refine WPO.step rfl rfl rfl rfl (Eff.call rfl rfl Try.call129 (mini_spec c d tb n (.pointer (some ⟨p, 0, none⟩)) (by omega) (by omega))) ?_
   rintro _ _ ⟨_, ⟨rfl, rfl⟩, rfl⟩
   refine ⟨(fun w h => (((h.perm pl3).perm pl1)).dropEnd (L := [_, _])), ?_⟩
   refine WPD.pick2 8 12 (by kernel_rfl) ?_ ?_
   ·
    refine WPO.perm pl5 ?_
    refine WPO.perm pl5 ?_
    refine WPO.perm pl3 ?_
    refine WPO.step rfl rfl rfl rfl (Eff.call rfl rfl Try.call128 (hrem)) ?_
    rintro _ _ ⟨_, ⟨rfl, rfl⟩, rfl⟩
    refine ⟨(fun w h => (((h.perm pl5).perm pl4)).dropEnd (L := [_, _])), ?_⟩
    show WPD _ _ _ _ _ _ _ _ _ (Nd c ht (p, D.1) :: _)
    refine WPD.tS 9 rfl rfl rfl rfl (fun w h => (((h.perm pl5).perm pl4)).dropEnd (L := [_, _])) (Val.move rfl rfl) ?_
    refine WPD.tS 10 rfl rfl rfl rfl (fun w h => (((h.perm pl5).perm pl4)).dropEnd (L := [_, _])) (Val.extract rfl rfl rfl) ?_
    refine WPD.tS 11 rfl rfl rfl rfl (fun w h => (((h.perm pl5).perm pl4)).dropEnd (L := [_, _])) (Val.extract rfl rfl rfl) ?_
    refine WPD.step 12 (by kernel_rfl) rfl rfl rfl rfl (Eff.alloc rfl Ty.z55) ?_
    rintro _ _ ⟨b3, rfl, rfl⟩
    refine ⟨(fun w h => (((h.perm pl6).perm pl5)).dropEnd (L := [_, _])), ?_⟩
    refine WPD.stepC0 13 (by kernel_rfl) rfl rfl rfl (by kernel_rfl) (Eff.storeAgg (cs := [.int .i64 ((D.2.getD El0).k), .int .i64 ((D.2.getD El0).v)]) (C' := [.int .i64 ((D.2.getD El0).k), .int .i64 ((D.2.getD El0).v)]) rfl Ty.ag55 rfl rfl rfl rfl (by simp) rfl) ?_
    rintro _ _ rfl
    refine ⟨_, (fun _ h => h), ?_⟩
    refine WPD.tM 14 rfl rfl rfl rfl (Val.assign rfl rfl) ?_
    refine WPD.done (by kernel_rfl) ?_
    refine Out.next ?_
    refine WPc.seq ?_
    refine WPc.seq ?_
    refine WPc.perm pl1 ?_
    refine WPc.open (fun w h => h.ndOpen) ?_
    rintro ⟨vi1, vc1, ks1⟩
    refine WPc.pure (fun hk1 => ?_)
    obtain ⟨hk1, hl1⟩ := hk1
    dsimp only at hk1 hl1
    have hkl1 := ks_len hk1
    show WPc _ _ _ _ _ _ (Blk p [vi1, vc1, .pointer (some ⟨c, 0, none⟩)] 213 :: Own 55 2 vi1 D.1.is.length (flatOf El.cells D.1.is) :: Own 171 1 vc1 ks1.length (flatOf vcf (kp ks1)) :: Kds (Rk c ht) ks1 :: Blk b3 [.int .i64 ((D.2.getD El0).k), .int .i64 ((D.2.getD El0).v)] 55 :: _)
    have hle1 := hDb.1.le
    refine WPc.region ?_
    refine WP.val rfl rfl rfl (Val.move rfl rfl) ?_
    refine WP.val rfl rfl rfl (Val.nilCheck rfl rfl) ?_
    refine WP.val rfl rfl rfl (Val.fieldAddr (j := 2) rfl Ty.fo174_2 rfl rfl) ?_
    refine WP.val rfl rfl rfl (Val.load rfl Ty.sc171 rfl (fun w h => h.cell 7 rfl rfl)) ?_
    refine WP.val rfl rfl rfl (Val.nilCheck rfl rfl) ?_
    refine WP.val rfl rfl rfl (Val.fieldAddr (j := 0) rfl Ty.fo213_0 rfl rfl) ?_
    refine WP.val rfl rfl rfl (Val.load rfl Ty.sc210 rfl (fun w h => h.cell 0 rfl rfl)) ?_
    refine WP.val rfl rfl rfl (Val.lenOwn rfl Ty.sl210 rfl (fun w h => h.at 1 rfl)) ?_
    refine WP.val rfl rfl rfl (Val.eql rfl rfl rfl) ?_
    refine WP.val rfl rfl rfl (Val.move rfl rfl) ?_
    refine WP.split 60 rfl (fun h2 => ?_) (fun h2 => ?_)
    ·
     have h2 : (((D.1.is.length : Nat) : Int) = (0 : Int)) := h2
     refine WP.valG rfl rfl rfl rfl rfl rfl rfl (Val.move rfl rfl) ?_
     refine WP.valG rfl rfl rfl rfl rfl rfl rfl (Val.nilCheck rfl rfl) ?_
     refine WP.valG rfl rfl rfl rfl rfl rfl rfl (Val.fieldAddr (j := 2) rfl Ty.fo174_2 rfl rfl) ?_
     refine WP.valG rfl rfl rfl rfl rfl rfl rfl (Val.load rfl Ty.sc171 rfl (fun w h => h.cell 7 rfl rfl)) ?_
     refine WP.valG rfl rfl rfl rfl rfl rfl rfl (Val.nilCheck rfl rfl) ?_
     refine WP.valG rfl rfl rfl rfl rfl rfl rfl (Val.fieldAddr (j := 1) rfl Ty.fo213_1 rfl rfl) ?_
     refine WP.valG rfl rfl rfl rfl rfl rfl rfl (Val.load rfl Ty.sc211 rfl (fun w h => h.cell 0 rfl rfl)) ?_
     refine WP.valG rfl rfl rfl rfl rfl rfl rfl (Val.lenOwn rfl Ty.sl211 rfl (fun w h => h.at 2 rfl)) ?_
     refine WP.valG rfl rfl rfl rfl rfl rfl rfl (Val.gtr rfl rfl rfl) ?_
     refine WP.val rfl rfl rfl (Val.pickT rfl rfl rfl) ?_
     refine WP.nx ?_
     refine WPc.ifP rfl (fun h3 => ?_) (fun h3 => ?_)
     ·
      have h3 : ((0 : Int) < ((ks1.length : Nat) : Int)) := h3
      refine WPc.seq ?_
      obtain ⟨tk, htk⟩ : ∃ k, D.1.ks[0]? = some k := ⟨_, List.getElem?_eq_getElem (by omega)⟩
      obtain ⟨pk, hx⟩ := ks_get hk1 htk
      have hka := kp_at hx
      obtain ⟨h', rfl⟩ : ∃ h', ht = h' + 1 := ⟨ht - 1, by cases ht with | zero => exfalso; have h0 : ks1 = [] := hl1 rfl; have h00 : ks1.length = 0 := (by rw [h0]; rfl); omega | succ h => rfl⟩
      refine WPc.perm pl2 ?_
      refine WPc.open (fun w h => h.ownPos (by omega)) ?_
      rintro ⟨g4, cg4, spg4⟩
      refine WPc.pure (fun hvg4 => ?_)
      obtain ⟨rfl, hng4, hlg4, hsg4, hcg4⟩ := hvg4
      dsimp only at hng4 hlg4 hsg4 hcg4
      show WPc _ _ _ _ _ _ (Blk g4 (flatOf vcf (kp ks1) ++ spg4) 171 :: Blk p [vi1, .slice (some ⟨g4, 0, none⟩) ks1.length cg4, .pointer (some ⟨c, 0, none⟩)] 213 :: _ :: Kds (Rk c (h' + 1)) ks1 :: _)
      refine WPc.perm pl3 ?_
      refine WPc.conv (fun w h => Sat.kOut (R := Rk c (h' + 1)) hx h) ?_
      show WPc _ _ _ _ _ _ (Nd c h' (pk, tk) :: Kds (Rk c (h' + 1)) (ks1.take 0 ++ ks1.drop (0 + 1)) :: _)
      refine WPc.region ?_
      refine WP.val rfl rfl rfl (Val.move rfl rfl) ?_
      refine WP.val rfl rfl rfl (Val.nilCheck rfl rfl) ?_
      refine WP.val rfl rfl rfl (Val.fieldAddr (j := 2) rfl Ty.fo174_2 rfl rfl) ?_
      refine WP.val rfl rfl rfl (Val.load rfl Ty.sc171 rfl (fun w h => h.cell 8 rfl rfl)) ?_
      refine WP.val rfl rfl rfl (Val.assign rfl rfl) ?_
      refine WP.nx ?_
      refine WPc.sr ?_
      refine WP.val rfl rfl rfl (Val.move rfl rfl) ?_
      refine WP.val rfl rfl rfl (Val.move rfl rfl) ?_
      refine WP.val rfl rfl rfl (Val.nilCheck rfl rfl) ?_
      refine WP.val rfl rfl rfl (Val.fieldAddr (j := 2) rfl Ty.fo174_2 rfl rfl) ?_
      refine WP.val rfl rfl rfl (Val.load rfl Ty.sc171 rfl (fun w h => h.cell 8 rfl rfl)) ?_
      refine WP.val rfl rfl rfl (Val.nilCheck rfl rfl) ?_
      refine WP.val rfl rfl rfl (Val.fieldAddr (j := 1) rfl Ty.fo213_1 rfl rfl) ?_
      refine WP.val rfl rfl rfl (Val.load rfl Ty.sc211 rfl (fun w h => h.cell 3 rfl rfl)) ?_
      refine WP.val rfl rfl rfl (Val.indexAddr (j := 0) (q := 0) rfl Ty.sl211 rfl rfl (by omega) (by omega) (by omega)) ?_
      refine WP.val rfl rfl rfl (Val.load (v := .pointer (some ⟨pk, 0, none⟩)) rfl Ty.sc171 rfl (fun w h => ((h.at 2 rfl).cell _).trans (vflat_at hka))) ?_
      refine WP.val rfl rfl rfl (Val.nilCheck rfl rfl) ?_
      refine WP.val rfl rfl rfl (Val.fieldAddr (j := 2) rfl Ty.fo174_2 rfl rfl) ?_
      refine WP.perm pl8 ?_
      refine WP.eff0 rfl rfl (Eff.store rfl Ty.sc171 rfl rfl rfl (by simp) st2) ?_
      rintro _ _ rfl
      refine WP.nx ?_
      refine WPc.perm pl3 ?_
      refine WPc.conv (fun w h => Sat.ownMk (e := 171) (k := 1) (b := g4) (m := ks1.length) (cap := cg4) (xs := flatOf vcf (kp ks1)) (sp := spg4) (by exact h) hng4 hlg4 hsg4 hcg4) ?_
      refine WPc.c1 (B := Own 171 1 (.slice (some ⟨g4, 0, none⟩) ks1.length cg4) ((kp ks1).length) (flatOf vcf (kp ks1))) (fun w h => by rw [kp_len]; exact h) ?_
      refine WPc.region ?_
      refine WP.val rfl rfl rfl (Val.move rfl rfl) ?_
      refine WP.val rfl rfl rfl (Val.nilCheck rfl rfl) ?_
      refine WP.val rfl rfl rfl (Val.fieldAddr (j := 3) rfl Ty.fo174_3 rfl rfl) ?_
      refine WP.val rfl rfl rfl (Val.load rfl Ty.sc172 rfl (fun w h => h.cell 1 rfl rfl)) ?_
      refine WP.val rfl rfl rfl (Val.move rfl rfl) ?_
      refine WP.perm pl5 ?_
      refine WP.perm pl5 ?_
      refine WP.perm pl8 ?_
      refine WP.perm pl8 ?_
      refine WP.eff rfl rfl rfl (Eff.call rfl rfl Try.call130 (cowfree_spec c f p vi1 (.slice (some ⟨g4, 0, none⟩) ks1.length cg4) D.1.is (kp ks1) (kp_one _) (by omega) (by rw [kp_len]; omega))) ?_
      rintro vf _ ⟨_, ⟨-, rfl⟩, rfl⟩
      show WP _ _ _ _ _ _ _ (_ :: _ :: Blk tb [.int .i64 (((d : Nat) : Int)), .int .i64 (n), .pointer (some ⟨pk, 0, none⟩), .pointer (some ⟨c, 0, none⟩)] 174 :: _)
      refine WP.nx ?_
      refine WPc.seq ?_
      refine WPc.sr ?_
      refine WP.val rfl rfl rfl (Val.move rfl rfl) ?_
      refine WP.nx ?_
      refine WPc.cond rfl (fun h4 => ?_) (fun h4 => ?_)
      ·
       have h4 : (D.2.isSome) = true := h4
       refine WPc.region ?_
       refine WP.val rfl rfl rfl (Val.move rfl rfl) ?_
       refine WP.val rfl rfl rfl (Val.nilCheck rfl rfl) ?_
       refine WP.val rfl rfl rfl (Val.fieldAddr (j := 1) rfl Ty.fo174_1 rfl rfl) ?_
       refine WP.val rfl rfl rfl (Val.load rfl Ty.sc3 rfl (fun w h => h.cell 2 rfl rfl)) ?_
       refine WP.val rfl rfl rfl (Val.sub (z := n - (1 : Int)) rfl rfl rfl (w64 (by omega) (by omega))) ?_
       refine WP.val rfl rfl rfl (Val.nilCheck rfl rfl) ?_
       refine WP.val rfl rfl rfl (Val.fieldAddr (j := 1) rfl Ty.fo174_1 rfl rfl) ?_
       refine WP.perm pl2 ?_
       refine WP.eff0 rfl rfl (Eff.store rfl Ty.sc3 rfl rfl rfl (by simp) st1) ?_
       rintro _ _ rfl
       refine WP.nx ?_
       refine WPc.sr ?_
       refine WP.val rfl rfl rfl (Val.loadAgg (cs := [.int .i64 ((D.2.getD El0).k), .int .i64 ((D.2.getD El0).v)]) rfl Ty.ag55 rfl rfl (fun w h => h.range 5 rfl rfl)) ?_
       refine WP.val rfl rfl rfl (Val.move rfl rfl) ?_
       refine WP.perm pl6 ?_
       refine WP.eff0 rfl rfl (Eff.storeAgg (cs := [.int .i64 ((D.2.getD El0).k), .int .i64 ((D.2.getD El0).v)]) (C' := [.int .i64 ((D.2.getD El0).k), .int .i64 ((D.2.getD El0).v)]) rfl Ty.ag55 rfl rfl rfl rfl (by simp) rfl) ?_
       rintro _ _ rfl
       refine WP.val rfl rfl rfl (Val.assign rfl rfl) ?_
       refine WP.nx ?_
       refine WPc.ret ?_
       have hsh : shrink (h' + 1) D.1 = (h', tk) := by unfold shrink; rw [if_pos ⟨by omega, by omega⟩, kid_at htk]; rfl
       iterate 3 (refine Out.perm pl5 ?_; refine Out.drop ?_)
       refine Out.perm pl3 ?_
       refine Out.perm pl3 ?_
       iterate 3 (refine Out.perm pl4 ?_)
       exact Out.retRun (L' := _) (results_ct Try.results104 rfl Ty.ag55 rfl rfl (fun w h => h.range 0 rfl rfl)) ⟨pk, by rw [← hD]; rfl, by rw [← hD, hsh]⟩ (fun w h => h.drop)
      ·
       have h4 : (D.2.isSome) = false := h4
       rw [hDs] at h4; cases h4
     ·
      have h3 : ¬ ((0 : Int) < ((ks1.length : Nat) : Int)) := h3
      refine WPc.skip ?_
      refine Out.next ?_
      refine WPc.seq ?_
      refine WPc.sr ?_
      refine WP.val rfl rfl rfl (Val.move rfl rfl) ?_
      refine WP.nx ?_
      refine WPc.cond rfl (fun h5 => ?_) (fun h5 => ?_)
      ·
       have h5 : (D.2.isSome) = true := h5
       refine WPc.region ?_
       refine WP.val rfl rfl rfl (Val.move rfl rfl) ?_
       refine WP.val rfl rfl rfl (Val.nilCheck rfl rfl) ?_
       refine WP.val rfl rfl rfl (Val.fieldAddr (j := 1) rfl Ty.fo174_1 rfl rfl) ?_
       refine WP.val rfl rfl rfl (Val.load rfl Ty.sc3 rfl (fun w h => h.cell 7 rfl rfl)) ?_
       refine WP.val rfl rfl rfl (Val.sub (z := n - (1 : Int)) rfl rfl rfl (w64 (by omega) (by omega))) ?_
       refine WP.val rfl rfl rfl (Val.nilCheck rfl rfl) ?_
       refine WP.val rfl rfl rfl (Val.fieldAddr (j := 1) rfl Ty.fo174_1 rfl rfl) ?_
       refine WP.perm pl7 ?_
       refine WP.eff0 rfl rfl (Eff.store rfl Ty.sc3 rfl rfl rfl (by simp) st1) ?_
       rintro _ _ rfl
       refine WP.nx ?_
       refine WPc.sr ?_
       refine WP.val rfl rfl rfl (Val.loadAgg (cs := [.int .i64 ((D.2.getD El0).k), .int .i64 ((D.2.getD El0).v)]) rfl Ty.ag55 rfl rfl (fun w h => h.range 5 rfl rfl)) ?_
       refine WP.val rfl rfl rfl (Val.move rfl rfl) ?_
       refine WP.perm pl8 ?_
       refine WP.eff0 rfl rfl (Eff.storeAgg (cs := [.int .i64 ((D.2.getD El0).k), .int .i64 ((D.2.getD El0).v)]) (C' := [.int .i64 ((D.2.getD El0).k), .int .i64 ((D.2.getD El0).v)]) rfl Ty.ag55 rfl rfl rfl rfl (by simp) rfl) ?_
       rintro _ _ rfl
       refine WP.val rfl rfl rfl (Val.assign rfl rfl) ?_
       refine WP.nx ?_
       refine WPc.ret ?_
       have hsh : shrink ht D.1 = (ht, D.1) := by unfold shrink; rw [if_neg (by rintro ⟨q1, q2⟩; omega)]
       iterate 4 (refine Out.perm pl5 ?_)
       refine Out.conv (fun w h => Sat.ndMk (c := c) (h := ht) (t := D.1) (ks := ks1) hk1 hl1 h) ?_
       show Out _ _ _ _ _ (Nd c ht (p, D.1) :: Blk b2 [.int .i64 ((D.2.getD El0).k), .int .i64 ((D.2.getD El0).v)] 55 :: Blk tb [.int .i64 (((d : Nat) : Int)), .int .i64 (n - (1 : Int)), .pointer (some ⟨p, 0, none⟩), .pointer (some ⟨c, 0, none⟩)] 174 :: _)
       refine Out.perm pl3 ?_
       refine Out.drop ?_
       refine Out.perm pl5 ?_
       refine Out.drop ?_
       refine Out.perm pl4 ?_
       refine Out.perm pl4 ?_
       refine Out.perm pl2 ?_
       refine Out.perm pl4 ?_
       refine Out.perm pl4 ?_
       exact Out.retRun (L' := _) (results_ct Try.results104 rfl Ty.ag55 rfl rfl (fun w h => h.range 0 rfl rfl)) ⟨p, by rw [← hD]; rfl, by rw [← hD, hsh]⟩ (fun w h => h.drop)
      ·
       have h5 : (D.2.isSome) = false := h5
       rw [hDs] at h5; cases h5
    ·
     have h2 : ¬ (((D.1.is.length : Nat) : Int) = (0 : Int)) := h2
     iterate 9 (refine WP.skip rfl rfl rfl rfl rfl rfl rfl ?_)
     refine WP.val rfl rfl rfl (Val.pickF rfl rfl rfl) ?_
     refine WP.nx ?_
     refine WPc.condF rfl rfl ?_
     refine WPc.skip ?_
     refine Out.next ?_
     refine WPc.seq ?_
     refine WPc.sr ?_
     refine WP.val rfl rfl rfl (Val.move rfl rfl) ?_
     refine WP.nx ?_
     refine WPc.cond rfl (fun h6 => ?_) (fun h6 => ?_)
     ·
      have h6 : (D.2.isSome) = true := h6
      refine WPc.region ?_
      refine WP.val rfl rfl rfl (Val.move rfl rfl) ?_
      refine WP.val rfl rfl rfl (Val.nilCheck rfl rfl) ?_
      refine WP.val rfl rfl rfl (Val.fieldAddr (j := 1) rfl Ty.fo174_1 rfl rfl) ?_
      refine WP.val rfl rfl rfl (Val.load rfl Ty.sc3 rfl (fun w h => h.cell 7 rfl rfl)) ?_
      refine WP.val rfl rfl rfl (Val.sub (z := n - (1 : Int)) rfl rfl rfl (w64 (by omega) (by omega))) ?_
      refine WP.val rfl rfl rfl (Val.nilCheck rfl rfl) ?_
      refine WP.val rfl rfl rfl (Val.fieldAddr (j := 1) rfl Ty.fo174_1 rfl rfl) ?_
      refine WP.perm pl7 ?_
      refine WP.eff0 rfl rfl (Eff.store rfl Ty.sc3 rfl rfl rfl (by simp) st1) ?_
      rintro _ _ rfl
      refine WP.nx ?_
      refine WPc.sr ?_
      refine WP.val rfl rfl rfl (Val.loadAgg (cs := [.int .i64 ((D.2.getD El0).k), .int .i64 ((D.2.getD El0).v)]) rfl Ty.ag55 rfl rfl (fun w h => h.range 5 rfl rfl)) ?_
      refine WP.val rfl rfl rfl (Val.move rfl rfl) ?_
      refine WP.perm pl8 ?_
      refine WP.eff0 rfl rfl (Eff.storeAgg (cs := [.int .i64 ((D.2.getD El0).k), .int .i64 ((D.2.getD El0).v)]) (C' := [.int .i64 ((D.2.getD El0).k), .int .i64 ((D.2.getD El0).v)]) rfl Ty.ag55 rfl rfl rfl rfl (by simp) rfl) ?_
      rintro _ _ rfl
      refine WP.val rfl rfl rfl (Val.assign rfl rfl) ?_
      refine WP.nx ?_
      refine WPc.ret ?_
      have hsh : shrink ht D.1 = (ht, D.1) := by unfold shrink; rw [if_neg (by rintro ⟨q1, q2⟩; omega)]
      iterate 4 (refine Out.perm pl5 ?_)
      refine Out.conv (fun w h => Sat.ndMk (c := c) (h := ht) (t := D.1) (ks := ks1) hk1 hl1 h) ?_
      show Out _ _ _ _ _ (Nd c ht (p, D.1) :: Blk b2 [.int .i64 ((D.2.getD El0).k), .int .i64 ((D.2.getD El0).v)] 55 :: Blk tb [.int .i64 (((d : Nat) : Int)), .int .i64 (n - (1 : Int)), .pointer (some ⟨p, 0, none⟩), .pointer (some ⟨c, 0, none⟩)] 174 :: _)
      refine Out.perm pl3 ?_
      refine Out.drop ?_
      refine Out.perm pl5 ?_
      refine Out.drop ?_
      refine Out.perm pl4 ?_
      refine Out.perm pl4 ?_
      refine Out.perm pl2 ?_
      refine Out.perm pl4 ?_
      refine Out.perm pl4 ?_
      exact Out.retRun (L' := _) (results_ct Try.results104 rfl Ty.ag55 rfl rfl (fun w h => h.range 0 rfl rfl)) ⟨p, by rw [← hD]; rfl, by rw [← hD, hsh]⟩ (fun w h => h.drop)
     ·
      have h6 : (D.2.isSome) = false := h6
      rw [hDs] at h6; cases h6
   ·
    refine WPO.step rfl rfl rfl rfl (Eff.alloc rfl Ty.z55) ?_
    rintro _ _ ⟨b5, rfl, rfl⟩
    refine ⟨(fun w h => (((h.perm pl4).perm pl2)).dropEnd (L := [_, _])), ?_⟩
    refine WPD.perm pl6 ?_
    refine WPD.perm pl6 ?_
    refine WPD.perm pl4 ?_
    refine WPD.step 8 (by kernel_rfl) rfl rfl rfl rfl (Eff.call rfl rfl Try.call128 (hrem)) ?_
    rintro _ _ ⟨_, ⟨rfl, rfl⟩, rfl⟩
    refine ⟨(fun w h => (((h.perm pl6).perm pl5)).dropEnd (L := [_, _])), ?_⟩
    show WPD _ _ _ _ _ _ _ _ _ (Nd c ht (p, D.1) :: _ :: _ :: Blk b5 [.int .i64 0, .int .i64 0] 55 :: _)
    refine WPD.tS 9 rfl rfl rfl rfl (fun w h => (((h.perm pl6).perm pl5)).dropEnd (L := [_, _])) (Val.move rfl rfl) ?_
    refine WPD.tS 10 rfl rfl rfl rfl (fun w h => (((h.perm pl6).perm pl5)).dropEnd (L := [_, _])) (Val.extract rfl rfl rfl) ?_
    refine WPD.tS 11 rfl rfl rfl rfl (fun w h => (((h.perm pl6).perm pl5)).dropEnd (L := [_, _])) (Val.extract rfl rfl rfl) ?_
    refine WPD.perm pl3 ?_
    refine WPD.stepC0 13 (by kernel_rfl) rfl rfl rfl (by kernel_rfl) (Eff.storeAgg (cs := [.int .i64 ((D.2.getD El0).k), .int .i64 ((D.2.getD El0).v)]) (C' := [.int .i64 ((D.2.getD El0).k), .int .i64 ((D.2.getD El0).v)]) rfl Ty.ag55 rfl rfl rfl rfl (by simp) rfl) ?_
    rintro _ _ rfl
    refine ⟨_, (fun _ h => h), ?_⟩
    refine WPD.tM 14 rfl rfl rfl rfl (Val.assign rfl rfl) ?_
    refine WPD.done (by kernel_rfl) ?_
    refine Out.next ?_
    refine WPc.seq ?_
    refine WPc.seq ?_
    refine WPc.perm pl1 ?_
    refine WPc.open (fun w h => h.ndOpen) ?_
    rintro ⟨vi1, vc1, ks1⟩
    refine WPc.pure (fun hk1 => ?_)
    obtain ⟨hk1, hl1⟩ := hk1
    dsimp only at hk1 hl1
    have hkl1 := ks_len hk1
    show WPc _ _ _ _ _ _ (Blk p [vi1, vc1, .pointer (some ⟨c, 0, none⟩)] 213 :: Own 55 2 vi1 D.1.is.length (flatOf El.cells D.1.is) :: Own 171 1 vc1 ks1.length (flatOf vcf (kp ks1)) :: Kds (Rk c ht) ks1 :: Blk b5 [.int .i64 ((D.2.getD El0).k), .int .i64 ((D.2.getD El0).v)] 55 :: _)
    have hle1 := hDb.1.le
    refine WPc.region ?_
    refine WP.val rfl rfl rfl (Val.move rfl rfl) ?_
    refine WP.val rfl rfl rfl (Val.nilCheck rfl rfl) ?_
    refine WP.val rfl rfl rfl (Val.fieldAddr (j := 2) rfl Ty.fo174_2 rfl rfl) ?_
    refine WP.val rfl rfl rfl (Val.load rfl Ty.sc171 rfl (fun w h => h.cell 7 rfl rfl)) ?_
    refine WP.val rfl rfl rfl (Val.nilCheck rfl rfl) ?_
    refine WP.val rfl rfl rfl (Val.fieldAddr (j := 0) rfl Ty.fo213_0 rfl rfl) ?_
    refine WP.val rfl rfl rfl (Val.load rfl Ty.sc210 rfl (fun w h => h.cell 0 rfl rfl)) ?_
    refine WP.val rfl rfl rfl (Val.lenOwn rfl Ty.sl210 rfl (fun w h => h.at 1 rfl)) ?_
    refine WP.val rfl rfl rfl (Val.eql rfl rfl rfl) ?_
    refine WP.val rfl rfl rfl (Val.move rfl rfl) ?_
    refine WP.split 60 rfl (fun h7 => ?_) (fun h7 => ?_)
    ·
     have h7 : (((D.1.is.length : Nat) : Int) = (0 : Int)) := h7
     refine WP.valG rfl rfl rfl rfl rfl rfl rfl (Val.move rfl rfl) ?_
     refine WP.valG rfl rfl rfl rfl rfl rfl rfl (Val.nilCheck rfl rfl) ?_
     refine WP.valG rfl rfl rfl rfl rfl rfl rfl (Val.fieldAddr (j := 2) rfl Ty.fo174_2 rfl rfl) ?_
     refine WP.valG rfl rfl rfl rfl rfl rfl rfl (Val.load rfl Ty.sc171 rfl (fun w h => h.cell 7 rfl rfl)) ?_
     refine WP.valG rfl rfl rfl rfl rfl rfl rfl (Val.nilCheck rfl rfl) ?_
     refine WP.valG rfl rfl rfl rfl rfl rfl rfl (Val.fieldAddr (j := 1) rfl Ty.fo213_1 rfl rfl) ?_
     refine WP.valG rfl rfl rfl rfl rfl rfl rfl (Val.load rfl Ty.sc211 rfl (fun w h => h.cell 0 rfl rfl)) ?_
     refine WP.valG rfl rfl rfl rfl rfl rfl rfl (Val.lenOwn rfl Ty.sl211 rfl (fun w h => h.at 2 rfl)) ?_
     refine WP.valG rfl rfl rfl rfl rfl rfl rfl (Val.gtr rfl rfl rfl) ?_
     refine WP.val rfl rfl rfl (Val.pickT rfl rfl rfl) ?_
     refine WP.nx ?_
     refine WPc.ifP rfl (fun h8 => ?_) (fun h8 => ?_)
     ·
      have h8 : ((0 : Int) < ((ks1.length : Nat) : Int)) := h8
      refine WPc.seq ?_
      obtain ⟨tk, htk⟩ : ∃ k, D.1.ks[0]? = some k := ⟨_, List.getElem?_eq_getElem (by omega)⟩
      obtain ⟨pk, hx⟩ := ks_get hk1 htk
      have hka := kp_at hx
      obtain ⟨h', rfl⟩ : ∃ h', ht = h' + 1 := ⟨ht - 1, by cases ht with | zero => exfalso; have h0 : ks1 = [] := hl1 rfl; have h00 : ks1.length = 0 := (by rw [h0]; rfl); omega | succ h => rfl⟩
      refine WPc.perm pl2 ?_
      refine WPc.open (fun w h => h.ownPos (by omega)) ?_
      rintro ⟨g6, cg6, spg6⟩
      refine WPc.pure (fun hvg6 => ?_)
      obtain ⟨rfl, hng6, hlg6, hsg6, hcg6⟩ := hvg6
      dsimp only at hng6 hlg6 hsg6 hcg6
      show WPc _ _ _ _ _ _ (Blk g6 (flatOf vcf (kp ks1) ++ spg6) 171 :: Blk p [vi1, .slice (some ⟨g6, 0, none⟩) ks1.length cg6, .pointer (some ⟨c, 0, none⟩)] 213 :: _ :: Kds (Rk c (h' + 1)) ks1 :: _)
      refine WPc.perm pl3 ?_
      refine WPc.conv (fun w h => Sat.kOut (R := Rk c (h' + 1)) hx h) ?_
      show WPc _ _ _ _ _ _ (Nd c h' (pk, tk) :: Kds (Rk c (h' + 1)) (ks1.take 0 ++ ks1.drop (0 + 1)) :: _)
      refine WPc.region ?_
      refine WP.val rfl rfl rfl (Val.move rfl rfl) ?_
      refine WP.val rfl rfl rfl (Val.nilCheck rfl rfl) ?_
      refine WP.val rfl rfl rfl (Val.fieldAddr (j := 2) rfl Ty.fo174_2 rfl rfl) ?_
      refine WP.val rfl rfl rfl (Val.load rfl Ty.sc171 rfl (fun w h => h.cell 8 rfl rfl)) ?_
      refine WP.val rfl rfl rfl (Val.assign rfl rfl) ?_
      refine WP.nx ?_
      refine WPc.sr ?_
      refine WP.val rfl rfl rfl (Val.move rfl rfl) ?_
      refine WP.val rfl rfl rfl (Val.move rfl rfl) ?_
      refine WP.val rfl rfl rfl (Val.nilCheck rfl rfl) ?_
      refine WP.val rfl rfl rfl (Val.fieldAddr (j := 2) rfl Ty.fo174_2 rfl rfl) ?_
      refine WP.val rfl rfl rfl (Val.load rfl Ty.sc171 rfl (fun w h => h.cell 8 rfl rfl)) ?_
      refine WP.val rfl rfl rfl (Val.nilCheck rfl rfl) ?_
      refine WP.val rfl rfl rfl (Val.fieldAddr (j := 1) rfl Ty.fo213_1 rfl rfl) ?_
      refine WP.val rfl rfl rfl (Val.load rfl Ty.sc211 rfl (fun w h => h.cell 3 rfl rfl)) ?_
      refine WP.val rfl rfl rfl (Val.indexAddr (j := 0) (q := 0) rfl Ty.sl211 rfl rfl (by omega) (by omega) (by omega)) ?_
      refine WP.val rfl rfl rfl (Val.load (v := .pointer (some ⟨pk, 0, none⟩)) rfl Ty.sc171 rfl (fun w h => ((h.at 2 rfl).cell _).trans (vflat_at hka))) ?_
      refine WP.val rfl rfl rfl (Val.nilCheck rfl rfl) ?_
      refine WP.val rfl rfl rfl (Val.fieldAddr (j := 2) rfl Ty.fo174_2 rfl rfl) ?_
      refine WP.perm pl8 ?_
      refine WP.eff0 rfl rfl (Eff.store rfl Ty.sc171 rfl rfl rfl (by simp) st2) ?_
      rintro _ _ rfl
      refine WP.nx ?_
      refine WPc.perm pl3 ?_
      refine WPc.conv (fun w h => Sat.ownMk (e := 171) (k := 1) (b := g6) (m := ks1.length) (cap := cg6) (xs := flatOf vcf (kp ks1)) (sp := spg6) (by exact h) hng6 hlg6 hsg6 hcg6) ?_
      refine WPc.c1 (B := Own 171 1 (.slice (some ⟨g6, 0, none⟩) ks1.length cg6) ((kp ks1).length) (flatOf vcf (kp ks1))) (fun w h => by rw [kp_len]; exact h) ?_
      refine WPc.region ?_
      refine WP.val rfl rfl rfl (Val.move rfl rfl) ?_
      refine WP.val rfl rfl rfl (Val.nilCheck rfl rfl) ?_
      refine WP.val rfl rfl rfl (Val.fieldAddr (j := 3) rfl Ty.fo174_3 rfl rfl) ?_
      refine WP.val rfl rfl rfl (Val.load rfl Ty.sc172 rfl (fun w h => h.cell 1 rfl rfl)) ?_
      refine WP.val rfl rfl rfl (Val.move rfl rfl) ?_
      refine WP.perm pl5 ?_
      refine WP.perm pl5 ?_
      refine WP.perm pl8 ?_
      refine WP.perm pl8 ?_
      refine WP.eff rfl rfl rfl (Eff.call rfl rfl Try.call130 (cowfree_spec c f p vi1 (.slice (some ⟨g6, 0, none⟩) ks1.length cg6) D.1.is (kp ks1) (kp_one _) (by omega) (by rw [kp_len]; omega))) ?_
      rintro vf _ ⟨_, ⟨-, rfl⟩, rfl⟩
      show WP _ _ _ _ _ _ _ (_ :: _ :: Blk tb [.int .i64 (((d : Nat) : Int)), .int .i64 (n), .pointer (some ⟨pk, 0, none⟩), .pointer (some ⟨c, 0, none⟩)] 174 :: _)
      refine WP.nx ?_
      refine WPc.seq ?_
      refine WPc.sr ?_
      refine WP.val rfl rfl rfl (Val.move rfl rfl) ?_
      refine WP.nx ?_
      refine WPc.cond rfl (fun h9 => ?_) (fun h9 => ?_)
      ·
       have h9 : (D.2.isSome) = true := h9
       refine WPc.region ?_
       refine WP.val rfl rfl rfl (Val.move rfl rfl) ?_
       refine WP.val rfl rfl rfl (Val.nilCheck rfl rfl) ?_
       refine WP.val rfl rfl rfl (Val.fieldAddr (j := 1) rfl Ty.fo174_1 rfl rfl) ?_
       refine WP.val rfl rfl rfl (Val.load rfl Ty.sc3 rfl (fun w h => h.cell 2 rfl rfl)) ?_
       refine WP.val rfl rfl rfl (Val.sub (z := n - (1 : Int)) rfl rfl rfl (w64 (by omega) (by omega))) ?_
       refine WP.val rfl rfl rfl (Val.nilCheck rfl rfl) ?_
       refine WP.val rfl rfl rfl (Val.fieldAddr (j := 1) rfl Ty.fo174_1 rfl rfl) ?_
       refine WP.perm pl2 ?_
       refine WP.eff0 rfl rfl (Eff.store rfl Ty.sc3 rfl rfl rfl (by simp) st1) ?_
       rintro _ _ rfl
       refine WP.nx ?_
       refine WPc.sr ?_
       refine WP.val rfl rfl rfl (Val.loadAgg (cs := [.int .i64 ((D.2.getD El0).k), .int .i64 ((D.2.getD El0).v)]) rfl Ty.ag55 rfl rfl (fun w h => h.range 5 rfl rfl)) ?_
       refine WP.val rfl rfl rfl (Val.move rfl rfl) ?_
       refine WP.perm pl6 ?_
       refine WP.eff0 rfl rfl (Eff.storeAgg (cs := [.int .i64 ((D.2.getD El0).k), .int .i64 ((D.2.getD El0).v)]) (C' := [.int .i64 ((D.2.getD El0).k), .int .i64 ((D.2.getD El0).v)]) rfl Ty.ag55 rfl rfl rfl rfl (by simp) rfl) ?_
       rintro _ _ rfl
       refine WP.val rfl rfl rfl (Val.assign rfl rfl) ?_
       refine WP.nx ?_
       refine WPc.ret ?_
       have hsh : shrink (h' + 1) D.1 = (h', tk) := by unfold shrink; rw [if_pos ⟨by omega, by omega⟩, kid_at htk]; rfl
       iterate 3 (refine Out.perm pl5 ?_; refine Out.drop ?_)
       refine Out.perm pl3 ?_
       refine Out.perm pl3 ?_
       iterate 3 (refine Out.perm pl4 ?_)
       exact Out.retRun (L' := _) (results_ct Try.results104 rfl Ty.ag55 rfl rfl (fun w h => h.range 0 rfl rfl)) ⟨pk, by rw [← hD]; rfl, by rw [← hD, hsh]⟩ (fun w h => h.drop)
      ·
       have h9 : (D.2.isSome) = false := h9
       rw [hDs] at h9; cases h9
     ·
      have h8 : ¬ ((0 : Int) < ((ks1.length : Nat) : Int)) := h8
      refine WPc.skip ?_
      refine Out.next ?_
      refine WPc.seq ?_
      refine WPc.sr ?_
      refine WP.val rfl rfl rfl (Val.move rfl rfl) ?_
      refine WP.nx ?_
      refine WPc.cond rfl (fun h10 => ?_) (fun h10 => ?_)
      ·
       have h10 : (D.2.isSome) = true := h10
       refine WPc.region ?_
       refine WP.val rfl rfl rfl (Val.move rfl rfl) ?_
       refine WP.val rfl rfl rfl (Val.nilCheck rfl rfl) ?_
       refine WP.val rfl rfl rfl (Val.fieldAddr (j := 1) rfl Ty.fo174_1 rfl rfl) ?_
       refine WP.val rfl rfl rfl (Val.load rfl Ty.sc3 rfl (fun w h => h.cell 7 rfl rfl)) ?_
       refine WP.val rfl rfl rfl (Val.sub (z := n - (1 : Int)) rfl rfl rfl (w64 (by omega) (by omega))) ?_
       refine WP.val rfl rfl rfl (Val.nilCheck rfl rfl) ?_
       refine WP.val rfl rfl rfl (Val.fieldAddr (j := 1) rfl Ty.fo174_1 rfl rfl) ?_
       refine WP.perm pl7 ?_
       refine WP.eff0 rfl rfl (Eff.store rfl Ty.sc3 rfl rfl rfl (by simp) st1) ?_
       rintro _ _ rfl
       refine WP.nx ?_
       refine WPc.sr ?_
       refine WP.val rfl rfl rfl (Val.loadAgg (cs := [.int .i64 ((D.2.getD El0).k), .int .i64 ((D.2.getD El0).v)]) rfl Ty.ag55 rfl rfl (fun w h => h.range 5 rfl rfl)) ?_
       refine WP.val rfl rfl rfl (Val.move rfl rfl) ?_
       refine WP.perm pl8 ?_
       refine WP.eff0 rfl rfl (Eff.storeAgg (cs := [.int .i64 ((D.2.getD El0).k), .int .i64 ((D.2.getD El0).v)]) (C' := [.int .i64 ((D.2.getD El0).k), .int .i64 ((D.2.getD El0).v)]) rfl Ty.ag55 rfl rfl rfl rfl (by simp) rfl) ?_
       rintro _ _ rfl
       refine WP.val rfl rfl rfl (Val.assign rfl rfl) ?_
       refine WP.nx ?_
       refine WPc.ret ?_
       have hsh : shrink ht D.1 = (ht, D.1) := by unfold shrink; rw [if_neg (by rintro ⟨q1, q2⟩; omega)]
       iterate 4 (refine Out.perm pl5 ?_)
       refine Out.conv (fun w h => Sat.ndMk (c := c) (h := ht) (t := D.1) (ks := ks1) hk1 hl1 h) ?_
       show Out _ _ _ _ _ (Nd c ht (p, D.1) :: Blk b2 [.int .i64 ((D.2.getD El0).k), .int .i64 ((D.2.getD El0).v)] 55 :: Blk tb [.int .i64 (((d : Nat) : Int)), .int .i64 (n - (1 : Int)), .pointer (some ⟨p, 0, none⟩), .pointer (some ⟨c, 0, none⟩)] 174 :: _)
       refine Out.perm pl3 ?_
       refine Out.drop ?_
       refine Out.perm pl5 ?_
       refine Out.drop ?_
       refine Out.perm pl4 ?_
       refine Out.perm pl4 ?_
       refine Out.perm pl2 ?_
       refine Out.perm pl4 ?_
       refine Out.perm pl4 ?_
       exact Out.retRun (L' := _) (results_ct Try.results104 rfl Ty.ag55 rfl rfl (fun w h => h.range 0 rfl rfl)) ⟨p, by rw [← hD]; rfl, by rw [← hD, hsh]⟩ (fun w h => h.drop)
      ·
       have h10 : (D.2.isSome) = false := h10
       rw [hDs] at h10; cases h10
    ·
     have h7 : ¬ (((D.1.is.length : Nat) : Int) = (0 : Int)) := h7
     iterate 9 (refine WP.skip rfl rfl rfl rfl rfl rfl rfl ?_)
     refine WP.val rfl rfl rfl (Val.pickF rfl rfl rfl) ?_
     refine WP.nx ?_
     refine WPc.condF rfl rfl ?_
     refine WPc.skip ?_
     refine Out.next ?_
     refine WPc.seq ?_
     refine WPc.sr ?_
     refine WP.val rfl rfl rfl (Val.move rfl rfl) ?_
     refine WP.nx ?_
     refine WPc.cond rfl (fun h11 => ?_) (fun h11 => ?_)
     ·
      have h11 : (D.2.isSome) = true := h11
      refine WPc.region ?_
      refine WP.val rfl rfl rfl (Val.move rfl rfl) ?_
      refine WP.val rfl rfl rfl (Val.nilCheck rfl rfl) ?_
      refine WP.val rfl rfl rfl (Val.fieldAddr (j := 1) rfl Ty.fo174_1 rfl rfl) ?_
      refine WP.val rfl rfl rfl (Val.load rfl Ty.sc3 rfl (fun w h => h.cell 7 rfl rfl)) ?_
      refine WP.val rfl rfl rfl (Val.sub (z := n - (1 : Int)) rfl rfl rfl (w64 (by omega) (by omega))) ?_
      refine WP.val rfl rfl rfl (Val.nilCheck rfl rfl) ?_
      refine WP.val rfl rfl rfl (Val.fieldAddr (j := 1) rfl Ty.fo174_1 rfl rfl) ?_
      refine WP.perm pl7 ?_
      refine WP.eff0 rfl rfl (Eff.store rfl Ty.sc3 rfl rfl rfl (by simp) st1) ?_
      rintro _ _ rfl
      refine WP.nx ?_
      refine WPc.sr ?_
      refine WP.val rfl rfl rfl (Val.loadAgg (cs := [.int .i64 ((D.2.getD El0).k), .int .i64 ((D.2.getD El0).v)]) rfl Ty.ag55 rfl rfl (fun w h => h.range 5 rfl rfl)) ?_
      refine WP.val rfl rfl rfl (Val.move rfl rfl) ?_
      refine WP.perm pl8 ?_
      refine WP.eff0 rfl rfl (Eff.storeAgg (cs := [.int .i64 ((D.2.getD El0).k), .int .i64 ((D.2.getD El0).v)]) (C' := [.int .i64 ((D.2.getD El0).k), .int .i64 ((D.2.getD El0).v)]) rfl Ty.ag55 rfl rfl rfl rfl (by simp) rfl) ?_
      rintro _ _ rfl
      refine WP.val rfl rfl rfl (Val.assign rfl rfl) ?_
      refine WP.nx ?_
      refine WPc.ret ?_
      have hsh : shrink ht D.1 = (ht, D.1) := by unfold shrink; rw [if_neg (by rintro ⟨q1, q2⟩; omega)]
      iterate 4 (refine Out.perm pl5 ?_)
      refine Out.conv (fun w h => Sat.ndMk (c := c) (h := ht) (t := D.1) (ks := ks1) hk1 hl1 h) ?_
      show Out _ _ _ _ _ (Nd c ht (p, D.1) :: Blk b2 [.int .i64 ((D.2.getD El0).k), .int .i64 ((D.2.getD El0).v)] 55 :: Blk tb [.int .i64 (((d : Nat) : Int)), .int .i64 (n - (1 : Int)), .pointer (some ⟨p, 0, none⟩), .pointer (some ⟨c, 0, none⟩)] 174 :: _)
      refine Out.perm pl3 ?_
      refine Out.drop ?_
      refine Out.perm pl5 ?_
      refine Out.drop ?_
      refine Out.perm pl4 ?_
      refine Out.perm pl4 ?_
      refine Out.perm pl2 ?_
      refine Out.perm pl4 ?_
      refine Out.perm pl4 ?_
      exact Out.retRun (L' := _) (results_ct Try.results104 rfl Ty.ag55 rfl rfl (fun w h => h.range 0 rfl rfl)) ⟨p, by rw [← hD]; rfl, by rw [← hD, hsh]⟩ (fun w h => h.drop)
     ·
      have h11 : (D.2.isSome) = false := h11
      rw [hDs] at h11; cases h11
  ·
   refine WPO.step rfl rfl rfl rfl (Eff.alloc rfl Ty.z55) ?_
   rintro _ _ ⟨b7, rfl, rfl⟩
   refine ⟨(fun w h => (((h.perm pl4).perm pl3)).dropEnd (L := [_, _])), ?_⟩
   refine WPD.perm pl2 ?_
   refine WPD.step 6 (by kernel_rfl) rfl rfl rfl rfl (Eff.call rfl rfl Try.call129 (mini_spec c d tb n (.pointer (some ⟨p, 0, none⟩)) (by omega) (by omega))) ?_
   rintro _ _ ⟨_, ⟨rfl, rfl⟩, rfl⟩
   refine ⟨(fun w h => (((h.perm pl4).perm pl1)).dropEnd (L := [_, _])), ?_⟩
   show WPD _ _ _ _ _ _ _ _ _ (_ :: Blk b7 [.int .i64 0, .int .i64 0] 55 :: _)
   refine WPD.perm pl6 ?_
   refine WPD.perm pl6 ?_
   refine WPD.perm pl4 ?_
   refine WPD.step 8 (by kernel_rfl) rfl rfl rfl rfl (Eff.call rfl rfl Try.call128 (hrem)) ?_
   rintro _ _ ⟨_, ⟨rfl, rfl⟩, rfl⟩
   refine ⟨(fun w h => (((h.perm pl6).perm pl4)).dropEnd (L := [_, _])), ?_⟩
   show WPD _ _ _ _ _ _ _ _ _ (Nd c ht (p, D.1) :: _)
   refine WPD.tS 9 rfl rfl rfl rfl (fun w h => (((h.perm pl6).perm pl4)).dropEnd (L := [_, _])) (Val.move rfl rfl) ?_
   refine WPD.tS 10 rfl rfl rfl rfl (fun w h => (((h.perm pl6).perm pl4)).dropEnd (L := [_, _])) (Val.extract rfl rfl rfl) ?_
   refine WPD.tS 11 rfl rfl rfl rfl (fun w h => (((h.perm pl6).perm pl4)).dropEnd (L := [_, _])) (Val.extract rfl rfl rfl) ?_
   refine WPD.perm pl4 ?_
   refine WPD.stepC0 13 (by kernel_rfl) rfl rfl rfl (by kernel_rfl) (Eff.storeAgg (cs := [.int .i64 ((D.2.getD El0).k), .int .i64 ((D.2.getD El0).v)]) (C' := [.int .i64 ((D.2.getD El0).k), .int .i64 ((D.2.getD El0).v)]) rfl Ty.ag55 rfl rfl rfl rfl (by simp) rfl) ?_
   rintro _ _ rfl
   refine ⟨_, (fun _ h => h), ?_⟩
   refine WPD.tM 14 rfl rfl rfl rfl (Val.assign rfl rfl) ?_
   refine WPD.done (by kernel_rfl) ?_
   refine Out.next ?_
   refine WPc.seq ?_
   refine WPc.seq ?_
   refine WPc.perm pl1 ?_
   refine WPc.open (fun w h => h.ndOpen) ?_
   rintro ⟨vi1, vc1, ks1⟩
   refine WPc.pure (fun hk1 => ?_)
   obtain ⟨hk1, hl1⟩ := hk1
   dsimp only at hk1 hl1
   have hkl1 := ks_len hk1
   show WPc _ _ _ _ _ _ (Blk p [vi1, vc1, .pointer (some ⟨c, 0, none⟩)] 213 :: Own 55 2 vi1 D.1.is.length (flatOf El.cells D.1.is) :: Own 171 1 vc1 ks1.length (flatOf vcf (kp ks1)) :: Kds (Rk c ht) ks1 :: Blk b7 [.int .i64 ((D.2.getD El0).k), .int .i64 ((D.2.getD El0).v)] 55 :: _)
   have hle1 := hDb.1.le
   refine WPc.region ?_
   refine WP.val rfl rfl rfl (Val.move rfl rfl) ?_
   refine WP.val rfl rfl rfl (Val.nilCheck rfl rfl) ?_
   refine WP.val rfl rfl rfl (Val.fieldAddr (j := 2) rfl Ty.fo174_2 rfl rfl) ?_
   refine WP.val rfl rfl rfl (Val.load rfl Ty.sc171 rfl (fun w h => h.cell 7 rfl rfl)) ?_
   refine WP.val rfl rfl rfl (Val.nilCheck rfl rfl) ?_
   refine WP.val rfl rfl rfl (Val.fieldAddr (j := 0) rfl Ty.fo213_0 rfl rfl) ?_
   refine WP.val rfl rfl rfl (Val.load rfl Ty.sc210 rfl (fun w h => h.cell 0 rfl rfl)) ?_
   refine WP.val rfl rfl rfl (Val.lenOwn rfl Ty.sl210 rfl (fun w h => h.at 1 rfl)) ?_
   refine WP.val rfl rfl rfl (Val.eql rfl rfl rfl) ?_
   refine WP.val rfl rfl rfl (Val.move rfl rfl) ?_
   refine WP.split 60 rfl (fun h12 => ?_) (fun h12 => ?_)
   ·
    have h12 : (((D.1.is.length : Nat) : Int) = (0 : Int)) := h12
    refine WP.valG rfl rfl rfl rfl rfl rfl rfl (Val.move rfl rfl) ?_
    refine WP.valG rfl rfl rfl rfl rfl rfl rfl (Val.nilCheck rfl rfl) ?_
    refine WP.valG rfl rfl rfl rfl rfl rfl rfl (Val.fieldAddr (j := 2) rfl Ty.fo174_2 rfl rfl) ?_
    refine WP.valG rfl rfl rfl rfl rfl rfl rfl (Val.load rfl Ty.sc171 rfl (fun w h => h.cell 7 rfl rfl)) ?_
    refine WP.valG rfl rfl rfl rfl rfl rfl rfl (Val.nilCheck rfl rfl) ?_
    refine WP.valG rfl rfl rfl rfl rfl rfl rfl (Val.fieldAddr (j := 1) rfl Ty.fo213_1 rfl rfl) ?_
    refine WP.valG rfl rfl rfl rfl rfl rfl rfl (Val.load rfl Ty.sc211 rfl (fun w h => h.cell 0 rfl rfl)) ?_
    refine WP.valG rfl rfl rfl rfl rfl rfl rfl (Val.lenOwn rfl Ty.sl211 rfl (fun w h => h.at 2 rfl)) ?_
    refine WP.valG rfl rfl rfl rfl rfl rfl rfl (Val.gtr rfl rfl rfl) ?_
    refine WP.val rfl rfl rfl (Val.pickT rfl rfl rfl) ?_
    refine WP.nx ?_
    refine WPc.ifP rfl (fun h13 => ?_) (fun h13 => ?_)
    ·
     have h13 : ((0 : Int) < ((ks1.length : Nat) : Int)) := h13
     refine WPc.seq ?_
     obtain ⟨tk, htk⟩ : ∃ k, D.1.ks[0]? = some k := ⟨_, List.getElem?_eq_getElem (by omega)⟩
     obtain ⟨pk, hx⟩ := ks_get hk1 htk
     have hka := kp_at hx
     obtain ⟨h', rfl⟩ : ∃ h', ht = h' + 1 := ⟨ht - 1, by cases ht with | zero => exfalso; have h0 : ks1 = [] := hl1 rfl; have h00 : ks1.length = 0 := (by rw [h0]; rfl); omega | succ h => rfl⟩
     refine WPc.perm pl2 ?_
     refine WPc.open (fun w h => h.ownPos (by omega)) ?_
     rintro ⟨g8, cg8, spg8⟩
     refine WPc.pure (fun hvg8 => ?_)
     obtain ⟨rfl, hng8, hlg8, hsg8, hcg8⟩ := hvg8
     dsimp only at hng8 hlg8 hsg8 hcg8
     show WPc _ _ _ _ _ _ (Blk g8 (flatOf vcf (kp ks1) ++ spg8) 171 :: Blk p [vi1, .slice (some ⟨g8, 0, none⟩) ks1.length cg8, .pointer (some ⟨c, 0, none⟩)] 213 :: _ :: Kds (Rk c (h' + 1)) ks1 :: _)
     refine WPc.perm pl3 ?_
     refine WPc.conv (fun w h => Sat.kOut (R := Rk c (h' + 1)) hx h) ?_
     show WPc _ _ _ _ _ _ (Nd c h' (pk, tk) :: Kds (Rk c (h' + 1)) (ks1.take 0 ++ ks1.drop (0 + 1)) :: _)
     refine WPc.region ?_
     refine WP.val rfl rfl rfl (Val.move rfl rfl) ?_
     refine WP.val rfl rfl rfl (Val.nilCheck rfl rfl) ?_
     refine WP.val rfl rfl rfl (Val.fieldAddr (j := 2) rfl Ty.fo174_2 rfl rfl) ?_
     refine WP.val rfl rfl rfl (Val.load rfl Ty.sc171 rfl (fun w h => h.cell 8 rfl rfl)) ?_
     refine WP.val rfl rfl rfl (Val.assign rfl rfl) ?_
     refine WP.nx ?_
     refine WPc.sr ?_
     refine WP.val rfl rfl rfl (Val.move rfl rfl) ?_
     refine WP.val rfl rfl rfl (Val.move rfl rfl) ?_
     refine WP.val rfl rfl rfl (Val.nilCheck rfl rfl) ?_
     refine WP.val rfl rfl rfl (Val.fieldAddr (j := 2) rfl Ty.fo174_2 rfl rfl) ?_
     refine WP.val rfl rfl rfl (Val.load rfl Ty.sc171 rfl (fun w h => h.cell 8 rfl rfl)) ?_
     refine WP.val rfl rfl rfl (Val.nilCheck rfl rfl) ?_
     refine WP.val rfl rfl rfl (Val.fieldAddr (j := 1) rfl Ty.fo213_1 rfl rfl) ?_
     refine WP.val rfl rfl rfl (Val.load rfl Ty.sc211 rfl (fun w h => h.cell 3 rfl rfl)) ?_
     refine WP.val rfl rfl rfl (Val.indexAddr (j := 0) (q := 0) rfl Ty.sl211 rfl rfl (by omega) (by omega) (by omega)) ?_
     refine WP.val rfl rfl rfl (Val.load (v := .pointer (some ⟨pk, 0, none⟩)) rfl Ty.sc171 rfl (fun w h => ((h.at 2 rfl).cell _).trans (vflat_at hka))) ?_
     refine WP.val rfl rfl rfl (Val.nilCheck rfl rfl) ?_
     refine WP.val rfl rfl rfl (Val.fieldAddr (j := 2) rfl Ty.fo174_2 rfl rfl) ?_
     refine WP.perm pl8 ?_
     refine WP.eff0 rfl rfl (Eff.store rfl Ty.sc171 rfl rfl rfl (by simp) st2) ?_
     rintro _ _ rfl
     refine WP.nx ?_
     refine WPc.perm pl3 ?_
     refine WPc.conv (fun w h => Sat.ownMk (e := 171) (k := 1) (b := g8) (m := ks1.length) (cap := cg8) (xs := flatOf vcf (kp ks1)) (sp := spg8) (by exact h) hng8 hlg8 hsg8 hcg8) ?_
     refine WPc.c1 (B := Own 171 1 (.slice (some ⟨g8, 0, none⟩) ks1.length cg8) ((kp ks1).length) (flatOf vcf (kp ks1))) (fun w h => by rw [kp_len]; exact h) ?_
     refine WPc.region ?_
     refine WP.val rfl rfl rfl (Val.move rfl rfl) ?_
     refine WP.val rfl rfl rfl (Val.nilCheck rfl rfl) ?_
     refine WP.val rfl rfl rfl (Val.fieldAddr (j := 3) rfl Ty.fo174_3 rfl rfl) ?_
     refine WP.val rfl rfl rfl (Val.load rfl Ty.sc172 rfl (fun w h => h.cell 1 rfl rfl)) ?_
     refine WP.val rfl rfl rfl (Val.move rfl rfl) ?_
     refine WP.perm pl5 ?_
     refine WP.perm pl5 ?_
     refine WP.perm pl8 ?_
     refine WP.perm pl8 ?_
     refine WP.eff rfl rfl rfl (Eff.call rfl rfl Try.call130 (cowfree_spec c f p vi1 (.slice (some ⟨g8, 0, none⟩) ks1.length cg8) D.1.is (kp ks1) (kp_one _) (by omega) (by rw [kp_len]; omega))) ?_
     rintro vf _ ⟨_, ⟨-, rfl⟩, rfl⟩
     show WP _ _ _ _ _ _ _ (_ :: _ :: Blk tb [.int .i64 (((d : Nat) : Int)), .int .i64 (n), .pointer (some ⟨pk, 0, none⟩), .pointer (some ⟨c, 0, none⟩)] 174 :: _)
     refine WP.nx ?_
     refine WPc.seq ?_
     refine WPc.sr ?_
     refine WP.val rfl rfl rfl (Val.move rfl rfl) ?_
     refine WP.nx ?_
     refine WPc.cond rfl (fun h14 => ?_) (fun h14 => ?_)
     ·
      have h14 : (D.2.isSome) = true := h14
      refine WPc.region ?_
      refine WP.val rfl rfl rfl (Val.move rfl rfl) ?_
      refine WP.val rfl rfl rfl (Val.nilCheck rfl rfl) ?_
      refine WP.val rfl rfl rfl (Val.fieldAddr (j := 1) rfl Ty.fo174_1 rfl rfl) ?_
      refine WP.val rfl rfl rfl (Val.load rfl Ty.sc3 rfl (fun w h => h.cell 2 rfl rfl)) ?_
      refine WP.val rfl rfl rfl (Val.sub (z := n - (1 : Int)) rfl rfl rfl (w64 (by omega) (by omega))) ?_
      refine WP.val rfl rfl rfl (Val.nilCheck rfl rfl) ?_
      refine WP.val rfl rfl rfl (Val.fieldAddr (j := 1) rfl Ty.fo174_1 rfl rfl) ?_
      refine WP.perm pl2 ?_
      refine WP.eff0 rfl rfl (Eff.store rfl Ty.sc3 rfl rfl rfl (by simp) st1) ?_
      rintro _ _ rfl
      refine WP.nx ?_
      refine WPc.sr ?_
      refine WP.val rfl rfl rfl (Val.loadAgg (cs := [.int .i64 ((D.2.getD El0).k), .int .i64 ((D.2.getD El0).v)]) rfl Ty.ag55 rfl rfl (fun w h => h.range 5 rfl rfl)) ?_
      refine WP.val rfl rfl rfl (Val.move rfl rfl) ?_
      refine WP.perm pl6 ?_
      refine WP.eff0 rfl rfl (Eff.storeAgg (cs := [.int .i64 ((D.2.getD El0).k), .int .i64 ((D.2.getD El0).v)]) (C' := [.int .i64 ((D.2.getD El0).k), .int .i64 ((D.2.getD El0).v)]) rfl Ty.ag55 rfl rfl rfl rfl (by simp) rfl) ?_
      rintro _ _ rfl
      refine WP.val rfl rfl rfl (Val.assign rfl rfl) ?_
      refine WP.nx ?_
      refine WPc.ret ?_
      have hsh : shrink (h' + 1) D.1 = (h', tk) := by unfold shrink; rw [if_pos ⟨by omega, by omega⟩, kid_at htk]; rfl
      iterate 3 (refine Out.perm pl5 ?_; refine Out.drop ?_)
      refine Out.perm pl3 ?_
      refine Out.perm pl3 ?_
      iterate 3 (refine Out.perm pl4 ?_)
      exact Out.retRun (L' := _) (results_ct Try.results104 rfl Ty.ag55 rfl rfl (fun w h => h.range 0 rfl rfl)) ⟨pk, by rw [← hD]; rfl, by rw [← hD, hsh]⟩ (fun w h => h.drop)
     ·
      have h14 : (D.2.isSome) = false := h14
      rw [hDs] at h14; cases h14
    ·
     have h13 : ¬ ((0 : Int) < ((ks1.length : Nat) : Int)) := h13
     refine WPc.skip ?_
     refine Out.next ?_
     refine WPc.seq ?_
     refine WPc.sr ?_
     refine WP.val rfl rfl rfl (Val.move rfl rfl) ?_
     refine WP.nx ?_
     refine WPc.cond rfl (fun h15 => ?_) (fun h15 => ?_)
     ·
      have h15 : (D.2.isSome) = true := h15
      refine WPc.region ?_
      refine WP.val rfl rfl rfl (Val.move rfl rfl) ?_
      refine WP.val rfl rfl rfl (Val.nilCheck rfl rfl) ?_
      refine WP.val rfl rfl rfl (Val.fieldAddr (j := 1) rfl Ty.fo174_1 rfl rfl) ?_
      refine WP.val rfl rfl rfl (Val.load rfl Ty.sc3 rfl (fun w h => h.cell 7 rfl rfl)) ?_
      refine WP.val rfl rfl rfl (Val.sub (z := n - (1 : Int)) rfl rfl rfl (w64 (by omega) (by omega))) ?_
      refine WP.val rfl rfl rfl (Val.nilCheck rfl rfl) ?_
      refine WP.val rfl rfl rfl (Val.fieldAddr (j := 1) rfl Ty.fo174_1 rfl rfl) ?_
      refine WP.perm pl7 ?_
      refine WP.eff0 rfl rfl (Eff.store rfl Ty.sc3 rfl rfl rfl (by simp) st1) ?_
      rintro _ _ rfl
      refine WP.nx ?_
      refine WPc.sr ?_
      refine WP.val rfl rfl rfl (Val.loadAgg (cs := [.int .i64 ((D.2.getD El0).k), .int .i64 ((D.2.getD El0).v)]) rfl Ty.ag55 rfl rfl (fun w h => h.range 5 rfl rfl)) ?_
      refine WP.val rfl rfl rfl (Val.move rfl rfl) ?_
      refine WP.perm pl8 ?_
      refine WP.eff0 rfl rfl (Eff.storeAgg (cs := [.int .i64 ((D.2.getD El0).k), .int .i64 ((D.2.getD El0).v)]) (C' := [.int .i64 ((D.2.getD El0).k), .int .i64 ((D.2.getD El0).v)]) rfl Ty.ag55 rfl rfl rfl rfl (by simp) rfl) ?_
      rintro _ _ rfl
      refine WP.val rfl rfl rfl (Val.assign rfl rfl) ?_
      refine WP.nx ?_
      refine WPc.ret ?_
      have hsh : shrink ht D.1 = (ht, D.1) := by unfold shrink; rw [if_neg (by rintro ⟨q1, q2⟩; omega)]
      iterate 4 (refine Out.perm pl5 ?_)
      refine Out.conv (fun w h => Sat.ndMk (c := c) (h := ht) (t := D.1) (ks := ks1) hk1 hl1 h) ?_
      show Out _ _ _ _ _ (Nd c ht (p, D.1) :: Blk b2 [.int .i64 ((D.2.getD El0).k), .int .i64 ((D.2.getD El0).v)] 55 :: Blk tb [.int .i64 (((d : Nat) : Int)), .int .i64 (n - (1 : Int)), .pointer (some ⟨p, 0, none⟩), .pointer (some ⟨c, 0, none⟩)] 174 :: _)
      refine Out.perm pl3 ?_
      refine Out.drop ?_
      refine Out.perm pl5 ?_
      refine Out.drop ?_
      refine Out.perm pl4 ?_
      refine Out.perm pl4 ?_
      refine Out.perm pl2 ?_
      refine Out.perm pl4 ?_
      refine Out.perm pl4 ?_
      exact Out.retRun (L' := _) (results_ct Try.results104 rfl Ty.ag55 rfl rfl (fun w h => h.range 0 rfl rfl)) ⟨p, by rw [← hD]; rfl, by rw [← hD, hsh]⟩ (fun w h => h.drop)
     ·
      have h15 : (D.2.isSome) = false := h15
      rw [hDs] at h15; cases h15
   ·
    have h12 : ¬ (((D.1.is.length : Nat) : Int) = (0 : Int)) := h12
    iterate 9 (refine WP.skip rfl rfl rfl rfl rfl rfl rfl ?_)
    refine WP.val rfl rfl rfl (Val.pickF rfl rfl rfl) ?_
    refine WP.nx ?_
    refine WPc.condF rfl rfl ?_
    refine WPc.skip ?_
    refine Out.next ?_
    refine WPc.seq ?_
    refine WPc.sr ?_
    refine WP.val rfl rfl rfl (Val.move rfl rfl) ?_
    refine WP.nx ?_
    refine WPc.cond rfl (fun h16 => ?_) (fun h16 => ?_)
    ·
     have h16 : (D.2.isSome) = true := h16
     refine WPc.region ?_
     refine WP.val rfl rfl rfl (Val.move rfl rfl) ?_
     refine WP.val rfl rfl rfl (Val.nilCheck rfl rfl) ?_
     refine WP.val rfl rfl rfl (Val.fieldAddr (j := 1) rfl Ty.fo174_1 rfl rfl) ?_
     refine WP.val rfl rfl rfl (Val.load rfl Ty.sc3 rfl (fun w h => h.cell 7 rfl rfl)) ?_
     refine WP.val rfl rfl rfl (Val.sub (z := n - (1 : Int)) rfl rfl rfl (w64 (by omega) (by omega))) ?_
     refine WP.val rfl rfl rfl (Val.nilCheck rfl rfl) ?_
     refine WP.val rfl rfl rfl (Val.fieldAddr (j := 1) rfl Ty.fo174_1 rfl rfl) ?_
     refine WP.perm pl7 ?_
     refine WP.eff0 rfl rfl (Eff.store rfl Ty.sc3 rfl rfl rfl (by simp) st1) ?_
     rintro _ _ rfl
     refine WP.nx ?_
     refine WPc.sr ?_
     refine WP.val rfl rfl rfl (Val.loadAgg (cs := [.int .i64 ((D.2.getD El0).k), .int .i64 ((D.2.getD El0).v)]) rfl Ty.ag55 rfl rfl (fun w h => h.range 5 rfl rfl)) ?_
     refine WP.val rfl rfl rfl (Val.move rfl rfl) ?_
     refine WP.perm pl8 ?_
     refine WP.eff0 rfl rfl (Eff.storeAgg (cs := [.int .i64 ((D.2.getD El0).k), .int .i64 ((D.2.getD El0).v)]) (C' := [.int .i64 ((D.2.getD El0).k), .int .i64 ((D.2.getD El0).v)]) rfl Ty.ag55 rfl rfl rfl rfl (by simp) rfl) ?_
     rintro _ _ rfl
     refine WP.val rfl rfl rfl (Val.assign rfl rfl) ?_
     refine WP.nx ?_
     refine WPc.ret ?_
     have hsh : shrink ht D.1 = (ht, D.1) := by unfold shrink; rw [if_neg (by rintro ⟨q1, q2⟩; omega)]
     iterate 4 (refine Out.perm pl5 ?_)
     refine Out.conv (fun w h => Sat.ndMk (c := c) (h := ht) (t := D.1) (ks := ks1) hk1 hl1 h) ?_
     show Out _ _ _ _ _ (Nd c ht (p, D.1) :: Blk b2 [.int .i64 ((D.2.getD El0).k), .int .i64 ((D.2.getD El0).v)] 55 :: Blk tb [.int .i64 (((d : Nat) : Int)), .int .i64 (n - (1 : Int)), .pointer (some ⟨p, 0, none⟩), .pointer (some ⟨c, 0, none⟩)] 174 :: _)
     refine Out.perm pl3 ?_
     refine Out.drop ?_
     refine Out.perm pl5 ?_
     refine Out.drop ?_
     refine Out.perm pl4 ?_
     refine Out.perm pl4 ?_
     refine Out.perm pl2 ?_
     refine Out.perm pl4 ?_
     refine Out.perm pl4 ?_
     exact Out.retRun (L' := _) (results_ct Try.results104 rfl Ty.ag55 rfl rfl (fun w h => h.range 0 rfl rfl)) ⟨p, by rw [← hD]; rfl, by rw [← hD, hsh]⟩ (fun w h => h.drop)
    ·
     have h16 : (D.2.isSome) = false := h16
     rw [hDs] at h16; cases h16
set_option maxRecDepth 100000 in
set_option maxHeartbeats 2000000 in
theorem del2_some (c f d tb m M : Nat) (n : Int) (hn0 : 0 ≤ n) (hn1 : n < 1000000) (hd1 : 2 ≤ d) (hd2 : d ≤ 100) (hM : M = 2 * m + 1) (hM2 : M ≤ 1000) (hm1 : 1 ≤ m) (hmd : m = d - 1) (x : El) (ht p : Nat) (t : Tr) (hbal : Bal m M ht t) (hi1 : 1 ≤ t.is.length) : Does Try.prog 104 [.pointer (some ⟨tb, 0, none⟩), .agg #[.int .i64 (x.k), .int .i64 (x.v)], .int .i64 2] [Blk tb [.int .i64 (((d : Nat) : Int)), .int .i64 (n), .pointer (some ⟨p, 0, none⟩), .pointer (some ⟨c, 0, none⟩)] 174, Nd c ht (p, t), Blk c [.pointer (some ⟨f, 0, none⟩), .func (.func 53) #[] #[]] 170, FL f] (fun v L => ∃ q, v = opv (dmax m ht t).2 ∧ L = [Blk tb [.int .i64 ((d : Nat) : Int), .int .i64 (n - 1), .pointer (some ⟨q, 0, none⟩), .pointer (some ⟨c, 0, none⟩)] 174, Nd c (shrink ht (dmax m ht t).1).1 (q, (shrink ht (dmax m ht t).1).2), Blk c [.pointer (some ⟨f, 0, none⟩), .func (.func 53) #[] #[]] 170, FL f]) := by
 refine Does.enter 103 Try.func104 rfl rfl rfl fun W F => ?_
 show WPc _ _ _ _ _ [(0, .pointer (some ⟨tb, 0, none⟩)), (1, .agg #[.int .i64 (x.k), .int .i64 (x.v)]), (2, .int .i64 2)] (Blk tb [.int .i64 (((d : Nat) : Int)), .int .i64 (n), .pointer (some ⟨p, 0, none⟩), .pointer (some ⟨c, 0, none⟩)] 174 :: Nd c ht (p, t) :: Blk c [.pointer (some ⟨f, 0, none⟩), .func (.func 53) #[] #[]] 170 :: FL f :: F)
 refine WPc.sr ?_
 refine WP.eff rfl rfl rfl (Eff.box (C := [.int .i64 (x.k), .int .i64 (x.v)]) rfl rfl rfl) ?_
 rintro _ _ ⟨b1, rfl, rfl⟩
 refine WP.eff rfl rfl rfl (Eff.alloc rfl Ty.z55) ?_
 rintro _ _ ⟨b2, rfl, rfl⟩
 refine WP.val rfl rfl rfl (Val.assign rfl rfl) ?_
 refine WP.nx ?_
 refine WPc.seq ?_
 refine WPc.seq ?_
 refine WPc.perm pl3 ?_
 refine WPc.open (fun w h => h.ndOpen) ?_
 rintro ⟨vi, vc, ks⟩
 refine WPc.pure (fun hk => ?_)
 obtain ⟨hk, hl⟩ := hk
 dsimp only at hk hl
 have hkl := ks_len hk
 show WPc _ _ _ _ _ _ (Blk p [vi, vc, .pointer (some ⟨c, 0, none⟩)] 213 :: Own 55 2 vi t.is.length (flatOf El.cells t.is) :: Own 171 1 vc ks.length (flatOf vcf (kp ks)) :: Kds (Rk c ht) ks :: Blk b2 [.int .i64 0, .int .i64 0] 55 :: Blk b1 [.int .i64 (x.k), .int .i64 (x.v)] 55 :: _)
 obtain ⟨D, hD⟩ : ∃ D, D = dmax m ht t := ⟨_, rfl⟩
 have hDb := dmax_bal hM hm1 hbal hi1
 have hDs := dmax_some (m := m) ht t
 have hrem := rem2_spec c f m M hM hM2 hm1 x ht p t hbal hi1
 rw [← hD] at hDb hDs hrem
 rw [show m = d - 1 from hmd] at hrem
 refine WPc.region ?_
 refine WP.val rfl rfl rfl (Val.move rfl rfl) ?_
 refine WP.val rfl rfl rfl (Val.nilCheck rfl rfl) ?_
 refine WP.val rfl rfl rfl (Val.fieldAddr (j := 2) rfl Ty.fo174_2 rfl rfl) ?_
 refine WP.val rfl rfl rfl (Val.load rfl Ty.sc171 rfl (fun w h => h.cell 6 rfl rfl)) ?_
 refine WP.val rfl rfl rfl (Val.nilP rfl Ty.ip171 rfl rfl) ?_
 refine WP.val rfl rfl rfl (Val.move rfl rfl) ?_
 refine WP.valG rfl rfl rfl rfl rfl rfl rfl (Val.move rfl rfl) ?_
 refine WP.valG rfl rfl rfl rfl rfl rfl rfl (Val.nilCheck rfl rfl) ?_
 refine WP.valG rfl rfl rfl rfl rfl rfl rfl (Val.fieldAddr (j := 2) rfl Ty.fo174_2 rfl rfl) ?_
 refine WP.valG rfl rfl rfl rfl rfl rfl rfl (Val.load rfl Ty.sc171 rfl (fun w h => h.cell 6 rfl rfl)) ?_
 refine WP.valG rfl rfl rfl rfl rfl rfl rfl (Val.nilCheck rfl rfl) ?_
 refine WP.valG rfl rfl rfl rfl rfl rfl rfl (Val.fieldAddr (j := 0) rfl Ty.fo213_0 rfl rfl) ?_
 refine WP.valG rfl rfl rfl rfl rfl rfl rfl (Val.load rfl Ty.sc210 rfl (fun w h => h.cell 0 rfl rfl)) ?_
 refine WP.valG rfl rfl rfl rfl rfl rfl rfl (Val.lenOwn rfl Ty.sl210 rfl (fun w h => h.at 1 rfl)) ?_
 refine WP.valG rfl rfl rfl rfl rfl rfl rfl (Val.eql rfl rfl rfl) ?_
 refine WP.val rfl rfl rfl (Val.pickF rfl rfl rfl) ?_
 refine WP.nx ?_
 refine WPc.ifP rfl (fun h1 => ?_) (fun h1 => ?_)
 ·
  have h1 : (((t.is.length : Nat) : Int) = (0 : Int)) := h1
  exfalso; omega
 ·
  have h1 : ¬ (((t.is.length : Nat) : Int) = (0 : Int)) := h1
  refine WPc.skip ?_
  refine Out.next ?_
  refine WPc.seq ?_
  refine WPD.s0 Ty.mixed ?_
  refine WPD.tM 0 rfl rfl rfl rfl (Val.move rfl rfl) ?_
  refine WPD.tM 1 rfl rfl rfl rfl (Val.move rfl rfl) ?_
  refine WPD.tM 2 rfl rfl rfl rfl (Val.nilCheck rfl rfl) ?_
  refine WPD.tM 3 rfl rfl rfl rfl (Val.fieldAddr (j := 2) rfl Ty.fo174_2 rfl rfl) ?_
  refine WPD.tL 4 rfl rfl rfl rfl (fun _ h => h) (Val.load rfl Ty.sc171 rfl (fun w h => h.cell 6 rfl rfl)) ?_
  refine WPD.tM 5 rfl rfl rfl rfl (Val.move rfl rfl) ?_
  refine WPD.tM 6 rfl rfl rfl rfl (Val.nilCheck rfl rfl) ?_
  refine WPD.tM 7 rfl rfl rfl rfl (Val.fieldAddr (j := 3) rfl Ty.fo174_3 rfl rfl) ?_
  refine WPD.tL 8 rfl rfl rfl rfl (fun _ h => h) (Val.load rfl Ty.sc172 rfl (fun w h => h.cell 6 rfl rfl)) ?_
  refine WPD.stepC 9 (by kernel_rfl) rfl rfl rfl rfl (by kernel_rfl) (Eff.call rfl rfl Try.call100 (mut_spec c p vi vc)) ?_
  rintro _ _ ⟨_, ⟨rfl, rfl⟩, rfl⟩
  refine ⟨_, (fun _ h => h), ?_⟩
  refine WPD.tM 10 rfl rfl rfl rfl (Val.nilCheck rfl rfl) ?_
  refine WPD.tM 11 rfl rfl rfl rfl (Val.fieldAddr (j := 2) rfl Ty.fo174_2 rfl rfl) ?_
  refine WPD.perm pl6 ?_
  refine WPD.stepC0 12 (by kernel_rfl) rfl rfl rfl (by kernel_rfl) (Eff.store rfl Ty.sc171 rfl rfl rfl (by simp) st2) ?_
  rintro _ _ rfl
  refine ⟨_, (fun _ h => h), ?_⟩
  refine WPD.done (by kernel_rfl) ?_
  refine Out.next ?_
  refine WPc.seq ?_
  iterate 4 (refine WPc.perm pl4 ?_)
  refine WPc.conv (fun w h => Sat.ndMk (c := c) (h := ht) (t := t) (ks := ks) hk hl h) ?_
  show WPc _ _ _ _ _ _ (Nd c ht (p, t) :: _)
  refine WPD.start (Sat W [Blk tb [.int .i64 (((d : Nat) : Int)), .int .i64 (n), .pointer (some ⟨p, 0, none⟩), .pointer (some ⟨c, 0, none⟩)] 174, Blk b1 [.int .i64 (x.k), .int .i64 (x.v)] 55]) Ty.mixed ?_
  refine WPD.tS 0 rfl rfl rfl rfl (fun w h => (((h.perm pl3).perm pl2)).dropEnd (L := [_, _])) (Val.move rfl rfl) ?_
  refine WPD.tS 1 rfl rfl rfl rfl (fun w h => (((h.perm pl3).perm pl2)).dropEnd (L := [_, _])) (Val.nilCheck rfl rfl) ?_
  refine WPD.tS 2 rfl rfl rfl rfl (fun w h => (((h.perm pl3).perm pl2)).dropEnd (L := [_, _])) (Val.fieldAddr (j := 2) rfl Ty.fo174_2 rfl rfl) ?_
  refine WPD.tL 3 rfl rfl rfl rfl (fun w h => (((h.perm pl3).perm pl2)).dropEnd (L := [_, _])) (Val.load rfl Ty.sc171 rfl (fun w h => h.cell 0 rfl rfl)) ?_
  refine WPD.tL 4 rfl rfl rfl rfl (fun w h => (((h.perm pl3).perm pl2)).dropEnd (L := [_, _])) (Val.loadAgg (cs := [.int .i64 (x.k), .int .i64 (x.v)]) rfl Ty.ag55 rfl rfl (fun w h => h.range 1 rfl rfl)) ?_
  refine WPD.tS 5 rfl rfl rfl rfl (fun w h => (((h.perm pl3).perm pl2)).dropEnd (L := [_, _])) (Val.move rfl rfl) ?_
  refine WPD.tS 7 rfl rfl rfl rfl (fun w h => (((h.perm pl3).perm pl2)).dropEnd (L := [_, _])) (Val.move rfl rfl) ?_
  refine WPD.pick2 6 12 (by kernel_rfl) ?_ ?_
  ·
   refine WPO.perm pl1 ?_
   refine WPO.step rfl rfl rfl rfl (Eff.call rfl rfl Try.call129 (mini_spec c d tb n (.pointer (some ⟨p, 0, none⟩)) (by omega) (by omega))) ?_
   rintro _ _ ⟨_, ⟨rfl, rfl⟩, rfl⟩
   refine ⟨(fun w h => (((h.perm pl3).perm pl1)).dropEnd (L := [_, _])), ?_⟩
   refine WPD.pick2 8 12 (by kernel_rfl) ?_ ?_
   ·
    refine WPO.perm pl5 ?_
    refine WPO.perm pl5 ?_
    refine WPO.perm pl3 ?_
    refine WPO.step rfl rfl rfl rfl (Eff.call rfl rfl Try.call128 (hrem)) ?_
    rintro _ _ ⟨_, ⟨rfl, rfl⟩, rfl⟩
    refine ⟨(fun w h => (((h.perm pl5).perm pl4)).dropEnd (L := [_, _])), ?_⟩
    show WPD _ _ _ _ _ _ _ _ _ (Nd c ht (p, D.1) :: _)
    refine WPD.tS 9 rfl rfl rfl rfl (fun w h => (((h.perm pl5).perm pl4)).dropEnd (L := [_, _])) (Val.move rfl rfl) ?_
    refine WPD.tS 10 rfl rfl rfl rfl (fun w h => (((h.perm pl5).perm pl4)).dropEnd (L := [_, _])) (Val.extract rfl rfl rfl) ?_
    refine WPD.tS 11 rfl rfl rfl rfl (fun w h => (((h.perm pl5).perm pl4)).dropEnd (L := [_, _])) (Val.extract rfl rfl rfl) ?_
    refine WPD.step 12 (by kernel_rfl) rfl rfl rfl rfl (Eff.alloc rfl Ty.z55) ?_
    rintro _ _ ⟨b3, rfl, rfl⟩
    refine ⟨(fun w h => (((h.perm pl6).perm pl5)).dropEnd (L := [_, _])), ?_⟩
    refine WPD.stepC0 13 (by kernel_rfl) rfl rfl rfl (by kernel_rfl) (Eff.storeAgg (cs := [.int .i64 ((D.2.getD El0).k), .int .i64 ((D.2.getD El0).v)]) (C' := [.int .i64 ((D.2.getD El0).k), .int .i64 ((D.2.getD El0).v)]) rfl Ty.ag55 rfl rfl rfl rfl (by simp) rfl) ?_
    rintro _ _ rfl
    refine ⟨_, (fun _ h => h), ?_⟩
    refine WPD.tM 14 rfl rfl rfl rfl (Val.assign rfl rfl) ?_
    refine WPD.done (by kernel_rfl) ?_
    refine Out.next ?_
    refine WPc.seq ?_
    refine WPc.seq ?_
    refine WPc.perm pl1 ?_
    refine WPc.open (fun w h => h.ndOpen) ?_
    rintro ⟨vi1, vc1, ks1⟩
    refine WPc.pure (fun hk1 => ?_)
    obtain ⟨hk1, hl1⟩ := hk1
    dsimp only at hk1 hl1
    have hkl1 := ks_len hk1
    show WPc _ _ _ _ _ _ (Blk p [vi1, vc1, .pointer (some ⟨c, 0, none⟩)] 213 :: Own 55 2 vi1 D.1.is.length (flatOf El.cells D.1.is) :: Own 171 1 vc1 ks1.length (flatOf vcf (kp ks1)) :: Kds (Rk c ht) ks1 :: Blk b3 [.int .i64 ((D.2.getD El0).k), .int .i64 ((D.2.getD El0).v)] 55 :: _)
    have hle1 := hDb.1.le
    refine WPc.region ?_
    refine WP.val rfl rfl rfl (Val.move rfl rfl) ?_
    refine WP.val rfl rfl rfl (Val.nilCheck rfl rfl) ?_
    refine WP.val rfl rfl rfl (Val.fieldAddr (j := 2) rfl Ty.fo174_2 rfl rfl) ?_
    refine WP.val rfl rfl rfl (Val.load rfl Ty.sc171 rfl (fun w h => h.cell 7 rfl rfl)) ?_
    refine WP.val rfl rfl rfl (Val.nilCheck rfl rfl) ?_
    refine WP.val rfl rfl rfl (Val.fieldAddr (j := 0) rfl Ty.fo213_0 rfl rfl) ?_
    refine WP.val rfl rfl rfl (Val.load rfl Ty.sc210 rfl (fun w h => h.cell 0 rfl rfl)) ?_
    refine WP.val rfl rfl rfl (Val.lenOwn rfl Ty.sl210 rfl (fun w h => h.at 1 rfl)) ?_
    refine WP.val rfl rfl rfl (Val.eql rfl rfl rfl) ?_
    refine WP.val rfl rfl rfl (Val.move rfl rfl) ?_
    refine WP.split 60 rfl (fun h2 => ?_) (fun h2 => ?_)
    ·
     have h2 : (((D.1.is.length : Nat) : Int) = (0 : Int)) := h2
     refine WP.valG rfl rfl rfl rfl rfl rfl rfl (Val.move rfl rfl) ?_
     refine WP.valG rfl rfl rfl rfl rfl rfl rfl (Val.nilCheck rfl rfl) ?_
     refine WP.valG rfl rfl rfl rfl rfl rfl rfl (Val.fieldAddr (j := 2) rfl Ty.fo174_2 rfl rfl) ?_
     refine WP.valG rfl rfl rfl rfl rfl rfl rfl (Val.load rfl Ty.sc171 rfl (fun w h => h.cell 7 rfl rfl)) ?_
     refine WP.valG rfl rfl rfl rfl rfl rfl rfl (Val.nilCheck rfl rfl) ?_
     refine WP.valG rfl rfl rfl rfl rfl rfl rfl (Val.fieldAddr (j := 1) rfl Ty.fo213_1 rfl rfl) ?_
     refine WP.valG rfl rfl rfl rfl rfl rfl rfl (Val.load rfl Ty.sc211 rfl (fun w h => h.cell 0 rfl rfl)) ?_
     refine WP.valG rfl rfl rfl rfl rfl rfl rfl (Val.lenOwn rfl Ty.sl211 rfl (fun w h => h.at 2 rfl)) ?_
     refine WP.valG rfl rfl rfl rfl rfl rfl rfl (Val.gtr rfl rfl rfl) ?_
     refine WP.val rfl rfl rfl (Val.pickT rfl rfl rfl) ?_
     refine WP.nx ?_
     refine WPc.ifP rfl (fun h3 => ?_) (fun h3 => ?_)
     ·
      have h3 : ((0 : Int) < ((ks1.length : Nat) : Int)) := h3
      refine WPc.seq ?_
      obtain ⟨tk, htk⟩ : ∃ k, D.1.ks[0]? = some k := ⟨_, List.getElem?_eq_getElem (by omega)⟩
      obtain ⟨pk, hx⟩ := ks_get hk1 htk
      have hka := kp_at hx
      obtain ⟨h', rfl⟩ : ∃ h', ht = h' + 1 := ⟨ht - 1, by cases ht with | zero => exfalso; have h0 : ks1 = [] := hl1 rfl; have h00 : ks1.length = 0 := (by rw [h0]; rfl); omega | succ h => rfl⟩
      refine WPc.perm pl2 ?_
      refine WPc.open (fun w h => h.ownPos (by omega)) ?_
      rintro ⟨g4, cg4, spg4⟩
      refine WPc.pure (fun hvg4 => ?_)
      obtain ⟨rfl, hng4, hlg4, hsg4, hcg4⟩ := hvg4
      dsimp only at hng4 hlg4 hsg4 hcg4
      show WPc _ _ _ _ _ _ (Blk g4 (flatOf vcf (kp ks1) ++ spg4) 171 :: Blk p [vi1, .slice (some ⟨g4, 0, none⟩) ks1.length cg4, .pointer (some ⟨c, 0, none⟩)] 213 :: _ :: Kds (Rk c (h' + 1)) ks1 :: _)
      refine WPc.perm pl3 ?_
      refine WPc.conv (fun w h => Sat.kOut (R := Rk c (h' + 1)) hx h) ?_
      show WPc _ _ _ _ _ _ (Nd c h' (pk, tk) :: Kds (Rk c (h' + 1)) (ks1.take 0 ++ ks1.drop (0 + 1)) :: _)
      refine WPc.region ?_
      refine WP.val rfl rfl rfl (Val.move rfl rfl) ?_
      refine WP.val rfl rfl rfl (Val.nilCheck rfl rfl) ?_
      refine WP.val rfl rfl rfl (Val.fieldAddr (j := 2) rfl Ty.fo174_2 rfl rfl) ?_
      refine WP.val rfl rfl rfl (Val.load rfl Ty.sc171 rfl (fun w h => h.cell 8 rfl rfl)) ?_
      refine WP.val rfl rfl rfl (Val.assign rfl rfl) ?_
      refine WP.nx ?_
      refine WPc.sr ?_
      refine WP.val rfl rfl rfl (Val.move rfl rfl) ?_
      refine WP.val rfl rfl rfl (Val.move rfl rfl) ?_
      refine WP.val rfl rfl rfl (Val.nilCheck rfl rfl) ?_
      refine WP.val rfl rfl rfl (Val.fieldAddr (j := 2) rfl Ty.fo174_2 rfl rfl) ?_
      refine WP.val rfl rfl rfl (Val.load rfl Ty.sc171 rfl (fun w h => h.cell 8 rfl rfl)) ?_
      refine WP.val rfl rfl rfl (Val.nilCheck rfl rfl) ?_
      refine WP.val rfl rfl rfl (Val.fieldAddr (j := 1) rfl Ty.fo213_1 rfl rfl) ?_
      refine WP.val rfl rfl rfl (Val.load rfl Ty.sc211 rfl (fun w h => h.cell 3 rfl rfl)) ?_
      refine WP.val rfl rfl rfl (Val.indexAddr (j := 0) (q := 0) rfl Ty.sl211 rfl rfl (by omega) (by omega) (by omega)) ?_
      refine WP.val rfl rfl rfl (Val.load (v := .pointer (some ⟨pk, 0, none⟩)) rfl Ty.sc171 rfl (fun w h => ((h.at 2 rfl).cell _).trans (vflat_at hka))) ?_
      refine WP.val rfl rfl rfl (Val.nilCheck rfl rfl) ?_
      refine WP.val rfl rfl rfl (Val.fieldAddr (j := 2) rfl Ty.fo174_2 rfl rfl) ?_
      refine WP.perm pl8 ?_
      refine WP.eff0 rfl rfl (Eff.store rfl Ty.sc171 rfl rfl rfl (by simp) st2) ?_
      rintro _ _ rfl
      refine WP.nx ?_
      refine WPc.perm pl3 ?_
      refine WPc.conv (fun w h => Sat.ownMk (e := 171) (k := 1) (b := g4) (m := ks1.length) (cap := cg4) (xs := flatOf vcf (kp ks1)) (sp := spg4) (by exact h) hng4 hlg4 hsg4 hcg4) ?_
      refine WPc.c1 (B := Own 171 1 (.slice (some ⟨g4, 0, none⟩) ks1.length cg4) ((kp ks1).length) (flatOf vcf (kp ks1))) (fun w h => by rw [kp_len]; exact h) ?_
      refine WPc.region ?_
      refine WP.val rfl rfl rfl (Val.move rfl rfl) ?_
      refine WP.val rfl rfl rfl (Val.nilCheck rfl rfl) ?_
      refine WP.val rfl rfl rfl (Val.fieldAddr (j := 3) rfl Ty.fo174_3 rfl rfl) ?_
      refine WP.val rfl rfl rfl (Val.load rfl Ty.sc172 rfl (fun w h => h.cell 1 rfl rfl)) ?_
      refine WP.val rfl rfl rfl (Val.move rfl rfl) ?_
      refine WP.perm pl5 ?_
      refine WP.perm pl5 ?_
      refine WP.perm pl8 ?_
      refine WP.perm pl8 ?_
      refine WP.eff rfl rfl rfl (Eff.call rfl rfl Try.call130 (cowfree_spec c f p vi1 (.slice (some ⟨g4, 0, none⟩) ks1.length cg4) D.1.is (kp ks1) (kp_one _) (by omega) (by rw [kp_len]; omega))) ?_
      rintro vf _ ⟨_, ⟨-, rfl⟩, rfl⟩
      show WP _ _ _ _ _ _ _ (_ :: _ :: Blk tb [.int .i64 (((d : Nat) : Int)), .int .i64 (n), .pointer (some ⟨pk, 0, none⟩), .pointer (some ⟨c, 0, none⟩)] 174 :: _)
      refine WP.nx ?_
      refine WPc.seq ?_
      refine WPc.sr ?_
      refine WP.val rfl rfl rfl (Val.move rfl rfl) ?_
      refine WP.nx ?_
      refine WPc.cond rfl (fun h4 => ?_) (fun h4 => ?_)
      ·
       have h4 : (D.2.isSome) = true := h4
       refine WPc.region ?_
       refine WP.val rfl rfl rfl (Val.move rfl rfl) ?_
       refine WP.val rfl rfl rfl (Val.nilCheck rfl rfl) ?_
       refine WP.val rfl rfl rfl (Val.fieldAddr (j := 1) rfl Ty.fo174_1 rfl rfl) ?_
       refine WP.val rfl rfl rfl (Val.load rfl Ty.sc3 rfl (fun w h => h.cell 2 rfl rfl)) ?_
       refine WP.val rfl rfl rfl (Val.sub (z := n - (1 : Int)) rfl rfl rfl (w64 (by omega) (by omega))) ?_
       refine WP.val rfl rfl rfl (Val.nilCheck rfl rfl) ?_
       refine WP.val rfl rfl rfl (Val.fieldAddr (j := 1) rfl Ty.fo174_1 rfl rfl) ?_
       refine WP.perm pl2 ?_
       refine WP.eff0 rfl rfl (Eff.store rfl Ty.sc3 rfl rfl rfl (by simp) st1) ?_
       rintro _ _ rfl
       refine WP.nx ?_
       refine WPc.sr ?_
       refine WP.val rfl rfl rfl (Val.loadAgg (cs := [.int .i64 ((D.2.getD El0).k), .int .i64 ((D.2.getD El0).v)]) rfl Ty.ag55 rfl rfl (fun w h => h.range 5 rfl rfl)) ?_
       refine WP.val rfl rfl rfl (Val.move rfl rfl) ?_
       refine WP.perm pl6 ?_
       refine WP.eff0 rfl rfl (Eff.storeAgg (cs := [.int .i64 ((D.2.getD El0).k), .int .i64 ((D.2.getD El0).v)]) (C' := [.int .i64 ((D.2.getD El0).k), .int .i64 ((D.2.getD El0).v)]) rfl Ty.ag55 rfl rfl rfl rfl (by simp) rfl) ?_
       rintro _ _ rfl
       refine WP.val rfl rfl rfl (Val.assign rfl rfl) ?_
       refine WP.nx ?_
       refine WPc.ret ?_
       have hsh : shrink (h' + 1) D.1 = (h', tk) := by unfold shrink; rw [if_pos ⟨by omega, by omega⟩, kid_at htk]; rfl
       iterate 3 (refine Out.perm pl5 ?_; refine Out.drop ?_)
       refine Out.perm pl3 ?_
       refine Out.perm pl3 ?_
       iterate 3 (refine Out.perm pl4 ?_)
       exact Out.retRun (L' := _) (results_ct Try.results104 rfl Ty.ag55 rfl rfl (fun w h => h.range 0 rfl rfl)) ⟨pk, by rw [← hD]; rfl, by rw [← hD, hsh]⟩ (fun w h => h.drop)
      ·
       have h4 : (D.2.isSome) = false := h4
       rw [hDs] at h4; cases h4
     ·
      have h3 : ¬ ((0 : Int) < ((ks1.length : Nat) : Int)) := h3
      refine WPc.skip ?_
      refine Out.next ?_
      refine WPc.seq ?_
      refine WPc.sr ?_
      refine WP.val rfl rfl rfl (Val.move rfl rfl) ?_
      refine WP.nx ?_
      refine WPc.cond rfl (fun h5 => ?_) (fun h5 => ?_)
      ·
       have h5 : (D.2.isSome) = true := h5
       refine WPc.region ?_
       refine WP.val rfl rfl rfl (Val.move rfl rfl) ?_
       refine WP.val rfl rfl rfl (Val.nilCheck rfl rfl) ?_
       refine WP.val rfl rfl rfl (Val.fieldAddr (j := 1) rfl Ty.fo174_1 rfl rfl) ?_
       refine WP.val rfl rfl rfl (Val.load rfl Ty.sc3 rfl (fun w h => h.cell 7 rfl rfl)) ?_
       refine WP.val rfl rfl rfl (Val.sub (z := n - (1 : Int)) rfl rfl rfl (w64 (by omega) (by omega))) ?_
       refine WP.val rfl rfl rfl (Val.nilCheck rfl rfl) ?_
       refine WP.val rfl rfl rfl (Val.fieldAddr (j := 1) rfl Ty.fo174_1 rfl rfl) ?_
       refine WP.perm pl7 ?_
       refine WP.eff0 rfl rfl (Eff.store rfl Ty.sc3 rfl rfl rfl (by simp) st1) ?_
       rintro _ _ rfl
       refine WP.nx ?_
       refine WPc.sr ?_
       refine WP.val rfl rfl rfl (Val.loadAgg (cs := [.int .i64 ((D.2.getD El0).k), .int .i64 ((D.2.getD El0).v)]) rfl Ty.ag55 rfl rfl (fun w h => h.range 5 rfl rfl)) ?_
       refine WP.val rfl rfl rfl (Val.move rfl rfl) ?_
       refine WP.perm pl8 ?_
       refine WP.eff0 rfl rfl (Eff.storeAgg (cs := [.int .i64 ((D.2.getD El0).k), .int .i64 ((D.2.getD El0).v)]) (C' := [.int .i64 ((D.2.getD El0).k), .int .i64 ((D.2.getD El0).v)]) rfl Ty.ag55 rfl rfl rfl rfl (by simp) rfl) ?_
       rintro _ _ rfl
       refine WP.val rfl rfl rfl (Val.assign rfl rfl) ?_
       refine WP.nx ?_
       refine WPc.ret ?_
       have hsh : shrink ht D.1 = (ht, D.1) := by unfold shrink; rw [if_neg (by rintro ⟨q1, q2⟩; omega)]
       iterate 4 (refine Out.perm pl5 ?_)
       refine Out.conv (fun w h => Sat.ndMk (c := c) (h := ht) (t := D.1) (ks := ks1) hk1 hl1 h) ?_
       show Out _ _ _ _ _ (Nd c ht (p, D.1) :: Blk b2 [.int .i64 ((D.2.getD El0).k), .int .i64 ((D.2.getD El0).v)] 55 :: Blk tb [.int .i64 (((d : Nat) : Int)), .int .i64 (n - (1 : Int)), .pointer (some ⟨p, 0, none⟩), .pointer (some ⟨c, 0, none⟩)] 174 :: _)
       refine Out.perm pl3 ?_
       refine Out.drop ?_
       refine Out.perm pl5 ?_
       refine Out.drop ?_
       refine Out.perm pl4 ?_
       refine Out.perm pl4 ?_
       refine Out.perm pl2 ?_
       refine Out.perm pl4 ?_
       refine Out.perm pl4 ?_
       exact Out.retRun (L' := _) (results_ct Try.results104 rfl Ty.ag55 rfl rfl (fun w h => h.range 0 rfl rfl)) ⟨p, by rw [← hD]; rfl, by rw [← hD, hsh]⟩ (fun w h => h.drop)
      ·
       have h5 : (D.2.isSome) = false := h5
       rw [hDs] at h5; cases h5
    ·
     have h2 : ¬ (((D.1.is.length : Nat) : Int) = (0 : Int)) := h2
     iterate 9 (refine WP.skip rfl rfl rfl rfl rfl rfl rfl ?_)
     refine WP.val rfl rfl rfl (Val.pickF rfl rfl rfl) ?_
     refine WP.nx ?_
     refine WPc.condF rfl rfl ?_
     refine WPc.skip ?_
     refine Out.next ?_
     refine WPc.seq ?_
     refine WPc.sr ?_
     refine WP.val rfl rfl rfl (Val.move rfl rfl) ?_
     refine WP.nx ?_
     refine WPc.cond rfl (fun h6 => ?_) (fun h6 => ?_)
     ·
      have h6 : (D.2.isSome) = true := h6
      refine WPc.region ?_
      refine WP.val rfl rfl rfl (Val.move rfl rfl) ?_
      refine WP.val rfl rfl rfl (Val.nilCheck rfl rfl) ?_
      refine WP.val rfl rfl rfl (Val.fieldAddr (j := 1) rfl Ty.fo174_1 rfl rfl) ?_
      refine WP.val rfl rfl rfl (Val.load rfl Ty.sc3 rfl (fun w h => h.cell 7 rfl rfl)) ?_
      refine WP.val rfl rfl rfl (Val.sub (z := n - (1 : Int)) rfl rfl rfl (w64 (by omega) (by omega))) ?_
      refine WP.val rfl rfl rfl (Val.nilCheck rfl rfl) ?_
      refine WP.val rfl rfl rfl (Val.fieldAddr (j := 1) rfl Ty.fo174_1 rfl rfl) ?_
      refine WP.perm pl7 ?_
      refine WP.eff0 rfl rfl (Eff.store rfl Ty.sc3 rfl rfl rfl (by simp) st1) ?_
      rintro _ _ rfl
      refine WP.nx ?_
      refine WPc.sr ?_
      refine WP.val rfl rfl rfl (Val.loadAgg (cs := [.int .i64 ((D.2.getD El0).k), .int .i64 ((D.2.getD El0).v)]) rfl Ty.ag55 rfl rfl (fun w h => h.range 5 rfl rfl)) ?_
      refine WP.val rfl rfl rfl (Val.move rfl rfl) ?_
      refine WP.perm pl8 ?_
      refine WP.eff0 rfl rfl (Eff.storeAgg (cs := [.int .i64 ((D.2.getD El0).k), .int .i64 ((D.2.getD El0).v)]) (C' := [.int .i64 ((D.2.getD El0).k), .int .i64 ((D.2.getD El0).v)]) rfl Ty.ag55 rfl rfl rfl rfl (by simp) rfl) ?_
      rintro _ _ rfl
      refine WP.val rfl rfl rfl (Val.assign rfl rfl) ?_
      refine WP.nx ?_
      refine WPc.ret ?_
      have hsh : shrink ht D.1 = (ht, D.1) := by unfold shrink; rw [if_neg (by rintro ⟨q1, q2⟩; omega)]
      iterate 4 (refine Out.perm pl5 ?_)
      refine Out.conv (fun w h => Sat.ndMk (c := c) (h := ht) (t := D.1) (ks := ks1) hk1 hl1 h) ?_
      show Out _ _ _ _ _ (Nd c ht (p, D.1) :: Blk b2 [.int .i64 ((D.2.getD El0).k), .int .i64 ((D.2.getD El0).v)] 55 :: Blk tb [.int .i64 (((d : Nat) : Int)), .int .i64 (n - (1 : Int)), .pointer (some ⟨p, 0, none⟩), .pointer (some ⟨c, 0, none⟩)] 174 :: _)
      refine Out.perm pl3 ?_
      refine Out.drop ?_
      refine Out.perm pl5 ?_
      refine Out.drop ?_
      refine Out.perm pl4 ?_
      refine Out.perm pl4 ?_
      refine Out.perm pl2 ?_
      refine Out.perm pl4 ?_
      refine Out.perm pl4 ?_
      exact Out.retRun (L' := _) (results_ct Try.results104 rfl Ty.ag55 rfl rfl (fun w h => h.range 0 rfl rfl)) ⟨p, by rw [← hD]; rfl, by rw [← hD, hsh]⟩ (fun w h => h.drop)
     ·
      have h6 : (D.2.isSome) = false := h6
      rw [hDs] at h6; cases h6
   ·
    refine WPO.step rfl rfl rfl rfl (Eff.alloc rfl Ty.z55) ?_
    rintro _ _ ⟨b5, rfl, rfl⟩
    refine ⟨(fun w h => (((h.perm pl4).perm pl2)).dropEnd (L := [_, _])), ?_⟩
    refine WPD.perm pl6 ?_
    refine WPD.perm pl6 ?_
    refine WPD.perm pl4 ?_
    refine WPD.step 8 (by kernel_rfl) rfl rfl rfl rfl (Eff.call rfl rfl Try.call128 (hrem)) ?_
    rintro _ _ ⟨_, ⟨rfl, rfl⟩, rfl⟩
    refine ⟨(fun w h => (((h.perm pl6).perm pl5)).dropEnd (L := [_, _])), ?_⟩
    show WPD _ _ _ _ _ _ _ _ _ (Nd c ht (p, D.1) :: _ :: _ :: Blk b5 [.int .i64 0, .int .i64 0] 55 :: _)
    refine WPD.tS 9 rfl rfl rfl rfl (fun w h => (((h.perm pl6).perm pl5)).dropEnd (L := [_, _])) (Val.move rfl rfl) ?_
    refine WPD.tS 10 rfl rfl rfl rfl (fun w h => (((h.perm pl6).perm pl5)).dropEnd (L := [_, _])) (Val.extract rfl rfl rfl) ?_
    refine WPD.tS 11 rfl rfl rfl rfl (fun w h => (((h.perm pl6).perm pl5)).dropEnd (L := [_, _])) (Val.extract rfl rfl rfl) ?_
    refine WPD.perm pl3 ?_
    refine WPD.stepC0 13 (by kernel_rfl) rfl rfl rfl (by kernel_rfl) (Eff.storeAgg (cs := [.int .i64 ((D.2.getD El0).k), .int .i64 ((D.2.getD El0).v)]) (C' := [.int .i64 ((D.2.getD El0).k), .int .i64 ((D.2.getD El0).v)]) rfl Ty.ag55 rfl rfl rfl rfl (by simp) rfl) ?_
    rintro _ _ rfl
    refine ⟨_, (fun _ h => h), ?_⟩
    refine WPD.tM 14 rfl rfl rfl rfl (Val.assign rfl rfl) ?_
    refine WPD.done (by kernel_rfl) ?_
    refine Out.next ?_
    refine WPc.seq ?_
    refine WPc.seq ?_
    refine WPc.perm pl1 ?_
    refine WPc.open (fun w h => h.ndOpen) ?_
    rintro ⟨vi1, vc1, ks1⟩
    refine WPc.pure (fun hk1 => ?_)
    obtain ⟨hk1, hl1⟩ := hk1
    dsimp only at hk1 hl1
    have hkl1 := ks_len hk1
    show WPc _ _ _ _ _ _ (Blk p [vi1, vc1, .pointer (some ⟨c, 0, none⟩)] 213 :: Own 55 2 vi1 D.1.is.length (flatOf El.cells D.1.is) :: Own 171 1 vc1 ks1.length (flatOf vcf (kp ks1)) :: Kds (Rk c ht) ks1 :: Blk b5 [.int .i64 ((D.2.getD El0).k), .int .i64 ((D.2.getD El0).v)] 55 :: _)
    have hle1 := hDb.1.le
    refine WPc.region ?_
    refine WP.val rfl rfl rfl (Val.move rfl rfl) ?_
    refine WP.val rfl rfl rfl (Val.nilCheck rfl rfl) ?_
    refine WP.val rfl rfl rfl (Val.fieldAddr (j := 2) rfl Ty.fo174_2 rfl rfl) ?_
    refine WP.val rfl rfl rfl (Val.load rfl Ty.sc171 rfl (fun w h => h.cell 7 rfl rfl)) ?_
    refine WP.val rfl rfl rfl (Val.nilCheck rfl rfl) ?_
    refine WP.val rfl rfl rfl (Val.fieldAddr (j := 0) rfl Ty.fo213_0 rfl rfl) ?_
    refine WP.val rfl rfl rfl (Val.load rfl Ty.sc210 rfl (fun w h => h.cell 0 rfl rfl)) ?_
    refine WP.val rfl rfl rfl (Val.lenOwn rfl Ty.sl210 rfl (fun w h => h.at 1 rfl)) ?_
    refine WP.val rfl rfl rfl (Val.eql rfl rfl rfl) ?_
    refine WP.val rfl rfl rfl (Val.move rfl rfl) ?_
    refine WP.split 60 rfl (fun h7 => ?_) (fun h7 => ?_)
    ·
     have h7 : (((D.1.is.length : Nat) : Int) = (0 : Int)) := h7
     refine WP.valG rfl rfl rfl rfl rfl rfl rfl (Val.move rfl rfl) ?_
     refine WP.valG rfl rfl rfl rfl rfl rfl rfl (Val.nilCheck rfl rfl) ?_
     refine WP.valG rfl rfl rfl rfl rfl rfl rfl (Val.fieldAddr (j := 2) rfl Ty.fo174_2 rfl rfl) ?_
     refine WP.valG rfl rfl rfl rfl rfl rfl rfl (Val.load rfl Ty.sc171 rfl (fun w h => h.cell 7 rfl rfl)) ?_
     refine WP.valG rfl rfl rfl rfl rfl rfl rfl (Val.nilCheck rfl rfl) ?_
     refine WP.valG rfl rfl rfl rfl rfl rfl rfl (Val.fieldAddr (j := 1) rfl Ty.fo213_1 rfl rfl) ?_
     refine WP.valG rfl rfl rfl rfl rfl rfl rfl (Val.load rfl Ty.sc211 rfl (fun w h => h.cell 0 rfl rfl)) ?_
     refine WP.valG rfl rfl rfl rfl rfl rfl rfl (Val.lenOwn rfl Ty.sl211 rfl (fun w h => h.at 2 rfl)) ?_
     refine WP.valG rfl rfl rfl rfl rfl rfl rfl (Val.gtr rfl rfl rfl) ?_
     refine WP.val rfl rfl rfl (Val.pickT rfl rfl rfl) ?_
     refine WP.nx ?_
     refine WPc.ifP rfl (fun h8 => ?_) (fun h8 => ?_)
     ·
      have h8 : ((0 : Int) < ((ks1.length : Nat) : Int)) := h8
      refine WPc.seq ?_
      obtain ⟨tk, htk⟩ : ∃ k, D.1.ks[0]? = some k := ⟨_, List.getElem?_eq_getElem (by omega)⟩
      obtain ⟨pk, hx⟩ := ks_get hk1 htk
      have hka := kp_at hx
      obtain ⟨h', rfl⟩ : ∃ h', ht = h' + 1 := ⟨ht - 1, by cases ht with | zero => exfalso; have h0 : ks1 = [] := hl1 rfl; have h00 : ks1.length = 0 := (by rw [h0]; rfl); omega | succ h => rfl⟩
      refine WPc.perm pl2 ?_
      refine WPc.open (fun w h => h.ownPos (by omega)) ?_
      rintro ⟨g6, cg6, spg6⟩
      refine WPc.pure (fun hvg6 => ?_)
      obtain ⟨rfl, hng6, hlg6, hsg6, hcg6⟩ := hvg6
      dsimp only at hng6 hlg6 hsg6 hcg6
      show WPc _ _ _ _ _ _ (Blk g6 (flatOf vcf (kp ks1) ++ spg6) 171 :: Blk p [vi1, .slice (some ⟨g6, 0, none⟩) ks1.length cg6, .pointer (some ⟨c, 0, none⟩)] 213 :: _ :: Kds (Rk c (h' + 1)) ks1 :: _)
      refine WPc.perm pl3 ?_
      refine WPc.conv (fun w h => Sat.kOut (R := Rk c (h' + 1)) hx h) ?_
      show WPc _ _ _ _ _ _ (Nd c h' (pk, tk) :: Kds (Rk c (h' + 1)) (ks1.take 0 ++ ks1.drop (0 + 1)) :: _)
      refine WPc.region ?_
      refine WP.val rfl rfl rfl (Val.move rfl rfl) ?_
      refine WP.val rfl rfl rfl (Val.nilCheck rfl rfl) ?_
      refine WP.val rfl rfl rfl (Val.fieldAddr (j := 2) rfl Ty.fo174_2 rfl rfl) ?_
      refine WP.val rfl rfl rfl (Val.load rfl Ty.sc171 rfl (fun w h => h.cell 8 rfl rfl)) ?_
      refine WP.val rfl rfl rfl (Val.assign rfl rfl) ?_
      refine WP.nx ?_
      refine WPc.sr ?_
      refine WP.val rfl rfl rfl (Val.move rfl rfl) ?_
      refine WP.val rfl rfl rfl (Val.move rfl rfl) ?_
      refine WP.val rfl rfl rfl (Val.nilCheck rfl rfl) ?_
      refine WP.val rfl rfl rfl (Val.fieldAddr (j := 2) rfl Ty.fo174_2 rfl rfl) ?_
      refine WP.val rfl rfl rfl (Val.load rfl Ty.sc171 rfl (fun w h => h.cell 8 rfl rfl)) ?_
      refine WP.val rfl rfl rfl (Val.nilCheck rfl rfl) ?_
      refine WP.val rfl rfl rfl (Val.fieldAddr (j := 1) rfl Ty.fo213_1 rfl rfl) ?_
      refine WP.val rfl rfl rfl (Val.load rfl Ty.sc211 rfl (fun w h => h.cell 3 rfl rfl)) ?_
      refine WP.val rfl rfl rfl (Val.indexAddr (j := 0) (q := 0) rfl Ty.sl211 rfl rfl (by omega) (by omega) (by omega)) ?_
      refine WP.val rfl rfl rfl (Val.load (v := .pointer (some ⟨pk, 0, none⟩)) rfl Ty.sc171 rfl (fun w h => ((h.at 2 rfl).cell _).trans (vflat_at hka))) ?_
      refine WP.val rfl rfl rfl (Val.nilCheck rfl rfl) ?_
      refine WP.val rfl rfl rfl (Val.fieldAddr (j := 2) rfl Ty.fo174_2 rfl rfl) ?_
      refine WP.perm pl8 ?_
      refine WP.eff0 rfl rfl (Eff.store rfl Ty.sc171 rfl rfl rfl (by simp) st2) ?_
      rintro _ _ rfl
      refine WP.nx ?_
      refine WPc.perm pl3 ?_
      refine WPc.conv (fun w h => Sat.ownMk (e := 171) (k := 1) (b := g6) (m := ks1.length) (cap := cg6) (xs := flatOf vcf (kp ks1)) (sp := spg6) (by exact h) hng6 hlg6 hsg6 hcg6) ?_
      refine WPc.c1 (B := Own 171 1 (.slice (some ⟨g6, 0, none⟩) ks1.length cg6) ((kp ks1).length) (flatOf vcf (kp ks1))) (fun w h => by rw [kp_len]; exact h) ?_
      refine WPc.region ?_
      refine WP.val rfl rfl rfl (Val.move rfl rfl) ?_
      refine WP.val rfl rfl rfl (Val.nilCheck rfl rfl) ?_
      refine WP.val rfl rfl rfl (Val.fieldAddr (j := 3) rfl Ty.fo174_3 rfl rfl) ?_
      refine WP.val rfl rfl rfl (Val.load rfl Ty.sc172 rfl (fun w h => h.cell 1 rfl rfl)) ?_
      refine WP.val rfl rfl rfl (Val.move rfl rfl) ?_
      refine WP.perm pl5 ?_
      refine WP.perm pl5 ?_
      refine WP.perm pl8 ?_
      refine WP.perm pl8 ?_
      refine WP.eff rfl rfl rfl (Eff.call rfl rfl Try.call130 (cowfree_spec c f p vi1 (.slice (some ⟨g6, 0, none⟩) ks1.length cg6) D.1.is (kp ks1) (kp_one _) (by omega) (by rw [kp_len]; omega))) ?_
      rintro vf _ ⟨_, ⟨-, rfl⟩, rfl⟩
      show WP _ _ _ _ _ _ _ (_ :: _ :: Blk tb [.int .i64 (((d : Nat) : Int)), .int .i64 (n), .pointer (some ⟨pk, 0, none⟩), .pointer (some ⟨c, 0, none⟩)] 174 :: _)
      refine WP.nx ?_
      refine WPc.seq ?_
      refine WPc.sr ?_
      refine WP.val rfl rfl rfl (Val.move rfl rfl) ?_
      refine WP.nx ?_
      refine WPc.cond rfl (fun h9 => ?_) (fun h9 => ?_)
      ·
       have h9 : (D.2.isSome) = true := h9
       refine WPc.region ?_
       refine WP.val rfl rfl rfl (Val.move rfl rfl) ?_
       refine WP.val rfl rfl rfl (Val.nilCheck rfl rfl) ?_
       refine WP.val rfl rfl rfl (Val.fieldAddr (j := 1) rfl Ty.fo174_1 rfl rfl) ?_
       refine WP.val rfl rfl rfl (Val.load rfl Ty.sc3 rfl (fun w h => h.cell 2 rfl rfl)) ?_
       refine WP.val rfl rfl rfl (Val.sub (z := n - (1 : Int)) rfl rfl rfl (w64 (by omega) (by omega))) ?_
       refine WP.val rfl rfl rfl (Val.nilCheck rfl rfl) ?_
       refine WP.val rfl rfl rfl (Val.fieldAddr (j := 1) rfl Ty.fo174_1 rfl rfl) ?_
       refine WP.perm pl2 ?_
       refine WP.eff0 rfl rfl (Eff.store rfl Ty.sc3 rfl rfl rfl (by simp) st1) ?_
       rintro _ _ rfl
       refine WP.nx ?_
       refine WPc.sr ?_
       refine WP.val rfl rfl rfl (Val.loadAgg (cs := [.int .i64 ((D.2.getD El0).k), .int .i64 ((D.2.getD El0).v)]) rfl Ty.ag55 rfl rfl (fun w h => h.range 5 rfl rfl)) ?_
       refine WP.val rfl rfl rfl (Val.move rfl rfl) ?_
       refine WP.perm pl6 ?_
       refine WP.eff0 rfl rfl (Eff.storeAgg (cs := [.int .i64 ((D.2.getD El0).k), .int .i64 ((D.2.getD El0).v)]) (C' := [.int .i64 ((D.2.getD El0).k), .int .i64 ((D.2.getD El0).v)]) rfl Ty.ag55 rfl rfl rfl rfl (by simp) rfl) ?_
       rintro _ _ rfl
       refine WP.val rfl rfl rfl (Val.assign rfl rfl) ?_
       refine WP.nx ?_
       refine WPc.ret ?_
       have hsh : shrink (h' + 1) D.1 = (h', tk) := by unfold shrink; rw [if_pos ⟨by omega, by omega⟩, kid_at htk]; rfl
       iterate 3 (refine Out.perm pl5 ?_; refine Out.drop ?_)
       refine Out.perm pl3 ?_
       refine Out.perm pl3 ?_
       iterate 3 (refine Out.perm pl4 ?_)
       exact Out.retRun (L' := _) (results_ct Try.results104 rfl Ty.ag55 rfl rfl (fun w h => h.range 0 rfl rfl)) ⟨pk, by rw [← hD]; rfl, by rw [← hD, hsh]⟩ (fun w h => h.drop)
      ·
       have h9 : (D.2.isSome) = false := h9
       rw [hDs] at h9; cases h9
     ·
      have h8 : ¬ ((0 : Int) < ((ks1.length : Nat) : Int)) := h8
      refine WPc.skip ?_
      refine Out.next ?_
      refine WPc.seq ?_
      refine WPc.sr ?_
      refine WP.val rfl rfl rfl (Val.move rfl rfl) ?_
      refine WP.nx ?_
      refine WPc.cond rfl (fun h10 => ?_) (fun h10 => ?_)
      ·
       have h10 : (D.2.isSome) = true := h10
       refine WPc.region ?_
       refine WP.val rfl rfl rfl (Val.move rfl rfl) ?_
       refine WP.val rfl rfl rfl (Val.nilCheck rfl rfl) ?_
       refine WP.val rfl rfl rfl (Val.fieldAddr (j := 1) rfl Ty.fo174_1 rfl rfl) ?_
       refine WP.val rfl rfl rfl (Val.load rfl Ty.sc3 rfl (fun w h => h.cell 7 rfl rfl)) ?_
       refine WP.val rfl rfl rfl (Val.sub (z := n - (1 : Int)) rfl rfl rfl (w64 (by omega) (by omega))) ?_
       refine WP.val rfl rfl rfl (Val.nilCheck rfl rfl) ?_
       refine WP.val rfl rfl rfl (Val.fieldAddr (j := 1) rfl Ty.fo174_1 rfl rfl) ?_
       refine WP.perm pl7 ?_
       refine WP.eff0 rfl rfl (Eff.store rfl Ty.sc3 rfl rfl rfl (by simp) st1) ?_
       rintro _ _ rfl
       refine WP.nx ?_
       refine WPc.sr ?_
       refine WP.val rfl rfl rfl (Val.loadAgg (cs := [.int .i64 ((D.2.getD El0).k), .int .i64 ((D.2.getD El0).v)]) rfl Ty.ag55 rfl rfl (fun w h => h.range 5 rfl rfl)) ?_
       refine WP.val rfl rfl rfl (Val.move rfl rfl) ?_
       refine WP.perm pl8 ?_
       refine WP.eff0 rfl rfl (Eff.storeAgg (cs := [.int .i64 ((D.2.getD El0).k), .int .i64 ((D.2.getD El0).v)]) (C' := [.int .i64 ((D.2.getD El0).k), .int .i64 ((D.2.getD El0).v)]) rfl Ty.ag55 rfl rfl rfl rfl (by simp) rfl) ?_
       rintro _ _ rfl
       refine WP.val rfl rfl rfl (Val.assign rfl rfl) ?_
       refine WP.nx ?_
       refine WPc.ret ?_
       have hsh : shrink ht D.1 = (ht, D.1) := by unfold shrink; rw [if_neg (by rintro ⟨q1, q2⟩; omega)]
       iterate 4 (refine Out.perm pl5 ?_)
       refine Out.conv (fun w h => Sat.ndMk (c := c) (h := ht) (t := D.1) (ks := ks1) hk1 hl1 h) ?_
       show Out _ _ _ _ _ (Nd c ht (p, D.1) :: Blk b2 [.int .i64 ((D.2.getD El0).k), .int .i64 ((D.2.getD El0).v)] 55 :: Blk tb [.int .i64 (((d : Nat) : Int)), .int .i64 (n - (1 : Int)), .pointer (some ⟨p, 0, none⟩), .pointer (some ⟨c, 0, none⟩)] 174 :: _)
       refine Out.perm pl3 ?_
       refine Out.drop ?_
       refine Out.perm pl5 ?_
       refine Out.drop ?_
       refine Out.perm pl4 ?_
       refine Out.perm pl4 ?_
       refine Out.perm pl2 ?_
       refine Out.perm pl4 ?_
       refine Out.perm pl4 ?_
       exact Out.retRun (L' := _) (results_ct Try.results104 rfl Ty.ag55 rfl rfl (fun w h => h.range 0 rfl rfl)) ⟨p, by rw [← hD]; rfl, by rw [← hD, hsh]⟩ (fun w h => h.drop)
      ·
       have h10 : (D.2.isSome) = false := h10
       rw [hDs] at h10; cases h10
    ·
     have h7 : ¬ (((D.1.is.length : Nat) : Int) = (0 : Int)) := h7
     iterate 9 (refine WP.skip rfl rfl rfl rfl rfl rfl rfl ?_)
     refine WP.val rfl rfl rfl (Val.pickF rfl rfl rfl) ?_
     refine WP.nx ?_
     refine WPc.condF rfl rfl ?_
     refine WPc.skip ?_
     refine Out.next ?_
     refine WPc.seq ?_
     refine WPc.sr ?_
     refine WP.val rfl rfl rfl (Val.move rfl rfl) ?_
     refine WP.nx ?_
     refine WPc.cond rfl (fun h11 => ?_) (fun h11 => ?_)
     ·
      have h11 : (D.2.isSome) = true := h11
      refine WPc.region ?_
      refine WP.val rfl rfl rfl (Val.move rfl rfl) ?_
      refine WP.val rfl rfl rfl (Val.nilCheck rfl rfl) ?_
      refine WP.val rfl rfl rfl (Val.fieldAddr (j := 1) rfl Ty.fo174_1 rfl rfl) ?_
      refine WP.val rfl rfl rfl (Val.load rfl Ty.sc3 rfl (fun w h => h.cell 7 rfl rfl)) ?_
      refine WP.val rfl rfl rfl (Val.sub (z := n - (1 : Int)) rfl rfl rfl (w64 (by omega) (by omega))) ?_
      refine WP.val rfl rfl rfl (Val.nilCheck rfl rfl) ?_
      refine WP.val rfl rfl rfl (Val.fieldAddr (j := 1) rfl Ty.fo174_1 rfl rfl) ?_
      refine WP.perm pl7 ?_
      refine WP.eff0 rfl rfl (Eff.store rfl Ty.sc3 rfl rfl rfl (by simp) st1) ?_
      rintro _ _ rfl
      refine WP.nx ?_
      refine WPc.sr ?_
      refine WP.val rfl rfl rfl (Val.loadAgg (cs := [.int .i64 ((D.2.getD El0).k), .int .i64 ((D.2.getD El0).v)]) rfl Ty.ag55 rfl rfl (fun w h => h.range 5 rfl rfl)) ?_
      refine WP.val rfl rfl rfl (Val.move rfl rfl) ?_
      refine WP.perm pl8 ?_
      refine WP.eff0 rfl rfl (Eff.storeAgg (cs := [.int .i64 ((D.2.getD El0).k), .int .i64 ((D.2.getD El0).v)]) (C' := [.int .i64 ((D.2.getD El0).k), .int .i64 ((D.2.getD El0).v)]) rfl Ty.ag55 rfl rfl rfl rfl (by simp) rfl) ?_
      rintro _ _ rfl
      refine WP.val rfl rfl rfl (Val.assign rfl rfl) ?_
      refine WP.nx ?_
      refine WPc.ret ?_
      have hsh : shrink ht D.1 = (ht, D.1) := by unfold shrink; rw [if_neg (by rintro ⟨q1, q2⟩; omega)]
      iterate 4 (refine Out.perm pl5 ?_)
      refine Out.conv (fun w h => Sat.ndMk (c := c) (h := ht) (t := D.1) (ks := ks1) hk1 hl1 h) ?_
      show Out _ _ _ _ _ (Nd c ht (p, D.1) :: Blk b2 [.int .i64 ((D.2.getD El0).k), .int .i64 ((D.2.getD El0).v)] 55 :: Blk tb [.int .i64 (((d : Nat) : Int)), .int .i64 (n - (1 : Int)), .pointer (some ⟨p, 0, none⟩), .pointer (some ⟨c, 0, none⟩)] 174 :: _)
      refine Out.perm pl3 ?_
      refine Out.drop ?_
      refine Out.perm pl5 ?_
      refine Out.drop ?_
      refine Out.perm pl4 ?_
      refine Out.perm pl4 ?_
      refine Out.perm pl2 ?_
      refine Out.perm pl4 ?_
      refine Out.perm pl4 ?_
      exact Out.retRun (L' := _) (results_ct Try.results104 rfl Ty.ag55 rfl rfl (fun w h => h.range 0 rfl rfl)) ⟨p, by rw [← hD]; rfl, by rw [← hD, hsh]⟩ (fun w h => h.drop)
     ·
      have h11 : (D.2.isSome) = false := h11
      rw [hDs] at h11; cases h11
  ·
   refine WPO.step rfl rfl rfl rfl (Eff.alloc rfl Ty.z55) ?_
   rintro _ _ ⟨b7, rfl, rfl⟩
   refine ⟨(fun w h => (((h.perm pl4).perm pl3)).dropEnd (L := [_, _])), ?_⟩
   refine WPD.perm pl2 ?_
   refine WPD.step 6 (by kernel_rfl) rfl rfl rfl rfl (Eff.call rfl rfl Try.call129 (mini_spec c d tb n (.pointer (some ⟨p, 0, none⟩)) (by omega) (by omega))) ?_
   rintro _ _ ⟨_, ⟨rfl, rfl⟩, rfl⟩
   refine ⟨(fun w h => (((h.perm pl4).perm pl1)).dropEnd (L := [_, _])), ?_⟩
   show WPD _ _ _ _ _ _ _ _ _ (_ :: Blk b7 [.int .i64 0, .int .i64 0] 55 :: _)
   refine WPD.perm pl6 ?_
   refine WPD.perm pl6 ?_
   refine WPD.perm pl4 ?_
   refine WPD.step 8 (by kernel_rfl) rfl rfl rfl rfl (Eff.call rfl rfl Try.call128 (hrem)) ?_
   rintro _ _ ⟨_, ⟨rfl, rfl⟩, rfl⟩
   refine ⟨(fun w h => (((h.perm pl6).perm pl4)).dropEnd (L := [_, _])), ?_⟩
   show WPD _ _ _ _ _ _ _ _ _ (Nd c ht (p, D.1) :: _)
   refine WPD.tS 9 rfl rfl rfl rfl (fun w h => (((h.perm pl6).perm pl4)).dropEnd (L := [_, _])) (Val.move rfl rfl) ?_
   refine WPD.tS 10 rfl rfl rfl rfl (fun w h => (((h.perm pl6).perm pl4)).dropEnd (L := [_, _])) (Val.extract rfl rfl rfl) ?_
   refine WPD.tS 11 rfl rfl rfl rfl (fun w h => (((h.perm pl6).perm pl4)).dropEnd (L := [_, _])) (Val.extract rfl rfl rfl) ?_
   refine WPD.perm pl4 ?_
   refine WPD.stepC0 13 (by kernel_rfl) rfl rfl rfl (by kernel_rfl) (Eff.storeAgg (cs := [.int .i64 ((D.2.getD El0).k), .int .i64 ((D.2.getD El0).v)]) (C' := [.int .i64 ((D.2.getD El0).k), .int .i64 ((D.2.getD El0).v)]) rfl Ty.ag55 rfl rfl rfl rfl (by simp) rfl) ?_
   rintro _ _ rfl
   refine ⟨_, (fun _ h => h), ?_⟩
   refine WPD.tM 14 rfl rfl rfl rfl (Val.assign rfl rfl) ?_
   refine WPD.done (by kernel_rfl) ?_
   refine Out.next ?_
   refine WPc.seq ?_
   refine WPc.seq ?_
   refine WPc.perm pl1 ?_
   refine WPc.open (fun w h => h.ndOpen) ?_
   rintro ⟨vi1, vc1, ks1⟩
   refine WPc.pure (fun hk1 => ?_)
   obtain ⟨hk1, hl1⟩ := hk1
   dsimp only at hk1 hl1
   have hkl1 := ks_len hk1
   show WPc _ _ _ _ _ _ (Blk p [vi1, vc1, .pointer (some ⟨c, 0, none⟩)] 213 :: Own 55 2 vi1 D.1.is.length (flatOf El.cells D.1.is) :: Own 171 1 vc1 ks1.length (flatOf vcf (kp ks1)) :: Kds (Rk c ht) ks1 :: Blk b7 [.int .i64 ((D.2.getD El0).k), .int .i64 ((D.2.getD El0).v)] 55 :: _)
   have hle1 := hDb.1.le
   refine WPc.region ?_
   refine WP.val rfl rfl rfl (Val.move rfl rfl) ?_
   refine WP.val rfl rfl rfl (Val.nilCheck rfl rfl) ?_
   refine WP.val rfl rfl rfl (Val.fieldAddr (j := 2) rfl Ty.fo174_2 rfl rfl) ?_
   refine WP.val rfl rfl rfl (Val.load rfl Ty.sc171 rfl (fun w h => h.cell 7 rfl rfl)) ?_
   refine WP.val rfl rfl rfl (Val.nilCheck rfl rfl) ?_
   refine WP.val rfl rfl rfl (Val.fieldAddr (j := 0) rfl Ty.fo213_0 rfl rfl) ?_
   refine WP.val rfl rfl rfl (Val.load rfl Ty.sc210 rfl (fun w h => h.cell 0 rfl rfl)) ?_
   refine WP.val rfl rfl rfl (Val.lenOwn rfl Ty.sl210 rfl (fun w h => h.at 1 rfl)) ?_
   refine WP.val rfl rfl rfl (Val.eql rfl rfl rfl) ?_
   refine WP.val rfl rfl rfl (Val.move rfl rfl) ?_
   refine WP.split 60 rfl (fun h12 => ?_) (fun h12 => ?_)
   ·
    have h12 : (((D.1.is.length : Nat) : Int) = (0 : Int)) := h12
    refine WP.valG rfl rfl rfl rfl rfl rfl rfl (Val.move rfl rfl) ?_
    refine WP.valG rfl rfl rfl rfl rfl rfl rfl (Val.nilCheck rfl rfl) ?_
    refine WP.valG rfl rfl rfl rfl rfl rfl rfl (Val.fieldAddr (j := 2) rfl Ty.fo174_2 rfl rfl) ?_
    refine WP.valG rfl rfl rfl rfl rfl rfl rfl (Val.load rfl Ty.sc171 rfl (fun w h => h.cell 7 rfl rfl)) ?_
    refine WP.valG rfl rfl rfl rfl rfl rfl rfl (Val.nilCheck rfl rfl) ?_
    refine WP.valG rfl rfl rfl rfl rfl rfl rfl (Val.fieldAddr (j := 1) rfl Ty.fo213_1 rfl rfl) ?_
    refine WP.valG rfl rfl rfl rfl rfl rfl rfl (Val.load rfl Ty.sc211 rfl (fun w h => h.cell 0 rfl rfl)) ?_
    refine WP.valG rfl rfl rfl rfl rfl rfl rfl (Val.lenOwn rfl Ty.sl211 rfl (fun w h => h.at 2 rfl)) ?_
    refine WP.valG rfl rfl rfl rfl rfl rfl rfl (Val.gtr rfl rfl rfl) ?_
    refine WP.val rfl rfl rfl (Val.pickT rfl rfl rfl) ?_
    refine WP.nx ?_
    refine WPc.ifP rfl (fun h13 => ?_) (fun h13 => ?_)
    ·
     have h13 : ((0 : Int) < ((ks1.length : Nat) : Int)) := h13
     refine WPc.seq ?_
     obtain ⟨tk, htk⟩ : ∃ k, D.1.ks[0]? = some k := ⟨_, List.getElem?_eq_getElem (by omega)⟩
     obtain ⟨pk, hx⟩ := ks_get hk1 htk
     have hka := kp_at hx
     obtain ⟨h', rfl⟩ : ∃ h', ht = h' + 1 := ⟨ht - 1, by cases ht with | zero => exfalso; have h0 : ks1 = [] := hl1 rfl; have h00 : ks1.length = 0 := (by rw [h0]; rfl); omega | succ h => rfl⟩
     refine WPc.perm pl2 ?_
     refine WPc.open (fun w h => h.ownPos (by omega)) ?_
     rintro ⟨g8, cg8, spg8⟩
     refine WPc.pure (fun hvg8 => ?_)
     obtain ⟨rfl, hng8, hlg8, hsg8, hcg8⟩ := hvg8
     dsimp only at hng8 hlg8 hsg8 hcg8
     show WPc _ _ _ _ _ _ (Blk g8 (flatOf vcf (kp ks1) ++ spg8) 171 :: Blk p [vi1, .slice (some ⟨g8, 0, none⟩) ks1.length cg8, .pointer (some ⟨c, 0, none⟩)] 213 :: _ :: Kds (Rk c (h' + 1)) ks1 :: _)
     refine WPc.perm pl3 ?_
     refine WPc.conv (fun w h => Sat.kOut (R := Rk c (h' + 1)) hx h) ?_
     show WPc _ _ _ _ _ _ (Nd c h' (pk, tk) :: Kds (Rk c (h' + 1)) (ks1.take 0 ++ ks1.drop (0 + 1)) :: _)
     refine WPc.region ?_
     refine WP.val rfl rfl rfl (Val.move rfl rfl) ?_
     refine WP.val rfl rfl rfl (Val.nilCheck rfl rfl) ?_
     refine WP.val rfl rfl rfl (Val.fieldAddr (j := 2) rfl Ty.fo174_2 rfl rfl) ?_
     refine WP.val rfl rfl rfl (Val.load rfl Ty.sc171 rfl (fun w h => h.cell 8 rfl rfl)) ?_
     refine WP.val rfl rfl rfl (Val.assign rfl rfl) ?_
     refine WP.nx ?_
     refine WPc.sr ?_
     refine WP.val rfl rfl rfl (Val.move rfl rfl) ?_
     refine WP.val rfl rfl rfl (Val.move rfl rfl) ?_
     refine WP.val rfl rfl rfl (Val.nilCheck rfl rfl) ?_
     refine WP.val rfl rfl rfl (Val.fieldAddr (j := 2) rfl Ty.fo174_2 rfl rfl) ?_
     refine WP.val rfl rfl rfl (Val.load rfl Ty.sc171 rfl (fun w h => h.cell 8 rfl rfl)) ?_
     refine WP.val rfl rfl rfl (Val.nilCheck rfl rfl) ?_
     refine WP.val rfl rfl rfl (Val.fieldAddr (j := 1) rfl Ty.fo213_1 rfl rfl) ?_
     refine WP.val rfl rfl rfl (Val.load rfl Ty.sc211 rfl (fun w h => h.cell 3 rfl rfl)) ?_
     refine WP.val rfl rfl rfl (Val.indexAddr (j := 0) (q := 0) rfl Ty.sl211 rfl rfl (by omega) (by omega) (by omega)) ?_
     refine WP.val rfl rfl rfl (Val.load (v := .pointer (some ⟨pk, 0, none⟩)) rfl Ty.sc171 rfl (fun w h => ((h.at 2 rfl).cell _).trans (vflat_at hka))) ?_
     refine WP.val rfl rfl rfl (Val.nilCheck rfl rfl) ?_
     refine WP.val rfl rfl rfl (Val.fieldAddr (j := 2) rfl Ty.fo174_2 rfl rfl) ?_
     refine WP.perm pl8 ?_
     refine WP.eff0 rfl rfl (Eff.store rfl Ty.sc171 rfl rfl rfl (by simp) st2) ?_
     rintro _ _ rfl
     refine WP.nx ?_
     refine WPc.perm pl3 ?_
     refine WPc.conv (fun w h => Sat.ownMk (e := 171) (k := 1) (b := g8) (m := ks1.length) (cap := cg8) (xs := flatOf vcf (kp ks1)) (sp := spg8) (by exact h) hng8 hlg8 hsg8 hcg8) ?_
     refine WPc.c1 (B := Own 171 1 (.slice (some ⟨g8, 0, none⟩) ks1.length cg8) ((kp ks1).length) (flatOf vcf (kp ks1))) (fun w h => by rw [kp_len]; exact h) ?_
     refine WPc.region ?_
     refine WP.val rfl rfl rfl (Val.move rfl rfl) ?_
     refine WP.val rfl rfl rfl (Val.nilCheck rfl rfl) ?_
     refine WP.val rfl rfl rfl (Val.fieldAddr (j := 3) rfl Ty.fo174_3 rfl rfl) ?_
     refine WP.val rfl rfl rfl (Val.load rfl Ty.sc172 rfl (fun w h => h.cell 1 rfl rfl)) ?_
     refine WP.val rfl rfl rfl (Val.move rfl rfl) ?_
     refine WP.perm pl5 ?_
     refine WP.perm pl5 ?_
     refine WP.perm pl8 ?_
     refine WP.perm pl8 ?_
     refine WP.eff rfl rfl rfl (Eff.call rfl rfl Try.call130 (cowfree_spec c f p vi1 (.slice (some ⟨g8, 0, none⟩) ks1.length cg8) D.1.is (kp ks1) (kp_one _) (by omega) (by rw [kp_len]; omega))) ?_
     rintro vf _ ⟨_, ⟨-, rfl⟩, rfl⟩
     show WP _ _ _ _ _ _ _ (_ :: _ :: Blk tb [.int .i64 (((d : Nat) : Int)), .int .i64 (n), .pointer (some ⟨pk, 0, none⟩), .pointer (some ⟨c, 0, none⟩)] 174 :: _)
     refine WP.nx ?_
     refine WPc.seq ?_
     refine WPc.sr ?_
     refine WP.val rfl rfl rfl (Val.move rfl rfl) ?_
     refine WP.nx ?_
     refine WPc.cond rfl (fun h14 => ?_) (fun h14 => ?_)
     ·
      have h14 : (D.2.isSome) = true := h14
      refine WPc.region ?_
      refine WP.val rfl rfl rfl (Val.move rfl rfl) ?_
      refine WP.val rfl rfl rfl (Val.nilCheck rfl rfl) ?_
      refine WP.val rfl rfl rfl (Val.fieldAddr (j := 1) rfl Ty.fo174_1 rfl rfl) ?_
      refine WP.val rfl rfl rfl (Val.load rfl Ty.sc3 rfl (fun w h => h.cell 2 rfl rfl)) ?_
      refine WP.val rfl rfl rfl (Val.sub (z := n - (1 : Int)) rfl rfl rfl (w64 (by omega) (by omega))) ?_
      refine WP.val rfl rfl rfl (Val.nilCheck rfl rfl) ?_
      refine WP.val rfl rfl rfl (Val.fieldAddr (j := 1) rfl Ty.fo174_1 rfl rfl) ?_
      refine WP.perm pl2 ?_
      refine WP.eff0 rfl rfl (Eff.store rfl Ty.sc3 rfl rfl rfl (by simp) st1) ?_
      rintro _ _ rfl
      refine WP.nx ?_
      refine WPc.sr ?_
      refine WP.val rfl rfl rfl (Val.loadAgg (cs := [.int .i64 ((D.2.getD El0).k), .int .i64 ((D.2.getD El0).v)]) rfl Ty.ag55 rfl rfl (fun w h => h.range 5 rfl rfl)) ?_
      refine WP.val rfl rfl rfl (Val.move rfl rfl) ?_
      refine WP.perm pl6 ?_
      refine WP.eff0 rfl rfl (Eff.storeAgg (cs := [.int .i64 ((D.2.getD El0).k), .int .i64 ((D.2.getD El0).v)]) (C' := [.int .i64 ((D.2.getD El0).k), .int .i64 ((D.2.getD El0).v)]) rfl Ty.ag55 rfl rfl rfl rfl (by simp) rfl) ?_
      rintro _ _ rfl
      refine WP.val rfl rfl rfl (Val.assign rfl rfl) ?_
      refine WP.nx ?_
      refine WPc.ret ?_
      have hsh : shrink (h' + 1) D.1 = (h', tk) := by unfold shrink; rw [if_pos ⟨by omega, by omega⟩, kid_at htk]; rfl
      iterate 3 (refine Out.perm pl5 ?_; refine Out.drop ?_)
      refine Out.perm pl3 ?_
      refine Out.perm pl3 ?_
      iterate 3 (refine Out.perm pl4 ?_)
      exact Out.retRun (L' := _) (results_ct Try.results104 rfl Ty.ag55 rfl rfl (fun w h => h.range 0 rfl rfl)) ⟨pk, by rw [← hD]; rfl, by rw [← hD, hsh]⟩ (fun w h => h.drop)
     ·
      have h14 : (D.2.isSome) = false := h14
      rw [hDs] at h14; cases h14
    ·
     have h13 : ¬ ((0 : Int) < ((ks1.length : Nat) : Int)) := h13
     refine WPc.skip ?_
     refine Out.next ?_
     refine WPc.seq ?_
     refine WPc.sr ?_
     refine WP.val rfl rfl rfl (Val.move rfl rfl) ?_
     refine WP.nx ?_
     refine WPc.cond rfl (fun h15 => ?_) (fun h15 => ?_)
     ·
      have h15 : (D.2.isSome) = true := h15
      refine WPc.region ?_
      refine WP.val rfl rfl rfl (Val.move rfl rfl) ?_
      refine WP.val rfl rfl rfl (Val.nilCheck rfl rfl) ?_
      refine WP.val rfl rfl rfl (Val.fieldAddr (j := 1) rfl Ty.fo174_1 rfl rfl) ?_
      refine WP.val rfl rfl rfl (Val.load rfl Ty.sc3 rfl (fun w h => h.cell 7 rfl rfl)) ?_
      refine WP.val rfl rfl rfl (Val.sub (z := n - (1 : Int)) rfl rfl rfl (w64 (by omega) (by omega))) ?_
      refine WP.val rfl rfl rfl (Val.nilCheck rfl rfl) ?_
      refine WP.val rfl rfl rfl (Val.fieldAddr (j := 1) rfl Ty.fo174_1 rfl rfl) ?_
      refine WP.perm pl7 ?_
      refine WP.eff0 rfl rfl (Eff.store rfl Ty.sc3 rfl rfl rfl (by simp) st1) ?_
      rintro _ _ rfl
      refine WP.nx ?_
      refine WPc.sr ?_
      refine WP.val rfl rfl rfl (Val.loadAgg (cs := [.int .i64 ((D.2.getD El0).k), .int .i64 ((D.2.getD El0).v)]) rfl Ty.ag55 rfl rfl (fun w h => h.range 5 rfl rfl)) ?_
      refine WP.val rfl rfl rfl (Val.move rfl rfl) ?_
      refine WP.perm pl8 ?_
      refine WP.eff0 rfl rfl (Eff.storeAgg (cs := [.int .i64 ((D.2.getD El0).k), .int .i64 ((D.2.getD El0).v)]) (C' := [.int .i64 ((D.2.getD El0).k), .int .i64 ((D.2.getD El0).v)]) rfl Ty.ag55 rfl rfl rfl rfl (by simp) rfl) ?_
      rintro _ _ rfl
      refine WP.val rfl rfl rfl (Val.assign rfl rfl) ?_
      refine WP.nx ?_
      refine WPc.ret ?_
      have hsh : shrink ht D.1 = (ht, D.1) := by unfold shrink; rw [if_neg (by rintro ⟨q1, q2⟩; omega)]
      iterate 4 (refine Out.perm pl5 ?_)
      refine Out.conv (fun w h => Sat.ndMk (c := c) (h := ht) (t := D.1) (ks := ks1) hk1 hl1 h) ?_
      show Out _ _ _ _ _ (Nd c ht (p, D.1) :: Blk b2 [.int .i64 ((D.2.getD El0).k), .int .i64 ((D.2.getD El0).v)] 55 :: Blk tb [.int .i64 (((d : Nat) : Int)), .int .i64 (n - (1 : Int)), .pointer (some ⟨p, 0, none⟩), .pointer (some ⟨c, 0, none⟩)] 174 :: _)
      refine Out.perm pl3 ?_
      refine Out.drop ?_
      refine Out.perm pl5 ?_
      refine Out.drop ?_
      refine Out.perm pl4 ?_
      refine Out.perm pl4 ?_
      refine Out.perm pl2 ?_
      refine Out.perm pl4 ?_
      refine Out.perm pl4 ?_
      exact Out.retRun (L' := _) (results_ct Try.results104 rfl Ty.ag55 rfl rfl (fun w h => h.range 0 rfl rfl)) ⟨p, by rw [← hD]; rfl, by rw [← hD, hsh]⟩ (fun w h => h.drop)
     ·
      have h15 : (D.2.isSome) = false := h15
      rw [hDs] at h15; cases h15
   ·
    have h12 : ¬ (((D.1.is.length : Nat) : Int) = (0 : Int)) := h12
    iterate 9 (refine WP.skip rfl rfl rfl rfl rfl rfl rfl ?_)
    refine WP.val rfl rfl rfl (Val.pickF rfl rfl rfl) ?_
    refine WP.nx ?_
    refine WPc.condF rfl rfl ?_
    refine WPc.skip ?_
    refine Out.next ?_
    refine WPc.seq ?_
    refine WPc.sr ?_
    refine WP.val rfl rfl rfl (Val.move rfl rfl) ?_
    refine WP.nx ?_
    refine WPc.cond rfl (fun h16 => ?_) (fun h16 => ?_)
    ·
     have h16 : (D.2.isSome) = true := h16
     refine WPc.region ?_
     refine WP.val rfl rfl rfl (Val.move rfl rfl) ?_
     refine WP.val rfl rfl rfl (Val.nilCheck rfl rfl) ?_
     refine WP.val rfl rfl rfl (Val.fieldAddr (j := 1) rfl Ty.fo174_1 rfl rfl) ?_
     refine WP.val rfl rfl rfl (Val.load rfl Ty.sc3 rfl (fun w h => h.cell 7 rfl rfl)) ?_
     refine WP.val rfl rfl rfl (Val.sub (z := n - (1 : Int)) rfl rfl rfl (w64 (by omega) (by omega))) ?_
     refine WP.val rfl rfl rfl (Val.nilCheck rfl rfl) ?_
     refine WP.val rfl rfl rfl (Val.fieldAddr (j := 1) rfl Ty.fo174_1 rfl rfl) ?_
     refine WP.perm pl7 ?_
     refine WP.eff0 rfl rfl (Eff.store rfl Ty.sc3 rfl rfl rfl (by simp) st1) ?_
     rintro _ _ rfl
     refine WP.nx ?_
     refine WPc.sr ?_
     refine WP.val rfl rfl rfl (Val.loadAgg (cs := [.int .i64 ((D.2.getD El0).k), .int .i64 ((D.2.getD El0).v)]) rfl Ty.ag55 rfl rfl (fun w h => h.range 5 rfl rfl)) ?_
     refine WP.val rfl rfl rfl (Val.move rfl rfl) ?_
     refine WP.perm pl8 ?_
     refine WP.eff0 rfl rfl (Eff.storeAgg (cs := [.int .i64 ((D.2.getD El0).k), .int .i64 ((D.2.getD El0).v)]) (C' := [.int .i64 ((D.2.getD El0).k), .int .i64 ((D.2.getD El0).v)]) rfl Ty.ag55 rfl rfl rfl rfl (by simp) rfl) ?_
     rintro _ _ rfl
     refine WP.val rfl rfl rfl (Val.assign rfl rfl) ?_
     refine WP.nx ?_
     refine WPc.ret ?_
     have hsh : shrink ht D.1 = (ht, D.1) := by unfold shrink; rw [if_neg (by rintro ⟨q1, q2⟩; omega)]
     iterate 4 (refine Out.perm pl5 ?_)
     refine Out.conv (fun w h => Sat.ndMk (c := c) (h := ht) (t := D.1) (ks := ks1) hk1 hl1 h) ?_
     show Out _ _ _ _ _ (Nd c ht (p, D.1) :: Blk b2 [.int .i64 ((D.2.getD El0).k), .int .i64 ((D.2.getD El0).v)] 55 :: Blk tb [.int .i64 (((d : Nat) : Int)), .int .i64 (n - (1 : Int)), .pointer (some ⟨p, 0, none⟩), .pointer (some ⟨c, 0, none⟩)] 174 :: _)
     refine Out.perm pl3 ?_
     refine Out.drop ?_
     refine Out.perm pl5 ?_
     refine Out.drop ?_
     refine Out.perm pl4 ?_
     refine Out.perm pl4 ?_
     refine Out.perm pl2 ?_
     refine Out.perm pl4 ?_
     refine Out.perm pl4 ?_
     exact Out.retRun (L' := _) (results_ct Try.results104 rfl Ty.ag55 rfl rfl (fun w h => h.range 0 rfl rfl)) ⟨p, by rw [← hD]; rfl, by rw [← hD, hsh]⟩ (fun w h => h.drop)
    ·
     have h16 : (D.2.isSome) = false := h16
     rw [hDs] at h16; cases h16

end Go.Proofs.Ythmkdioafjmclaa.Bt11
