import Derived.Test.YthmkdioafjmclaaSlTerse
import Derived.Test.YthmkdioafjmclaaBt7
namespace Go.Proofs.Ythmkdioafjmclaa.Bt8
open Go.RowKit Go.Proofs.Ythmkdioafjmclaa Go.Proofs.Ythmkdioafjmclaa.Sl Go.Proofs.Ythmkdioafjmclaa.Bt Go.Proofs.Ythmkdioafjmclaa.Bt2 Go.Proofs.Ythmkdioafjmclaa.Bt3 Go.Proofs.Ythmkdioafjmclaa.Bt4 Go.Proofs.Ythmkdioafjmclaa.Bt5 Go.Proofs.Ythmkdioafjmclaa.Bt6 Go.Proofs.Ythmkdioafjmclaa.Bt7
set_option linter.unusedVariables false
set_option linter.unusedSimpArgs false
set_option linter.unusedSectionVars false


def M_ (d : Nat) : Nat := d * 2 - 1
/-- ReplaceOrInsert at a root -/
def rins (M h : Nat) (t : Tr) (x : El) : (Nat × Tr) × Option El :=
 if M ≤ t.is.length then ((h + 1, (ins M (h + 1) (.nd [t.is.getD (M / 2) El0] [.nd (t.is.take (M / 2)) (t.ks.take (M / 2 + 1)), .nd (t.is.drop (M / 2 + 1)) (t.ks.drop (M / 2 + 1))]) x).1), (ins M (h + 1) (.nd [t.is.getD (M / 2) El0] [.nd (t.is.take (M / 2)) (t.ks.take (M / 2 + 1)), .nd (t.is.drop (M / 2 + 1)) (t.ks.drop (M / 2 + 1))]) x).2)
 else ((h, (ins M h t x).1), (ins M h t x).2)
set_option maxRecDepth 100000 in
set_option maxHeartbeats 2000000 in
theorem maxi_spec (c d tb : Nat) (n : Int) (r : Value) (hd1 : 1 ≤ d) (hd2 : d ≤ 100) : Does Try.prog 101 [.pointer (some ⟨tb, 0, none⟩)] [Blk tb [.int .i64 (((d : Nat) : Int)), .int .i64 (n), r, .pointer (some ⟨c, 0, none⟩)] 174] (fun v L => v = .int .i64 ((d * 2 - 1 : Nat) : Int) ∧ L = [Blk tb [.int .i64 ((d : Nat) : Int), .int .i64 n, r, .pointer (some ⟨c, 0, none⟩)] 174]) := by
 refine Does.enter 9 Try.func101 rfl rfl rfl fun W F => ?_
 show WPc _ _ _ _ _ [(0, .pointer (some ⟨tb, 0, none⟩))] (Blk tb [.int .i64 (((d : Nat) : Int)), .int .i64 (n), r, .pointer (some ⟨c, 0, none⟩)] 174 :: F)
 refine WPc.sr ?_
 refine WP.val rfl rfl rfl (Val.assign rfl rfl) ?_
 refine WP.nx ?_
 refine WPc.sr ?_
 refine WP.val rfl rfl rfl (Val.move rfl rfl) ?_
 refine WP.val rfl rfl rfl (Val.nilCheck rfl rfl) ?_
 refine WP.val rfl rfl rfl (Val.fieldAddr (j := 0) rfl Ty.fo174_0 rfl rfl) ?_
 refine WP.val rfl rfl rfl (Val.load rfl Ty.sc3 rfl (fun w h => h.cell 0 rfl rfl)) ?_
 refine WP.val rfl rfl rfl (Val.mul (z := ((d * 2 : Nat) : Int)) rfl rfl rfl ((w64 (by omega) (by omega)).trans (by omega))) ?_
 refine WP.val rfl rfl rfl (Val.sub (z := (((d * 2) - 1 : Nat) : Int)) rfl rfl rfl ((w64 (by omega) (by omega)).trans (by omega))) ?_
 refine WP.val rfl rfl rfl (Val.assign rfl rfl) ?_
 refine WP.nx ?_
 refine WPc.ret ?_
 exact Out.ret1 (L' := _) Try.results101 rfl ⟨rfl, rfl⟩ (fun _ h => h)
set_option maxRecDepth 100000 in
set_option maxHeartbeats 2000000 in
theorem mini_spec (c d tb : Nat) (n : Int) (r : Value) (hd1 : 1 ≤ d) (hd2 : d ≤ 100) : Does Try.prog 129 [.pointer (some ⟨tb, 0, none⟩)] [Blk tb [.int .i64 (((d : Nat) : Int)), .int .i64 (n), r, .pointer (some ⟨c, 0, none⟩)] 174] (fun v L => v = .int .i64 ((d - 1 : Nat) : Int) ∧ L = [Blk tb [.int .i64 ((d : Nat) : Int), .int .i64 n, r, .pointer (some ⟨c, 0, none⟩)] 174]) := by
 refine Does.enter 8 Try.func129 rfl rfl rfl fun W F => ?_
 show WPc _ _ _ _ _ [(0, .pointer (some ⟨tb, 0, none⟩))] (Blk tb [.int .i64 (((d : Nat) : Int)), .int .i64 (n), r, .pointer (some ⟨c, 0, none⟩)] 174 :: F)
 refine WPc.sr ?_
 refine WP.val rfl rfl rfl (Val.assign rfl rfl) ?_
 refine WP.nx ?_
 refine WPc.sr ?_
 refine WP.val rfl rfl rfl (Val.move rfl rfl) ?_
 refine WP.val rfl rfl rfl (Val.nilCheck rfl rfl) ?_
 refine WP.val rfl rfl rfl (Val.fieldAddr (j := 0) rfl Ty.fo174_0 rfl rfl) ?_
 refine WP.val rfl rfl rfl (Val.load rfl Ty.sc3 rfl (fun w h => h.cell 0 rfl rfl)) ?_
 refine WP.val rfl rfl rfl (Val.sub (z := ((d - 1 : Nat) : Int)) rfl rfl rfl ((w64 (by omega) (by omega)).trans (by omega))) ?_
 refine WP.val rfl rfl rfl (Val.assign rfl rfl) ?_
 refine WP.nx ?_
 refine WPc.ret ?_
 exact Out.ret1 (L' := _) Try.results129 rfl ⟨rfl, rfl⟩ (fun _ h => h)
set_option maxRecDepth 100000 in
set_option maxHeartbeats 2000000 in
theorem roi_nil (c f d tb : Nat) (n : Int) (hn0 : 0 ≤ n) (hn1 : n < 1000000) (x : El) : Does Try.prog 74 [.pointer (some ⟨tb, 0, none⟩), .agg #[.int .i64 (x.k), .int .i64 (x.v)]] [Blk tb [.int .i64 (((d : Nat) : Int)), .int .i64 (n), .pointer none, .pointer (some ⟨c, 0, none⟩)] 174, Blk c [.pointer (some ⟨f, 0, none⟩), .func (.func 53) #[] #[]] 170, FL f] (fun v L => ∃ p, v = opv none ∧ L = [Blk tb [.int .i64 ((d : Nat) : Int), .int .i64 (n + 1), .pointer (some ⟨p, 0, none⟩), .pointer (some ⟨c, 0, none⟩)] 174, Nd c 0 (p, Tr.nd [x] []), Blk c [.pointer (some ⟨f, 0, none⟩), .func (.func 53) #[] #[]] 170, FL f]) := by
 refine Does.enter 148 Try.func74 rfl rfl rfl fun W F => ?_
 show WPc _ _ _ _ _ [(0, .pointer (some ⟨tb, 0, none⟩)), (1, .agg #[.int .i64 (x.k), .int .i64 (x.v)])] (Blk tb [.int .i64 (((d : Nat) : Int)), .int .i64 (n), .pointer none, .pointer (some ⟨c, 0, none⟩)] 174 :: Blk c [.pointer (some ⟨f, 0, none⟩), .func (.func 53) #[] #[]] 170 :: FL f :: F)
 refine WPc.sr ?_
 refine WP.eff rfl rfl rfl (Eff.box (C := [.int .i64 (x.k), .int .i64 (x.v)]) rfl rfl rfl) ?_
 rintro _ _ ⟨b1, rfl, rfl⟩
 refine WP.eff rfl rfl rfl (Eff.alloc rfl Ty.z55) ?_
 rintro _ _ ⟨b2, rfl, rfl⟩
 refine WP.val rfl rfl rfl (Val.assign rfl rfl) ?_
 refine WP.nx ?_
 refine WPc.seq ?_
 refine WPc.sr ?_
 refine WP.val rfl rfl rfl (Val.move rfl rfl) ?_
 refine WP.val rfl rfl rfl (Val.nilCheck rfl rfl) ?_
 refine WP.val rfl rfl rfl (Val.fieldAddr (j := 2) rfl Ty.fo174_2 rfl rfl) ?_
 refine WP.val rfl rfl rfl (Val.load rfl Ty.sc171 rfl (fun w h => h.cell 2 rfl rfl)) ?_
 refine WP.val rfl rfl rfl (Val.nilP rfl Ty.ip171 rfl rfl) ?_
 refine WP.nx ?_
 refine WPc.condT rfl rfl ?_
 refine WPc.sr ?_
 refine WP.val rfl rfl rfl (Val.move rfl rfl) ?_
 refine WP.val rfl rfl rfl (Val.move rfl rfl) ?_
 refine WP.val rfl rfl rfl (Val.nilCheck rfl rfl) ?_
 refine WP.val rfl rfl rfl (Val.fieldAddr (j := 3) rfl Ty.fo174_3 rfl rfl) ?_
 refine WP.val rfl rfl rfl (Val.load rfl Ty.sc172 rfl (fun w h => h.cell 2 rfl rfl)) ?_
 refine WP.perm pl4 ?_
 refine WP.perm pl4 ?_
 refine WP.eff rfl rfl rfl (Eff.call rfl rfl Try.call99 (cownew_spec c f)) ?_
 rintro _ _ ⟨_, ⟨pq, w1q, w2q, rfl, rfl⟩, rfl⟩
 show WP _ _ _ _ _ _ _ (Blk pq [w1q, w2q, .pointer (some ⟨c, 0, none⟩)] 213 :: Own 55 2 w1q 0 ([]) :: Own 171 1 w2q 0 ([]) :: _ :: _ :: Blk b2 [.int .i64 0, .int .i64 0] 55 :: Blk b1 [.int .i64 (x.k), .int .i64 (x.v)] 55 :: _)
 refine WP.val rfl rfl rfl (Val.nilCheck rfl rfl) ?_
 refine WP.val rfl rfl rfl (Val.fieldAddr (j := 2) rfl Ty.fo174_2 rfl rfl) ?_
 refine WP.perm pl7 ?_
 refine WP.eff0 rfl rfl (Eff.store rfl Ty.sc171 rfl rfl rfl (by simp) st2) ?_
 rintro _ _ rfl
 refine WP.nx ?_
 refine WPc.seq ?_
 refine WPD.start (Sat W [Blk tb [.int .i64 (((d : Nat) : Int)), .int .i64 (n), .pointer (some ⟨pq, 0, none⟩), .pointer (some ⟨c, 0, none⟩)] 174, Blk pq [w1q, w2q, .pointer (some ⟨c, 0, none⟩)] 213, Blk b1 [.int .i64 (x.k), .int .i64 (x.v)] 55]) Ty.mixed ?_
 refine WPD.tS 0 rfl rfl rfl rfl (fun w h => ((((h.perm pl7).perm pl2).perm pl2)).dropEnd (L := [_, _, _])) (Val.move rfl rfl) ?_
 refine WPD.tS 1 rfl rfl rfl rfl (fun w h => ((((h.perm pl7).perm pl2).perm pl2)).dropEnd (L := [_, _, _])) (Val.nilCheck rfl rfl) ?_
 refine WPD.tS 2 rfl rfl rfl rfl (fun w h => ((((h.perm pl7).perm pl2).perm pl2)).dropEnd (L := [_, _, _])) (Val.fieldAddr (j := 2) rfl Ty.fo174_2 rfl rfl) ?_
 refine WPD.tL 3 rfl rfl rfl rfl (fun w h => ((((h.perm pl7).perm pl2).perm pl2)).dropEnd (L := [_, _, _])) (Val.load rfl Ty.sc171 rfl (fun w h => h.cell 0 rfl rfl)) ?_
 refine WPD.tS 4 rfl rfl rfl rfl (fun w h => ((((h.perm pl7).perm pl2).perm pl2)).dropEnd (L := [_, _, _])) (Val.move rfl rfl) ?_
 refine WPD.tS 5 rfl rfl rfl rfl (fun w h => ((((h.perm pl7).perm pl2).perm pl2)).dropEnd (L := [_, _, _])) (Val.nilCheck rfl rfl) ?_
 refine WPD.tS 6 rfl rfl rfl rfl (fun w h => ((((h.perm pl7).perm pl2).perm pl2)).dropEnd (L := [_, _, _])) (Val.fieldAddr (j := 2) rfl Ty.fo174_2 rfl rfl) ?_
 refine WPD.tL 7 rfl rfl rfl rfl (fun w h => ((((h.perm pl7).perm pl2).perm pl2)).dropEnd (L := [_, _, _])) (Val.load rfl Ty.sc171 rfl (fun w h => h.cell 0 rfl rfl)) ?_
 refine WPD.tS 8 rfl rfl rfl rfl (fun w h => ((((h.perm pl7).perm pl2).perm pl2)).dropEnd (L := [_, _, _])) (Val.nilCheck rfl rfl) ?_
 refine WPD.tS 9 rfl rfl rfl rfl (fun w h => ((((h.perm pl7).perm pl2).perm pl2)).dropEnd (L := [_, _, _])) (Val.fieldAddr (j := 0) rfl Ty.fo213_0 rfl rfl) ?_
 refine WPD.tL 10 rfl rfl rfl rfl (fun w h => ((((h.perm pl7).perm pl2).perm pl2)).dropEnd (L := [_, _, _])) (Val.load rfl Ty.sc210 rfl (fun w h => h.cell 1 rfl rfl)) ?_
 refine WPD.tL 11 rfl rfl rfl rfl (fun w h => ((((h.perm pl7).perm pl2).perm pl2)).dropEnd (L := [_, _, _])) (Val.loadAgg (cs := [.int .i64 (x.k), .int .i64 (x.v)]) rfl Ty.ag55 rfl rfl (fun w h => h.range 2 rfl rfl)) ?_
 refine WPD.step 12 (by kernel_rfl) rfl rfl rfl rfl (Eff.mkSlice (C := [.int .i64 (x.k), .int .i64 (x.v)]) rfl Ty.sl210 rfl (fun _ => by kernel_rfl)) ?_
 rintro _ _ ⟨b3, rfl, rfl⟩
 refine ⟨(fun w h => ((((h.perm pl8).perm pl3).perm pl3)).dropEnd (L := [_, _, _])), ?_⟩
 refine WPD.perm pl3 ?_
 refine WPD.step 13 (by kernel_rfl) rfl rfl rfl rfl (Eff.append (m := 1) (n0 := 0) (news := [.int .i64 (x.k), .int .i64 (x.v)]) rfl Ty.sl210 Ty.z55 rfl rfl rfl (.slice Ty.sl210 rfl rfl (fun w h => cells_range (h.range 1 rfl rfl))) (by omega) (by omega)) ?_
 rintro v4 _ ⟨onev4, rfl⟩
 refine ⟨(fun w h => ((((h.perm pl8).perm pl4).perm pl4)).dropEnd (L := [_, _, _])), ?_⟩
 refine WPD.tS 14 rfl rfl rfl rfl (fun w h => ((((h.perm pl8).perm pl4).perm pl4)).dropEnd (L := [_, _, _])) (Val.nilCheck rfl rfl) ?_
 refine WPD.tS 15 rfl rfl rfl rfl (fun w h => ((((h.perm pl8).perm pl4).perm pl4)).dropEnd (L := [_, _, _])) (Val.fieldAddr (j := 0) rfl Ty.fo213_0 rfl rfl) ?_
 refine WPD.perm pl3 ?_
 refine WPD.stepC0 16 (by kernel_rfl) rfl rfl rfl (by kernel_rfl) (Eff.store rfl Ty.sc210 rfl rfl onev4 (by simp) st0) ?_
 rintro _ _ rfl
 refine ⟨_, (fun _ h => h), ?_⟩
 refine WPD.done (by kernel_rfl) ?_
 refine Out.next ?_
 refine WPc.sr ?_
 refine WP.val rfl rfl rfl (Val.move rfl rfl) ?_
 refine WP.val rfl rfl rfl (Val.nilCheck rfl rfl) ?_
 refine WP.val rfl rfl rfl (Val.fieldAddr (j := 1) rfl Ty.fo174_1 rfl rfl) ?_
 refine WP.val rfl rfl rfl (Val.load rfl Ty.sc3 rfl (fun w h => h.cell 3 rfl rfl)) ?_
 refine WP.val rfl rfl rfl (Val.add (z := n + (1 : Int)) rfl rfl rfl (w64 (by omega) (by omega))) ?_
 refine WP.val rfl rfl rfl (Val.nilCheck rfl rfl) ?_
 refine WP.val rfl rfl rfl (Val.fieldAddr (j := 1) rfl Ty.fo174_1 rfl rfl) ?_
 refine WP.perm pl3 ?_
 refine WP.eff0 rfl rfl (Eff.store rfl Ty.sc3 rfl rfl rfl (by simp) st1) ?_
 rintro _ _ rfl
 refine WP.nx ?_
 refine WPc.ret ?_
 refine Out.then_ret ?_
 refine Out.perm pl2 ?_
 refine Out.c1 (B := Own 55 2 v4 ((Tr.nd [x] []).is.length) (flatOf El.cells (Tr.nd [x] []).is)) (fun w h => by exact h) ?_
 refine Out.conv (fun w h => Sat.kNil (R := Rk c 0) h) ?_
 refine Out.perm pl5 ?_
 refine Out.perm pl2 ?_
 refine Out.perm pl4 ?_
 refine Out.conv (fun w h => Sat.ndMk (c := c) (h := 0) (t := (Tr.nd [x] [])) (ks := []) rfl (fun _ => rfl) h) ?_
 show Out _ _ _ _ _ (Nd c 0 (pq, (Tr.nd [x] [])) :: Blk tb [.int .i64 (((d : Nat) : Int)), .int .i64 (n + (1 : Int)), .pointer (some ⟨pq, 0, none⟩), .pointer (some ⟨c, 0, none⟩)] 174 :: Blk b3 [.int .i64 (x.k), .int .i64 (x.v)] 55 :: _)
 refine Out.perm pl2 ?_
 refine Out.drop ?_
 refine Out.perm pl5 ?_
 refine Out.drop ?_
 refine Out.perm pl3 ?_
 refine Out.perm pl3 ?_
 refine Out.perm pl2 ?_
 refine Out.perm pl3 ?_
 refine Out.perm pl4 ?_
 exact Out.retRun (L' := _) (results_ct Try.results74 rfl Ty.ag55 rfl rfl (fun w h => h.range 0 rfl rfl)) ⟨_, rfl, rfl⟩ (fun w h => h.drop)

theorem root_bal {m M h : Nat} {t : Tr} {y : El} {q : Nat} (hM : M = 2 * m + 1) (hb : Bal m M h t) (hl : M ≤ t.is.length) (hq : q = m) : Bal m M (h + 1) (.nd [y] [.nd (t.is.take q) (t.ks.take (q + 1)), .nd (t.is.drop (q + 1)) (t.ks.drop (q + 1))]) := by
 subst hq
 obtain ⟨b1, b2, l1, l2⟩ := split_bal hM hb hl
 refine ⟨rfl, (show 1 ≤ M by omega), fun k hk => ?_⟩
 have hk : k ∈ [Tr.nd (t.is.take q) (t.ks.take (q + 1)), Tr.nd (t.is.drop (q + 1)) (t.ks.drop (q + 1))] := hk
 simp only [List.mem_cons, List.not_mem_nil, or_false] at hk
 rcases hk with rfl | rfl
 ·
  exact ⟨by show q ≤ (t.is.take q).length; omega, b1⟩
 ·
  exact ⟨by show q ≤ (t.is.drop (q + 1)).length; omega, b2⟩
set_option maxRecDepth 100000 in
set_option maxHeartbeats 2000000 in
theorem roi_some (c f d tb m M : Nat) (n : Int) (hn0 : 0 ≤ n) (hn1 : n < 1000000) (hd1 : 2 ≤ d) (hd2 : d ≤ 100) (hM : M = 2 * m + 1) (hMd0 : M = d * 2 - 1) (x : El) (ht p : Nat) (t : Tr) (hbal : Bal m M ht t) : Does Try.prog 74 [.pointer (some ⟨tb, 0, none⟩), .agg #[.int .i64 (x.k), .int .i64 (x.v)]] [Blk tb [.int .i64 (((d : Nat) : Int)), .int .i64 (n), .pointer (some ⟨p, 0, none⟩), .pointer (some ⟨c, 0, none⟩)] 174, Nd c ht (p, t), Blk c [.pointer (some ⟨f, 0, none⟩), .func (.func 53) #[] #[]] 170, FL f] (fun v L => ∃ p2, v = opv (rins (d * 2 - 1) ht t x).2 ∧ L = [Blk tb [.int .i64 ((d : Nat) : Int), .int .i64 (if (rins (d * 2 - 1) ht t x).2.isSome = true then n else n + 1), .pointer (some ⟨p2, 0, none⟩), .pointer (some ⟨c, 0, none⟩)] 174, Nd c (rins (d * 2 - 1) ht t x).1.1 (p2, (rins (d * 2 - 1) ht t x).1.2), Blk c [.pointer (some ⟨f, 0, none⟩), .func (.func 53) #[] #[]] 170, FL f]) := by
 refine Does.enter 148 Try.func74 rfl rfl rfl fun W F => ?_
 show WPc _ _ _ _ _ [(0, .pointer (some ⟨tb, 0, none⟩)), (1, .agg #[.int .i64 (x.k), .int .i64 (x.v)])] (Blk tb [.int .i64 (((d : Nat) : Int)), .int .i64 (n), .pointer (some ⟨p, 0, none⟩), .pointer (some ⟨c, 0, none⟩)] 174 :: Nd c ht (p, t) :: Blk c [.pointer (some ⟨f, 0, none⟩), .func (.func 53) #[] #[]] 170 :: FL f :: F)
 refine WPc.sr ?_
 refine WP.eff rfl rfl rfl (Eff.box (C := [.int .i64 (x.k), .int .i64 (x.v)]) rfl rfl rfl) ?_
 rintro _ _ ⟨b1, rfl, rfl⟩
 refine WP.eff rfl rfl rfl (Eff.alloc rfl Ty.z55) ?_
 rintro _ _ ⟨b2, rfl, rfl⟩
 refine WP.val rfl rfl rfl (Val.assign rfl rfl) ?_
 refine WP.nx ?_
 refine WPc.seq ?_
 refine WPc.sr ?_
 refine WP.val rfl rfl rfl (Val.move rfl rfl) ?_
 refine WP.val rfl rfl rfl (Val.nilCheck rfl rfl) ?_
 refine WP.val rfl rfl rfl (Val.fieldAddr (j := 2) rfl Ty.fo174_2 rfl rfl) ?_
 refine WP.val rfl rfl rfl (Val.load rfl Ty.sc171 rfl (fun w h => h.cell 2 rfl rfl)) ?_
 refine WP.val rfl rfl rfl (Val.nilP rfl Ty.ip171 rfl rfl) ?_
 refine WP.nx ?_
 refine WPc.condF rfl rfl ?_
 refine WPc.skip ?_
 refine Out.next ?_
 refine WPc.seq ?_
 have hle := hbal.le
 have hMd : M = d * 2 - 1 := hMd0
 refine WPc.perm pl3 ?_
 refine WPc.open (fun w h => h.ndOpen) ?_
 rintro ⟨vi, vc, ks⟩
 refine WPc.pure (fun hk => ?_)
 obtain ⟨hk, hl⟩ := hk
 dsimp only at hk hl
 have hkl := ks_len hk
 show WPc _ _ _ _ _ _ (Blk p [vi, vc, .pointer (some ⟨c, 0, none⟩)] 213 :: Own 55 2 vi t.is.length (flatOf El.cells t.is) :: Own 171 1 vc ks.length (flatOf vcf (kp ks)) :: Kds (Rk c ht) ks :: Blk b2 [.int .i64 0, .int .i64 0] 55 :: Blk b1 [.int .i64 (x.k), .int .i64 (x.v)] 55 :: _)
 refine WPD.s0 Ty.mixed ?_
 refine WPD.tM 0 rfl rfl rfl rfl (Val.move rfl rfl) ?_
 refine WPD.tM 1 rfl rfl rfl rfl (Val.move rfl rfl) ?_
 refine WPD.tM 2 rfl rfl rfl rfl (Val.nilCheck rfl rfl) ?_
 refine WPD.tM 3 rfl rfl rfl rfl (Val.fieldAddr (j := 2) rfl Ty.fo174_2 rfl rfl) ?_
 refine WPD.tL 4 rfl rfl rfl rfl (fun _ h => h) (Val.load rfl Ty.sc171 rfl (fun w h => h.cell 6 rfl rfl)) ?_
 refine WPD.tM 5 rfl rfl rfl rfl (Val.move rfl rfl) ?_
 refine WPD.tM 6 rfl rfl rfl rfl (Val.nilCheck rfl rfl) ?_
 refine WPD.tM 7 rfl rfl rfl rfl (Val.fieldAddr (j := 3) rfl Ty.fo174_3 rfl rfl) ?_
 refine WPD.tL 8 rfl rfl rfl rfl (fun _ h => h) (Val.load rfl Ty.sc172 rfl (fun w h => h.cell 6 rfl rfl)) ?_
 refine WPD.stepC 9 (by kernel_rfl) rfl rfl rfl rfl (by kernel_rfl) (Eff.call rfl rfl Try.call100 (mut_spec c p vi vc)) ?_
 rintro _ _ ⟨_, ⟨rfl, rfl⟩, rfl⟩
 refine ⟨_, (fun _ h => h), ?_⟩
 refine WPD.tM 10 rfl rfl rfl rfl (Val.nilCheck rfl rfl) ?_
 refine WPD.tM 11 rfl rfl rfl rfl (Val.fieldAddr (j := 2) rfl Ty.fo174_2 rfl rfl) ?_
 refine WPD.perm pl6 ?_
 refine WPD.stepC0 12 (by kernel_rfl) rfl rfl rfl (by kernel_rfl) (Eff.store rfl Ty.sc171 rfl rfl rfl (by simp) st2) ?_
 rintro _ _ rfl
 refine ⟨_, (fun _ h => h), ?_⟩
 refine WPD.done (by kernel_rfl) ?_
 refine Out.next ?_
 refine WPc.seq ?_
 refine WPc.seq ?_
 refine WPD.start (Sat W [Blk tb [.int .i64 (((d : Nat) : Int)), .int .i64 (n), .pointer (some ⟨p, 0, none⟩), .pointer (some ⟨c, 0, none⟩)] 174, Blk p [vi, vc, .pointer (some ⟨c, 0, none⟩)] 213, Own 55 2 vi t.is.length (flatOf El.cells t.is)]) Ty.mixed ?_
 refine WPD.tS 0 rfl rfl rfl rfl (fun w h => ((((h.perm pl2).perm pl2).perm pl2)).dropEnd (L := [_, _, _])) (Val.move rfl rfl) ?_
 refine WPD.tS 1 rfl rfl rfl rfl (fun w h => ((((h.perm pl2).perm pl2).perm pl2)).dropEnd (L := [_, _, _])) (Val.nilCheck rfl rfl) ?_
 refine WPD.tS 2 rfl rfl rfl rfl (fun w h => ((((h.perm pl2).perm pl2).perm pl2)).dropEnd (L := [_, _, _])) (Val.fieldAddr (j := 2) rfl Ty.fo174_2 rfl rfl) ?_
 refine WPD.tL 3 rfl rfl rfl rfl (fun w h => ((((h.perm pl2).perm pl2).perm pl2)).dropEnd (L := [_, _, _])) (Val.load rfl Ty.sc171 rfl (fun w h => h.cell 0 rfl rfl)) ?_
 refine WPD.tS 4 rfl rfl rfl rfl (fun w h => ((((h.perm pl2).perm pl2).perm pl2)).dropEnd (L := [_, _, _])) (Val.nilCheck rfl rfl) ?_
 refine WPD.tS 5 rfl rfl rfl rfl (fun w h => ((((h.perm pl2).perm pl2).perm pl2)).dropEnd (L := [_, _, _])) (Val.fieldAddr (j := 0) rfl Ty.fo213_0 rfl rfl) ?_
 refine WPD.tL 6 rfl rfl rfl rfl (fun w h => ((((h.perm pl2).perm pl2).perm pl2)).dropEnd (L := [_, _, _])) (Val.load rfl Ty.sc210 rfl (fun w h => h.cell 1 rfl rfl)) ?_
 refine WPD.tL 7 rfl rfl rfl rfl (fun w h => ((((h.perm pl2).perm pl2).perm pl2)).dropEnd (L := [_, _, _])) (Val.lenOwn rfl Ty.sl210 rfl (fun w h => h.at 2 rfl)) ?_
 refine WPD.tS 8 rfl rfl rfl rfl (fun w h => ((((h.perm pl2).perm pl2).perm pl2)).dropEnd (L := [_, _, _])) (Val.move rfl rfl) ?_
 refine WPD.step 9 (by kernel_rfl) rfl rfl rfl rfl (Eff.call rfl rfl Try.call101 (maxi_spec c d tb n (.pointer (some ⟨p, 0, none⟩)) (by omega) (by omega))) ?_
 rintro _ _ ⟨_, ⟨rfl, rfl⟩, rfl⟩
 refine ⟨(fun w h => ((((h.perm pl2).perm pl2).perm pl2)).dropEnd (L := [_, _, _])), ?_⟩
 refine WPD.tS 10 rfl rfl rfl rfl (fun w h => ((((h.perm pl2).perm pl2).perm pl2)).dropEnd (L := [_, _, _])) (Val.geq rfl rfl rfl) ?_
 refine WPD.done (by kernel_rfl) ?_
 refine Out.next ?_
 refine WPc.ifP rfl (fun h1 => ?_) (fun h1 => ?_)
 ·
  have h1 : (((d * 2 - 1 : Nat) : Int) ≤ ((t.is.length : Nat) : Int)) := h1
  refine WPc.seq ?_
  iterate 4 (refine WPc.perm pl4 ?_)
  refine WPc.conv (fun w h => Sat.ndMk (c := c) (h := ht) (t := t) (ks := ks) hk hl h) ?_
  show WPc _ _ _ _ _ _ (Nd c ht (p, t) :: _)
  obtain ⟨y, hy⟩ : ∃ y, t.is[(d * 2 - 1) / 2]? = some y := ⟨_, List.getElem?_eq_getElem (by omega)⟩
  refine WPD.start (Sat W [Blk tb [.int .i64 (((d : Nat) : Int)), .int .i64 (n), .pointer (some ⟨p, 0, none⟩), .pointer (some ⟨c, 0, none⟩)] 174]) Ty.mixed ?_
  refine WPD.tS 0 rfl rfl rfl rfl (fun w h => ((h.perm pl1)).dropEnd (L := [_])) (Val.move rfl rfl) ?_
  refine WPD.tS 1 rfl rfl rfl rfl (fun w h => ((h.perm pl1)).dropEnd (L := [_])) (Val.nilCheck rfl rfl) ?_
  refine WPD.tS 2 rfl rfl rfl rfl (fun w h => ((h.perm pl1)).dropEnd (L := [_])) (Val.fieldAddr (j := 2) rfl Ty.fo174_2 rfl rfl) ?_
  refine WPD.tL 3 rfl rfl rfl rfl (fun w h => ((h.perm pl1)).dropEnd (L := [_])) (Val.load rfl Ty.sc171 rfl (fun w h => h.cell 0 rfl rfl)) ?_
  refine WPD.tS 4 rfl rfl rfl rfl (fun w h => ((h.perm pl1)).dropEnd (L := [_])) (Val.move rfl rfl) ?_
  refine WPD.pick2 5 11 (by kernel_rfl) ?_ ?_
  ·
   refine WPO.perm pl1 ?_
   refine WPO.step rfl rfl rfl rfl (Eff.call rfl rfl Try.call101 (maxi_spec c d tb n (.pointer (some ⟨p, 0, none⟩)) (by omega) (by omega))) ?_
   rintro _ _ ⟨_, ⟨rfl, rfl⟩, rfl⟩
   refine ⟨(fun w h => (h).dropEnd (L := [_])), ?_⟩
   refine WPD.tS 6 rfl rfl rfl rfl (fun w h => (h).dropEnd (L := [_])) (Val.quo (z := (((d * 2 - 1) / 2 : Nat) : Int)) rfl rfl rfl (by omega) (show IntKind.i64.wrap (((d * 2 - 1) / 2 : Nat) : Int) = _ from w64 (by omega) (by omega))) ?_
   refine WPD.pick2 7 11 (by kernel_rfl) ?_ ?_
   ·
    refine WPO.perm pl5 ?_
    refine WPO.perm pl5 ?_
    refine WPO.perm pl3 ?_
    refine WPO.step rfl rfl rfl rfl (Eff.call rfl rfl Try.call102 (split_spec c f ht p ((d * 2 - 1) / 2) t y hy (by omega) (by omega) (by omega))) ?_
    rintro _ _ ⟨_, ⟨p2, rfl, rfl⟩, rfl⟩
    refine ⟨(fun w h => ((h.perm pl4)).dropEnd (L := [_])), ?_⟩
    show WPD _ _ _ _ _ _ _ _ _ (Nd c ht (p, (Tr.nd (t.is.take ((d * 2 - 1) / 2)) (t.ks.take ((d * 2 - 1) / 2 + 1)))) :: Nd c ht (p2, (Tr.nd (t.is.drop ((d * 2 - 1) / 2 + 1)) (t.ks.drop ((d * 2 - 1) / 2 + 1)))) :: _)
    refine WPD.tS 8 rfl rfl rfl rfl (fun w h => ((h.perm pl4)).dropEnd (L := [_])) (Val.move rfl rfl) ?_
    refine WPD.tS 9 rfl rfl rfl rfl (fun w h => ((h.perm pl4)).dropEnd (L := [_])) (Val.extract rfl rfl rfl) ?_
    refine WPD.tS 10 rfl rfl rfl rfl (fun w h => ((h.perm pl4)).dropEnd (L := [_])) (Val.extract rfl rfl rfl) ?_
    refine WPD.step 11 (by kernel_rfl) rfl rfl rfl rfl (Eff.alloc rfl Ty.z55) ?_
    rintro _ _ ⟨b3, rfl, rfl⟩
    refine ⟨(fun w h => ((h.perm pl5)).dropEnd (L := [_])), ?_⟩
    refine WPD.stepC0 12 (by kernel_rfl) rfl rfl rfl (by kernel_rfl) (Eff.storeAgg (cs := [.int .i64 (y.k), .int .i64 (y.v)]) (C' := [.int .i64 (y.k), .int .i64 (y.v)]) rfl Ty.ag55 rfl rfl rfl rfl (by simp) rfl) ?_
    rintro _ _ rfl
    refine ⟨_, (fun _ h => h), ?_⟩
    refine WPD.tM 13 rfl rfl rfl rfl (Val.assign rfl rfl) ?_
    refine WPD.done (by kernel_rfl) ?_
    refine Out.next ?_
    refine WPc.sr ?_
    refine WP.val rfl rfl rfl (Val.move rfl rfl) ?_
    refine WP.val rfl rfl rfl (Val.nilCheck rfl rfl) ?_
    refine WP.val rfl rfl rfl (Val.fieldAddr (j := 2) rfl Ty.fo174_2 rfl rfl) ?_
    refine WP.val rfl rfl rfl (Val.load rfl Ty.sc171 rfl (fun w h => h.cell 5 rfl rfl)) ?_
    refine WP.val rfl rfl rfl (Val.assign rfl rfl) ?_
    refine WP.nx ?_
    refine WPc.sr ?_
    refine WP.val rfl rfl rfl (Val.move rfl rfl) ?_
    refine WP.val rfl rfl rfl (Val.move rfl rfl) ?_
    refine WP.val rfl rfl rfl (Val.nilCheck rfl rfl) ?_
    refine WP.val rfl rfl rfl (Val.fieldAddr (j := 3) rfl Ty.fo174_3 rfl rfl) ?_
    refine WP.val rfl rfl rfl (Val.load rfl Ty.sc172 rfl (fun w h => h.cell 5 rfl rfl)) ?_
    refine WP.perm pl4 ?_
    refine WP.perm pl4 ?_
    refine WP.eff rfl rfl rfl (Eff.call rfl rfl Try.call99 (cownew_spec c f)) ?_
    rintro _ _ ⟨_, ⟨pr, w1r, w2r, rfl, rfl⟩, rfl⟩
    show WP _ _ _ _ _ _ _ (Blk pr [w1r, w2r, .pointer (some ⟨c, 0, none⟩)] 213 :: Own 55 2 w1r 0 ([]) :: Own 171 1 w2r 0 ([]) :: _ :: _ :: Blk b3 [.int .i64 (y.k), .int .i64 (y.v)] 55 :: _)
    refine WP.val rfl rfl rfl (Val.nilCheck rfl rfl) ?_
    refine WP.val rfl rfl rfl (Val.fieldAddr (j := 2) rfl Ty.fo174_2 rfl rfl) ?_
    refine WP.perm pl8 ?_
    refine WP.eff0 rfl rfl (Eff.store rfl Ty.sc171 rfl rfl rfl (by simp) st2) ?_
    rintro _ _ rfl
    refine WP.nx ?_
    refine WPc.seq ?_
    refine WPD.start (Sat W [Blk tb [.int .i64 (((d : Nat) : Int)), .int .i64 (n), .pointer (some ⟨pr, 0, none⟩), .pointer (some ⟨c, 0, none⟩)] 174, Blk pr [w1r, w2r, .pointer (some ⟨c, 0, none⟩)] 213, Blk b3 [.int .i64 (y.k), .int .i64 (y.v)] 55]) Ty.mixed ?_
    refine WPD.tS 0 rfl rfl rfl rfl (fun w h => ((((h.perm pl6).perm pl2).perm pl2)).dropEnd (L := [_, _, _])) (Val.move rfl rfl) ?_
    refine WPD.tS 1 rfl rfl rfl rfl (fun w h => ((((h.perm pl6).perm pl2).perm pl2)).dropEnd (L := [_, _, _])) (Val.nilCheck rfl rfl) ?_
    refine WPD.tS 2 rfl rfl rfl rfl (fun w h => ((((h.perm pl6).perm pl2).perm pl2)).dropEnd (L := [_, _, _])) (Val.fieldAddr (j := 2) rfl Ty.fo174_2 rfl rfl) ?_
    refine WPD.tL 3 rfl rfl rfl rfl (fun w h => ((((h.perm pl6).perm pl2).perm pl2)).dropEnd (L := [_, _, _])) (Val.load rfl Ty.sc171 rfl (fun w h => h.cell 0 rfl rfl)) ?_
    refine WPD.tS 4 rfl rfl rfl rfl (fun w h => ((((h.perm pl6).perm pl2).perm pl2)).dropEnd (L := [_, _, _])) (Val.move rfl rfl) ?_
    refine WPD.tS 5 rfl rfl rfl rfl (fun w h => ((((h.perm pl6).perm pl2).perm pl2)).dropEnd (L := [_, _, _])) (Val.nilCheck rfl rfl) ?_
    refine WPD.tS 6 rfl rfl rfl rfl (fun w h => ((((h.perm pl6).perm pl2).perm pl2)).dropEnd (L := [_, _, _])) (Val.fieldAddr (j := 2) rfl Ty.fo174_2 rfl rfl) ?_
    refine WPD.tL 7 rfl rfl rfl rfl (fun w h => ((((h.perm pl6).perm pl2).perm pl2)).dropEnd (L := [_, _, _])) (Val.load rfl Ty.sc171 rfl (fun w h => h.cell 0 rfl rfl)) ?_
    refine WPD.tS 8 rfl rfl rfl rfl (fun w h => ((((h.perm pl6).perm pl2).perm pl2)).dropEnd (L := [_, _, _])) (Val.nilCheck rfl rfl) ?_
    refine WPD.tS 9 rfl rfl rfl rfl (fun w h => ((((h.perm pl6).perm pl2).perm pl2)).dropEnd (L := [_, _, _])) (Val.fieldAddr (j := 0) rfl Ty.fo213_0 rfl rfl) ?_
    refine WPD.tL 10 rfl rfl rfl rfl (fun w h => ((((h.perm pl6).perm pl2).perm pl2)).dropEnd (L := [_, _, _])) (Val.load rfl Ty.sc210 rfl (fun w h => h.cell 1 rfl rfl)) ?_
    refine WPD.tL 11 rfl rfl rfl rfl (fun w h => ((((h.perm pl6).perm pl2).perm pl2)).dropEnd (L := [_, _, _])) (Val.loadAgg (cs := [.int .i64 (y.k), .int .i64 (y.v)]) rfl Ty.ag55 rfl rfl (fun w h => h.range 2 rfl rfl)) ?_
    refine WPD.step 12 (by kernel_rfl) rfl rfl rfl rfl (Eff.mkSlice (C := [.int .i64 (y.k), .int .i64 (y.v)]) rfl Ty.sl210 rfl (fun _ => by kernel_rfl)) ?_
    rintro _ _ ⟨b4, rfl, rfl⟩
    refine ⟨(fun w h => ((((h.perm pl7).perm pl3).perm pl3)).dropEnd (L := [_, _, _])), ?_⟩
    refine WPD.perm pl3 ?_
    refine WPD.step 13 (by kernel_rfl) rfl rfl rfl rfl (Eff.append (m := 1) (n0 := 0) (news := [.int .i64 (y.k), .int .i64 (y.v)]) rfl Ty.sl210 Ty.z55 rfl rfl rfl (.slice Ty.sl210 rfl rfl (fun w h => cells_range (h.range 1 rfl rfl))) (by omega) (by omega)) ?_
    rintro v5 _ ⟨onev5, rfl⟩
    refine ⟨(fun w h => ((((h.perm pl7).perm pl4).perm pl4)).dropEnd (L := [_, _, _])), ?_⟩
    refine WPD.tS 14 rfl rfl rfl rfl (fun w h => ((((h.perm pl7).perm pl4).perm pl4)).dropEnd (L := [_, _, _])) (Val.nilCheck rfl rfl) ?_
    refine WPD.tS 15 rfl rfl rfl rfl (fun w h => ((((h.perm pl7).perm pl4).perm pl4)).dropEnd (L := [_, _, _])) (Val.fieldAddr (j := 0) rfl Ty.fo213_0 rfl rfl) ?_
    refine WPD.perm pl3 ?_
    refine WPD.stepC0 16 (by kernel_rfl) rfl rfl rfl (by kernel_rfl) (Eff.store rfl Ty.sc210 rfl rfl onev5 (by simp) st0) ?_
    rintro _ _ rfl
    refine ⟨_, (fun _ h => h), ?_⟩
    refine WPD.done (by kernel_rfl) ?_
    refine Out.next ?_
    refine WPD.start (Sat W [Blk tb [.int .i64 (((d : Nat) : Int)), .int .i64 (n), .pointer (some ⟨pr, 0, none⟩), .pointer (some ⟨c, 0, none⟩)] 174, Blk pr [v5, w2r, .pointer (some ⟨c, 0, none⟩)] 213]) Ty.mixed ?_
    refine WPD.tS 0 rfl rfl rfl rfl (fun w h => ((h.perm pl3)).dropEnd (L := [_, _])) (Val.move rfl rfl) ?_
    refine WPD.tS 1 rfl rfl rfl rfl (fun w h => ((h.perm pl3)).dropEnd (L := [_, _])) (Val.nilCheck rfl rfl) ?_
    refine WPD.tS 2 rfl rfl rfl rfl (fun w h => ((h.perm pl3)).dropEnd (L := [_, _])) (Val.fieldAddr (j := 2) rfl Ty.fo174_2 rfl rfl) ?_
    refine WPD.tL 3 rfl rfl rfl rfl (fun w h => ((h.perm pl3)).dropEnd (L := [_, _])) (Val.load rfl Ty.sc171 rfl (fun w h => h.cell 0 rfl rfl)) ?_
    refine WPD.tS 4 rfl rfl rfl rfl (fun w h => ((h.perm pl3)).dropEnd (L := [_, _])) (Val.move rfl rfl) ?_
    refine WPD.tS 5 rfl rfl rfl rfl (fun w h => ((h.perm pl3)).dropEnd (L := [_, _])) (Val.nilCheck rfl rfl) ?_
    refine WPD.tS 6 rfl rfl rfl rfl (fun w h => ((h.perm pl3)).dropEnd (L := [_, _])) (Val.fieldAddr (j := 2) rfl Ty.fo174_2 rfl rfl) ?_
    refine WPD.tL 7 rfl rfl rfl rfl (fun w h => ((h.perm pl3)).dropEnd (L := [_, _])) (Val.load rfl Ty.sc171 rfl (fun w h => h.cell 0 rfl rfl)) ?_
    refine WPD.tS 8 rfl rfl rfl rfl (fun w h => ((h.perm pl3)).dropEnd (L := [_, _])) (Val.nilCheck rfl rfl) ?_
    refine WPD.tS 9 rfl rfl rfl rfl (fun w h => ((h.perm pl3)).dropEnd (L := [_, _])) (Val.fieldAddr (j := 1) rfl Ty.fo213_1 rfl rfl) ?_
    refine WPD.tL 10 rfl rfl rfl rfl (fun w h => ((h.perm pl3)).dropEnd (L := [_, _])) (Val.load rfl Ty.sc211 rfl (fun w h => h.cell 1 rfl rfl)) ?_
    refine WPD.tS 11 rfl rfl rfl rfl (fun w h => ((h.perm pl3)).dropEnd (L := [_, _])) (Val.move rfl rfl) ?_
    refine WPD.tS 12 rfl rfl rfl rfl (fun w h => ((h.perm pl3)).dropEnd (L := [_, _])) (Val.move rfl rfl) ?_
    refine WPD.step 13 (by kernel_rfl) rfl rfl rfl rfl (Eff.mkSlice (C := [.pointer (some ⟨p, 0, none⟩), .pointer (some ⟨p2, 0, none⟩)]) rfl Ty.sl211 rfl (fun _ => by kernel_rfl)) ?_
    rintro _ _ ⟨b6, rfl, rfl⟩
    refine ⟨(fun w h => (((h.perm pl1).perm pl4)).dropEnd (L := [_, _])), ?_⟩
    refine WPD.perm pl5 ?_
    refine WPD.step 14 (by kernel_rfl) rfl rfl rfl rfl (Eff.append (m := 2) (n0 := 0) (news := [.pointer (some ⟨p, 0, none⟩), .pointer (some ⟨p2, 0, none⟩)]) rfl Ty.sl211 Ty.z171 rfl rfl rfl (.slice Ty.sl211 rfl rfl (fun w h => cells_range (h.range 1 rfl rfl))) (by omega) (by omega)) ?_
    rintro v7 _ ⟨onev7, rfl⟩
    refine ⟨(fun w h => (((h.perm pl2).perm pl5)).dropEnd (L := [_, _])), ?_⟩
    refine WPD.tS 15 rfl rfl rfl rfl (fun w h => (((h.perm pl2).perm pl5)).dropEnd (L := [_, _])) (Val.nilCheck rfl rfl) ?_
    refine WPD.tS 16 rfl rfl rfl rfl (fun w h => (((h.perm pl2).perm pl5)).dropEnd (L := [_, _])) (Val.fieldAddr (j := 1) rfl Ty.fo213_1 rfl rfl) ?_
    refine WPD.perm pl2 ?_
    refine WPD.stepC0 17 (by kernel_rfl) rfl rfl rfl (by kernel_rfl) (Eff.store rfl Ty.sc211 rfl rfl onev7 (by simp) st1) ?_
    rintro _ _ rfl
    refine ⟨_, (fun _ h => h), ?_⟩
    refine WPD.done (by kernel_rfl) ?_
    refine Out.next ?_
    refine WPc.seq ?_
    refine WPc.perm pl3 ?_
    refine WPc.c1 (B := Own 55 2 v5 ((Tr.nd [y] [(Tr.nd (t.is.take ((d * 2 - 1) / 2)) (t.ks.take ((d * 2 - 1) / 2 + 1))), (Tr.nd (t.is.drop ((d * 2 - 1) / 2 + 1)) (t.ks.drop ((d * 2 - 1) / 2 + 1)))]).is.length) (flatOf El.cells (Tr.nd [y] [(Tr.nd (t.is.take ((d * 2 - 1) / 2)) (t.ks.take ((d * 2 - 1) / 2 + 1))), (Tr.nd (t.is.drop ((d * 2 - 1) / 2 + 1)) (t.ks.drop ((d * 2 - 1) / 2 + 1)))]).is)) (fun w h => by exact h) ?_
    refine WPc.perm pl2 ?_
    refine WPc.c1 (B := Own 171 1 v7 ([(p, (Tr.nd (t.is.take ((d * 2 - 1) / 2)) (t.ks.take ((d * 2 - 1) / 2 + 1)))), (p2, (Tr.nd (t.is.drop ((d * 2 - 1) / 2 + 1)) (t.ks.drop ((d * 2 - 1) / 2 + 1))))].length) (flatOf vcf (kp [(p, (Tr.nd (t.is.take ((d * 2 - 1) / 2)) (t.ks.take ((d * 2 - 1) / 2 + 1)))), (p2, (Tr.nd (t.is.drop ((d * 2 - 1) / 2 + 1)) (t.ks.drop ((d * 2 - 1) / 2 + 1))))]))) (fun w h => by exact h) ?_
    refine WPc.conv (fun w h => Sat.kNil (R := Rk c (ht + 1)) h) ?_
    refine WPc.perm pl11 ?_
    refine WPc.conv (fun w h => h.kConsMk) ?_
    refine WPc.perm pl10 ?_
    refine WPc.conv (fun w h => h.kConsMk) ?_
    refine WPc.perm pl1 ?_
    refine WPc.perm pl2 ?_
    refine WPc.perm pl3 ?_
    refine WPc.conv (fun w h => Sat.ndMk (c := c) (h := (ht + 1)) (t := (Tr.nd [y] [(Tr.nd (t.is.take ((d * 2 - 1) / 2)) (t.ks.take ((d * 2 - 1) / 2 + 1))), (Tr.nd (t.is.drop ((d * 2 - 1) / 2 + 1)) (t.ks.drop ((d * 2 - 1) / 2 + 1)))])) (ks := [(p, (Tr.nd (t.is.take ((d * 2 - 1) / 2)) (t.ks.take ((d * 2 - 1) / 2 + 1)))), (p2, (Tr.nd (t.is.drop ((d * 2 - 1) / 2 + 1)) (t.ks.drop ((d * 2 - 1) / 2 + 1))))]) rfl (fun h0 => by cases h0) h) ?_
    show WPc _ _ _ _ _ _ (Nd c (ht + 1) (pr, (Tr.nd [y] [(Tr.nd (t.is.take ((d * 2 - 1) / 2)) (t.ks.take ((d * 2 - 1) / 2 + 1))), (Tr.nd (t.is.drop ((d * 2 - 1) / 2 + 1)) (t.ks.drop ((d * 2 - 1) / 2 + 1)))])) :: Blk b6 [.pointer (some ⟨p, 0, none⟩), .pointer (some ⟨p2, 0, none⟩)] 171 :: Blk b4 [.int .i64 (y.k), .int .i64 (y.v)] 55 :: Blk tb [.int .i64 (((d : Nat) : Int)), .int .i64 (n), .pointer (some ⟨pr, 0, none⟩), .pointer (some ⟨c, 0, none⟩)] 174 :: _)
    have hb2 : Bal m M (ht + 1) (Tr.nd [y] [(Tr.nd (t.is.take ((d * 2 - 1) / 2)) (t.ks.take ((d * 2 - 1) / 2 + 1))), (Tr.nd (t.is.drop ((d * 2 - 1) / 2 + 1)) (t.ks.drop ((d * 2 - 1) / 2 + 1)))]) := root_bal hM hbal (by omega) (by omega)
    have hlt2 : (Tr.nd [y] [(Tr.nd (t.is.take ((d * 2 - 1) / 2)) (t.ks.take ((d * 2 - 1) / 2 + 1))), (Tr.nd (t.is.drop ((d * 2 - 1) / 2 + 1)) (t.ks.drop ((d * 2 - 1) / 2 + 1)))]).is.length < M := (show 1 < M by omega)
    have hins := insert_spec c f m M hM (by omega) x (ht + 1) pr (Tr.nd [y] [(Tr.nd (t.is.take ((d * 2 - 1) / 2)) (t.ks.take ((d * 2 - 1) / 2 + 1))), (Tr.nd (t.is.drop ((d * 2 - 1) / 2 + 1)) (t.ks.drop ((d * 2 - 1) / 2 + 1)))]) hb2 hlt2
    rw [hMd] at hins
    refine WPD.start (Sat W [Blk tb [.int .i64 (((d : Nat) : Int)), .int .i64 (n), .pointer (some ⟨pr, 0, none⟩), .pointer (some ⟨c, 0, none⟩)] 174, Blk b1 [.int .i64 (x.k), .int .i64 (x.v)] 55]) Ty.mixed ?_
    refine WPD.tS 0 rfl rfl rfl rfl (fun w h => (((h.perm pl8).perm pl4)).dropEnd (L := [_, _])) (Val.move rfl rfl) ?_
    refine WPD.tS 1 rfl rfl rfl rfl (fun w h => (((h.perm pl8).perm pl4)).dropEnd (L := [_, _])) (Val.nilCheck rfl rfl) ?_
    refine WPD.tS 2 rfl rfl rfl rfl (fun w h => (((h.perm pl8).perm pl4)).dropEnd (L := [_, _])) (Val.fieldAddr (j := 2) rfl Ty.fo174_2 rfl rfl) ?_
    refine WPD.tL 3 rfl rfl rfl rfl (fun w h => (((h.perm pl8).perm pl4)).dropEnd (L := [_, _])) (Val.load rfl Ty.sc171 rfl (fun w h => h.cell 0 rfl rfl)) ?_
    refine WPD.tL 4 rfl rfl rfl rfl (fun w h => (((h.perm pl8).perm pl4)).dropEnd (L := [_, _])) (Val.loadAgg (cs := [.int .i64 (x.k), .int .i64 (x.v)]) rfl Ty.ag55 rfl rfl (fun w h => h.range 1 rfl rfl)) ?_
    refine WPD.tS 5 rfl rfl rfl rfl (fun w h => (((h.perm pl8).perm pl4)).dropEnd (L := [_, _])) (Val.move rfl rfl) ?_
    refine WPD.pick2 6 11 (by kernel_rfl) ?_ ?_
    ·
     refine WPO.perm pl3 ?_
     refine WPO.step rfl rfl rfl rfl (Eff.call rfl rfl Try.call101 (maxi_spec c d tb n (.pointer (some ⟨pr, 0, none⟩)) (by omega) (by omega))) ?_
     rintro _ _ ⟨_, ⟨rfl, rfl⟩, rfl⟩
     refine ⟨(fun w h => (((h.perm pl8).perm pl1)).dropEnd (L := [_, _])), ?_⟩
     refine WPD.pick2 7 11 (by kernel_rfl) ?_ ?_
     ·
      refine WPO.perm pl5 ?_
      refine WPO.perm pl5 ?_
      refine WPO.perm pl3 ?_
      refine WPO.step rfl rfl rfl rfl (Eff.call rfl rfl Try.call103 (hins)) ?_
      rintro _ _ ⟨_, ⟨rfl, rfl⟩, rfl⟩
      refine ⟨(fun w h => (((h.perm pl8).perm pl4)).dropEnd (L := [_, _])), ?_⟩
      show WPD _ _ _ _ _ _ _ _ _ (Nd c (ht + 1) (pr, (ins (d * 2 - 1) (ht + 1) (Tr.nd [y] [(Tr.nd (t.is.take ((d * 2 - 1) / 2)) (t.ks.take ((d * 2 - 1) / 2 + 1))), (Tr.nd (t.is.drop ((d * 2 - 1) / 2 + 1)) (t.ks.drop ((d * 2 - 1) / 2 + 1)))]) x).1) :: _)
      refine WPD.tS 8 rfl rfl rfl rfl (fun w h => (((h.perm pl8).perm pl4)).dropEnd (L := [_, _])) (Val.move rfl rfl) ?_
      refine WPD.tS 9 rfl rfl rfl rfl (fun w h => (((h.perm pl8).perm pl4)).dropEnd (L := [_, _])) (Val.extract rfl rfl rfl) ?_
      refine WPD.tS 10 rfl rfl rfl rfl (fun w h => (((h.perm pl8).perm pl4)).dropEnd (L := [_, _])) (Val.extract rfl rfl rfl) ?_
      refine WPD.step 11 (by kernel_rfl) rfl rfl rfl rfl (Eff.alloc rfl Ty.z55) ?_
      rintro _ _ ⟨b8, rfl, rfl⟩
      refine ⟨(fun w h => (((h.perm pl9).perm pl5)).dropEnd (L := [_, _])), ?_⟩
      refine WPD.stepC0 12 (by kernel_rfl) rfl rfl rfl (by kernel_rfl) (Eff.storeAgg (cs := [.int .i64 (((ins (d * 2 - 1) (ht + 1) (Tr.nd [y] [(Tr.nd (t.is.take ((d * 2 - 1) / 2)) (t.ks.take ((d * 2 - 1) / 2 + 1))), (Tr.nd (t.is.drop ((d * 2 - 1) / 2 + 1)) (t.ks.drop ((d * 2 - 1) / 2 + 1)))]) x).2.getD El0).k), .int .i64 (((ins (d * 2 - 1) (ht + 1) (Tr.nd [y] [(Tr.nd (t.is.take ((d * 2 - 1) / 2)) (t.ks.take ((d * 2 - 1) / 2 + 1))), (Tr.nd (t.is.drop ((d * 2 - 1) / 2 + 1)) (t.ks.drop ((d * 2 - 1) / 2 + 1)))]) x).2.getD El0).v)]) (C' := [.int .i64 (((ins (d * 2 - 1) (ht + 1) (Tr.nd [y] [(Tr.nd (t.is.take ((d * 2 - 1) / 2)) (t.ks.take ((d * 2 - 1) / 2 + 1))), (Tr.nd (t.is.drop ((d * 2 - 1) / 2 + 1)) (t.ks.drop ((d * 2 - 1) / 2 + 1)))]) x).2.getD El0).k), .int .i64 (((ins (d * 2 - 1) (ht + 1) (Tr.nd [y] [(Tr.nd (t.is.take ((d * 2 - 1) / 2)) (t.ks.take ((d * 2 - 1) / 2 + 1))), (Tr.nd (t.is.drop ((d * 2 - 1) / 2 + 1)) (t.ks.drop ((d * 2 - 1) / 2 + 1)))]) x).2.getD El0).v)]) rfl Ty.ag55 rfl rfl rfl rfl (by simp) rfl) ?_
      rintro _ _ rfl
      refine ⟨_, (fun _ h => h), ?_⟩
      refine WPD.tM 13 rfl rfl rfl rfl (Val.assign rfl rfl) ?_
      refine WPD.done (by kernel_rfl) ?_
      refine Out.next ?_
      refine WPc.seq ?_
      refine WPc.sr ?_
      refine WP.val rfl rfl rfl (Val.move rfl rfl) ?_
      refine WP.val rfl rfl rfl (Val.not rfl rfl) ?_
      refine WP.nx ?_
      refine WPc.cond rfl (fun h2 => ?_) (fun h2 => ?_)
      ·
       have h2 : (!((ins (d * 2 - 1) (ht + 1) (Tr.nd [y] [(Tr.nd (t.is.take ((d * 2 - 1) / 2)) (t.ks.take ((d * 2 - 1) / 2 + 1))), (Tr.nd (t.is.drop ((d * 2 - 1) / 2 + 1)) (t.ks.drop ((d * 2 - 1) / 2 + 1)))]) x).2.isSome)) = true := h2
       refine WPc.region ?_
       refine WP.val rfl rfl rfl (Val.move rfl rfl) ?_
       refine WP.val rfl rfl rfl (Val.nilCheck rfl rfl) ?_
       refine WP.val rfl rfl rfl (Val.fieldAddr (j := 1) rfl Ty.fo174_1 rfl rfl) ?_
       refine WP.val rfl rfl rfl (Val.load rfl Ty.sc3 rfl (fun w h => h.cell 4 rfl rfl)) ?_
       refine WP.val rfl rfl rfl (Val.add (z := n + (1 : Int)) rfl rfl rfl (w64 (by omega) (by omega))) ?_
       refine WP.val rfl rfl rfl (Val.nilCheck rfl rfl) ?_
       refine WP.val rfl rfl rfl (Val.fieldAddr (j := 1) rfl Ty.fo174_1 rfl rfl) ?_
       refine WP.perm pl4 ?_
       refine WP.eff0 rfl rfl (Eff.store rfl Ty.sc3 rfl rfl rfl (by simp) st1) ?_
       rintro _ _ rfl
       refine WP.nx ?_
       refine WPc.sr ?_
       refine WP.val rfl rfl rfl (Val.loadAgg (cs := [.int .i64 (((ins (d * 2 - 1) (ht + 1) (Tr.nd [y] [(Tr.nd (t.is.take ((d * 2 - 1) / 2)) (t.ks.take ((d * 2 - 1) / 2 + 1))), (Tr.nd (t.is.drop ((d * 2 - 1) / 2 + 1)) (t.ks.drop ((d * 2 - 1) / 2 + 1)))]) x).2.getD El0).k), .int .i64 (((ins (d * 2 - 1) (ht + 1) (Tr.nd [y] [(Tr.nd (t.is.take ((d * 2 - 1) / 2)) (t.ks.take ((d * 2 - 1) / 2 + 1))), (Tr.nd (t.is.drop ((d * 2 - 1) / 2 + 1)) (t.ks.drop ((d * 2 - 1) / 2 + 1)))]) x).2.getD El0).v)]) rfl Ty.ag55 rfl rfl (fun w h => h.range 1 rfl rfl)) ?_
       refine WP.val rfl rfl rfl (Val.move rfl rfl) ?_
       refine WP.perm pl8 ?_
       refine WP.eff0 rfl rfl (Eff.storeAgg (cs := [.int .i64 (((ins (d * 2 - 1) (ht + 1) (Tr.nd [y] [(Tr.nd (t.is.take ((d * 2 - 1) / 2)) (t.ks.take ((d * 2 - 1) / 2 + 1))), (Tr.nd (t.is.drop ((d * 2 - 1) / 2 + 1)) (t.ks.drop ((d * 2 - 1) / 2 + 1)))]) x).2.getD El0).k), .int .i64 (((ins (d * 2 - 1) (ht + 1) (Tr.nd [y] [(Tr.nd (t.is.take ((d * 2 - 1) / 2)) (t.ks.take ((d * 2 - 1) / 2 + 1))), (Tr.nd (t.is.drop ((d * 2 - 1) / 2 + 1)) (t.ks.drop ((d * 2 - 1) / 2 + 1)))]) x).2.getD El0).v)]) (C' := [.int .i64 (((ins (d * 2 - 1) (ht + 1) (Tr.nd [y] [(Tr.nd (t.is.take ((d * 2 - 1) / 2)) (t.ks.take ((d * 2 - 1) / 2 + 1))), (Tr.nd (t.is.drop ((d * 2 - 1) / 2 + 1)) (t.ks.drop ((d * 2 - 1) / 2 + 1)))]) x).2.getD El0).k), .int .i64 (((ins (d * 2 - 1) (ht + 1) (Tr.nd [y] [(Tr.nd (t.is.take ((d * 2 - 1) / 2)) (t.ks.take ((d * 2 - 1) / 2 + 1))), (Tr.nd (t.is.drop ((d * 2 - 1) / 2 + 1)) (t.ks.drop ((d * 2 - 1) / 2 + 1)))]) x).2.getD El0).v)]) rfl Ty.ag55 rfl rfl rfl rfl (by simp) rfl) ?_
       rintro _ _ rfl
       refine WP.val rfl rfl rfl (Val.assign rfl rfl) ?_
       refine WP.nx ?_
       refine WPc.ret ?_
       refine Out.perm pl2 ?_
       iterate 4 (refine Out.drop ?_; refine Out.perm pl5 ?_)
       refine Out.drop ?_
       have hr : rins (d * 2 - 1) ht t x = (((ht + 1), (ins (d * 2 - 1) (ht + 1) (Tr.nd [y] [(Tr.nd (t.is.take ((d * 2 - 1) / 2)) (t.ks.take ((d * 2 - 1) / 2 + 1))), (Tr.nd (t.is.drop ((d * 2 - 1) / 2 + 1)) (t.ks.drop ((d * 2 - 1) / 2 + 1)))]) x).1), (ins (d * 2 - 1) (ht + 1) (Tr.nd [y] [(Tr.nd (t.is.take ((d * 2 - 1) / 2)) (t.ks.take ((d * 2 - 1) / 2 + 1))), (Tr.nd (t.is.drop ((d * 2 - 1) / 2 + 1)) (t.ks.drop ((d * 2 - 1) / 2 + 1)))]) x).2) := by unfold rins; rw [if_pos (by omega), getD_at hy]
       exact Out.retRun (L' := [Blk tb [.int .i64 (((d : Nat) : Int)), .int .i64 (n + (1 : Int)), .pointer (some ⟨pr, 0, none⟩), .pointer (some ⟨c, 0, none⟩)] 174, Nd c (ht + 1) (pr, (ins (d * 2 - 1) (ht + 1) (Tr.nd [y] [(Tr.nd (t.is.take ((d * 2 - 1) / 2)) (t.ks.take ((d * 2 - 1) / 2 + 1))), (Tr.nd (t.is.drop ((d * 2 - 1) / 2 + 1)) (t.ks.drop ((d * 2 - 1) / 2 + 1)))]) x).1), Blk c [.pointer (some ⟨f, 0, none⟩), .func (.func 53) #[] #[]] 170, FL f]) (results_ct Try.results74 rfl Ty.ag55 rfl rfl (fun w h => h.range 0 rfl rfl)) ⟨pr, by rw [hr]; rfl, by rw [hr]; rw [if_neg (by simp_all)]⟩ (fun w h => h.drop)
      ·
       have h2 : (!((ins (d * 2 - 1) (ht + 1) (Tr.nd [y] [(Tr.nd (t.is.take ((d * 2 - 1) / 2)) (t.ks.take ((d * 2 - 1) / 2 + 1))), (Tr.nd (t.is.drop ((d * 2 - 1) / 2 + 1)) (t.ks.drop ((d * 2 - 1) / 2 + 1)))]) x).2.isSome)) = false := h2
       refine WPc.skip ?_
       refine Out.next ?_
       refine WPc.sr ?_
       refine WP.val rfl rfl rfl (Val.loadAgg (cs := [.int .i64 (((ins (d * 2 - 1) (ht + 1) (Tr.nd [y] [(Tr.nd (t.is.take ((d * 2 - 1) / 2)) (t.ks.take ((d * 2 - 1) / 2 + 1))), (Tr.nd (t.is.drop ((d * 2 - 1) / 2 + 1)) (t.ks.drop ((d * 2 - 1) / 2 + 1)))]) x).2.getD El0).k), .int .i64 (((ins (d * 2 - 1) (ht + 1) (Tr.nd [y] [(Tr.nd (t.is.take ((d * 2 - 1) / 2)) (t.ks.take ((d * 2 - 1) / 2 + 1))), (Tr.nd (t.is.drop ((d * 2 - 1) / 2 + 1)) (t.ks.drop ((d * 2 - 1) / 2 + 1)))]) x).2.getD El0).v)]) rfl Ty.ag55 rfl rfl (fun w h => h.range 0 rfl rfl)) ?_
       refine WP.val rfl rfl rfl (Val.move rfl rfl) ?_
       refine WP.perm pl8 ?_
       refine WP.eff0 rfl rfl (Eff.storeAgg (cs := [.int .i64 (((ins (d * 2 - 1) (ht + 1) (Tr.nd [y] [(Tr.nd (t.is.take ((d * 2 - 1) / 2)) (t.ks.take ((d * 2 - 1) / 2 + 1))), (Tr.nd (t.is.drop ((d * 2 - 1) / 2 + 1)) (t.ks.drop ((d * 2 - 1) / 2 + 1)))]) x).2.getD El0).k), .int .i64 (((ins (d * 2 - 1) (ht + 1) (Tr.nd [y] [(Tr.nd (t.is.take ((d * 2 - 1) / 2)) (t.ks.take ((d * 2 - 1) / 2 + 1))), (Tr.nd (t.is.drop ((d * 2 - 1) / 2 + 1)) (t.ks.drop ((d * 2 - 1) / 2 + 1)))]) x).2.getD El0).v)]) (C' := [.int .i64 (((ins (d * 2 - 1) (ht + 1) (Tr.nd [y] [(Tr.nd (t.is.take ((d * 2 - 1) / 2)) (t.ks.take ((d * 2 - 1) / 2 + 1))), (Tr.nd (t.is.drop ((d * 2 - 1) / 2 + 1)) (t.ks.drop ((d * 2 - 1) / 2 + 1)))]) x).2.getD El0).k), .int .i64 (((ins (d * 2 - 1) (ht + 1) (Tr.nd [y] [(Tr.nd (t.is.take ((d * 2 - 1) / 2)) (t.ks.take ((d * 2 - 1) / 2 + 1))), (Tr.nd (t.is.drop ((d * 2 - 1) / 2 + 1)) (t.ks.drop ((d * 2 - 1) / 2 + 1)))]) x).2.getD El0).v)]) rfl Ty.ag55 rfl rfl rfl rfl (by simp) rfl) ?_
       rintro _ _ rfl
       refine WP.val rfl rfl rfl (Val.assign rfl rfl) ?_
       refine WP.nx ?_
       refine WPc.ret ?_
       refine Out.perm pl1 ?_
       iterate 4 (refine Out.drop ?_; refine Out.perm pl5 ?_)
       refine Out.drop ?_
       iterate 3 (refine Out.perm pl3 ?_)
       refine Out.perm pl4 ?_
       refine Out.perm pl4 ?_
       have hr : rins (d * 2 - 1) ht t x = (((ht + 1), (ins (d * 2 - 1) (ht + 1) (Tr.nd [y] [(Tr.nd (t.is.take ((d * 2 - 1) / 2)) (t.ks.take ((d * 2 - 1) / 2 + 1))), (Tr.nd (t.is.drop ((d * 2 - 1) / 2 + 1)) (t.ks.drop ((d * 2 - 1) / 2 + 1)))]) x).1), (ins (d * 2 - 1) (ht + 1) (Tr.nd [y] [(Tr.nd (t.is.take ((d * 2 - 1) / 2)) (t.ks.take ((d * 2 - 1) / 2 + 1))), (Tr.nd (t.is.drop ((d * 2 - 1) / 2 + 1)) (t.ks.drop ((d * 2 - 1) / 2 + 1)))]) x).2) := by unfold rins; rw [if_pos (by omega), getD_at hy]
       exact Out.retRun (L' := [Blk tb [.int .i64 (((d : Nat) : Int)), .int .i64 (n), .pointer (some ⟨pr, 0, none⟩), .pointer (some ⟨c, 0, none⟩)] 174, Nd c (ht + 1) (pr, (ins (d * 2 - 1) (ht + 1) (Tr.nd [y] [(Tr.nd (t.is.take ((d * 2 - 1) / 2)) (t.ks.take ((d * 2 - 1) / 2 + 1))), (Tr.nd (t.is.drop ((d * 2 - 1) / 2 + 1)) (t.ks.drop ((d * 2 - 1) / 2 + 1)))]) x).1), Blk c [.pointer (some ⟨f, 0, none⟩), .func (.func 53) #[] #[]] 170, FL f]) (results_ct Try.results74 rfl Ty.ag55 rfl rfl (fun w h => h.range 0 rfl rfl)) ⟨pr, by rw [hr]; rfl, by rw [hr]; rw [if_pos (by simp_all)]⟩ (fun w h => h.drop)
     ·
      refine WPO.step rfl rfl rfl rfl (Eff.alloc rfl Ty.z55) ?_
      rintro _ _ ⟨b9, rfl, rfl⟩
      refine ⟨(fun w h => (((h.perm pl9).perm pl2)).dropEnd (L := [_, _])), ?_⟩
      refine WPD.perm pl6 ?_
      refine WPD.perm pl6 ?_
      refine WPD.perm pl4 ?_
      refine WPD.step 7 (by kernel_rfl) rfl rfl rfl rfl (Eff.call rfl rfl Try.call103 (hins)) ?_
      rintro _ _ ⟨_, ⟨rfl, rfl⟩, rfl⟩
      refine ⟨(fun w h => (((h.perm pl9).perm pl5)).dropEnd (L := [_, _])), ?_⟩
      show WPD _ _ _ _ _ _ _ _ _ (Nd c (ht + 1) (pr, (ins (d * 2 - 1) (ht + 1) (Tr.nd [y] [(Tr.nd (t.is.take ((d * 2 - 1) / 2)) (t.ks.take ((d * 2 - 1) / 2 + 1))), (Tr.nd (t.is.drop ((d * 2 - 1) / 2 + 1)) (t.ks.drop ((d * 2 - 1) / 2 + 1)))]) x).1) :: _ :: _ :: Blk b9 [.int .i64 0, .int .i64 0] 55 :: _)
      refine WPD.tS 8 rfl rfl rfl rfl (fun w h => (((h.perm pl9).perm pl5)).dropEnd (L := [_, _])) (Val.move rfl rfl) ?_
      refine WPD.tS 9 rfl rfl rfl rfl (fun w h => (((h.perm pl9).perm pl5)).dropEnd (L := [_, _])) (Val.extract rfl rfl rfl) ?_
      refine WPD.tS 10 rfl rfl rfl rfl (fun w h => (((h.perm pl9).perm pl5)).dropEnd (L := [_, _])) (Val.extract rfl rfl rfl) ?_
      refine WPD.perm pl3 ?_
      refine WPD.stepC0 12 (by kernel_rfl) rfl rfl rfl (by kernel_rfl) (Eff.storeAgg (cs := [.int .i64 (((ins (d * 2 - 1) (ht + 1) (Tr.nd [y] [(Tr.nd (t.is.take ((d * 2 - 1) / 2)) (t.ks.take ((d * 2 - 1) / 2 + 1))), (Tr.nd (t.is.drop ((d * 2 - 1) / 2 + 1)) (t.ks.drop ((d * 2 - 1) / 2 + 1)))]) x).2.getD El0).k), .int .i64 (((ins (d * 2 - 1) (ht + 1) (Tr.nd [y] [(Tr.nd (t.is.take ((d * 2 - 1) / 2)) (t.ks.take ((d * 2 - 1) / 2 + 1))), (Tr.nd (t.is.drop ((d * 2 - 1) / 2 + 1)) (t.ks.drop ((d * 2 - 1) / 2 + 1)))]) x).2.getD El0).v)]) (C' := [.int .i64 (((ins (d * 2 - 1) (ht + 1) (Tr.nd [y] [(Tr.nd (t.is.take ((d * 2 - 1) / 2)) (t.ks.take ((d * 2 - 1) / 2 + 1))), (Tr.nd (t.is.drop ((d * 2 - 1) / 2 + 1)) (t.ks.drop ((d * 2 - 1) / 2 + 1)))]) x).2.getD El0).k), .int .i64 (((ins (d * 2 - 1) (ht + 1) (Tr.nd [y] [(Tr.nd (t.is.take ((d * 2 - 1) / 2)) (t.ks.take ((d * 2 - 1) / 2 + 1))), (Tr.nd (t.is.drop ((d * 2 - 1) / 2 + 1)) (t.ks.drop ((d * 2 - 1) / 2 + 1)))]) x).2.getD El0).v)]) rfl Ty.ag55 rfl rfl rfl rfl (by simp) rfl) ?_
      rintro _ _ rfl
      refine ⟨_, (fun _ h => h), ?_⟩
      refine WPD.tM 13 rfl rfl rfl rfl (Val.assign rfl rfl) ?_
      refine WPD.done (by kernel_rfl) ?_
      refine Out.next ?_
      refine WPc.seq ?_
      refine WPc.sr ?_
      refine WP.val rfl rfl rfl (Val.move rfl rfl) ?_
      refine WP.val rfl rfl rfl (Val.not rfl rfl) ?_
      refine WP.nx ?_
      refine WPc.cond rfl (fun h3 => ?_) (fun h3 => ?_)
      ·
       have h3 : (!((ins (d * 2 - 1) (ht + 1) (Tr.nd [y] [(Tr.nd (t.is.take ((d * 2 - 1) / 2)) (t.ks.take ((d * 2 - 1) / 2 + 1))), (Tr.nd (t.is.drop ((d * 2 - 1) / 2 + 1)) (t.ks.drop ((d * 2 - 1) / 2 + 1)))]) x).2.isSome)) = true := h3
       refine WPc.region ?_
       refine WP.val rfl rfl rfl (Val.move rfl rfl) ?_
       refine WP.val rfl rfl rfl (Val.nilCheck rfl rfl) ?_
       refine WP.val rfl rfl rfl (Val.fieldAddr (j := 1) rfl Ty.fo174_1 rfl rfl) ?_
       refine WP.val rfl rfl rfl (Val.load rfl Ty.sc3 rfl (fun w h => h.cell 4 rfl rfl)) ?_
       refine WP.val rfl rfl rfl (Val.add (z := n + (1 : Int)) rfl rfl rfl (w64 (by omega) (by omega))) ?_
       refine WP.val rfl rfl rfl (Val.nilCheck rfl rfl) ?_
       refine WP.val rfl rfl rfl (Val.fieldAddr (j := 1) rfl Ty.fo174_1 rfl rfl) ?_
       refine WP.perm pl4 ?_
       refine WP.eff0 rfl rfl (Eff.store rfl Ty.sc3 rfl rfl rfl (by simp) st1) ?_
       rintro _ _ rfl
       refine WP.nx ?_
       refine WPc.sr ?_
       refine WP.val rfl rfl rfl (Val.loadAgg (cs := [.int .i64 (((ins (d * 2 - 1) (ht + 1) (Tr.nd [y] [(Tr.nd (t.is.take ((d * 2 - 1) / 2)) (t.ks.take ((d * 2 - 1) / 2 + 1))), (Tr.nd (t.is.drop ((d * 2 - 1) / 2 + 1)) (t.ks.drop ((d * 2 - 1) / 2 + 1)))]) x).2.getD El0).k), .int .i64 (((ins (d * 2 - 1) (ht + 1) (Tr.nd [y] [(Tr.nd (t.is.take ((d * 2 - 1) / 2)) (t.ks.take ((d * 2 - 1) / 2 + 1))), (Tr.nd (t.is.drop ((d * 2 - 1) / 2 + 1)) (t.ks.drop ((d * 2 - 1) / 2 + 1)))]) x).2.getD El0).v)]) rfl Ty.ag55 rfl rfl (fun w h => h.range 1 rfl rfl)) ?_
       refine WP.val rfl rfl rfl (Val.move rfl rfl) ?_
       refine WP.perm pl8 ?_
       refine WP.eff0 rfl rfl (Eff.storeAgg (cs := [.int .i64 (((ins (d * 2 - 1) (ht + 1) (Tr.nd [y] [(Tr.nd (t.is.take ((d * 2 - 1) / 2)) (t.ks.take ((d * 2 - 1) / 2 + 1))), (Tr.nd (t.is.drop ((d * 2 - 1) / 2 + 1)) (t.ks.drop ((d * 2 - 1) / 2 + 1)))]) x).2.getD El0).k), .int .i64 (((ins (d * 2 - 1) (ht + 1) (Tr.nd [y] [(Tr.nd (t.is.take ((d * 2 - 1) / 2)) (t.ks.take ((d * 2 - 1) / 2 + 1))), (Tr.nd (t.is.drop ((d * 2 - 1) / 2 + 1)) (t.ks.drop ((d * 2 - 1) / 2 + 1)))]) x).2.getD El0).v)]) (C' := [.int .i64 (((ins (d * 2 - 1) (ht + 1) (Tr.nd [y] [(Tr.nd (t.is.take ((d * 2 - 1) / 2)) (t.ks.take ((d * 2 - 1) / 2 + 1))), (Tr.nd (t.is.drop ((d * 2 - 1) / 2 + 1)) (t.ks.drop ((d * 2 - 1) / 2 + 1)))]) x).2.getD El0).k), .int .i64 (((ins (d * 2 - 1) (ht + 1) (Tr.nd [y] [(Tr.nd (t.is.take ((d * 2 - 1) / 2)) (t.ks.take ((d * 2 - 1) / 2 + 1))), (Tr.nd (t.is.drop ((d * 2 - 1) / 2 + 1)) (t.ks.drop ((d * 2 - 1) / 2 + 1)))]) x).2.getD El0).v)]) rfl Ty.ag55 rfl rfl rfl rfl (by simp) rfl) ?_
       rintro _ _ rfl
       refine WP.val rfl rfl rfl (Val.assign rfl rfl) ?_
       refine WP.nx ?_
       refine WPc.ret ?_
       refine Out.perm pl2 ?_
       iterate 4 (refine Out.drop ?_; refine Out.perm pl5 ?_)
       refine Out.drop ?_
       have hr : rins (d * 2 - 1) ht t x = (((ht + 1), (ins (d * 2 - 1) (ht + 1) (Tr.nd [y] [(Tr.nd (t.is.take ((d * 2 - 1) / 2)) (t.ks.take ((d * 2 - 1) / 2 + 1))), (Tr.nd (t.is.drop ((d * 2 - 1) / 2 + 1)) (t.ks.drop ((d * 2 - 1) / 2 + 1)))]) x).1), (ins (d * 2 - 1) (ht + 1) (Tr.nd [y] [(Tr.nd (t.is.take ((d * 2 - 1) / 2)) (t.ks.take ((d * 2 - 1) / 2 + 1))), (Tr.nd (t.is.drop ((d * 2 - 1) / 2 + 1)) (t.ks.drop ((d * 2 - 1) / 2 + 1)))]) x).2) := by unfold rins; rw [if_pos (by omega), getD_at hy]
       exact Out.retRun (L' := [Blk tb [.int .i64 (((d : Nat) : Int)), .int .i64 (n + (1 : Int)), .pointer (some ⟨pr, 0, none⟩), .pointer (some ⟨c, 0, none⟩)] 174, Nd c (ht + 1) (pr, (ins (d * 2 - 1) (ht + 1) (Tr.nd [y] [(Tr.nd (t.is.take ((d * 2 - 1) / 2)) (t.ks.take ((d * 2 - 1) / 2 + 1))), (Tr.nd (t.is.drop ((d * 2 - 1) / 2 + 1)) (t.ks.drop ((d * 2 - 1) / 2 + 1)))]) x).1), Blk c [.pointer (some ⟨f, 0, none⟩), .func (.func 53) #[] #[]] 170, FL f]) (results_ct Try.results74 rfl Ty.ag55 rfl rfl (fun w h => h.range 0 rfl rfl)) ⟨pr, by rw [hr]; rfl, by rw [hr]; rw [if_neg (by simp_all)]⟩ (fun w h => h.drop)
      ·
       have h3 : (!((ins (d * 2 - 1) (ht + 1) (Tr.nd [y] [(Tr.nd (t.is.take ((d * 2 - 1) / 2)) (t.ks.take ((d * 2 - 1) / 2 + 1))), (Tr.nd (t.is.drop ((d * 2 - 1) / 2 + 1)) (t.ks.drop ((d * 2 - 1) / 2 + 1)))]) x).2.isSome)) = false := h3
       refine WPc.skip ?_
       refine Out.next ?_
       refine WPc.sr ?_
       refine WP.val rfl rfl rfl (Val.loadAgg (cs := [.int .i64 (((ins (d * 2 - 1) (ht + 1) (Tr.nd [y] [(Tr.nd (t.is.take ((d * 2 - 1) / 2)) (t.ks.take ((d * 2 - 1) / 2 + 1))), (Tr.nd (t.is.drop ((d * 2 - 1) / 2 + 1)) (t.ks.drop ((d * 2 - 1) / 2 + 1)))]) x).2.getD El0).k), .int .i64 (((ins (d * 2 - 1) (ht + 1) (Tr.nd [y] [(Tr.nd (t.is.take ((d * 2 - 1) / 2)) (t.ks.take ((d * 2 - 1) / 2 + 1))), (Tr.nd (t.is.drop ((d * 2 - 1) / 2 + 1)) (t.ks.drop ((d * 2 - 1) / 2 + 1)))]) x).2.getD El0).v)]) rfl Ty.ag55 rfl rfl (fun w h => h.range 0 rfl rfl)) ?_
       refine WP.val rfl rfl rfl (Val.move rfl rfl) ?_
       refine WP.perm pl8 ?_
       refine WP.eff0 rfl rfl (Eff.storeAgg (cs := [.int .i64 (((ins (d * 2 - 1) (ht + 1) (Tr.nd [y] [(Tr.nd (t.is.take ((d * 2 - 1) / 2)) (t.ks.take ((d * 2 - 1) / 2 + 1))), (Tr.nd (t.is.drop ((d * 2 - 1) / 2 + 1)) (t.ks.drop ((d * 2 - 1) / 2 + 1)))]) x).2.getD El0).k), .int .i64 (((ins (d * 2 - 1) (ht + 1) (Tr.nd [y] [(Tr.nd (t.is.take ((d * 2 - 1) / 2)) (t.ks.take ((d * 2 - 1) / 2 + 1))), (Tr.nd (t.is.drop ((d * 2 - 1) / 2 + 1)) (t.ks.drop ((d * 2 - 1) / 2 + 1)))]) x).2.getD El0).v)]) (C' := [.int .i64 (((ins (d * 2 - 1) (ht + 1) (Tr.nd [y] [(Tr.nd (t.is.take ((d * 2 - 1) / 2)) (t.ks.take ((d * 2 - 1) / 2 + 1))), (Tr.nd (t.is.drop ((d * 2 - 1) / 2 + 1)) (t.ks.drop ((d * 2 - 1) / 2 + 1)))]) x).2.getD El0).k), .int .i64 (((ins (d * 2 - 1) (ht + 1) (Tr.nd [y] [(Tr.nd (t.is.take ((d * 2 - 1) / 2)) (t.ks.take ((d * 2 - 1) / 2 + 1))), (Tr.nd (t.is.drop ((d * 2 - 1) / 2 + 1)) (t.ks.drop ((d * 2 - 1) / 2 + 1)))]) x).2.getD El0).v)]) rfl Ty.ag55 rfl rfl rfl rfl (by simp) rfl) ?_
       rintro _ _ rfl
       refine WP.val rfl rfl rfl (Val.assign rfl rfl) ?_
       refine WP.nx ?_
       refine WPc.ret ?_
       refine Out.perm pl1 ?_
       iterate 4 (refine Out.drop ?_; refine Out.perm pl5 ?_)
       refine Out.drop ?_
       iterate 3 (refine Out.perm pl3 ?_)
       refine Out.perm pl4 ?_
       refine Out.perm pl4 ?_
       have hr : rins (d * 2 - 1) ht t x = (((ht + 1), (ins (d * 2 - 1) (ht + 1) (Tr.nd [y] [(Tr.nd (t.is.take ((d * 2 - 1) / 2)) (t.ks.take ((d * 2 - 1) / 2 + 1))), (Tr.nd (t.is.drop ((d * 2 - 1) / 2 + 1)) (t.ks.drop ((d * 2 - 1) / 2 + 1)))]) x).1), (ins (d * 2 - 1) (ht + 1) (Tr.nd [y] [(Tr.nd (t.is.take ((d * 2 - 1) / 2)) (t.ks.take ((d * 2 - 1) / 2 + 1))), (Tr.nd (t.is.drop ((d * 2 - 1) / 2 + 1)) (t.ks.drop ((d * 2 - 1) / 2 + 1)))]) x).2) := by unfold rins; rw [if_pos (by omega), getD_at hy]
       exact Out.retRun (L' := [Blk tb [.int .i64 (((d : Nat) : Int)), .int .i64 (n), .pointer (some ⟨pr, 0, none⟩), .pointer (some ⟨c, 0, none⟩)] 174, Nd c (ht + 1) (pr, (ins (d * 2 - 1) (ht + 1) (Tr.nd [y] [(Tr.nd (t.is.take ((d * 2 - 1) / 2)) (t.ks.take ((d * 2 - 1) / 2 + 1))), (Tr.nd (t.is.drop ((d * 2 - 1) / 2 + 1)) (t.ks.drop ((d * 2 - 1) / 2 + 1)))]) x).1), Blk c [.pointer (some ⟨f, 0, none⟩), .func (.func 53) #[] #[]] 170, FL f]) (results_ct Try.results74 rfl Ty.ag55 rfl rfl (fun w h => h.range 0 rfl rfl)) ⟨pr, by rw [hr]; rfl, by rw [hr]; rw [if_pos (by simp_all)]⟩ (fun w h => h.drop)
    ·
     refine WPO.step rfl rfl rfl rfl (Eff.alloc rfl Ty.z55) ?_
     rintro _ _ ⟨b10, rfl, rfl⟩
     refine ⟨(fun w h => (((h.perm pl9).perm pl5)).dropEnd (L := [_, _])), ?_⟩
     refine WPD.perm pl4 ?_
     refine WPD.step 6 (by kernel_rfl) rfl rfl rfl rfl (Eff.call rfl rfl Try.call101 (maxi_spec c d tb n (.pointer (some ⟨pr, 0, none⟩)) (by omega) (by omega))) ?_
     rintro _ _ ⟨_, ⟨rfl, rfl⟩, rfl⟩
     refine ⟨(fun w h => (((h.perm pl9).perm pl1)).dropEnd (L := [_, _])), ?_⟩
     show WPD _ _ _ _ _ _ _ _ _ (_ :: Blk b10 [.int .i64 0, .int .i64 0] 55 :: _)
     refine WPD.perm pl6 ?_
     refine WPD.perm pl6 ?_
     refine WPD.perm pl4 ?_
     refine WPD.step 7 (by kernel_rfl) rfl rfl rfl rfl (Eff.call rfl rfl Try.call103 (hins)) ?_
     rintro _ _ ⟨_, ⟨rfl, rfl⟩, rfl⟩
     refine ⟨(fun w h => (((h.perm pl9).perm pl4)).dropEnd (L := [_, _])), ?_⟩
     show WPD _ _ _ _ _ _ _ _ _ (Nd c (ht + 1) (pr, (ins (d * 2 - 1) (ht + 1) (Tr.nd [y] [(Tr.nd (t.is.take ((d * 2 - 1) / 2)) (t.ks.take ((d * 2 - 1) / 2 + 1))), (Tr.nd (t.is.drop ((d * 2 - 1) / 2 + 1)) (t.ks.drop ((d * 2 - 1) / 2 + 1)))]) x).1) :: _)
     refine WPD.tS 8 rfl rfl rfl rfl (fun w h => (((h.perm pl9).perm pl4)).dropEnd (L := [_, _])) (Val.move rfl rfl) ?_
     refine WPD.tS 9 rfl rfl rfl rfl (fun w h => (((h.perm pl9).perm pl4)).dropEnd (L := [_, _])) (Val.extract rfl rfl rfl) ?_
     refine WPD.tS 10 rfl rfl rfl rfl (fun w h => (((h.perm pl9).perm pl4)).dropEnd (L := [_, _])) (Val.extract rfl rfl rfl) ?_
     refine WPD.perm pl4 ?_
     refine WPD.stepC0 12 (by kernel_rfl) rfl rfl rfl (by kernel_rfl) (Eff.storeAgg (cs := [.int .i64 (((ins (d * 2 - 1) (ht + 1) (Tr.nd [y] [(Tr.nd (t.is.take ((d * 2 - 1) / 2)) (t.ks.take ((d * 2 - 1) / 2 + 1))), (Tr.nd (t.is.drop ((d * 2 - 1) / 2 + 1)) (t.ks.drop ((d * 2 - 1) / 2 + 1)))]) x).2.getD El0).k), .int .i64 (((ins (d * 2 - 1) (ht + 1) (Tr.nd [y] [(Tr.nd (t.is.take ((d * 2 - 1) / 2)) (t.ks.take ((d * 2 - 1) / 2 + 1))), (Tr.nd (t.is.drop ((d * 2 - 1) / 2 + 1)) (t.ks.drop ((d * 2 - 1) / 2 + 1)))]) x).2.getD El0).v)]) (C' := [.int .i64 (((ins (d * 2 - 1) (ht + 1) (Tr.nd [y] [(Tr.nd (t.is.take ((d * 2 - 1) / 2)) (t.ks.take ((d * 2 - 1) / 2 + 1))), (Tr.nd (t.is.drop ((d * 2 - 1) / 2 + 1)) (t.ks.drop ((d * 2 - 1) / 2 + 1)))]) x).2.getD El0).k), .int .i64 (((ins (d * 2 - 1) (ht + 1) (Tr.nd [y] [(Tr.nd (t.is.take ((d * 2 - 1) / 2)) (t.ks.take ((d * 2 - 1) / 2 + 1))), (Tr.nd (t.is.drop ((d * 2 - 1) / 2 + 1)) (t.ks.drop ((d * 2 - 1) / 2 + 1)))]) x).2.getD El0).v)]) rfl Ty.ag55 rfl rfl rfl rfl (by simp) rfl) ?_
     rintro _ _ rfl
     refine ⟨_, (fun _ h => h), ?_⟩
     refine WPD.tM 13 rfl rfl rfl rfl (Val.assign rfl rfl) ?_
     refine WPD.done (by kernel_rfl) ?_
     refine Out.next ?_
     refine WPc.seq ?_
     refine WPc.sr ?_
     refine WP.val rfl rfl rfl (Val.move rfl rfl) ?_
     refine WP.val rfl rfl rfl (Val.not rfl rfl) ?_
     refine WP.nx ?_
     refine WPc.cond rfl (fun h4 => ?_) (fun h4 => ?_)
     ·
      have h4 : (!((ins (d * 2 - 1) (ht + 1) (Tr.nd [y] [(Tr.nd (t.is.take ((d * 2 - 1) / 2)) (t.ks.take ((d * 2 - 1) / 2 + 1))), (Tr.nd (t.is.drop ((d * 2 - 1) / 2 + 1)) (t.ks.drop ((d * 2 - 1) / 2 + 1)))]) x).2.isSome)) = true := h4
      refine WPc.region ?_
      refine WP.val rfl rfl rfl (Val.move rfl rfl) ?_
      refine WP.val rfl rfl rfl (Val.nilCheck rfl rfl) ?_
      refine WP.val rfl rfl rfl (Val.fieldAddr (j := 1) rfl Ty.fo174_1 rfl rfl) ?_
      refine WP.val rfl rfl rfl (Val.load rfl Ty.sc3 rfl (fun w h => h.cell 4 rfl rfl)) ?_
      refine WP.val rfl rfl rfl (Val.add (z := n + (1 : Int)) rfl rfl rfl (w64 (by omega) (by omega))) ?_
      refine WP.val rfl rfl rfl (Val.nilCheck rfl rfl) ?_
      refine WP.val rfl rfl rfl (Val.fieldAddr (j := 1) rfl Ty.fo174_1 rfl rfl) ?_
      refine WP.perm pl4 ?_
      refine WP.eff0 rfl rfl (Eff.store rfl Ty.sc3 rfl rfl rfl (by simp) st1) ?_
      rintro _ _ rfl
      refine WP.nx ?_
      refine WPc.sr ?_
      refine WP.val rfl rfl rfl (Val.loadAgg (cs := [.int .i64 (((ins (d * 2 - 1) (ht + 1) (Tr.nd [y] [(Tr.nd (t.is.take ((d * 2 - 1) / 2)) (t.ks.take ((d * 2 - 1) / 2 + 1))), (Tr.nd (t.is.drop ((d * 2 - 1) / 2 + 1)) (t.ks.drop ((d * 2 - 1) / 2 + 1)))]) x).2.getD El0).k), .int .i64 (((ins (d * 2 - 1) (ht + 1) (Tr.nd [y] [(Tr.nd (t.is.take ((d * 2 - 1) / 2)) (t.ks.take ((d * 2 - 1) / 2 + 1))), (Tr.nd (t.is.drop ((d * 2 - 1) / 2 + 1)) (t.ks.drop ((d * 2 - 1) / 2 + 1)))]) x).2.getD El0).v)]) rfl Ty.ag55 rfl rfl (fun w h => h.range 1 rfl rfl)) ?_
      refine WP.val rfl rfl rfl (Val.move rfl rfl) ?_
      refine WP.perm pl8 ?_
      refine WP.eff0 rfl rfl (Eff.storeAgg (cs := [.int .i64 (((ins (d * 2 - 1) (ht + 1) (Tr.nd [y] [(Tr.nd (t.is.take ((d * 2 - 1) / 2)) (t.ks.take ((d * 2 - 1) / 2 + 1))), (Tr.nd (t.is.drop ((d * 2 - 1) / 2 + 1)) (t.ks.drop ((d * 2 - 1) / 2 + 1)))]) x).2.getD El0).k), .int .i64 (((ins (d * 2 - 1) (ht + 1) (Tr.nd [y] [(Tr.nd (t.is.take ((d * 2 - 1) / 2)) (t.ks.take ((d * 2 - 1) / 2 + 1))), (Tr.nd (t.is.drop ((d * 2 - 1) / 2 + 1)) (t.ks.drop ((d * 2 - 1) / 2 + 1)))]) x).2.getD El0).v)]) (C' := [.int .i64 (((ins (d * 2 - 1) (ht + 1) (Tr.nd [y] [(Tr.nd (t.is.take ((d * 2 - 1) / 2)) (t.ks.take ((d * 2 - 1) / 2 + 1))), (Tr.nd (t.is.drop ((d * 2 - 1) / 2 + 1)) (t.ks.drop ((d * 2 - 1) / 2 + 1)))]) x).2.getD El0).k), .int .i64 (((ins (d * 2 - 1) (ht + 1) (Tr.nd [y] [(Tr.nd (t.is.take ((d * 2 - 1) / 2)) (t.ks.take ((d * 2 - 1) / 2 + 1))), (Tr.nd (t.is.drop ((d * 2 - 1) / 2 + 1)) (t.ks.drop ((d * 2 - 1) / 2 + 1)))]) x).2.getD El0).v)]) rfl Ty.ag55 rfl rfl rfl rfl (by simp) rfl) ?_
      rintro _ _ rfl
      refine WP.val rfl rfl rfl (Val.assign rfl rfl) ?_
      refine WP.nx ?_
      refine WPc.ret ?_
      refine Out.perm pl2 ?_
      iterate 4 (refine Out.drop ?_; refine Out.perm pl5 ?_)
      refine Out.drop ?_
      have hr : rins (d * 2 - 1) ht t x = (((ht + 1), (ins (d * 2 - 1) (ht + 1) (Tr.nd [y] [(Tr.nd (t.is.take ((d * 2 - 1) / 2)) (t.ks.take ((d * 2 - 1) / 2 + 1))), (Tr.nd (t.is.drop ((d * 2 - 1) / 2 + 1)) (t.ks.drop ((d * 2 - 1) / 2 + 1)))]) x).1), (ins (d * 2 - 1) (ht + 1) (Tr.nd [y] [(Tr.nd (t.is.take ((d * 2 - 1) / 2)) (t.ks.take ((d * 2 - 1) / 2 + 1))), (Tr.nd (t.is.drop ((d * 2 - 1) / 2 + 1)) (t.ks.drop ((d * 2 - 1) / 2 + 1)))]) x).2) := by unfold rins; rw [if_pos (by omega), getD_at hy]
      exact Out.retRun (L' := [Blk tb [.int .i64 (((d : Nat) : Int)), .int .i64 (n + (1 : Int)), .pointer (some ⟨pr, 0, none⟩), .pointer (some ⟨c, 0, none⟩)] 174, Nd c (ht + 1) (pr, (ins (d * 2 - 1) (ht + 1) (Tr.nd [y] [(Tr.nd (t.is.take ((d * 2 - 1) / 2)) (t.ks.take ((d * 2 - 1) / 2 + 1))), (Tr.nd (t.is.drop ((d * 2 - 1) / 2 + 1)) (t.ks.drop ((d * 2 - 1) / 2 + 1)))]) x).1), Blk c [.pointer (some ⟨f, 0, none⟩), .func (.func 53) #[] #[]] 170, FL f]) (results_ct Try.results74 rfl Ty.ag55 rfl rfl (fun w h => h.range 0 rfl rfl)) ⟨pr, by rw [hr]; rfl, by rw [hr]; rw [if_neg (by simp_all)]⟩ (fun w h => h.drop)
     ·
      have h4 : (!((ins (d * 2 - 1) (ht + 1) (Tr.nd [y] [(Tr.nd (t.is.take ((d * 2 - 1) / 2)) (t.ks.take ((d * 2 - 1) / 2 + 1))), (Tr.nd (t.is.drop ((d * 2 - 1) / 2 + 1)) (t.ks.drop ((d * 2 - 1) / 2 + 1)))]) x).2.isSome)) = false := h4
      refine WPc.skip ?_
      refine Out.next ?_
      refine WPc.sr ?_
      refine WP.val rfl rfl rfl (Val.loadAgg (cs := [.int .i64 (((ins (d * 2 - 1) (ht + 1) (Tr.nd [y] [(Tr.nd (t.is.take ((d * 2 - 1) / 2)) (t.ks.take ((d * 2 - 1) / 2 + 1))), (Tr.nd (t.is.drop ((d * 2 - 1) / 2 + 1)) (t.ks.drop ((d * 2 - 1) / 2 + 1)))]) x).2.getD El0).k), .int .i64 (((ins (d * 2 - 1) (ht + 1) (Tr.nd [y] [(Tr.nd (t.is.take ((d * 2 - 1) / 2)) (t.ks.take ((d * 2 - 1) / 2 + 1))), (Tr.nd (t.is.drop ((d * 2 - 1) / 2 + 1)) (t.ks.drop ((d * 2 - 1) / 2 + 1)))]) x).2.getD El0).v)]) rfl Ty.ag55 rfl rfl (fun w h => h.range 0 rfl rfl)) ?_
      refine WP.val rfl rfl rfl (Val.move rfl rfl) ?_
      refine WP.perm pl8 ?_
      refine WP.eff0 rfl rfl (Eff.storeAgg (cs := [.int .i64 (((ins (d * 2 - 1) (ht + 1) (Tr.nd [y] [(Tr.nd (t.is.take ((d * 2 - 1) / 2)) (t.ks.take ((d * 2 - 1) / 2 + 1))), (Tr.nd (t.is.drop ((d * 2 - 1) / 2 + 1)) (t.ks.drop ((d * 2 - 1) / 2 + 1)))]) x).2.getD El0).k), .int .i64 (((ins (d * 2 - 1) (ht + 1) (Tr.nd [y] [(Tr.nd (t.is.take ((d * 2 - 1) / 2)) (t.ks.take ((d * 2 - 1) / 2 + 1))), (Tr.nd (t.is.drop ((d * 2 - 1) / 2 + 1)) (t.ks.drop ((d * 2 - 1) / 2 + 1)))]) x).2.getD El0).v)]) (C' := [.int .i64 (((ins (d * 2 - 1) (ht + 1) (Tr.nd [y] [(Tr.nd (t.is.take ((d * 2 - 1) / 2)) (t.ks.take ((d * 2 - 1) / 2 + 1))), (Tr.nd (t.is.drop ((d * 2 - 1) / 2 + 1)) (t.ks.drop ((d * 2 - 1) / 2 + 1)))]) x).2.getD El0).k), .int .i64 (((ins (d * 2 - 1) (ht + 1) (Tr.nd [y] [(Tr.nd (t.is.take ((d * 2 - 1) / 2)) (t.ks.take ((d * 2 - 1) / 2 + 1))), (Tr.nd (t.is.drop ((d * 2 - 1) / 2 + 1)) (t.ks.drop ((d * 2 - 1) / 2 + 1)))]) x).2.getD El0).v)]) rfl Ty.ag55 rfl rfl rfl rfl (by simp) rfl) ?_
      rintro _ _ rfl
      refine WP.val rfl rfl rfl (Val.assign rfl rfl) ?_
      refine WP.nx ?_
      refine WPc.ret ?_
      refine Out.perm pl1 ?_
      iterate 4 (refine Out.drop ?_; refine Out.perm pl5 ?_)
      refine Out.drop ?_
      iterate 3 (refine Out.perm pl3 ?_)
      refine Out.perm pl4 ?_
      refine Out.perm pl4 ?_
      have hr : rins (d * 2 - 1) ht t x = (((ht + 1), (ins (d * 2 - 1) (ht + 1) (Tr.nd [y] [(Tr.nd (t.is.take ((d * 2 - 1) / 2)) (t.ks.take ((d * 2 - 1) / 2 + 1))), (Tr.nd (t.is.drop ((d * 2 - 1) / 2 + 1)) (t.ks.drop ((d * 2 - 1) / 2 + 1)))]) x).1), (ins (d * 2 - 1) (ht + 1) (Tr.nd [y] [(Tr.nd (t.is.take ((d * 2 - 1) / 2)) (t.ks.take ((d * 2 - 1) / 2 + 1))), (Tr.nd (t.is.drop ((d * 2 - 1) / 2 + 1)) (t.ks.drop ((d * 2 - 1) / 2 + 1)))]) x).2) := by unfold rins; rw [if_pos (by omega), getD_at hy]
      exact Out.retRun (L' := [Blk tb [.int .i64 (((d : Nat) : Int)), .int .i64 (n), .pointer (some ⟨pr, 0, none⟩), .pointer (some ⟨c, 0, none⟩)] 174, Nd c (ht + 1) (pr, (ins (d * 2 - 1) (ht + 1) (Tr.nd [y] [(Tr.nd (t.is.take ((d * 2 - 1) / 2)) (t.ks.take ((d * 2 - 1) / 2 + 1))), (Tr.nd (t.is.drop ((d * 2 - 1) / 2 + 1)) (t.ks.drop ((d * 2 - 1) / 2 + 1)))]) x).1), Blk c [.pointer (some ⟨f, 0, none⟩), .func (.func 53) #[] #[]] 170, FL f]) (results_ct Try.results74 rfl Ty.ag55 rfl rfl (fun w h => h.range 0 rfl rfl)) ⟨pr, by rw [hr]; rfl, by rw [hr]; rw [if_pos (by simp_all)]⟩ (fun w h => h.drop)
   ·
    refine WPO.step rfl rfl rfl rfl (Eff.alloc rfl Ty.z55) ?_
    rintro _ _ ⟨b11, rfl, rfl⟩
    refine ⟨(fun w h => ((h.perm pl1)).dropEnd (L := [_])), ?_⟩
    refine WPD.perm pl6 ?_
    refine WPD.perm pl6 ?_
    refine WPD.perm pl4 ?_
    refine WPD.step 7 (by kernel_rfl) rfl rfl rfl rfl (Eff.call rfl rfl Try.call102 (split_spec c f ht p ((d * 2 - 1) / 2) t y hy (by omega) (by omega) (by omega))) ?_
    rintro _ _ ⟨_, ⟨p2, rfl, rfl⟩, rfl⟩
    refine ⟨(fun w h => ((h.perm pl5)).dropEnd (L := [_])), ?_⟩
    show WPD _ _ _ _ _ _ _ _ _ (Nd c ht (p, (Tr.nd (t.is.take ((d * 2 - 1) / 2)) (t.ks.take ((d * 2 - 1) / 2 + 1)))) :: Nd c ht (p2, (Tr.nd (t.is.drop ((d * 2 - 1) / 2 + 1)) (t.ks.drop ((d * 2 - 1) / 2 + 1)))) :: _ :: _ :: Blk b11 [.int .i64 0, .int .i64 0] 55 :: _)
    refine WPD.tS 8 rfl rfl rfl rfl (fun w h => ((h.perm pl5)).dropEnd (L := [_])) (Val.move rfl rfl) ?_
    refine WPD.tS 9 rfl rfl rfl rfl (fun w h => ((h.perm pl5)).dropEnd (L := [_])) (Val.extract rfl rfl rfl) ?_
    refine WPD.tS 10 rfl rfl rfl rfl (fun w h => ((h.perm pl5)).dropEnd (L := [_])) (Val.extract rfl rfl rfl) ?_
    refine WPD.perm pl4 ?_
    refine WPD.stepC0 12 (by kernel_rfl) rfl rfl rfl (by kernel_rfl) (Eff.storeAgg (cs := [.int .i64 (y.k), .int .i64 (y.v)]) (C' := [.int .i64 (y.k), .int .i64 (y.v)]) rfl Ty.ag55 rfl rfl rfl rfl (by simp) rfl) ?_
    rintro _ _ rfl
    refine ⟨_, (fun _ h => h), ?_⟩
    refine WPD.tM 13 rfl rfl rfl rfl (Val.assign rfl rfl) ?_
    refine WPD.done (by kernel_rfl) ?_
    refine Out.next ?_
    refine WPc.sr ?_
    refine WP.val rfl rfl rfl (Val.move rfl rfl) ?_
    refine WP.val rfl rfl rfl (Val.nilCheck rfl rfl) ?_
    refine WP.val rfl rfl rfl (Val.fieldAddr (j := 2) rfl Ty.fo174_2 rfl rfl) ?_
    refine WP.val rfl rfl rfl (Val.load rfl Ty.sc171 rfl (fun w h => h.cell 5 rfl rfl)) ?_
    refine WP.val rfl rfl rfl (Val.assign rfl rfl) ?_
    refine WP.nx ?_
    refine WPc.sr ?_
    refine WP.val rfl rfl rfl (Val.move rfl rfl) ?_
    refine WP.val rfl rfl rfl (Val.move rfl rfl) ?_
    refine WP.val rfl rfl rfl (Val.nilCheck rfl rfl) ?_
    refine WP.val rfl rfl rfl (Val.fieldAddr (j := 3) rfl Ty.fo174_3 rfl rfl) ?_
    refine WP.val rfl rfl rfl (Val.load rfl Ty.sc172 rfl (fun w h => h.cell 5 rfl rfl)) ?_
    refine WP.perm pl4 ?_
    refine WP.perm pl4 ?_
    refine WP.eff rfl rfl rfl (Eff.call rfl rfl Try.call99 (cownew_spec c f)) ?_
    rintro _ _ ⟨_, ⟨pr, w1r, w2r, rfl, rfl⟩, rfl⟩
    show WP _ _ _ _ _ _ _ (Blk pr [w1r, w2r, .pointer (some ⟨c, 0, none⟩)] 213 :: Own 55 2 w1r 0 ([]) :: Own 171 1 w2r 0 ([]) :: _ :: _ :: Blk b11 [.int .i64 (y.k), .int .i64 (y.v)] 55 :: _)
    refine WP.val rfl rfl rfl (Val.nilCheck rfl rfl) ?_
    refine WP.val rfl rfl rfl (Val.fieldAddr (j := 2) rfl Ty.fo174_2 rfl rfl) ?_
    refine WP.perm pl8 ?_
    refine WP.eff0 rfl rfl (Eff.store rfl Ty.sc171 rfl rfl rfl (by simp) st2) ?_
    rintro _ _ rfl
    refine WP.nx ?_
    refine WPc.seq ?_
    refine WPD.start (Sat W [Blk tb [.int .i64 (((d : Nat) : Int)), .int .i64 (n), .pointer (some ⟨pr, 0, none⟩), .pointer (some ⟨c, 0, none⟩)] 174, Blk pr [w1r, w2r, .pointer (some ⟨c, 0, none⟩)] 213, Blk b11 [.int .i64 (y.k), .int .i64 (y.v)] 55]) Ty.mixed ?_
    refine WPD.tS 0 rfl rfl rfl rfl (fun w h => ((((h.perm pl6).perm pl2).perm pl2)).dropEnd (L := [_, _, _])) (Val.move rfl rfl) ?_
    refine WPD.tS 1 rfl rfl rfl rfl (fun w h => ((((h.perm pl6).perm pl2).perm pl2)).dropEnd (L := [_, _, _])) (Val.nilCheck rfl rfl) ?_
    refine WPD.tS 2 rfl rfl rfl rfl (fun w h => ((((h.perm pl6).perm pl2).perm pl2)).dropEnd (L := [_, _, _])) (Val.fieldAddr (j := 2) rfl Ty.fo174_2 rfl rfl) ?_
    refine WPD.tL 3 rfl rfl rfl rfl (fun w h => ((((h.perm pl6).perm pl2).perm pl2)).dropEnd (L := [_, _, _])) (Val.load rfl Ty.sc171 rfl (fun w h => h.cell 0 rfl rfl)) ?_
    refine WPD.tS 4 rfl rfl rfl rfl (fun w h => ((((h.perm pl6).perm pl2).perm pl2)).dropEnd (L := [_, _, _])) (Val.move rfl rfl) ?_
    refine WPD.tS 5 rfl rfl rfl rfl (fun w h => ((((h.perm pl6).perm pl2).perm pl2)).dropEnd (L := [_, _, _])) (Val.nilCheck rfl rfl) ?_
    refine WPD.tS 6 rfl rfl rfl rfl (fun w h => ((((h.perm pl6).perm pl2).perm pl2)).dropEnd (L := [_, _, _])) (Val.fieldAddr (j := 2) rfl Ty.fo174_2 rfl rfl) ?_
    refine WPD.tL 7 rfl rfl rfl rfl (fun w h => ((((h.perm pl6).perm pl2).perm pl2)).dropEnd (L := [_, _, _])) (Val.load rfl Ty.sc171 rfl (fun w h => h.cell 0 rfl rfl)) ?_
    refine WPD.tS 8 rfl rfl rfl rfl (fun w h => ((((h.perm pl6).perm pl2).perm pl2)).dropEnd (L := [_, _, _])) (Val.nilCheck rfl rfl) ?_
    refine WPD.tS 9 rfl rfl rfl rfl (fun w h => ((((h.perm pl6).perm pl2).perm pl2)).dropEnd (L := [_, _, _])) (Val.fieldAddr (j := 0) rfl Ty.fo213_0 rfl rfl) ?_
    refine WPD.tL 10 rfl rfl rfl rfl (fun w h => ((((h.perm pl6).perm pl2).perm pl2)).dropEnd (L := [_, _, _])) (Val.load rfl Ty.sc210 rfl (fun w h => h.cell 1 rfl rfl)) ?_
    refine WPD.tL 11 rfl rfl rfl rfl (fun w h => ((((h.perm pl6).perm pl2).perm pl2)).dropEnd (L := [_, _, _])) (Val.loadAgg (cs := [.int .i64 (y.k), .int .i64 (y.v)]) rfl Ty.ag55 rfl rfl (fun w h => h.range 2 rfl rfl)) ?_
    refine WPD.step 12 (by kernel_rfl) rfl rfl rfl rfl (Eff.mkSlice (C := [.int .i64 (y.k), .int .i64 (y.v)]) rfl Ty.sl210 rfl (fun _ => by kernel_rfl)) ?_
    rintro _ _ ⟨b12, rfl, rfl⟩
    refine ⟨(fun w h => ((((h.perm pl7).perm pl3).perm pl3)).dropEnd (L := [_, _, _])), ?_⟩
    refine WPD.perm pl3 ?_
    refine WPD.step 13 (by kernel_rfl) rfl rfl rfl rfl (Eff.append (m := 1) (n0 := 0) (news := [.int .i64 (y.k), .int .i64 (y.v)]) rfl Ty.sl210 Ty.z55 rfl rfl rfl (.slice Ty.sl210 rfl rfl (fun w h => cells_range (h.range 1 rfl rfl))) (by omega) (by omega)) ?_
    rintro v13 _ ⟨onev13, rfl⟩
    refine ⟨(fun w h => ((((h.perm pl7).perm pl4).perm pl4)).dropEnd (L := [_, _, _])), ?_⟩
    refine WPD.tS 14 rfl rfl rfl rfl (fun w h => ((((h.perm pl7).perm pl4).perm pl4)).dropEnd (L := [_, _, _])) (Val.nilCheck rfl rfl) ?_
    refine WPD.tS 15 rfl rfl rfl rfl (fun w h => ((((h.perm pl7).perm pl4).perm pl4)).dropEnd (L := [_, _, _])) (Val.fieldAddr (j := 0) rfl Ty.fo213_0 rfl rfl) ?_
    refine WPD.perm pl3 ?_
    refine WPD.stepC0 16 (by kernel_rfl) rfl rfl rfl (by kernel_rfl) (Eff.store rfl Ty.sc210 rfl rfl onev13 (by simp) st0) ?_
    rintro _ _ rfl
    refine ⟨_, (fun _ h => h), ?_⟩
    refine WPD.done (by kernel_rfl) ?_
    refine Out.next ?_
    refine WPD.start (Sat W [Blk tb [.int .i64 (((d : Nat) : Int)), .int .i64 (n), .pointer (some ⟨pr, 0, none⟩), .pointer (some ⟨c, 0, none⟩)] 174, Blk pr [v13, w2r, .pointer (some ⟨c, 0, none⟩)] 213]) Ty.mixed ?_
    refine WPD.tS 0 rfl rfl rfl rfl (fun w h => ((h.perm pl3)).dropEnd (L := [_, _])) (Val.move rfl rfl) ?_
    refine WPD.tS 1 rfl rfl rfl rfl (fun w h => ((h.perm pl3)).dropEnd (L := [_, _])) (Val.nilCheck rfl rfl) ?_
    refine WPD.tS 2 rfl rfl rfl rfl (fun w h => ((h.perm pl3)).dropEnd (L := [_, _])) (Val.fieldAddr (j := 2) rfl Ty.fo174_2 rfl rfl) ?_
    refine WPD.tL 3 rfl rfl rfl rfl (fun w h => ((h.perm pl3)).dropEnd (L := [_, _])) (Val.load rfl Ty.sc171 rfl (fun w h => h.cell 0 rfl rfl)) ?_
    refine WPD.tS 4 rfl rfl rfl rfl (fun w h => ((h.perm pl3)).dropEnd (L := [_, _])) (Val.move rfl rfl) ?_
    refine WPD.tS 5 rfl rfl rfl rfl (fun w h => ((h.perm pl3)).dropEnd (L := [_, _])) (Val.nilCheck rfl rfl) ?_
    refine WPD.tS 6 rfl rfl rfl rfl (fun w h => ((h.perm pl3)).dropEnd (L := [_, _])) (Val.fieldAddr (j := 2) rfl Ty.fo174_2 rfl rfl) ?_
    refine WPD.tL 7 rfl rfl rfl rfl (fun w h => ((h.perm pl3)).dropEnd (L := [_, _])) (Val.load rfl Ty.sc171 rfl (fun w h => h.cell 0 rfl rfl)) ?_
    refine WPD.tS 8 rfl rfl rfl rfl (fun w h => ((h.perm pl3)).dropEnd (L := [_, _])) (Val.nilCheck rfl rfl) ?_
    refine WPD.tS 9 rfl rfl rfl rfl (fun w h => ((h.perm pl3)).dropEnd (L := [_, _])) (Val.fieldAddr (j := 1) rfl Ty.fo213_1 rfl rfl) ?_
    refine WPD.tL 10 rfl rfl rfl rfl (fun w h => ((h.perm pl3)).dropEnd (L := [_, _])) (Val.load rfl Ty.sc211 rfl (fun w h => h.cell 1 rfl rfl)) ?_
    refine WPD.tS 11 rfl rfl rfl rfl (fun w h => ((h.perm pl3)).dropEnd (L := [_, _])) (Val.move rfl rfl) ?_
    refine WPD.tS 12 rfl rfl rfl rfl (fun w h => ((h.perm pl3)).dropEnd (L := [_, _])) (Val.move rfl rfl) ?_
    refine WPD.step 13 (by kernel_rfl) rfl rfl rfl rfl (Eff.mkSlice (C := [.pointer (some ⟨p, 0, none⟩), .pointer (some ⟨p2, 0, none⟩)]) rfl Ty.sl211 rfl (fun _ => by kernel_rfl)) ?_
    rintro _ _ ⟨b14, rfl, rfl⟩
    refine ⟨(fun w h => (((h.perm pl1).perm pl4)).dropEnd (L := [_, _])), ?_⟩
    refine WPD.perm pl5 ?_
    refine WPD.step 14 (by kernel_rfl) rfl rfl rfl rfl (Eff.append (m := 2) (n0 := 0) (news := [.pointer (some ⟨p, 0, none⟩), .pointer (some ⟨p2, 0, none⟩)]) rfl Ty.sl211 Ty.z171 rfl rfl rfl (.slice Ty.sl211 rfl rfl (fun w h => cells_range (h.range 1 rfl rfl))) (by omega) (by omega)) ?_
    rintro v15 _ ⟨onev15, rfl⟩
    refine ⟨(fun w h => (((h.perm pl2).perm pl5)).dropEnd (L := [_, _])), ?_⟩
    refine WPD.tS 15 rfl rfl rfl rfl (fun w h => (((h.perm pl2).perm pl5)).dropEnd (L := [_, _])) (Val.nilCheck rfl rfl) ?_
    refine WPD.tS 16 rfl rfl rfl rfl (fun w h => (((h.perm pl2).perm pl5)).dropEnd (L := [_, _])) (Val.fieldAddr (j := 1) rfl Ty.fo213_1 rfl rfl) ?_
    refine WPD.perm pl2 ?_
    refine WPD.stepC0 17 (by kernel_rfl) rfl rfl rfl (by kernel_rfl) (Eff.store rfl Ty.sc211 rfl rfl onev15 (by simp) st1) ?_
    rintro _ _ rfl
    refine ⟨_, (fun _ h => h), ?_⟩
    refine WPD.done (by kernel_rfl) ?_
    refine Out.next ?_
    refine WPc.seq ?_
    refine WPc.perm pl3 ?_
    refine WPc.c1 (B := Own 55 2 v13 ((Tr.nd [y] [(Tr.nd (t.is.take ((d * 2 - 1) / 2)) (t.ks.take ((d * 2 - 1) / 2 + 1))), (Tr.nd (t.is.drop ((d * 2 - 1) / 2 + 1)) (t.ks.drop ((d * 2 - 1) / 2 + 1)))]).is.length) (flatOf El.cells (Tr.nd [y] [(Tr.nd (t.is.take ((d * 2 - 1) / 2)) (t.ks.take ((d * 2 - 1) / 2 + 1))), (Tr.nd (t.is.drop ((d * 2 - 1) / 2 + 1)) (t.ks.drop ((d * 2 - 1) / 2 + 1)))]).is)) (fun w h => by exact h) ?_
    refine WPc.perm pl2 ?_
    refine WPc.c1 (B := Own 171 1 v15 ([(p, (Tr.nd (t.is.take ((d * 2 - 1) / 2)) (t.ks.take ((d * 2 - 1) / 2 + 1)))), (p2, (Tr.nd (t.is.drop ((d * 2 - 1) / 2 + 1)) (t.ks.drop ((d * 2 - 1) / 2 + 1))))].length) (flatOf vcf (kp [(p, (Tr.nd (t.is.take ((d * 2 - 1) / 2)) (t.ks.take ((d * 2 - 1) / 2 + 1)))), (p2, (Tr.nd (t.is.drop ((d * 2 - 1) / 2 + 1)) (t.ks.drop ((d * 2 - 1) / 2 + 1))))]))) (fun w h => by exact h) ?_
    refine WPc.conv (fun w h => Sat.kNil (R := Rk c (ht + 1)) h) ?_
    refine WPc.perm pl11 ?_
    refine WPc.conv (fun w h => h.kConsMk) ?_
    refine WPc.perm pl10 ?_
    refine WPc.conv (fun w h => h.kConsMk) ?_
    refine WPc.perm pl1 ?_
    refine WPc.perm pl2 ?_
    refine WPc.perm pl3 ?_
    refine WPc.conv (fun w h => Sat.ndMk (c := c) (h := (ht + 1)) (t := (Tr.nd [y] [(Tr.nd (t.is.take ((d * 2 - 1) / 2)) (t.ks.take ((d * 2 - 1) / 2 + 1))), (Tr.nd (t.is.drop ((d * 2 - 1) / 2 + 1)) (t.ks.drop ((d * 2 - 1) / 2 + 1)))])) (ks := [(p, (Tr.nd (t.is.take ((d * 2 - 1) / 2)) (t.ks.take ((d * 2 - 1) / 2 + 1)))), (p2, (Tr.nd (t.is.drop ((d * 2 - 1) / 2 + 1)) (t.ks.drop ((d * 2 - 1) / 2 + 1))))]) rfl (fun h0 => by cases h0) h) ?_
    show WPc _ _ _ _ _ _ (Nd c (ht + 1) (pr, (Tr.nd [y] [(Tr.nd (t.is.take ((d * 2 - 1) / 2)) (t.ks.take ((d * 2 - 1) / 2 + 1))), (Tr.nd (t.is.drop ((d * 2 - 1) / 2 + 1)) (t.ks.drop ((d * 2 - 1) / 2 + 1)))])) :: Blk b14 [.pointer (some ⟨p, 0, none⟩), .pointer (some ⟨p2, 0, none⟩)] 171 :: Blk b12 [.int .i64 (y.k), .int .i64 (y.v)] 55 :: Blk tb [.int .i64 (((d : Nat) : Int)), .int .i64 (n), .pointer (some ⟨pr, 0, none⟩), .pointer (some ⟨c, 0, none⟩)] 174 :: _)
    have hb2 : Bal m M (ht + 1) (Tr.nd [y] [(Tr.nd (t.is.take ((d * 2 - 1) / 2)) (t.ks.take ((d * 2 - 1) / 2 + 1))), (Tr.nd (t.is.drop ((d * 2 - 1) / 2 + 1)) (t.ks.drop ((d * 2 - 1) / 2 + 1)))]) := root_bal hM hbal (by omega) (by omega)
    have hlt2 : (Tr.nd [y] [(Tr.nd (t.is.take ((d * 2 - 1) / 2)) (t.ks.take ((d * 2 - 1) / 2 + 1))), (Tr.nd (t.is.drop ((d * 2 - 1) / 2 + 1)) (t.ks.drop ((d * 2 - 1) / 2 + 1)))]).is.length < M := (show 1 < M by omega)
    have hins := insert_spec c f m M hM (by omega) x (ht + 1) pr (Tr.nd [y] [(Tr.nd (t.is.take ((d * 2 - 1) / 2)) (t.ks.take ((d * 2 - 1) / 2 + 1))), (Tr.nd (t.is.drop ((d * 2 - 1) / 2 + 1)) (t.ks.drop ((d * 2 - 1) / 2 + 1)))]) hb2 hlt2
    rw [hMd] at hins
    refine WPD.start (Sat W [Blk tb [.int .i64 (((d : Nat) : Int)), .int .i64 (n), .pointer (some ⟨pr, 0, none⟩), .pointer (some ⟨c, 0, none⟩)] 174, Blk b1 [.int .i64 (x.k), .int .i64 (x.v)] 55]) Ty.mixed ?_
    refine WPD.tS 0 rfl rfl rfl rfl (fun w h => (((h.perm pl8).perm pl4)).dropEnd (L := [_, _])) (Val.move rfl rfl) ?_
    refine WPD.tS 1 rfl rfl rfl rfl (fun w h => (((h.perm pl8).perm pl4)).dropEnd (L := [_, _])) (Val.nilCheck rfl rfl) ?_
    refine WPD.tS 2 rfl rfl rfl rfl (fun w h => (((h.perm pl8).perm pl4)).dropEnd (L := [_, _])) (Val.fieldAddr (j := 2) rfl Ty.fo174_2 rfl rfl) ?_
    refine WPD.tL 3 rfl rfl rfl rfl (fun w h => (((h.perm pl8).perm pl4)).dropEnd (L := [_, _])) (Val.load rfl Ty.sc171 rfl (fun w h => h.cell 0 rfl rfl)) ?_
    refine WPD.tL 4 rfl rfl rfl rfl (fun w h => (((h.perm pl8).perm pl4)).dropEnd (L := [_, _])) (Val.loadAgg (cs := [.int .i64 (x.k), .int .i64 (x.v)]) rfl Ty.ag55 rfl rfl (fun w h => h.range 1 rfl rfl)) ?_
    refine WPD.tS 5 rfl rfl rfl rfl (fun w h => (((h.perm pl8).perm pl4)).dropEnd (L := [_, _])) (Val.move rfl rfl) ?_
    refine WPD.pick2 6 11 (by kernel_rfl) ?_ ?_
    ·
     refine WPO.perm pl3 ?_
     refine WPO.step rfl rfl rfl rfl (Eff.call rfl rfl Try.call101 (maxi_spec c d tb n (.pointer (some ⟨pr, 0, none⟩)) (by omega) (by omega))) ?_
     rintro _ _ ⟨_, ⟨rfl, rfl⟩, rfl⟩
     refine ⟨(fun w h => (((h.perm pl8).perm pl1)).dropEnd (L := [_, _])), ?_⟩
     refine WPD.pick2 7 11 (by kernel_rfl) ?_ ?_
     ·
      refine WPO.perm pl5 ?_
      refine WPO.perm pl5 ?_
      refine WPO.perm pl3 ?_
      refine WPO.step rfl rfl rfl rfl (Eff.call rfl rfl Try.call103 (hins)) ?_
      rintro _ _ ⟨_, ⟨rfl, rfl⟩, rfl⟩
      refine ⟨(fun w h => (((h.perm pl8).perm pl4)).dropEnd (L := [_, _])), ?_⟩
      show WPD _ _ _ _ _ _ _ _ _ (Nd c (ht + 1) (pr, (ins (d * 2 - 1) (ht + 1) (Tr.nd [y] [(Tr.nd (t.is.take ((d * 2 - 1) / 2)) (t.ks.take ((d * 2 - 1) / 2 + 1))), (Tr.nd (t.is.drop ((d * 2 - 1) / 2 + 1)) (t.ks.drop ((d * 2 - 1) / 2 + 1)))]) x).1) :: _)
      refine WPD.tS 8 rfl rfl rfl rfl (fun w h => (((h.perm pl8).perm pl4)).dropEnd (L := [_, _])) (Val.move rfl rfl) ?_
      refine WPD.tS 9 rfl rfl rfl rfl (fun w h => (((h.perm pl8).perm pl4)).dropEnd (L := [_, _])) (Val.extract rfl rfl rfl) ?_
      refine WPD.tS 10 rfl rfl rfl rfl (fun w h => (((h.perm pl8).perm pl4)).dropEnd (L := [_, _])) (Val.extract rfl rfl rfl) ?_
      refine WPD.step 11 (by kernel_rfl) rfl rfl rfl rfl (Eff.alloc rfl Ty.z55) ?_
      rintro _ _ ⟨b16, rfl, rfl⟩
      refine ⟨(fun w h => (((h.perm pl9).perm pl5)).dropEnd (L := [_, _])), ?_⟩
      refine WPD.stepC0 12 (by kernel_rfl) rfl rfl rfl (by kernel_rfl) (Eff.storeAgg (cs := [.int .i64 (((ins (d * 2 - 1) (ht + 1) (Tr.nd [y] [(Tr.nd (t.is.take ((d * 2 - 1) / 2)) (t.ks.take ((d * 2 - 1) / 2 + 1))), (Tr.nd (t.is.drop ((d * 2 - 1) / 2 + 1)) (t.ks.drop ((d * 2 - 1) / 2 + 1)))]) x).2.getD El0).k), .int .i64 (((ins (d * 2 - 1) (ht + 1) (Tr.nd [y] [(Tr.nd (t.is.take ((d * 2 - 1) / 2)) (t.ks.take ((d * 2 - 1) / 2 + 1))), (Tr.nd (t.is.drop ((d * 2 - 1) / 2 + 1)) (t.ks.drop ((d * 2 - 1) / 2 + 1)))]) x).2.getD El0).v)]) (C' := [.int .i64 (((ins (d * 2 - 1) (ht + 1) (Tr.nd [y] [(Tr.nd (t.is.take ((d * 2 - 1) / 2)) (t.ks.take ((d * 2 - 1) / 2 + 1))), (Tr.nd (t.is.drop ((d * 2 - 1) / 2 + 1)) (t.ks.drop ((d * 2 - 1) / 2 + 1)))]) x).2.getD El0).k), .int .i64 (((ins (d * 2 - 1) (ht + 1) (Tr.nd [y] [(Tr.nd (t.is.take ((d * 2 - 1) / 2)) (t.ks.take ((d * 2 - 1) / 2 + 1))), (Tr.nd (t.is.drop ((d * 2 - 1) / 2 + 1)) (t.ks.drop ((d * 2 - 1) / 2 + 1)))]) x).2.getD El0).v)]) rfl Ty.ag55 rfl rfl rfl rfl (by simp) rfl) ?_
      rintro _ _ rfl
      refine ⟨_, (fun _ h => h), ?_⟩
      refine WPD.tM 13 rfl rfl rfl rfl (Val.assign rfl rfl) ?_
      refine WPD.done (by kernel_rfl) ?_
      refine Out.next ?_
      refine WPc.seq ?_
      refine WPc.sr ?_
      refine WP.val rfl rfl rfl (Val.move rfl rfl) ?_
      refine WP.val rfl rfl rfl (Val.not rfl rfl) ?_
      refine WP.nx ?_
      refine WPc.cond rfl (fun h5 => ?_) (fun h5 => ?_)
      ·
       have h5 : (!((ins (d * 2 - 1) (ht + 1) (Tr.nd [y] [(Tr.nd (t.is.take ((d * 2 - 1) / 2)) (t.ks.take ((d * 2 - 1) / 2 + 1))), (Tr.nd (t.is.drop ((d * 2 - 1) / 2 + 1)) (t.ks.drop ((d * 2 - 1) / 2 + 1)))]) x).2.isSome)) = true := h5
       refine WPc.region ?_
       refine WP.val rfl rfl rfl (Val.move rfl rfl) ?_
       refine WP.val rfl rfl rfl (Val.nilCheck rfl rfl) ?_
       refine WP.val rfl rfl rfl (Val.fieldAddr (j := 1) rfl Ty.fo174_1 rfl rfl) ?_
       refine WP.val rfl rfl rfl (Val.load rfl Ty.sc3 rfl (fun w h => h.cell 4 rfl rfl)) ?_
       refine WP.val rfl rfl rfl (Val.add (z := n + (1 : Int)) rfl rfl rfl (w64 (by omega) (by omega))) ?_
       refine WP.val rfl rfl rfl (Val.nilCheck rfl rfl) ?_
       refine WP.val rfl rfl rfl (Val.fieldAddr (j := 1) rfl Ty.fo174_1 rfl rfl) ?_
       refine WP.perm pl4 ?_
       refine WP.eff0 rfl rfl (Eff.store rfl Ty.sc3 rfl rfl rfl (by simp) st1) ?_
       rintro _ _ rfl
       refine WP.nx ?_
       refine WPc.sr ?_
       refine WP.val rfl rfl rfl (Val.loadAgg (cs := [.int .i64 (((ins (d * 2 - 1) (ht + 1) (Tr.nd [y] [(Tr.nd (t.is.take ((d * 2 - 1) / 2)) (t.ks.take ((d * 2 - 1) / 2 + 1))), (Tr.nd (t.is.drop ((d * 2 - 1) / 2 + 1)) (t.ks.drop ((d * 2 - 1) / 2 + 1)))]) x).2.getD El0).k), .int .i64 (((ins (d * 2 - 1) (ht + 1) (Tr.nd [y] [(Tr.nd (t.is.take ((d * 2 - 1) / 2)) (t.ks.take ((d * 2 - 1) / 2 + 1))), (Tr.nd (t.is.drop ((d * 2 - 1) / 2 + 1)) (t.ks.drop ((d * 2 - 1) / 2 + 1)))]) x).2.getD El0).v)]) rfl Ty.ag55 rfl rfl (fun w h => h.range 1 rfl rfl)) ?_
       refine WP.val rfl rfl rfl (Val.move rfl rfl) ?_
       refine WP.perm pl8 ?_
       refine WP.eff0 rfl rfl (Eff.storeAgg (cs := [.int .i64 (((ins (d * 2 - 1) (ht + 1) (Tr.nd [y] [(Tr.nd (t.is.take ((d * 2 - 1) / 2)) (t.ks.take ((d * 2 - 1) / 2 + 1))), (Tr.nd (t.is.drop ((d * 2 - 1) / 2 + 1)) (t.ks.drop ((d * 2 - 1) / 2 + 1)))]) x).2.getD El0).k), .int .i64 (((ins (d * 2 - 1) (ht + 1) (Tr.nd [y] [(Tr.nd (t.is.take ((d * 2 - 1) / 2)) (t.ks.take ((d * 2 - 1) / 2 + 1))), (Tr.nd (t.is.drop ((d * 2 - 1) / 2 + 1)) (t.ks.drop ((d * 2 - 1) / 2 + 1)))]) x).2.getD El0).v)]) (C' := [.int .i64 (((ins (d * 2 - 1) (ht + 1) (Tr.nd [y] [(Tr.nd (t.is.take ((d * 2 - 1) / 2)) (t.ks.take ((d * 2 - 1) / 2 + 1))), (Tr.nd (t.is.drop ((d * 2 - 1) / 2 + 1)) (t.ks.drop ((d * 2 - 1) / 2 + 1)))]) x).2.getD El0).k), .int .i64 (((ins (d * 2 - 1) (ht + 1) (Tr.nd [y] [(Tr.nd (t.is.take ((d * 2 - 1) / 2)) (t.ks.take ((d * 2 - 1) / 2 + 1))), (Tr.nd (t.is.drop ((d * 2 - 1) / 2 + 1)) (t.ks.drop ((d * 2 - 1) / 2 + 1)))]) x).2.getD El0).v)]) rfl Ty.ag55 rfl rfl rfl rfl (by simp) rfl) ?_
       rintro _ _ rfl
       refine WP.val rfl rfl rfl (Val.assign rfl rfl) ?_
       refine WP.nx ?_
       refine WPc.ret ?_
       refine Out.perm pl2 ?_
       iterate 4 (refine Out.drop ?_; refine Out.perm pl5 ?_)
       refine Out.drop ?_
       have hr : rins (d * 2 - 1) ht t x = (((ht + 1), (ins (d * 2 - 1) (ht + 1) (Tr.nd [y] [(Tr.nd (t.is.take ((d * 2 - 1) / 2)) (t.ks.take ((d * 2 - 1) / 2 + 1))), (Tr.nd (t.is.drop ((d * 2 - 1) / 2 + 1)) (t.ks.drop ((d * 2 - 1) / 2 + 1)))]) x).1), (ins (d * 2 - 1) (ht + 1) (Tr.nd [y] [(Tr.nd (t.is.take ((d * 2 - 1) / 2)) (t.ks.take ((d * 2 - 1) / 2 + 1))), (Tr.nd (t.is.drop ((d * 2 - 1) / 2 + 1)) (t.ks.drop ((d * 2 - 1) / 2 + 1)))]) x).2) := by unfold rins; rw [if_pos (by omega), getD_at hy]
       exact Out.retRun (L' := [Blk tb [.int .i64 (((d : Nat) : Int)), .int .i64 (n + (1 : Int)), .pointer (some ⟨pr, 0, none⟩), .pointer (some ⟨c, 0, none⟩)] 174, Nd c (ht + 1) (pr, (ins (d * 2 - 1) (ht + 1) (Tr.nd [y] [(Tr.nd (t.is.take ((d * 2 - 1) / 2)) (t.ks.take ((d * 2 - 1) / 2 + 1))), (Tr.nd (t.is.drop ((d * 2 - 1) / 2 + 1)) (t.ks.drop ((d * 2 - 1) / 2 + 1)))]) x).1), Blk c [.pointer (some ⟨f, 0, none⟩), .func (.func 53) #[] #[]] 170, FL f]) (results_ct Try.results74 rfl Ty.ag55 rfl rfl (fun w h => h.range 0 rfl rfl)) ⟨pr, by rw [hr]; rfl, by rw [hr]; rw [if_neg (by simp_all)]⟩ (fun w h => h.drop)
      ·
       have h5 : (!((ins (d * 2 - 1) (ht + 1) (Tr.nd [y] [(Tr.nd (t.is.take ((d * 2 - 1) / 2)) (t.ks.take ((d * 2 - 1) / 2 + 1))), (Tr.nd (t.is.drop ((d * 2 - 1) / 2 + 1)) (t.ks.drop ((d * 2 - 1) / 2 + 1)))]) x).2.isSome)) = false := h5
       refine WPc.skip ?_
       refine Out.next ?_
       refine WPc.sr ?_
       refine WP.val rfl rfl rfl (Val.loadAgg (cs := [.int .i64 (((ins (d * 2 - 1) (ht + 1) (Tr.nd [y] [(Tr.nd (t.is.take ((d * 2 - 1) / 2)) (t.ks.take ((d * 2 - 1) / 2 + 1))), (Tr.nd (t.is.drop ((d * 2 - 1) / 2 + 1)) (t.ks.drop ((d * 2 - 1) / 2 + 1)))]) x).2.getD El0).k), .int .i64 (((ins (d * 2 - 1) (ht + 1) (Tr.nd [y] [(Tr.nd (t.is.take ((d * 2 - 1) / 2)) (t.ks.take ((d * 2 - 1) / 2 + 1))), (Tr.nd (t.is.drop ((d * 2 - 1) / 2 + 1)) (t.ks.drop ((d * 2 - 1) / 2 + 1)))]) x).2.getD El0).v)]) rfl Ty.ag55 rfl rfl (fun w h => h.range 0 rfl rfl)) ?_
       refine WP.val rfl rfl rfl (Val.move rfl rfl) ?_
       refine WP.perm pl8 ?_
       refine WP.eff0 rfl rfl (Eff.storeAgg (cs := [.int .i64 (((ins (d * 2 - 1) (ht + 1) (Tr.nd [y] [(Tr.nd (t.is.take ((d * 2 - 1) / 2)) (t.ks.take ((d * 2 - 1) / 2 + 1))), (Tr.nd (t.is.drop ((d * 2 - 1) / 2 + 1)) (t.ks.drop ((d * 2 - 1) / 2 + 1)))]) x).2.getD El0).k), .int .i64 (((ins (d * 2 - 1) (ht + 1) (Tr.nd [y] [(Tr.nd (t.is.take ((d * 2 - 1) / 2)) (t.ks.take ((d * 2 - 1) / 2 + 1))), (Tr.nd (t.is.drop ((d * 2 - 1) / 2 + 1)) (t.ks.drop ((d * 2 - 1) / 2 + 1)))]) x).2.getD El0).v)]) (C' := [.int .i64 (((ins (d * 2 - 1) (ht + 1) (Tr.nd [y] [(Tr.nd (t.is.take ((d * 2 - 1) / 2)) (t.ks.take ((d * 2 - 1) / 2 + 1))), (Tr.nd (t.is.drop ((d * 2 - 1) / 2 + 1)) (t.ks.drop ((d * 2 - 1) / 2 + 1)))]) x).2.getD El0).k), .int .i64 (((ins (d * 2 - 1) (ht + 1) (Tr.nd [y] [(Tr.nd (t.is.take ((d * 2 - 1) / 2)) (t.ks.take ((d * 2 - 1) / 2 + 1))), (Tr.nd (t.is.drop ((d * 2 - 1) / 2 + 1)) (t.ks.drop ((d * 2 - 1) / 2 + 1)))]) x).2.getD El0).v)]) rfl Ty.ag55 rfl rfl rfl rfl (by simp) rfl) ?_
       rintro _ _ rfl
       refine WP.val rfl rfl rfl (Val.assign rfl rfl) ?_
       refine WP.nx ?_
       refine WPc.ret ?_
       refine Out.perm pl1 ?_
       iterate 4 (refine Out.drop ?_; refine Out.perm pl5 ?_)
       refine Out.drop ?_
       iterate 3 (refine Out.perm pl3 ?_)
       refine Out.perm pl4 ?_
       refine Out.perm pl4 ?_
       have hr : rins (d * 2 - 1) ht t x = (((ht + 1), (ins (d * 2 - 1) (ht + 1) (Tr.nd [y] [(Tr.nd (t.is.take ((d * 2 - 1) / 2)) (t.ks.take ((d * 2 - 1) / 2 + 1))), (Tr.nd (t.is.drop ((d * 2 - 1) / 2 + 1)) (t.ks.drop ((d * 2 - 1) / 2 + 1)))]) x).1), (ins (d * 2 - 1) (ht + 1) (Tr.nd [y] [(Tr.nd (t.is.take ((d * 2 - 1) / 2)) (t.ks.take ((d * 2 - 1) / 2 + 1))), (Tr.nd (t.is.drop ((d * 2 - 1) / 2 + 1)) (t.ks.drop ((d * 2 - 1) / 2 + 1)))]) x).2) := by unfold rins; rw [if_pos (by omega), getD_at hy]
       exact Out.retRun (L' := [Blk tb [.int .i64 (((d : Nat) : Int)), .int .i64 (n), .pointer (some ⟨pr, 0, none⟩), .pointer (some ⟨c, 0, none⟩)] 174, Nd c (ht + 1) (pr, (ins (d * 2 - 1) (ht + 1) (Tr.nd [y] [(Tr.nd (t.is.take ((d * 2 - 1) / 2)) (t.ks.take ((d * 2 - 1) / 2 + 1))), (Tr.nd (t.is.drop ((d * 2 - 1) / 2 + 1)) (t.ks.drop ((d * 2 - 1) / 2 + 1)))]) x).1), Blk c [.pointer (some ⟨f, 0, none⟩), .func (.func 53) #[] #[]] 170, FL f]) (results_ct Try.results74 rfl Ty.ag55 rfl rfl (fun w h => h.range 0 rfl rfl)) ⟨pr, by rw [hr]; rfl, by rw [hr]; rw [if_pos (by simp_all)]⟩ (fun w h => h.drop)
     ·
      refine WPO.step rfl rfl rfl rfl (Eff.alloc rfl Ty.z55) ?_
      rintro _ _ ⟨b17, rfl, rfl⟩
      refine ⟨(fun w h => (((h.perm pl9).perm pl2)).dropEnd (L := [_, _])), ?_⟩
      refine WPD.perm pl6 ?_
      refine WPD.perm pl6 ?_
      refine WPD.perm pl4 ?_
      refine WPD.step 7 (by kernel_rfl) rfl rfl rfl rfl (Eff.call rfl rfl Try.call103 (hins)) ?_
      rintro _ _ ⟨_, ⟨rfl, rfl⟩, rfl⟩
      refine ⟨(fun w h => (((h.perm pl9).perm pl5)).dropEnd (L := [_, _])), ?_⟩
      show WPD _ _ _ _ _ _ _ _ _ (Nd c (ht + 1) (pr, (ins (d * 2 - 1) (ht + 1) (Tr.nd [y] [(Tr.nd (t.is.take ((d * 2 - 1) / 2)) (t.ks.take ((d * 2 - 1) / 2 + 1))), (Tr.nd (t.is.drop ((d * 2 - 1) / 2 + 1)) (t.ks.drop ((d * 2 - 1) / 2 + 1)))]) x).1) :: _ :: _ :: Blk b17 [.int .i64 0, .int .i64 0] 55 :: _)
      refine WPD.tS 8 rfl rfl rfl rfl (fun w h => (((h.perm pl9).perm pl5)).dropEnd (L := [_, _])) (Val.move rfl rfl) ?_
      refine WPD.tS 9 rfl rfl rfl rfl (fun w h => (((h.perm pl9).perm pl5)).dropEnd (L := [_, _])) (Val.extract rfl rfl rfl) ?_
      refine WPD.tS 10 rfl rfl rfl rfl (fun w h => (((h.perm pl9).perm pl5)).dropEnd (L := [_, _])) (Val.extract rfl rfl rfl) ?_
      refine WPD.perm pl3 ?_
      refine WPD.stepC0 12 (by kernel_rfl) rfl rfl rfl (by kernel_rfl) (Eff.storeAgg (cs := [.int .i64 (((ins (d * 2 - 1) (ht + 1) (Tr.nd [y] [(Tr.nd (t.is.take ((d * 2 - 1) / 2)) (t.ks.take ((d * 2 - 1) / 2 + 1))), (Tr.nd (t.is.drop ((d * 2 - 1) / 2 + 1)) (t.ks.drop ((d * 2 - 1) / 2 + 1)))]) x).2.getD El0).k), .int .i64 (((ins (d * 2 - 1) (ht + 1) (Tr.nd [y] [(Tr.nd (t.is.take ((d * 2 - 1) / 2)) (t.ks.take ((d * 2 - 1) / 2 + 1))), (Tr.nd (t.is.drop ((d * 2 - 1) / 2 + 1)) (t.ks.drop ((d * 2 - 1) / 2 + 1)))]) x).2.getD El0).v)]) (C' := [.int .i64 (((ins (d * 2 - 1) (ht + 1) (Tr.nd [y] [(Tr.nd (t.is.take ((d * 2 - 1) / 2)) (t.ks.take ((d * 2 - 1) / 2 + 1))), (Tr.nd (t.is.drop ((d * 2 - 1) / 2 + 1)) (t.ks.drop ((d * 2 - 1) / 2 + 1)))]) x).2.getD El0).k), .int .i64 (((ins (d * 2 - 1) (ht + 1) (Tr.nd [y] [(Tr.nd (t.is.take ((d * 2 - 1) / 2)) (t.ks.take ((d * 2 - 1) / 2 + 1))), (Tr.nd (t.is.drop ((d * 2 - 1) / 2 + 1)) (t.ks.drop ((d * 2 - 1) / 2 + 1)))]) x).2.getD El0).v)]) rfl Ty.ag55 rfl rfl rfl rfl (by simp) rfl) ?_
      rintro _ _ rfl
      refine ⟨_, (fun _ h => h), ?_⟩
      refine WPD.tM 13 rfl rfl rfl rfl (Val.assign rfl rfl) ?_
      refine WPD.done (by kernel_rfl) ?_
      refine Out.next ?_
      refine WPc.seq ?_
      refine WPc.sr ?_
      refine WP.val rfl rfl rfl (Val.move rfl rfl) ?_
      refine WP.val rfl rfl rfl (Val.not rfl rfl) ?_
      refine WP.nx ?_
      refine WPc.cond rfl (fun h6 => ?_) (fun h6 => ?_)
      ·
       have h6 : (!((ins (d * 2 - 1) (ht + 1) (Tr.nd [y] [(Tr.nd (t.is.take ((d * 2 - 1) / 2)) (t.ks.take ((d * 2 - 1) / 2 + 1))), (Tr.nd (t.is.drop ((d * 2 - 1) / 2 + 1)) (t.ks.drop ((d * 2 - 1) / 2 + 1)))]) x).2.isSome)) = true := h6
       refine WPc.region ?_
       refine WP.val rfl rfl rfl (Val.move rfl rfl) ?_
       refine WP.val rfl rfl rfl (Val.nilCheck rfl rfl) ?_
       refine WP.val rfl rfl rfl (Val.fieldAddr (j := 1) rfl Ty.fo174_1 rfl rfl) ?_
       refine WP.val rfl rfl rfl (Val.load rfl Ty.sc3 rfl (fun w h => h.cell 4 rfl rfl)) ?_
       refine WP.val rfl rfl rfl (Val.add (z := n + (1 : Int)) rfl rfl rfl (w64 (by omega) (by omega))) ?_
       refine WP.val rfl rfl rfl (Val.nilCheck rfl rfl) ?_
       refine WP.val rfl rfl rfl (Val.fieldAddr (j := 1) rfl Ty.fo174_1 rfl rfl) ?_
       refine WP.perm pl4 ?_
       refine WP.eff0 rfl rfl (Eff.store rfl Ty.sc3 rfl rfl rfl (by simp) st1) ?_
       rintro _ _ rfl
       refine WP.nx ?_
       refine WPc.sr ?_
       refine WP.val rfl rfl rfl (Val.loadAgg (cs := [.int .i64 (((ins (d * 2 - 1) (ht + 1) (Tr.nd [y] [(Tr.nd (t.is.take ((d * 2 - 1) / 2)) (t.ks.take ((d * 2 - 1) / 2 + 1))), (Tr.nd (t.is.drop ((d * 2 - 1) / 2 + 1)) (t.ks.drop ((d * 2 - 1) / 2 + 1)))]) x).2.getD El0).k), .int .i64 (((ins (d * 2 - 1) (ht + 1) (Tr.nd [y] [(Tr.nd (t.is.take ((d * 2 - 1) / 2)) (t.ks.take ((d * 2 - 1) / 2 + 1))), (Tr.nd (t.is.drop ((d * 2 - 1) / 2 + 1)) (t.ks.drop ((d * 2 - 1) / 2 + 1)))]) x).2.getD El0).v)]) rfl Ty.ag55 rfl rfl (fun w h => h.range 1 rfl rfl)) ?_
       refine WP.val rfl rfl rfl (Val.move rfl rfl) ?_
       refine WP.perm pl8 ?_
       refine WP.eff0 rfl rfl (Eff.storeAgg (cs := [.int .i64 (((ins (d * 2 - 1) (ht + 1) (Tr.nd [y] [(Tr.nd (t.is.take ((d * 2 - 1) / 2)) (t.ks.take ((d * 2 - 1) / 2 + 1))), (Tr.nd (t.is.drop ((d * 2 - 1) / 2 + 1)) (t.ks.drop ((d * 2 - 1) / 2 + 1)))]) x).2.getD El0).k), .int .i64 (((ins (d * 2 - 1) (ht + 1) (Tr.nd [y] [(Tr.nd (t.is.take ((d * 2 - 1) / 2)) (t.ks.take ((d * 2 - 1) / 2 + 1))), (Tr.nd (t.is.drop ((d * 2 - 1) / 2 + 1)) (t.ks.drop ((d * 2 - 1) / 2 + 1)))]) x).2.getD El0).v)]) (C' := [.int .i64 (((ins (d * 2 - 1) (ht + 1) (Tr.nd [y] [(Tr.nd (t.is.take ((d * 2 - 1) / 2)) (t.ks.take ((d * 2 - 1) / 2 + 1))), (Tr.nd (t.is.drop ((d * 2 - 1) / 2 + 1)) (t.ks.drop ((d * 2 - 1) / 2 + 1)))]) x).2.getD El0).k), .int .i64 (((ins (d * 2 - 1) (ht + 1) (Tr.nd [y] [(Tr.nd (t.is.take ((d * 2 - 1) / 2)) (t.ks.take ((d * 2 - 1) / 2 + 1))), (Tr.nd (t.is.drop ((d * 2 - 1) / 2 + 1)) (t.ks.drop ((d * 2 - 1) / 2 + 1)))]) x).2.getD El0).v)]) rfl Ty.ag55 rfl rfl rfl rfl (by simp) rfl) ?_
       rintro _ _ rfl
       refine WP.val rfl rfl rfl (Val.assign rfl rfl) ?_
       refine WP.nx ?_
       refine WPc.ret ?_
       refine Out.perm pl2 ?_
       iterate 4 (refine Out.drop ?_; refine Out.perm pl5 ?_)
       refine Out.drop ?_
       have hr : rins (d * 2 - 1) ht t x = (((ht + 1), (ins (d * 2 - 1) (ht + 1) (Tr.nd [y] [(Tr.nd (t.is.take ((d * 2 - 1) / 2)) (t.ks.take ((d * 2 - 1) / 2 + 1))), (Tr.nd (t.is.drop ((d * 2 - 1) / 2 + 1)) (t.ks.drop ((d * 2 - 1) / 2 + 1)))]) x).1), (ins (d * 2 - 1) (ht + 1) (Tr.nd [y] [(Tr.nd (t.is.take ((d * 2 - 1) / 2)) (t.ks.take ((d * 2 - 1) / 2 + 1))), (Tr.nd (t.is.drop ((d * 2 - 1) / 2 + 1)) (t.ks.drop ((d * 2 - 1) / 2 + 1)))]) x).2) := by unfold rins; rw [if_pos (by omega), getD_at hy]
       exact Out.retRun (L' := [Blk tb [.int .i64 (((d : Nat) : Int)), .int .i64 (n + (1 : Int)), .pointer (some ⟨pr, 0, none⟩), .pointer (some ⟨c, 0, none⟩)] 174, Nd c (ht + 1) (pr, (ins (d * 2 - 1) (ht + 1) (Tr.nd [y] [(Tr.nd (t.is.take ((d * 2 - 1) / 2)) (t.ks.take ((d * 2 - 1) / 2 + 1))), (Tr.nd (t.is.drop ((d * 2 - 1) / 2 + 1)) (t.ks.drop ((d * 2 - 1) / 2 + 1)))]) x).1), Blk c [.pointer (some ⟨f, 0, none⟩), .func (.func 53) #[] #[]] 170, FL f]) (results_ct Try.results74 rfl Ty.ag55 rfl rfl (fun w h => h.range 0 rfl rfl)) ⟨pr, by rw [hr]; rfl, by rw [hr]; rw [if_neg (by simp_all)]⟩ (fun w h => h.drop)
      ·
       have h6 : (!((ins (d * 2 - 1) (ht + 1) (Tr.nd [y] [(Tr.nd (t.is.take ((d * 2 - 1) / 2)) (t.ks.take ((d * 2 - 1) / 2 + 1))), (Tr.nd (t.is.drop ((d * 2 - 1) / 2 + 1)) (t.ks.drop ((d * 2 - 1) / 2 + 1)))]) x).2.isSome)) = false := h6
       refine WPc.skip ?_
       refine Out.next ?_
       refine WPc.sr ?_
       refine WP.val rfl rfl rfl (Val.loadAgg (cs := [.int .i64 (((ins (d * 2 - 1) (ht + 1) (Tr.nd [y] [(Tr.nd (t.is.take ((d * 2 - 1) / 2)) (t.ks.take ((d * 2 - 1) / 2 + 1))), (Tr.nd (t.is.drop ((d * 2 - 1) / 2 + 1)) (t.ks.drop ((d * 2 - 1) / 2 + 1)))]) x).2.getD El0).k), .int .i64 (((ins (d * 2 - 1) (ht + 1) (Tr.nd [y] [(Tr.nd (t.is.take ((d * 2 - 1) / 2)) (t.ks.take ((d * 2 - 1) / 2 + 1))), (Tr.nd (t.is.drop ((d * 2 - 1) / 2 + 1)) (t.ks.drop ((d * 2 - 1) / 2 + 1)))]) x).2.getD El0).v)]) rfl Ty.ag55 rfl rfl (fun w h => h.range 0 rfl rfl)) ?_
       refine WP.val rfl rfl rfl (Val.move rfl rfl) ?_
       refine WP.perm pl8 ?_
       refine WP.eff0 rfl rfl (Eff.storeAgg (cs := [.int .i64 (((ins (d * 2 - 1) (ht + 1) (Tr.nd [y] [(Tr.nd (t.is.take ((d * 2 - 1) / 2)) (t.ks.take ((d * 2 - 1) / 2 + 1))), (Tr.nd (t.is.drop ((d * 2 - 1) / 2 + 1)) (t.ks.drop ((d * 2 - 1) / 2 + 1)))]) x).2.getD El0).k), .int .i64 (((ins (d * 2 - 1) (ht + 1) (Tr.nd [y] [(Tr.nd (t.is.take ((d * 2 - 1) / 2)) (t.ks.take ((d * 2 - 1) / 2 + 1))), (Tr.nd (t.is.drop ((d * 2 - 1) / 2 + 1)) (t.ks.drop ((d * 2 - 1) / 2 + 1)))]) x).2.getD El0).v)]) (C' := [.int .i64 (((ins (d * 2 - 1) (ht + 1) (Tr.nd [y] [(Tr.nd (t.is.take ((d * 2 - 1) / 2)) (t.ks.take ((d * 2 - 1) / 2 + 1))), (Tr.nd (t.is.drop ((d * 2 - 1) / 2 + 1)) (t.ks.drop ((d * 2 - 1) / 2 + 1)))]) x).2.getD El0).k), .int .i64 (((ins (d * 2 - 1) (ht + 1) (Tr.nd [y] [(Tr.nd (t.is.take ((d * 2 - 1) / 2)) (t.ks.take ((d * 2 - 1) / 2 + 1))), (Tr.nd (t.is.drop ((d * 2 - 1) / 2 + 1)) (t.ks.drop ((d * 2 - 1) / 2 + 1)))]) x).2.getD El0).v)]) rfl Ty.ag55 rfl rfl rfl rfl (by simp) rfl) ?_
       rintro _ _ rfl
       refine WP.val rfl rfl rfl (Val.assign rfl rfl) ?_
       refine WP.nx ?_
       refine WPc.ret ?_
       refine Out.perm pl1 ?_
       iterate 4 (refine Out.drop ?_; refine Out.perm pl5 ?_)
       refine Out.drop ?_
       iterate 3 (refine Out.perm pl3 ?_)
       refine Out.perm pl4 ?_
       refine Out.perm pl4 ?_
       have hr : rins (d * 2 - 1) ht t x = (((ht + 1), (ins (d * 2 - 1) (ht + 1) (Tr.nd [y] [(Tr.nd (t.is.take ((d * 2 - 1) / 2)) (t.ks.take ((d * 2 - 1) / 2 + 1))), (Tr.nd (t.is.drop ((d * 2 - 1) / 2 + 1)) (t.ks.drop ((d * 2 - 1) / 2 + 1)))]) x).1), (ins (d * 2 - 1) (ht + 1) (Tr.nd [y] [(Tr.nd (t.is.take ((d * 2 - 1) / 2)) (t.ks.take ((d * 2 - 1) / 2 + 1))), (Tr.nd (t.is.drop ((d * 2 - 1) / 2 + 1)) (t.ks.drop ((d * 2 - 1) / 2 + 1)))]) x).2) := by unfold rins; rw [if_pos (by omega), getD_at hy]
       exact Out.retRun (L' := [Blk tb [.int .i64 (((d : Nat) : Int)), .int .i64 (n), .pointer (some ⟨pr, 0, none⟩), .pointer (some ⟨c, 0, none⟩)] 174, Nd c (ht + 1) (pr, (ins (d * 2 - 1) (ht + 1) (Tr.nd [y] [(Tr.nd (t.is.take ((d * 2 - 1) / 2)) (t.ks.take ((d * 2 - 1) / 2 + 1))), (Tr.nd (t.is.drop ((d * 2 - 1) / 2 + 1)) (t.ks.drop ((d * 2 - 1) / 2 + 1)))]) x).1), Blk c [.pointer (some ⟨f, 0, none⟩), .func (.func 53) #[] #[]] 170, FL f]) (results_ct Try.results74 rfl Ty.ag55 rfl rfl (fun w h => h.range 0 rfl rfl)) ⟨pr, by rw [hr]; rfl, by rw [hr]; rw [if_pos (by simp_all)]⟩ (fun w h => h.drop)
    ·
     refine WPO.step rfl rfl rfl rfl (Eff.alloc rfl Ty.z55) ?_
     rintro _ _ ⟨b18, rfl, rfl⟩
     refine ⟨(fun w h => (((h.perm pl9).perm pl5)).dropEnd (L := [_, _])), ?_⟩
     refine WPD.perm pl4 ?_
     refine WPD.step 6 (by kernel_rfl) rfl rfl rfl rfl (Eff.call rfl rfl Try.call101 (maxi_spec c d tb n (.pointer (some ⟨pr, 0, none⟩)) (by omega) (by omega))) ?_
     rintro _ _ ⟨_, ⟨rfl, rfl⟩, rfl⟩
     refine ⟨(fun w h => (((h.perm pl9).perm pl1)).dropEnd (L := [_, _])), ?_⟩
     show WPD _ _ _ _ _ _ _ _ _ (_ :: Blk b18 [.int .i64 0, .int .i64 0] 55 :: _)
     refine WPD.perm pl6 ?_
     refine WPD.perm pl6 ?_
     refine WPD.perm pl4 ?_
     refine WPD.step 7 (by kernel_rfl) rfl rfl rfl rfl (Eff.call rfl rfl Try.call103 (hins)) ?_
     rintro _ _ ⟨_, ⟨rfl, rfl⟩, rfl⟩
     refine ⟨(fun w h => (((h.perm pl9).perm pl4)).dropEnd (L := [_, _])), ?_⟩
     show WPD _ _ _ _ _ _ _ _ _ (Nd c (ht + 1) (pr, (ins (d * 2 - 1) (ht + 1) (Tr.nd [y] [(Tr.nd (t.is.take ((d * 2 - 1) / 2)) (t.ks.take ((d * 2 - 1) / 2 + 1))), (Tr.nd (t.is.drop ((d * 2 - 1) / 2 + 1)) (t.ks.drop ((d * 2 - 1) / 2 + 1)))]) x).1) :: _)
     refine WPD.tS 8 rfl rfl rfl rfl (fun w h => (((h.perm pl9).perm pl4)).dropEnd (L := [_, _])) (Val.move rfl rfl) ?_
     refine WPD.tS 9 rfl rfl rfl rfl (fun w h => (((h.perm pl9).perm pl4)).dropEnd (L := [_, _])) (Val.extract rfl rfl rfl) ?_
     refine WPD.tS 10 rfl rfl rfl rfl (fun w h => (((h.perm pl9).perm pl4)).dropEnd (L := [_, _])) (Val.extract rfl rfl rfl) ?_
     refine WPD.perm pl4 ?_
     refine WPD.stepC0 12 (by kernel_rfl) rfl rfl rfl (by kernel_rfl) (Eff.storeAgg (cs := [.int .i64 (((ins (d * 2 - 1) (ht + 1) (Tr.nd [y] [(Tr.nd (t.is.take ((d * 2 - 1) / 2)) (t.ks.take ((d * 2 - 1) / 2 + 1))), (Tr.nd (t.is.drop ((d * 2 - 1) / 2 + 1)) (t.ks.drop ((d * 2 - 1) / 2 + 1)))]) x).2.getD El0).k), .int .i64 (((ins (d * 2 - 1) (ht + 1) (Tr.nd [y] [(Tr.nd (t.is.take ((d * 2 - 1) / 2)) (t.ks.take ((d * 2 - 1) / 2 + 1))), (Tr.nd (t.is.drop ((d * 2 - 1) / 2 + 1)) (t.ks.drop ((d * 2 - 1) / 2 + 1)))]) x).2.getD El0).v)]) (C' := [.int .i64 (((ins (d * 2 - 1) (ht + 1) (Tr.nd [y] [(Tr.nd (t.is.take ((d * 2 - 1) / 2)) (t.ks.take ((d * 2 - 1) / 2 + 1))), (Tr.nd (t.is.drop ((d * 2 - 1) / 2 + 1)) (t.ks.drop ((d * 2 - 1) / 2 + 1)))]) x).2.getD El0).k), .int .i64 (((ins (d * 2 - 1) (ht + 1) (Tr.nd [y] [(Tr.nd (t.is.take ((d * 2 - 1) / 2)) (t.ks.take ((d * 2 - 1) / 2 + 1))), (Tr.nd (t.is.drop ((d * 2 - 1) / 2 + 1)) (t.ks.drop ((d * 2 - 1) / 2 + 1)))]) x).2.getD El0).v)]) rfl Ty.ag55 rfl rfl rfl rfl (by simp) rfl) ?_
     rintro _ _ rfl
     refine ⟨_, (fun _ h => h), ?_⟩
     refine WPD.tM 13 rfl rfl rfl rfl (Val.assign rfl rfl) ?_
     refine WPD.done (by kernel_rfl) ?_
     refine Out.next ?_
     refine WPc.seq ?_
     refine WPc.sr ?_
     refine WP.val rfl rfl rfl (Val.move rfl rfl) ?_
     refine WP.val rfl rfl rfl (Val.not rfl rfl) ?_
     refine WP.nx ?_
     refine WPc.cond rfl (fun h7 => ?_) (fun h7 => ?_)
     ·
      have h7 : (!((ins (d * 2 - 1) (ht + 1) (Tr.nd [y] [(Tr.nd (t.is.take ((d * 2 - 1) / 2)) (t.ks.take ((d * 2 - 1) / 2 + 1))), (Tr.nd (t.is.drop ((d * 2 - 1) / 2 + 1)) (t.ks.drop ((d * 2 - 1) / 2 + 1)))]) x).2.isSome)) = true := h7
      refine WPc.region ?_
      refine WP.val rfl rfl rfl (Val.move rfl rfl) ?_
      refine WP.val rfl rfl rfl (Val.nilCheck rfl rfl) ?_
      refine WP.val rfl rfl rfl (Val.fieldAddr (j := 1) rfl Ty.fo174_1 rfl rfl) ?_
      refine WP.val rfl rfl rfl (Val.load rfl Ty.sc3 rfl (fun w h => h.cell 4 rfl rfl)) ?_
      refine WP.val rfl rfl rfl (Val.add (z := n + (1 : Int)) rfl rfl rfl (w64 (by omega) (by omega))) ?_
      refine WP.val rfl rfl rfl (Val.nilCheck rfl rfl) ?_
      refine WP.val rfl rfl rfl (Val.fieldAddr (j := 1) rfl Ty.fo174_1 rfl rfl) ?_
      refine WP.perm pl4 ?_
      refine WP.eff0 rfl rfl (Eff.store rfl Ty.sc3 rfl rfl rfl (by simp) st1) ?_
      rintro _ _ rfl
      refine WP.nx ?_
      refine WPc.sr ?_
      refine WP.val rfl rfl rfl (Val.loadAgg (cs := [.int .i64 (((ins (d * 2 - 1) (ht + 1) (Tr.nd [y] [(Tr.nd (t.is.take ((d * 2 - 1) / 2)) (t.ks.take ((d * 2 - 1) / 2 + 1))), (Tr.nd (t.is.drop ((d * 2 - 1) / 2 + 1)) (t.ks.drop ((d * 2 - 1) / 2 + 1)))]) x).2.getD El0).k), .int .i64 (((ins (d * 2 - 1) (ht + 1) (Tr.nd [y] [(Tr.nd (t.is.take ((d * 2 - 1) / 2)) (t.ks.take ((d * 2 - 1) / 2 + 1))), (Tr.nd (t.is.drop ((d * 2 - 1) / 2 + 1)) (t.ks.drop ((d * 2 - 1) / 2 + 1)))]) x).2.getD El0).v)]) rfl Ty.ag55 rfl rfl (fun w h => h.range 1 rfl rfl)) ?_
      refine WP.val rfl rfl rfl (Val.move rfl rfl) ?_
      refine WP.perm pl8 ?_
      refine WP.eff0 rfl rfl (Eff.storeAgg (cs := [.int .i64 (((ins (d * 2 - 1) (ht + 1) (Tr.nd [y] [(Tr.nd (t.is.take ((d * 2 - 1) / 2)) (t.ks.take ((d * 2 - 1) / 2 + 1))), (Tr.nd (t.is.drop ((d * 2 - 1) / 2 + 1)) (t.ks.drop ((d * 2 - 1) / 2 + 1)))]) x).2.getD El0).k), .int .i64 (((ins (d * 2 - 1) (ht + 1) (Tr.nd [y] [(Tr.nd (t.is.take ((d * 2 - 1) / 2)) (t.ks.take ((d * 2 - 1) / 2 + 1))), (Tr.nd (t.is.drop ((d * 2 - 1) / 2 + 1)) (t.ks.drop ((d * 2 - 1) / 2 + 1)))]) x).2.getD El0).v)]) (C' := [.int .i64 (((ins (d * 2 - 1) (ht + 1) (Tr.nd [y] [(Tr.nd (t.is.take ((d * 2 - 1) / 2)) (t.ks.take ((d * 2 - 1) / 2 + 1))), (Tr.nd (t.is.drop ((d * 2 - 1) / 2 + 1)) (t.ks.drop ((d * 2 - 1) / 2 + 1)))]) x).2.getD El0).k), .int .i64 (((ins (d * 2 - 1) (ht + 1) (Tr.nd [y] [(Tr.nd (t.is.take ((d * 2 - 1) / 2)) (t.ks.take ((d * 2 - 1) / 2 + 1))), (Tr.nd (t.is.drop ((d * 2 - 1) / 2 + 1)) (t.ks.drop ((d * 2 - 1) / 2 + 1)))]) x).2.getD El0).v)]) rfl Ty.ag55 rfl rfl rfl rfl (by simp) rfl) ?_
      rintro _ _ rfl
      refine WP.val rfl rfl rfl (Val.assign rfl rfl) ?_
      refine WP.nx ?_
      refine WPc.ret ?_
      refine Out.perm pl2 ?_
      iterate 4 (refine Out.drop ?_; refine Out.perm pl5 ?_)
      refine Out.drop ?_
      have hr : rins (d * 2 - 1) ht t x = (((ht + 1), (ins (d * 2 - 1) (ht + 1) (Tr.nd [y] [(Tr.nd (t.is.take ((d * 2 - 1) / 2)) (t.ks.take ((d * 2 - 1) / 2 + 1))), (Tr.nd (t.is.drop ((d * 2 - 1) / 2 + 1)) (t.ks.drop ((d * 2 - 1) / 2 + 1)))]) x).1), (ins (d * 2 - 1) (ht + 1) (Tr.nd [y] [(Tr.nd (t.is.take ((d * 2 - 1) / 2)) (t.ks.take ((d * 2 - 1) / 2 + 1))), (Tr.nd (t.is.drop ((d * 2 - 1) / 2 + 1)) (t.ks.drop ((d * 2 - 1) / 2 + 1)))]) x).2) := by unfold rins; rw [if_pos (by omega), getD_at hy]
      exact Out.retRun (L' := [Blk tb [.int .i64 (((d : Nat) : Int)), .int .i64 (n + (1 : Int)), .pointer (some ⟨pr, 0, none⟩), .pointer (some ⟨c, 0, none⟩)] 174, Nd c (ht + 1) (pr, (ins (d * 2 - 1) (ht + 1) (Tr.nd [y] [(Tr.nd (t.is.take ((d * 2 - 1) / 2)) (t.ks.take ((d * 2 - 1) / 2 + 1))), (Tr.nd (t.is.drop ((d * 2 - 1) / 2 + 1)) (t.ks.drop ((d * 2 - 1) / 2 + 1)))]) x).1), Blk c [.pointer (some ⟨f, 0, none⟩), .func (.func 53) #[] #[]] 170, FL f]) (results_ct Try.results74 rfl Ty.ag55 rfl rfl (fun w h => h.range 0 rfl rfl)) ⟨pr, by rw [hr]; rfl, by rw [hr]; rw [if_neg (by simp_all)]⟩ (fun w h => h.drop)
     ·
      have h7 : (!((ins (d * 2 - 1) (ht + 1) (Tr.nd [y] [(Tr.nd (t.is.take ((d * 2 - 1) / 2)) (t.ks.take ((d * 2 - 1) / 2 + 1))), (Tr.nd (t.is.drop ((d * 2 - 1) / 2 + 1)) (t.ks.drop ((d * 2 - 1) / 2 + 1)))]) x).2.isSome)) = false := h7
      refine WPc.skip ?_
      refine Out.next ?_
      refine WPc.sr ?_
      refine WP.val rfl rfl rfl (Val.loadAgg (cs := [.int .i64 (((ins (d * 2 - 1) (ht + 1) (Tr.nd [y] [(Tr.nd (t.is.take ((d * 2 - 1) / 2)) (t.ks.take ((d * 2 - 1) / 2 + 1))), (Tr.nd (t.is.drop ((d * 2 - 1) / 2 + 1)) (t.ks.drop ((d * 2 - 1) / 2 + 1)))]) x).2.getD El0).k), .int .i64 (((ins (d * 2 - 1) (ht + 1) (Tr.nd [y] [(Tr.nd (t.is.take ((d * 2 - 1) / 2)) (t.ks.take ((d * 2 - 1) / 2 + 1))), (Tr.nd (t.is.drop ((d * 2 - 1) / 2 + 1)) (t.ks.drop ((d * 2 - 1) / 2 + 1)))]) x).2.getD El0).v)]) rfl Ty.ag55 rfl rfl (fun w h => h.range 0 rfl rfl)) ?_
      refine WP.val rfl rfl rfl (Val.move rfl rfl) ?_
      refine WP.perm pl8 ?_
      refine WP.eff0 rfl rfl (Eff.storeAgg (cs := [.int .i64 (((ins (d * 2 - 1) (ht + 1) (Tr.nd [y] [(Tr.nd (t.is.take ((d * 2 - 1) / 2)) (t.ks.take ((d * 2 - 1) / 2 + 1))), (Tr.nd (t.is.drop ((d * 2 - 1) / 2 + 1)) (t.ks.drop ((d * 2 - 1) / 2 + 1)))]) x).2.getD El0).k), .int .i64 (((ins (d * 2 - 1) (ht + 1) (Tr.nd [y] [(Tr.nd (t.is.take ((d * 2 - 1) / 2)) (t.ks.take ((d * 2 - 1) / 2 + 1))), (Tr.nd (t.is.drop ((d * 2 - 1) / 2 + 1)) (t.ks.drop ((d * 2 - 1) / 2 + 1)))]) x).2.getD El0).v)]) (C' := [.int .i64 (((ins (d * 2 - 1) (ht + 1) (Tr.nd [y] [(Tr.nd (t.is.take ((d * 2 - 1) / 2)) (t.ks.take ((d * 2 - 1) / 2 + 1))), (Tr.nd (t.is.drop ((d * 2 - 1) / 2 + 1)) (t.ks.drop ((d * 2 - 1) / 2 + 1)))]) x).2.getD El0).k), .int .i64 (((ins (d * 2 - 1) (ht + 1) (Tr.nd [y] [(Tr.nd (t.is.take ((d * 2 - 1) / 2)) (t.ks.take ((d * 2 - 1) / 2 + 1))), (Tr.nd (t.is.drop ((d * 2 - 1) / 2 + 1)) (t.ks.drop ((d * 2 - 1) / 2 + 1)))]) x).2.getD El0).v)]) rfl Ty.ag55 rfl rfl rfl rfl (by simp) rfl) ?_
      rintro _ _ rfl
      refine WP.val rfl rfl rfl (Val.assign rfl rfl) ?_
      refine WP.nx ?_
      refine WPc.ret ?_
      refine Out.perm pl1 ?_
      iterate 4 (refine Out.drop ?_; refine Out.perm pl5 ?_)
      refine Out.drop ?_
      iterate 3 (refine Out.perm pl3 ?_)
      refine Out.perm pl4 ?_
      refine Out.perm pl4 ?_
      have hr : rins (d * 2 - 1) ht t x = (((ht + 1), (ins (d * 2 - 1) (ht + 1) (Tr.nd [y] [(Tr.nd (t.is.take ((d * 2 - 1) / 2)) (t.ks.take ((d * 2 - 1) / 2 + 1))), (Tr.nd (t.is.drop ((d * 2 - 1) / 2 + 1)) (t.ks.drop ((d * 2 - 1) / 2 + 1)))]) x).1), (ins (d * 2 - 1) (ht + 1) (Tr.nd [y] [(Tr.nd (t.is.take ((d * 2 - 1) / 2)) (t.ks.take ((d * 2 - 1) / 2 + 1))), (Tr.nd (t.is.drop ((d * 2 - 1) / 2 + 1)) (t.ks.drop ((d * 2 - 1) / 2 + 1)))]) x).2) := by unfold rins; rw [if_pos (by omega), getD_at hy]
      exact Out.retRun (L' := [Blk tb [.int .i64 (((d : Nat) : Int)), .int .i64 (n), .pointer (some ⟨pr, 0, none⟩), .pointer (some ⟨c, 0, none⟩)] 174, Nd c (ht + 1) (pr, (ins (d * 2 - 1) (ht + 1) (Tr.nd [y] [(Tr.nd (t.is.take ((d * 2 - 1) / 2)) (t.ks.take ((d * 2 - 1) / 2 + 1))), (Tr.nd (t.is.drop ((d * 2 - 1) / 2 + 1)) (t.ks.drop ((d * 2 - 1) / 2 + 1)))]) x).1), Blk c [.pointer (some ⟨f, 0, none⟩), .func (.func 53) #[] #[]] 170, FL f]) (results_ct Try.results74 rfl Ty.ag55 rfl rfl (fun w h => h.range 0 rfl rfl)) ⟨pr, by rw [hr]; rfl, by rw [hr]; rw [if_pos (by simp_all)]⟩ (fun w h => h.drop)
  ·
   refine WPO.step rfl rfl rfl rfl (Eff.alloc rfl Ty.z55) ?_
   rintro _ _ ⟨b19, rfl, rfl⟩
   refine ⟨(fun w h => ((h.perm pl2)).dropEnd (L := [_])), ?_⟩
   refine WPD.perm pl2 ?_
   refine WPD.step 5 (by kernel_rfl) rfl rfl rfl rfl (Eff.call rfl rfl Try.call101 (maxi_spec c d tb n (.pointer (some ⟨p, 0, none⟩)) (by omega) (by omega))) ?_
   rintro _ _ ⟨_, ⟨rfl, rfl⟩, rfl⟩
   refine ⟨(fun w h => (h).dropEnd (L := [_])), ?_⟩
   show WPD _ _ _ _ _ _ _ _ _ (_ :: Blk b19 [.int .i64 0, .int .i64 0] 55 :: _)
   refine WPD.tS 6 rfl rfl rfl rfl (fun w h => (h).dropEnd (L := [_])) (Val.quo (z := (((d * 2 - 1) / 2 : Nat) : Int)) rfl rfl rfl (by omega) (show IntKind.i64.wrap (((d * 2 - 1) / 2 : Nat) : Int) = _ from w64 (by omega) (by omega))) ?_
   refine WPD.perm pl6 ?_
   refine WPD.perm pl6 ?_
   refine WPD.perm pl4 ?_
   refine WPD.step 7 (by kernel_rfl) rfl rfl rfl rfl (Eff.call rfl rfl Try.call102 (split_spec c f ht p ((d * 2 - 1) / 2) t y hy (by omega) (by omega) (by omega))) ?_
   rintro _ _ ⟨_, ⟨p2, rfl, rfl⟩, rfl⟩
   refine ⟨(fun w h => ((h.perm pl4)).dropEnd (L := [_])), ?_⟩
   show WPD _ _ _ _ _ _ _ _ _ (Nd c ht (p, (Tr.nd (t.is.take ((d * 2 - 1) / 2)) (t.ks.take ((d * 2 - 1) / 2 + 1)))) :: Nd c ht (p2, (Tr.nd (t.is.drop ((d * 2 - 1) / 2 + 1)) (t.ks.drop ((d * 2 - 1) / 2 + 1)))) :: _)
   refine WPD.tS 8 rfl rfl rfl rfl (fun w h => ((h.perm pl4)).dropEnd (L := [_])) (Val.move rfl rfl) ?_
   refine WPD.tS 9 rfl rfl rfl rfl (fun w h => ((h.perm pl4)).dropEnd (L := [_])) (Val.extract rfl rfl rfl) ?_
   refine WPD.tS 10 rfl rfl rfl rfl (fun w h => ((h.perm pl4)).dropEnd (L := [_])) (Val.extract rfl rfl rfl) ?_
   refine WPD.perm pl5 ?_
   refine WPD.stepC0 12 (by kernel_rfl) rfl rfl rfl (by kernel_rfl) (Eff.storeAgg (cs := [.int .i64 (y.k), .int .i64 (y.v)]) (C' := [.int .i64 (y.k), .int .i64 (y.v)]) rfl Ty.ag55 rfl rfl rfl rfl (by simp) rfl) ?_
   rintro _ _ rfl
   refine ⟨_, (fun _ h => h), ?_⟩
   refine WPD.tM 13 rfl rfl rfl rfl (Val.assign rfl rfl) ?_
   refine WPD.done (by kernel_rfl) ?_
   refine Out.next ?_
   refine WPc.sr ?_
   refine WP.val rfl rfl rfl (Val.move rfl rfl) ?_
   refine WP.val rfl rfl rfl (Val.nilCheck rfl rfl) ?_
   refine WP.val rfl rfl rfl (Val.fieldAddr (j := 2) rfl Ty.fo174_2 rfl rfl) ?_
   refine WP.val rfl rfl rfl (Val.load rfl Ty.sc171 rfl (fun w h => h.cell 5 rfl rfl)) ?_
   refine WP.val rfl rfl rfl (Val.assign rfl rfl) ?_
   refine WP.nx ?_
   refine WPc.sr ?_
   refine WP.val rfl rfl rfl (Val.move rfl rfl) ?_
   refine WP.val rfl rfl rfl (Val.move rfl rfl) ?_
   refine WP.val rfl rfl rfl (Val.nilCheck rfl rfl) ?_
   refine WP.val rfl rfl rfl (Val.fieldAddr (j := 3) rfl Ty.fo174_3 rfl rfl) ?_
   refine WP.val rfl rfl rfl (Val.load rfl Ty.sc172 rfl (fun w h => h.cell 5 rfl rfl)) ?_
   refine WP.perm pl4 ?_
   refine WP.perm pl4 ?_
   refine WP.eff rfl rfl rfl (Eff.call rfl rfl Try.call99 (cownew_spec c f)) ?_
   rintro _ _ ⟨_, ⟨pr, w1r, w2r, rfl, rfl⟩, rfl⟩
   show WP _ _ _ _ _ _ _ (Blk pr [w1r, w2r, .pointer (some ⟨c, 0, none⟩)] 213 :: Own 55 2 w1r 0 ([]) :: Own 171 1 w2r 0 ([]) :: _ :: _ :: Blk b19 [.int .i64 (y.k), .int .i64 (y.v)] 55 :: _)
   refine WP.val rfl rfl rfl (Val.nilCheck rfl rfl) ?_
   refine WP.val rfl rfl rfl (Val.fieldAddr (j := 2) rfl Ty.fo174_2 rfl rfl) ?_
   refine WP.perm pl8 ?_
   refine WP.eff0 rfl rfl (Eff.store rfl Ty.sc171 rfl rfl rfl (by simp) st2) ?_
   rintro _ _ rfl
   refine WP.nx ?_
   refine WPc.seq ?_
   refine WPD.start (Sat W [Blk tb [.int .i64 (((d : Nat) : Int)), .int .i64 (n), .pointer (some ⟨pr, 0, none⟩), .pointer (some ⟨c, 0, none⟩)] 174, Blk pr [w1r, w2r, .pointer (some ⟨c, 0, none⟩)] 213, Blk b19 [.int .i64 (y.k), .int .i64 (y.v)] 55]) Ty.mixed ?_
   refine WPD.tS 0 rfl rfl rfl rfl (fun w h => ((((h.perm pl6).perm pl2).perm pl2)).dropEnd (L := [_, _, _])) (Val.move rfl rfl) ?_
   refine WPD.tS 1 rfl rfl rfl rfl (fun w h => ((((h.perm pl6).perm pl2).perm pl2)).dropEnd (L := [_, _, _])) (Val.nilCheck rfl rfl) ?_
   refine WPD.tS 2 rfl rfl rfl rfl (fun w h => ((((h.perm pl6).perm pl2).perm pl2)).dropEnd (L := [_, _, _])) (Val.fieldAddr (j := 2) rfl Ty.fo174_2 rfl rfl) ?_
   refine WPD.tL 3 rfl rfl rfl rfl (fun w h => ((((h.perm pl6).perm pl2).perm pl2)).dropEnd (L := [_, _, _])) (Val.load rfl Ty.sc171 rfl (fun w h => h.cell 0 rfl rfl)) ?_
   refine WPD.tS 4 rfl rfl rfl rfl (fun w h => ((((h.perm pl6).perm pl2).perm pl2)).dropEnd (L := [_, _, _])) (Val.move rfl rfl) ?_
   refine WPD.tS 5 rfl rfl rfl rfl (fun w h => ((((h.perm pl6).perm pl2).perm pl2)).dropEnd (L := [_, _, _])) (Val.nilCheck rfl rfl) ?_
   refine WPD.tS 6 rfl rfl rfl rfl (fun w h => ((((h.perm pl6).perm pl2).perm pl2)).dropEnd (L := [_, _, _])) (Val.fieldAddr (j := 2) rfl Ty.fo174_2 rfl rfl) ?_
   refine WPD.tL 7 rfl rfl rfl rfl (fun w h => ((((h.perm pl6).perm pl2).perm pl2)).dropEnd (L := [_, _, _])) (Val.load rfl Ty.sc171 rfl (fun w h => h.cell 0 rfl rfl)) ?_
   refine WPD.tS 8 rfl rfl rfl rfl (fun w h => ((((h.perm pl6).perm pl2).perm pl2)).dropEnd (L := [_, _, _])) (Val.nilCheck rfl rfl) ?_
   refine WPD.tS 9 rfl rfl rfl rfl (fun w h => ((((h.perm pl6).perm pl2).perm pl2)).dropEnd (L := [_, _, _])) (Val.fieldAddr (j := 0) rfl Ty.fo213_0 rfl rfl) ?_
   refine WPD.tL 10 rfl rfl rfl rfl (fun w h => ((((h.perm pl6).perm pl2).perm pl2)).dropEnd (L := [_, _, _])) (Val.load rfl Ty.sc210 rfl (fun w h => h.cell 1 rfl rfl)) ?_
   refine WPD.tL 11 rfl rfl rfl rfl (fun w h => ((((h.perm pl6).perm pl2).perm pl2)).dropEnd (L := [_, _, _])) (Val.loadAgg (cs := [.int .i64 (y.k), .int .i64 (y.v)]) rfl Ty.ag55 rfl rfl (fun w h => h.range 2 rfl rfl)) ?_
   refine WPD.step 12 (by kernel_rfl) rfl rfl rfl rfl (Eff.mkSlice (C := [.int .i64 (y.k), .int .i64 (y.v)]) rfl Ty.sl210 rfl (fun _ => by kernel_rfl)) ?_
   rintro _ _ ⟨b20, rfl, rfl⟩
   refine ⟨(fun w h => ((((h.perm pl7).perm pl3).perm pl3)).dropEnd (L := [_, _, _])), ?_⟩
   refine WPD.perm pl3 ?_
   refine WPD.step 13 (by kernel_rfl) rfl rfl rfl rfl (Eff.append (m := 1) (n0 := 0) (news := [.int .i64 (y.k), .int .i64 (y.v)]) rfl Ty.sl210 Ty.z55 rfl rfl rfl (.slice Ty.sl210 rfl rfl (fun w h => cells_range (h.range 1 rfl rfl))) (by omega) (by omega)) ?_
   rintro v21 _ ⟨onev21, rfl⟩
   refine ⟨(fun w h => ((((h.perm pl7).perm pl4).perm pl4)).dropEnd (L := [_, _, _])), ?_⟩
   refine WPD.tS 14 rfl rfl rfl rfl (fun w h => ((((h.perm pl7).perm pl4).perm pl4)).dropEnd (L := [_, _, _])) (Val.nilCheck rfl rfl) ?_
   refine WPD.tS 15 rfl rfl rfl rfl (fun w h => ((((h.perm pl7).perm pl4).perm pl4)).dropEnd (L := [_, _, _])) (Val.fieldAddr (j := 0) rfl Ty.fo213_0 rfl rfl) ?_
   refine WPD.perm pl3 ?_
   refine WPD.stepC0 16 (by kernel_rfl) rfl rfl rfl (by kernel_rfl) (Eff.store rfl Ty.sc210 rfl rfl onev21 (by simp) st0) ?_
   rintro _ _ rfl
   refine ⟨_, (fun _ h => h), ?_⟩
   refine WPD.done (by kernel_rfl) ?_
   refine Out.next ?_
   refine WPD.start (Sat W [Blk tb [.int .i64 (((d : Nat) : Int)), .int .i64 (n), .pointer (some ⟨pr, 0, none⟩), .pointer (some ⟨c, 0, none⟩)] 174, Blk pr [v21, w2r, .pointer (some ⟨c, 0, none⟩)] 213]) Ty.mixed ?_
   refine WPD.tS 0 rfl rfl rfl rfl (fun w h => ((h.perm pl3)).dropEnd (L := [_, _])) (Val.move rfl rfl) ?_
   refine WPD.tS 1 rfl rfl rfl rfl (fun w h => ((h.perm pl3)).dropEnd (L := [_, _])) (Val.nilCheck rfl rfl) ?_
   refine WPD.tS 2 rfl rfl rfl rfl (fun w h => ((h.perm pl3)).dropEnd (L := [_, _])) (Val.fieldAddr (j := 2) rfl Ty.fo174_2 rfl rfl) ?_
   refine WPD.tL 3 rfl rfl rfl rfl (fun w h => ((h.perm pl3)).dropEnd (L := [_, _])) (Val.load rfl Ty.sc171 rfl (fun w h => h.cell 0 rfl rfl)) ?_
   refine WPD.tS 4 rfl rfl rfl rfl (fun w h => ((h.perm pl3)).dropEnd (L := [_, _])) (Val.move rfl rfl) ?_
   refine WPD.tS 5 rfl rfl rfl rfl (fun w h => ((h.perm pl3)).dropEnd (L := [_, _])) (Val.nilCheck rfl rfl) ?_
   refine WPD.tS 6 rfl rfl rfl rfl (fun w h => ((h.perm pl3)).dropEnd (L := [_, _])) (Val.fieldAddr (j := 2) rfl Ty.fo174_2 rfl rfl) ?_
   refine WPD.tL 7 rfl rfl rfl rfl (fun w h => ((h.perm pl3)).dropEnd (L := [_, _])) (Val.load rfl Ty.sc171 rfl (fun w h => h.cell 0 rfl rfl)) ?_
   refine WPD.tS 8 rfl rfl rfl rfl (fun w h => ((h.perm pl3)).dropEnd (L := [_, _])) (Val.nilCheck rfl rfl) ?_
   refine WPD.tS 9 rfl rfl rfl rfl (fun w h => ((h.perm pl3)).dropEnd (L := [_, _])) (Val.fieldAddr (j := 1) rfl Ty.fo213_1 rfl rfl) ?_
   refine WPD.tL 10 rfl rfl rfl rfl (fun w h => ((h.perm pl3)).dropEnd (L := [_, _])) (Val.load rfl Ty.sc211 rfl (fun w h => h.cell 1 rfl rfl)) ?_
   refine WPD.tS 11 rfl rfl rfl rfl (fun w h => ((h.perm pl3)).dropEnd (L := [_, _])) (Val.move rfl rfl) ?_
   refine WPD.tS 12 rfl rfl rfl rfl (fun w h => ((h.perm pl3)).dropEnd (L := [_, _])) (Val.move rfl rfl) ?_
   refine WPD.step 13 (by kernel_rfl) rfl rfl rfl rfl (Eff.mkSlice (C := [.pointer (some ⟨p, 0, none⟩), .pointer (some ⟨p2, 0, none⟩)]) rfl Ty.sl211 rfl (fun _ => by kernel_rfl)) ?_
   rintro _ _ ⟨b22, rfl, rfl⟩
   refine ⟨(fun w h => (((h.perm pl1).perm pl4)).dropEnd (L := [_, _])), ?_⟩
   refine WPD.perm pl5 ?_
   refine WPD.step 14 (by kernel_rfl) rfl rfl rfl rfl (Eff.append (m := 2) (n0 := 0) (news := [.pointer (some ⟨p, 0, none⟩), .pointer (some ⟨p2, 0, none⟩)]) rfl Ty.sl211 Ty.z171 rfl rfl rfl (.slice Ty.sl211 rfl rfl (fun w h => cells_range (h.range 1 rfl rfl))) (by omega) (by omega)) ?_
   rintro v23 _ ⟨onev23, rfl⟩
   refine ⟨(fun w h => (((h.perm pl2).perm pl5)).dropEnd (L := [_, _])), ?_⟩
   refine WPD.tS 15 rfl rfl rfl rfl (fun w h => (((h.perm pl2).perm pl5)).dropEnd (L := [_, _])) (Val.nilCheck rfl rfl) ?_
   refine WPD.tS 16 rfl rfl rfl rfl (fun w h => (((h.perm pl2).perm pl5)).dropEnd (L := [_, _])) (Val.fieldAddr (j := 1) rfl Ty.fo213_1 rfl rfl) ?_
   refine WPD.perm pl2 ?_
   refine WPD.stepC0 17 (by kernel_rfl) rfl rfl rfl (by kernel_rfl) (Eff.store rfl Ty.sc211 rfl rfl onev23 (by simp) st1) ?_
   rintro _ _ rfl
   refine ⟨_, (fun _ h => h), ?_⟩
   refine WPD.done (by kernel_rfl) ?_
   refine Out.next ?_
   refine WPc.seq ?_
   refine WPc.perm pl3 ?_
   refine WPc.c1 (B := Own 55 2 v21 ((Tr.nd [y] [(Tr.nd (t.is.take ((d * 2 - 1) / 2)) (t.ks.take ((d * 2 - 1) / 2 + 1))), (Tr.nd (t.is.drop ((d * 2 - 1) / 2 + 1)) (t.ks.drop ((d * 2 - 1) / 2 + 1)))]).is.length) (flatOf El.cells (Tr.nd [y] [(Tr.nd (t.is.take ((d * 2 - 1) / 2)) (t.ks.take ((d * 2 - 1) / 2 + 1))), (Tr.nd (t.is.drop ((d * 2 - 1) / 2 + 1)) (t.ks.drop ((d * 2 - 1) / 2 + 1)))]).is)) (fun w h => by exact h) ?_
   refine WPc.perm pl2 ?_
   refine WPc.c1 (B := Own 171 1 v23 ([(p, (Tr.nd (t.is.take ((d * 2 - 1) / 2)) (t.ks.take ((d * 2 - 1) / 2 + 1)))), (p2, (Tr.nd (t.is.drop ((d * 2 - 1) / 2 + 1)) (t.ks.drop ((d * 2 - 1) / 2 + 1))))].length) (flatOf vcf (kp [(p, (Tr.nd (t.is.take ((d * 2 - 1) / 2)) (t.ks.take ((d * 2 - 1) / 2 + 1)))), (p2, (Tr.nd (t.is.drop ((d * 2 - 1) / 2 + 1)) (t.ks.drop ((d * 2 - 1) / 2 + 1))))]))) (fun w h => by exact h) ?_
   refine WPc.conv (fun w h => Sat.kNil (R := Rk c (ht + 1)) h) ?_
   refine WPc.perm pl11 ?_
   refine WPc.conv (fun w h => h.kConsMk) ?_
   refine WPc.perm pl10 ?_
   refine WPc.conv (fun w h => h.kConsMk) ?_
   refine WPc.perm pl1 ?_
   refine WPc.perm pl2 ?_
   refine WPc.perm pl3 ?_
   refine WPc.conv (fun w h => Sat.ndMk (c := c) (h := (ht + 1)) (t := (Tr.nd [y] [(Tr.nd (t.is.take ((d * 2 - 1) / 2)) (t.ks.take ((d * 2 - 1) / 2 + 1))), (Tr.nd (t.is.drop ((d * 2 - 1) / 2 + 1)) (t.ks.drop ((d * 2 - 1) / 2 + 1)))])) (ks := [(p, (Tr.nd (t.is.take ((d * 2 - 1) / 2)) (t.ks.take ((d * 2 - 1) / 2 + 1)))), (p2, (Tr.nd (t.is.drop ((d * 2 - 1) / 2 + 1)) (t.ks.drop ((d * 2 - 1) / 2 + 1))))]) rfl (fun h0 => by cases h0) h) ?_
   show WPc _ _ _ _ _ _ (Nd c (ht + 1) (pr, (Tr.nd [y] [(Tr.nd (t.is.take ((d * 2 - 1) / 2)) (t.ks.take ((d * 2 - 1) / 2 + 1))), (Tr.nd (t.is.drop ((d * 2 - 1) / 2 + 1)) (t.ks.drop ((d * 2 - 1) / 2 + 1)))])) :: Blk b22 [.pointer (some ⟨p, 0, none⟩), .pointer (some ⟨p2, 0, none⟩)] 171 :: Blk b20 [.int .i64 (y.k), .int .i64 (y.v)] 55 :: Blk tb [.int .i64 (((d : Nat) : Int)), .int .i64 (n), .pointer (some ⟨pr, 0, none⟩), .pointer (some ⟨c, 0, none⟩)] 174 :: _)
   have hb2 : Bal m M (ht + 1) (Tr.nd [y] [(Tr.nd (t.is.take ((d * 2 - 1) / 2)) (t.ks.take ((d * 2 - 1) / 2 + 1))), (Tr.nd (t.is.drop ((d * 2 - 1) / 2 + 1)) (t.ks.drop ((d * 2 - 1) / 2 + 1)))]) := root_bal hM hbal (by omega) (by omega)
   have hlt2 : (Tr.nd [y] [(Tr.nd (t.is.take ((d * 2 - 1) / 2)) (t.ks.take ((d * 2 - 1) / 2 + 1))), (Tr.nd (t.is.drop ((d * 2 - 1) / 2 + 1)) (t.ks.drop ((d * 2 - 1) / 2 + 1)))]).is.length < M := (show 1 < M by omega)
   have hins := insert_spec c f m M hM (by omega) x (ht + 1) pr (Tr.nd [y] [(Tr.nd (t.is.take ((d * 2 - 1) / 2)) (t.ks.take ((d * 2 - 1) / 2 + 1))), (Tr.nd (t.is.drop ((d * 2 - 1) / 2 + 1)) (t.ks.drop ((d * 2 - 1) / 2 + 1)))]) hb2 hlt2
   rw [hMd] at hins
   refine WPD.start (Sat W [Blk tb [.int .i64 (((d : Nat) : Int)), .int .i64 (n), .pointer (some ⟨pr, 0, none⟩), .pointer (some ⟨c, 0, none⟩)] 174, Blk b1 [.int .i64 (x.k), .int .i64 (x.v)] 55]) Ty.mixed ?_
   refine WPD.tS 0 rfl rfl rfl rfl (fun w h => (((h.perm pl8).perm pl4)).dropEnd (L := [_, _])) (Val.move rfl rfl) ?_
   refine WPD.tS 1 rfl rfl rfl rfl (fun w h => (((h.perm pl8).perm pl4)).dropEnd (L := [_, _])) (Val.nilCheck rfl rfl) ?_
   refine WPD.tS 2 rfl rfl rfl rfl (fun w h => (((h.perm pl8).perm pl4)).dropEnd (L := [_, _])) (Val.fieldAddr (j := 2) rfl Ty.fo174_2 rfl rfl) ?_
   refine WPD.tL 3 rfl rfl rfl rfl (fun w h => (((h.perm pl8).perm pl4)).dropEnd (L := [_, _])) (Val.load rfl Ty.sc171 rfl (fun w h => h.cell 0 rfl rfl)) ?_
   refine WPD.tL 4 rfl rfl rfl rfl (fun w h => (((h.perm pl8).perm pl4)).dropEnd (L := [_, _])) (Val.loadAgg (cs := [.int .i64 (x.k), .int .i64 (x.v)]) rfl Ty.ag55 rfl rfl (fun w h => h.range 1 rfl rfl)) ?_
   refine WPD.tS 5 rfl rfl rfl rfl (fun w h => (((h.perm pl8).perm pl4)).dropEnd (L := [_, _])) (Val.move rfl rfl) ?_
   refine WPD.pick2 6 11 (by kernel_rfl) ?_ ?_
   ·
    refine WPO.perm pl3 ?_
    refine WPO.step rfl rfl rfl rfl (Eff.call rfl rfl Try.call101 (maxi_spec c d tb n (.pointer (some ⟨pr, 0, none⟩)) (by omega) (by omega))) ?_
    rintro _ _ ⟨_, ⟨rfl, rfl⟩, rfl⟩
    refine ⟨(fun w h => (((h.perm pl8).perm pl1)).dropEnd (L := [_, _])), ?_⟩
    refine WPD.pick2 7 11 (by kernel_rfl) ?_ ?_
    ·
     refine WPO.perm pl5 ?_
     refine WPO.perm pl5 ?_
     refine WPO.perm pl3 ?_
     refine WPO.step rfl rfl rfl rfl (Eff.call rfl rfl Try.call103 (hins)) ?_
     rintro _ _ ⟨_, ⟨rfl, rfl⟩, rfl⟩
     refine ⟨(fun w h => (((h.perm pl8).perm pl4)).dropEnd (L := [_, _])), ?_⟩
     show WPD _ _ _ _ _ _ _ _ _ (Nd c (ht + 1) (pr, (ins (d * 2 - 1) (ht + 1) (Tr.nd [y] [(Tr.nd (t.is.take ((d * 2 - 1) / 2)) (t.ks.take ((d * 2 - 1) / 2 + 1))), (Tr.nd (t.is.drop ((d * 2 - 1) / 2 + 1)) (t.ks.drop ((d * 2 - 1) / 2 + 1)))]) x).1) :: _)
     refine WPD.tS 8 rfl rfl rfl rfl (fun w h => (((h.perm pl8).perm pl4)).dropEnd (L := [_, _])) (Val.move rfl rfl) ?_
     refine WPD.tS 9 rfl rfl rfl rfl (fun w h => (((h.perm pl8).perm pl4)).dropEnd (L := [_, _])) (Val.extract rfl rfl rfl) ?_
     refine WPD.tS 10 rfl rfl rfl rfl (fun w h => (((h.perm pl8).perm pl4)).dropEnd (L := [_, _])) (Val.extract rfl rfl rfl) ?_
     refine WPD.step 11 (by kernel_rfl) rfl rfl rfl rfl (Eff.alloc rfl Ty.z55) ?_
     rintro _ _ ⟨b24, rfl, rfl⟩
     refine ⟨(fun w h => (((h.perm pl9).perm pl5)).dropEnd (L := [_, _])), ?_⟩
     refine WPD.stepC0 12 (by kernel_rfl) rfl rfl rfl (by kernel_rfl) (Eff.storeAgg (cs := [.int .i64 (((ins (d * 2 - 1) (ht + 1) (Tr.nd [y] [(Tr.nd (t.is.take ((d * 2 - 1) / 2)) (t.ks.take ((d * 2 - 1) / 2 + 1))), (Tr.nd (t.is.drop ((d * 2 - 1) / 2 + 1)) (t.ks.drop ((d * 2 - 1) / 2 + 1)))]) x).2.getD El0).k), .int .i64 (((ins (d * 2 - 1) (ht + 1) (Tr.nd [y] [(Tr.nd (t.is.take ((d * 2 - 1) / 2)) (t.ks.take ((d * 2 - 1) / 2 + 1))), (Tr.nd (t.is.drop ((d * 2 - 1) / 2 + 1)) (t.ks.drop ((d * 2 - 1) / 2 + 1)))]) x).2.getD El0).v)]) (C' := [.int .i64 (((ins (d * 2 - 1) (ht + 1) (Tr.nd [y] [(Tr.nd (t.is.take ((d * 2 - 1) / 2)) (t.ks.take ((d * 2 - 1) / 2 + 1))), (Tr.nd (t.is.drop ((d * 2 - 1) / 2 + 1)) (t.ks.drop ((d * 2 - 1) / 2 + 1)))]) x).2.getD El0).k), .int .i64 (((ins (d * 2 - 1) (ht + 1) (Tr.nd [y] [(Tr.nd (t.is.take ((d * 2 - 1) / 2)) (t.ks.take ((d * 2 - 1) / 2 + 1))), (Tr.nd (t.is.drop ((d * 2 - 1) / 2 + 1)) (t.ks.drop ((d * 2 - 1) / 2 + 1)))]) x).2.getD El0).v)]) rfl Ty.ag55 rfl rfl rfl rfl (by simp) rfl) ?_
     rintro _ _ rfl
     refine ⟨_, (fun _ h => h), ?_⟩
     refine WPD.tM 13 rfl rfl rfl rfl (Val.assign rfl rfl) ?_
     refine WPD.done (by kernel_rfl) ?_
     refine Out.next ?_
     refine WPc.seq ?_
     refine WPc.sr ?_
     refine WP.val rfl rfl rfl (Val.move rfl rfl) ?_
     refine WP.val rfl rfl rfl (Val.not rfl rfl) ?_
     refine WP.nx ?_
     refine WPc.cond rfl (fun h8 => ?_) (fun h8 => ?_)
     ·
      have h8 : (!((ins (d * 2 - 1) (ht + 1) (Tr.nd [y] [(Tr.nd (t.is.take ((d * 2 - 1) / 2)) (t.ks.take ((d * 2 - 1) / 2 + 1))), (Tr.nd (t.is.drop ((d * 2 - 1) / 2 + 1)) (t.ks.drop ((d * 2 - 1) / 2 + 1)))]) x).2.isSome)) = true := h8
      refine WPc.region ?_
      refine WP.val rfl rfl rfl (Val.move rfl rfl) ?_
      refine WP.val rfl rfl rfl (Val.nilCheck rfl rfl) ?_
      refine WP.val rfl rfl rfl (Val.fieldAddr (j := 1) rfl Ty.fo174_1 rfl rfl) ?_
      refine WP.val rfl rfl rfl (Val.load rfl Ty.sc3 rfl (fun w h => h.cell 4 rfl rfl)) ?_
      refine WP.val rfl rfl rfl (Val.add (z := n + (1 : Int)) rfl rfl rfl (w64 (by omega) (by omega))) ?_
      refine WP.val rfl rfl rfl (Val.nilCheck rfl rfl) ?_
      refine WP.val rfl rfl rfl (Val.fieldAddr (j := 1) rfl Ty.fo174_1 rfl rfl) ?_
      refine WP.perm pl4 ?_
      refine WP.eff0 rfl rfl (Eff.store rfl Ty.sc3 rfl rfl rfl (by simp) st1) ?_
      rintro _ _ rfl
      refine WP.nx ?_
      refine WPc.sr ?_
      refine WP.val rfl rfl rfl (Val.loadAgg (cs := [.int .i64 (((ins (d * 2 - 1) (ht + 1) (Tr.nd [y] [(Tr.nd (t.is.take ((d * 2 - 1) / 2)) (t.ks.take ((d * 2 - 1) / 2 + 1))), (Tr.nd (t.is.drop ((d * 2 - 1) / 2 + 1)) (t.ks.drop ((d * 2 - 1) / 2 + 1)))]) x).2.getD El0).k), .int .i64 (((ins (d * 2 - 1) (ht + 1) (Tr.nd [y] [(Tr.nd (t.is.take ((d * 2 - 1) / 2)) (t.ks.take ((d * 2 - 1) / 2 + 1))), (Tr.nd (t.is.drop ((d * 2 - 1) / 2 + 1)) (t.ks.drop ((d * 2 - 1) / 2 + 1)))]) x).2.getD El0).v)]) rfl Ty.ag55 rfl rfl (fun w h => h.range 1 rfl rfl)) ?_
      refine WP.val rfl rfl rfl (Val.move rfl rfl) ?_
      refine WP.perm pl8 ?_
      refine WP.eff0 rfl rfl (Eff.storeAgg (cs := [.int .i64 (((ins (d * 2 - 1) (ht + 1) (Tr.nd [y] [(Tr.nd (t.is.take ((d * 2 - 1) / 2)) (t.ks.take ((d * 2 - 1) / 2 + 1))), (Tr.nd (t.is.drop ((d * 2 - 1) / 2 + 1)) (t.ks.drop ((d * 2 - 1) / 2 + 1)))]) x).2.getD El0).k), .int .i64 (((ins (d * 2 - 1) (ht + 1) (Tr.nd [y] [(Tr.nd (t.is.take ((d * 2 - 1) / 2)) (t.ks.take ((d * 2 - 1) / 2 + 1))), (Tr.nd (t.is.drop ((d * 2 - 1) / 2 + 1)) (t.ks.drop ((d * 2 - 1) / 2 + 1)))]) x).2.getD El0).v)]) (C' := [.int .i64 (((ins (d * 2 - 1) (ht + 1) (Tr.nd [y] [(Tr.nd (t.is.take ((d * 2 - 1) / 2)) (t.ks.take ((d * 2 - 1) / 2 + 1))), (Tr.nd (t.is.drop ((d * 2 - 1) / 2 + 1)) (t.ks.drop ((d * 2 - 1) / 2 + 1)))]) x).2.getD El0).k), .int .i64 (((ins (d * 2 - 1) (ht + 1) (Tr.nd [y] [(Tr.nd (t.is.take ((d * 2 - 1) / 2)) (t.ks.take ((d * 2 - 1) / 2 + 1))), (Tr.nd (t.is.drop ((d * 2 - 1) / 2 + 1)) (t.ks.drop ((d * 2 - 1) / 2 + 1)))]) x).2.getD El0).v)]) rfl Ty.ag55 rfl rfl rfl rfl (by simp) rfl) ?_
      rintro _ _ rfl
      refine WP.val rfl rfl rfl (Val.assign rfl rfl) ?_
      refine WP.nx ?_
      refine WPc.ret ?_
      refine Out.perm pl2 ?_
      iterate 4 (refine Out.drop ?_; refine Out.perm pl5 ?_)
      refine Out.drop ?_
      have hr : rins (d * 2 - 1) ht t x = (((ht + 1), (ins (d * 2 - 1) (ht + 1) (Tr.nd [y] [(Tr.nd (t.is.take ((d * 2 - 1) / 2)) (t.ks.take ((d * 2 - 1) / 2 + 1))), (Tr.nd (t.is.drop ((d * 2 - 1) / 2 + 1)) (t.ks.drop ((d * 2 - 1) / 2 + 1)))]) x).1), (ins (d * 2 - 1) (ht + 1) (Tr.nd [y] [(Tr.nd (t.is.take ((d * 2 - 1) / 2)) (t.ks.take ((d * 2 - 1) / 2 + 1))), (Tr.nd (t.is.drop ((d * 2 - 1) / 2 + 1)) (t.ks.drop ((d * 2 - 1) / 2 + 1)))]) x).2) := by unfold rins; rw [if_pos (by omega), getD_at hy]
      exact Out.retRun (L' := [Blk tb [.int .i64 (((d : Nat) : Int)), .int .i64 (n + (1 : Int)), .pointer (some ⟨pr, 0, none⟩), .pointer (some ⟨c, 0, none⟩)] 174, Nd c (ht + 1) (pr, (ins (d * 2 - 1) (ht + 1) (Tr.nd [y] [(Tr.nd (t.is.take ((d * 2 - 1) / 2)) (t.ks.take ((d * 2 - 1) / 2 + 1))), (Tr.nd (t.is.drop ((d * 2 - 1) / 2 + 1)) (t.ks.drop ((d * 2 - 1) / 2 + 1)))]) x).1), Blk c [.pointer (some ⟨f, 0, none⟩), .func (.func 53) #[] #[]] 170, FL f]) (results_ct Try.results74 rfl Ty.ag55 rfl rfl (fun w h => h.range 0 rfl rfl)) ⟨pr, by rw [hr]; rfl, by rw [hr]; rw [if_neg (by simp_all)]⟩ (fun w h => h.drop)
     ·
      have h8 : (!((ins (d * 2 - 1) (ht + 1) (Tr.nd [y] [(Tr.nd (t.is.take ((d * 2 - 1) / 2)) (t.ks.take ((d * 2 - 1) / 2 + 1))), (Tr.nd (t.is.drop ((d * 2 - 1) / 2 + 1)) (t.ks.drop ((d * 2 - 1) / 2 + 1)))]) x).2.isSome)) = false := h8
      refine WPc.skip ?_
      refine Out.next ?_
      refine WPc.sr ?_
      refine WP.val rfl rfl rfl (Val.loadAgg (cs := [.int .i64 (((ins (d * 2 - 1) (ht + 1) (Tr.nd [y] [(Tr.nd (t.is.take ((d * 2 - 1) / 2)) (t.ks.take ((d * 2 - 1) / 2 + 1))), (Tr.nd (t.is.drop ((d * 2 - 1) / 2 + 1)) (t.ks.drop ((d * 2 - 1) / 2 + 1)))]) x).2.getD El0).k), .int .i64 (((ins (d * 2 - 1) (ht + 1) (Tr.nd [y] [(Tr.nd (t.is.take ((d * 2 - 1) / 2)) (t.ks.take ((d * 2 - 1) / 2 + 1))), (Tr.nd (t.is.drop ((d * 2 - 1) / 2 + 1)) (t.ks.drop ((d * 2 - 1) / 2 + 1)))]) x).2.getD El0).v)]) rfl Ty.ag55 rfl rfl (fun w h => h.range 0 rfl rfl)) ?_
      refine WP.val rfl rfl rfl (Val.move rfl rfl) ?_
      refine WP.perm pl8 ?_
      refine WP.eff0 rfl rfl (Eff.storeAgg (cs := [.int .i64 (((ins (d * 2 - 1) (ht + 1) (Tr.nd [y] [(Tr.nd (t.is.take ((d * 2 - 1) / 2)) (t.ks.take ((d * 2 - 1) / 2 + 1))), (Tr.nd (t.is.drop ((d * 2 - 1) / 2 + 1)) (t.ks.drop ((d * 2 - 1) / 2 + 1)))]) x).2.getD El0).k), .int .i64 (((ins (d * 2 - 1) (ht + 1) (Tr.nd [y] [(Tr.nd (t.is.take ((d * 2 - 1) / 2)) (t.ks.take ((d * 2 - 1) / 2 + 1))), (Tr.nd (t.is.drop ((d * 2 - 1) / 2 + 1)) (t.ks.drop ((d * 2 - 1) / 2 + 1)))]) x).2.getD El0).v)]) (C' := [.int .i64 (((ins (d * 2 - 1) (ht + 1) (Tr.nd [y] [(Tr.nd (t.is.take ((d * 2 - 1) / 2)) (t.ks.take ((d * 2 - 1) / 2 + 1))), (Tr.nd (t.is.drop ((d * 2 - 1) / 2 + 1)) (t.ks.drop ((d * 2 - 1) / 2 + 1)))]) x).2.getD El0).k), .int .i64 (((ins (d * 2 - 1) (ht + 1) (Tr.nd [y] [(Tr.nd (t.is.take ((d * 2 - 1) / 2)) (t.ks.take ((d * 2 - 1) / 2 + 1))), (Tr.nd (t.is.drop ((d * 2 - 1) / 2 + 1)) (t.ks.drop ((d * 2 - 1) / 2 + 1)))]) x).2.getD El0).v)]) rfl Ty.ag55 rfl rfl rfl rfl (by simp) rfl) ?_
      rintro _ _ rfl
      refine WP.val rfl rfl rfl (Val.assign rfl rfl) ?_
      refine WP.nx ?_
      refine WPc.ret ?_
      refine Out.perm pl1 ?_
      iterate 4 (refine Out.drop ?_; refine Out.perm pl5 ?_)
      refine Out.drop ?_
      iterate 3 (refine Out.perm pl3 ?_)
      refine Out.perm pl4 ?_
      refine Out.perm pl4 ?_
      have hr : rins (d * 2 - 1) ht t x = (((ht + 1), (ins (d * 2 - 1) (ht + 1) (Tr.nd [y] [(Tr.nd (t.is.take ((d * 2 - 1) / 2)) (t.ks.take ((d * 2 - 1) / 2 + 1))), (Tr.nd (t.is.drop ((d * 2 - 1) / 2 + 1)) (t.ks.drop ((d * 2 - 1) / 2 + 1)))]) x).1), (ins (d * 2 - 1) (ht + 1) (Tr.nd [y] [(Tr.nd (t.is.take ((d * 2 - 1) / 2)) (t.ks.take ((d * 2 - 1) / 2 + 1))), (Tr.nd (t.is.drop ((d * 2 - 1) / 2 + 1)) (t.ks.drop ((d * 2 - 1) / 2 + 1)))]) x).2) := by unfold rins; rw [if_pos (by omega), getD_at hy]
      exact Out.retRun (L' := [Blk tb [.int .i64 (((d : Nat) : Int)), .int .i64 (n), .pointer (some ⟨pr, 0, none⟩), .pointer (some ⟨c, 0, none⟩)] 174, Nd c (ht + 1) (pr, (ins (d * 2 - 1) (ht + 1) (Tr.nd [y] [(Tr.nd (t.is.take ((d * 2 - 1) / 2)) (t.ks.take ((d * 2 - 1) / 2 + 1))), (Tr.nd (t.is.drop ((d * 2 - 1) / 2 + 1)) (t.ks.drop ((d * 2 - 1) / 2 + 1)))]) x).1), Blk c [.pointer (some ⟨f, 0, none⟩), .func (.func 53) #[] #[]] 170, FL f]) (results_ct Try.results74 rfl Ty.ag55 rfl rfl (fun w h => h.range 0 rfl rfl)) ⟨pr, by rw [hr]; rfl, by rw [hr]; rw [if_pos (by simp_all)]⟩ (fun w h => h.drop)
    ·
     refine WPO.step rfl rfl rfl rfl (Eff.alloc rfl Ty.z55) ?_
     rintro _ _ ⟨b25, rfl, rfl⟩
     refine ⟨(fun w h => (((h.perm pl9).perm pl2)).dropEnd (L := [_, _])), ?_⟩
     refine WPD.perm pl6 ?_
     refine WPD.perm pl6 ?_
     refine WPD.perm pl4 ?_
     refine WPD.step 7 (by kernel_rfl) rfl rfl rfl rfl (Eff.call rfl rfl Try.call103 (hins)) ?_
     rintro _ _ ⟨_, ⟨rfl, rfl⟩, rfl⟩
     refine ⟨(fun w h => (((h.perm pl9).perm pl5)).dropEnd (L := [_, _])), ?_⟩
     show WPD _ _ _ _ _ _ _ _ _ (Nd c (ht + 1) (pr, (ins (d * 2 - 1) (ht + 1) (Tr.nd [y] [(Tr.nd (t.is.take ((d * 2 - 1) / 2)) (t.ks.take ((d * 2 - 1) / 2 + 1))), (Tr.nd (t.is.drop ((d * 2 - 1) / 2 + 1)) (t.ks.drop ((d * 2 - 1) / 2 + 1)))]) x).1) :: _ :: _ :: Blk b25 [.int .i64 0, .int .i64 0] 55 :: _)
     refine WPD.tS 8 rfl rfl rfl rfl (fun w h => (((h.perm pl9).perm pl5)).dropEnd (L := [_, _])) (Val.move rfl rfl) ?_
     refine WPD.tS 9 rfl rfl rfl rfl (fun w h => (((h.perm pl9).perm pl5)).dropEnd (L := [_, _])) (Val.extract rfl rfl rfl) ?_
     refine WPD.tS 10 rfl rfl rfl rfl (fun w h => (((h.perm pl9).perm pl5)).dropEnd (L := [_, _])) (Val.extract rfl rfl rfl) ?_
     refine WPD.perm pl3 ?_
     refine WPD.stepC0 12 (by kernel_rfl) rfl rfl rfl (by kernel_rfl) (Eff.storeAgg (cs := [.int .i64 (((ins (d * 2 - 1) (ht + 1) (Tr.nd [y] [(Tr.nd (t.is.take ((d * 2 - 1) / 2)) (t.ks.take ((d * 2 - 1) / 2 + 1))), (Tr.nd (t.is.drop ((d * 2 - 1) / 2 + 1)) (t.ks.drop ((d * 2 - 1) / 2 + 1)))]) x).2.getD El0).k), .int .i64 (((ins (d * 2 - 1) (ht + 1) (Tr.nd [y] [(Tr.nd (t.is.take ((d * 2 - 1) / 2)) (t.ks.take ((d * 2 - 1) / 2 + 1))), (Tr.nd (t.is.drop ((d * 2 - 1) / 2 + 1)) (t.ks.drop ((d * 2 - 1) / 2 + 1)))]) x).2.getD El0).v)]) (C' := [.int .i64 (((ins (d * 2 - 1) (ht + 1) (Tr.nd [y] [(Tr.nd (t.is.take ((d * 2 - 1) / 2)) (t.ks.take ((d * 2 - 1) / 2 + 1))), (Tr.nd (t.is.drop ((d * 2 - 1) / 2 + 1)) (t.ks.drop ((d * 2 - 1) / 2 + 1)))]) x).2.getD El0).k), .int .i64 (((ins (d * 2 - 1) (ht + 1) (Tr.nd [y] [(Tr.nd (t.is.take ((d * 2 - 1) / 2)) (t.ks.take ((d * 2 - 1) / 2 + 1))), (Tr.nd (t.is.drop ((d * 2 - 1) / 2 + 1)) (t.ks.drop ((d * 2 - 1) / 2 + 1)))]) x).2.getD El0).v)]) rfl Ty.ag55 rfl rfl rfl rfl (by simp) rfl) ?_
     rintro _ _ rfl
     refine ⟨_, (fun _ h => h), ?_⟩
     refine WPD.tM 13 rfl rfl rfl rfl (Val.assign rfl rfl) ?_
     refine WPD.done (by kernel_rfl) ?_
     refine Out.next ?_
     refine WPc.seq ?_
     refine WPc.sr ?_
     refine WP.val rfl rfl rfl (Val.move rfl rfl) ?_
     refine WP.val rfl rfl rfl (Val.not rfl rfl) ?_
     refine WP.nx ?_
     refine WPc.cond rfl (fun h9 => ?_) (fun h9 => ?_)
     ·
      have h9 : (!((ins (d * 2 - 1) (ht + 1) (Tr.nd [y] [(Tr.nd (t.is.take ((d * 2 - 1) / 2)) (t.ks.take ((d * 2 - 1) / 2 + 1))), (Tr.nd (t.is.drop ((d * 2 - 1) / 2 + 1)) (t.ks.drop ((d * 2 - 1) / 2 + 1)))]) x).2.isSome)) = true := h9
      refine WPc.region ?_
      refine WP.val rfl rfl rfl (Val.move rfl rfl) ?_
      refine WP.val rfl rfl rfl (Val.nilCheck rfl rfl) ?_
      refine WP.val rfl rfl rfl (Val.fieldAddr (j := 1) rfl Ty.fo174_1 rfl rfl) ?_
      refine WP.val rfl rfl rfl (Val.load rfl Ty.sc3 rfl (fun w h => h.cell 4 rfl rfl)) ?_
      refine WP.val rfl rfl rfl (Val.add (z := n + (1 : Int)) rfl rfl rfl (w64 (by omega) (by omega))) ?_
      refine WP.val rfl rfl rfl (Val.nilCheck rfl rfl) ?_
      refine WP.val rfl rfl rfl (Val.fieldAddr (j := 1) rfl Ty.fo174_1 rfl rfl) ?_
      refine WP.perm pl4 ?_
      refine WP.eff0 rfl rfl (Eff.store rfl Ty.sc3 rfl rfl rfl (by simp) st1) ?_
      rintro _ _ rfl
      refine WP.nx ?_
      refine WPc.sr ?_
      refine WP.val rfl rfl rfl (Val.loadAgg (cs := [.int .i64 (((ins (d * 2 - 1) (ht + 1) (Tr.nd [y] [(Tr.nd (t.is.take ((d * 2 - 1) / 2)) (t.ks.take ((d * 2 - 1) / 2 + 1))), (Tr.nd (t.is.drop ((d * 2 - 1) / 2 + 1)) (t.ks.drop ((d * 2 - 1) / 2 + 1)))]) x).2.getD El0).k), .int .i64 (((ins (d * 2 - 1) (ht + 1) (Tr.nd [y] [(Tr.nd (t.is.take ((d * 2 - 1) / 2)) (t.ks.take ((d * 2 - 1) / 2 + 1))), (Tr.nd (t.is.drop ((d * 2 - 1) / 2 + 1)) (t.ks.drop ((d * 2 - 1) / 2 + 1)))]) x).2.getD El0).v)]) rfl Ty.ag55 rfl rfl (fun w h => h.range 1 rfl rfl)) ?_
      refine WP.val rfl rfl rfl (Val.move rfl rfl) ?_
      refine WP.perm pl8 ?_
      refine WP.eff0 rfl rfl (Eff.storeAgg (cs := [.int .i64 (((ins (d * 2 - 1) (ht + 1) (Tr.nd [y] [(Tr.nd (t.is.take ((d * 2 - 1) / 2)) (t.ks.take ((d * 2 - 1) / 2 + 1))), (Tr.nd (t.is.drop ((d * 2 - 1) / 2 + 1)) (t.ks.drop ((d * 2 - 1) / 2 + 1)))]) x).2.getD El0).k), .int .i64 (((ins (d * 2 - 1) (ht + 1) (Tr.nd [y] [(Tr.nd (t.is.take ((d * 2 - 1) / 2)) (t.ks.take ((d * 2 - 1) / 2 + 1))), (Tr.nd (t.is.drop ((d * 2 - 1) / 2 + 1)) (t.ks.drop ((d * 2 - 1) / 2 + 1)))]) x).2.getD El0).v)]) (C' := [.int .i64 (((ins (d * 2 - 1) (ht + 1) (Tr.nd [y] [(Tr.nd (t.is.take ((d * 2 - 1) / 2)) (t.ks.take ((d * 2 - 1) / 2 + 1))), (Tr.nd (t.is.drop ((d * 2 - 1) / 2 + 1)) (t.ks.drop ((d * 2 - 1) / 2 + 1)))]) x).2.getD El0).k), .int .i64 (((ins (d * 2 - 1) (ht + 1) (Tr.nd [y] [(Tr.nd (t.is.take ((d * 2 - 1) / 2)) (t.ks.take ((d * 2 - 1) / 2 + 1))), (Tr.nd (t.is.drop ((d * 2 - 1) / 2 + 1)) (t.ks.drop ((d * 2 - 1) / 2 + 1)))]) x).2.getD El0).v)]) rfl Ty.ag55 rfl rfl rfl rfl (by simp) rfl) ?_
      rintro _ _ rfl
      refine WP.val rfl rfl rfl (Val.assign rfl rfl) ?_
      refine WP.nx ?_
      refine WPc.ret ?_
      refine Out.perm pl2 ?_
      iterate 4 (refine Out.drop ?_; refine Out.perm pl5 ?_)
      refine Out.drop ?_
      have hr : rins (d * 2 - 1) ht t x = (((ht + 1), (ins (d * 2 - 1) (ht + 1) (Tr.nd [y] [(Tr.nd (t.is.take ((d * 2 - 1) / 2)) (t.ks.take ((d * 2 - 1) / 2 + 1))), (Tr.nd (t.is.drop ((d * 2 - 1) / 2 + 1)) (t.ks.drop ((d * 2 - 1) / 2 + 1)))]) x).1), (ins (d * 2 - 1) (ht + 1) (Tr.nd [y] [(Tr.nd (t.is.take ((d * 2 - 1) / 2)) (t.ks.take ((d * 2 - 1) / 2 + 1))), (Tr.nd (t.is.drop ((d * 2 - 1) / 2 + 1)) (t.ks.drop ((d * 2 - 1) / 2 + 1)))]) x).2) := by unfold rins; rw [if_pos (by omega), getD_at hy]
      exact Out.retRun (L' := [Blk tb [.int .i64 (((d : Nat) : Int)), .int .i64 (n + (1 : Int)), .pointer (some ⟨pr, 0, none⟩), .pointer (some ⟨c, 0, none⟩)] 174, Nd c (ht + 1) (pr, (ins (d * 2 - 1) (ht + 1) (Tr.nd [y] [(Tr.nd (t.is.take ((d * 2 - 1) / 2)) (t.ks.take ((d * 2 - 1) / 2 + 1))), (Tr.nd (t.is.drop ((d * 2 - 1) / 2 + 1)) (t.ks.drop ((d * 2 - 1) / 2 + 1)))]) x).1), Blk c [.pointer (some ⟨f, 0, none⟩), .func (.func 53) #[] #[]] 170, FL f]) (results_ct Try.results74 rfl Ty.ag55 rfl rfl (fun w h => h.range 0 rfl rfl)) ⟨pr, by rw [hr]; rfl, by rw [hr]; rw [if_neg (by simp_all)]⟩ (fun w h => h.drop)
     ·
      have h9 : (!((ins (d * 2 - 1) (ht + 1) (Tr.nd [y] [(Tr.nd (t.is.take ((d * 2 - 1) / 2)) (t.ks.take ((d * 2 - 1) / 2 + 1))), (Tr.nd (t.is.drop ((d * 2 - 1) / 2 + 1)) (t.ks.drop ((d * 2 - 1) / 2 + 1)))]) x).2.isSome)) = false := h9
      refine WPc.skip ?_
      refine Out.next ?_
      refine WPc.sr ?_
      refine WP.val rfl rfl rfl (Val.loadAgg (cs := [.int .i64 (((ins (d * 2 - 1) (ht + 1) (Tr.nd [y] [(Tr.nd (t.is.take ((d * 2 - 1) / 2)) (t.ks.take ((d * 2 - 1) / 2 + 1))), (Tr.nd (t.is.drop ((d * 2 - 1) / 2 + 1)) (t.ks.drop ((d * 2 - 1) / 2 + 1)))]) x).2.getD El0).k), .int .i64 (((ins (d * 2 - 1) (ht + 1) (Tr.nd [y] [(Tr.nd (t.is.take ((d * 2 - 1) / 2)) (t.ks.take ((d * 2 - 1) / 2 + 1))), (Tr.nd (t.is.drop ((d * 2 - 1) / 2 + 1)) (t.ks.drop ((d * 2 - 1) / 2 + 1)))]) x).2.getD El0).v)]) rfl Ty.ag55 rfl rfl (fun w h => h.range 0 rfl rfl)) ?_
      refine WP.val rfl rfl rfl (Val.move rfl rfl) ?_
      refine WP.perm pl8 ?_
      refine WP.eff0 rfl rfl (Eff.storeAgg (cs := [.int .i64 (((ins (d * 2 - 1) (ht + 1) (Tr.nd [y] [(Tr.nd (t.is.take ((d * 2 - 1) / 2)) (t.ks.take ((d * 2 - 1) / 2 + 1))), (Tr.nd (t.is.drop ((d * 2 - 1) / 2 + 1)) (t.ks.drop ((d * 2 - 1) / 2 + 1)))]) x).2.getD El0).k), .int .i64 (((ins (d * 2 - 1) (ht + 1) (Tr.nd [y] [(Tr.nd (t.is.take ((d * 2 - 1) / 2)) (t.ks.take ((d * 2 - 1) / 2 + 1))), (Tr.nd (t.is.drop ((d * 2 - 1) / 2 + 1)) (t.ks.drop ((d * 2 - 1) / 2 + 1)))]) x).2.getD El0).v)]) (C' := [.int .i64 (((ins (d * 2 - 1) (ht + 1) (Tr.nd [y] [(Tr.nd (t.is.take ((d * 2 - 1) / 2)) (t.ks.take ((d * 2 - 1) / 2 + 1))), (Tr.nd (t.is.drop ((d * 2 - 1) / 2 + 1)) (t.ks.drop ((d * 2 - 1) / 2 + 1)))]) x).2.getD El0).k), .int .i64 (((ins (d * 2 - 1) (ht + 1) (Tr.nd [y] [(Tr.nd (t.is.take ((d * 2 - 1) / 2)) (t.ks.take ((d * 2 - 1) / 2 + 1))), (Tr.nd (t.is.drop ((d * 2 - 1) / 2 + 1)) (t.ks.drop ((d * 2 - 1) / 2 + 1)))]) x).2.getD El0).v)]) rfl Ty.ag55 rfl rfl rfl rfl (by simp) rfl) ?_
      rintro _ _ rfl
      refine WP.val rfl rfl rfl (Val.assign rfl rfl) ?_
      refine WP.nx ?_
      refine WPc.ret ?_
      refine Out.perm pl1 ?_
      iterate 4 (refine Out.drop ?_; refine Out.perm pl5 ?_)
      refine Out.drop ?_
      iterate 3 (refine Out.perm pl3 ?_)
      refine Out.perm pl4 ?_
      refine Out.perm pl4 ?_
      have hr : rins (d * 2 - 1) ht t x = (((ht + 1), (ins (d * 2 - 1) (ht + 1) (Tr.nd [y] [(Tr.nd (t.is.take ((d * 2 - 1) / 2)) (t.ks.take ((d * 2 - 1) / 2 + 1))), (Tr.nd (t.is.drop ((d * 2 - 1) / 2 + 1)) (t.ks.drop ((d * 2 - 1) / 2 + 1)))]) x).1), (ins (d * 2 - 1) (ht + 1) (Tr.nd [y] [(Tr.nd (t.is.take ((d * 2 - 1) / 2)) (t.ks.take ((d * 2 - 1) / 2 + 1))), (Tr.nd (t.is.drop ((d * 2 - 1) / 2 + 1)) (t.ks.drop ((d * 2 - 1) / 2 + 1)))]) x).2) := by unfold rins; rw [if_pos (by omega), getD_at hy]
      exact Out.retRun (L' := [Blk tb [.int .i64 (((d : Nat) : Int)), .int .i64 (n), .pointer (some ⟨pr, 0, none⟩), .pointer (some ⟨c, 0, none⟩)] 174, Nd c (ht + 1) (pr, (ins (d * 2 - 1) (ht + 1) (Tr.nd [y] [(Tr.nd (t.is.take ((d * 2 - 1) / 2)) (t.ks.take ((d * 2 - 1) / 2 + 1))), (Tr.nd (t.is.drop ((d * 2 - 1) / 2 + 1)) (t.ks.drop ((d * 2 - 1) / 2 + 1)))]) x).1), Blk c [.pointer (some ⟨f, 0, none⟩), .func (.func 53) #[] #[]] 170, FL f]) (results_ct Try.results74 rfl Ty.ag55 rfl rfl (fun w h => h.range 0 rfl rfl)) ⟨pr, by rw [hr]; rfl, by rw [hr]; rw [if_pos (by simp_all)]⟩ (fun w h => h.drop)
   ·
    refine WPO.step rfl rfl rfl rfl (Eff.alloc rfl Ty.z55) ?_
    rintro _ _ ⟨b26, rfl, rfl⟩
    refine ⟨(fun w h => (((h.perm pl9).perm pl5)).dropEnd (L := [_, _])), ?_⟩
    refine WPD.perm pl4 ?_
    refine WPD.step 6 (by kernel_rfl) rfl rfl rfl rfl (Eff.call rfl rfl Try.call101 (maxi_spec c d tb n (.pointer (some ⟨pr, 0, none⟩)) (by omega) (by omega))) ?_
    rintro _ _ ⟨_, ⟨rfl, rfl⟩, rfl⟩
    refine ⟨(fun w h => (((h.perm pl9).perm pl1)).dropEnd (L := [_, _])), ?_⟩
    show WPD _ _ _ _ _ _ _ _ _ (_ :: Blk b26 [.int .i64 0, .int .i64 0] 55 :: _)
    refine WPD.perm pl6 ?_
    refine WPD.perm pl6 ?_
    refine WPD.perm pl4 ?_
    refine WPD.step 7 (by kernel_rfl) rfl rfl rfl rfl (Eff.call rfl rfl Try.call103 (hins)) ?_
    rintro _ _ ⟨_, ⟨rfl, rfl⟩, rfl⟩
    refine ⟨(fun w h => (((h.perm pl9).perm pl4)).dropEnd (L := [_, _])), ?_⟩
    show WPD _ _ _ _ _ _ _ _ _ (Nd c (ht + 1) (pr, (ins (d * 2 - 1) (ht + 1) (Tr.nd [y] [(Tr.nd (t.is.take ((d * 2 - 1) / 2)) (t.ks.take ((d * 2 - 1) / 2 + 1))), (Tr.nd (t.is.drop ((d * 2 - 1) / 2 + 1)) (t.ks.drop ((d * 2 - 1) / 2 + 1)))]) x).1) :: _)
    refine WPD.tS 8 rfl rfl rfl rfl (fun w h => (((h.perm pl9).perm pl4)).dropEnd (L := [_, _])) (Val.move rfl rfl) ?_
    refine WPD.tS 9 rfl rfl rfl rfl (fun w h => (((h.perm pl9).perm pl4)).dropEnd (L := [_, _])) (Val.extract rfl rfl rfl) ?_
    refine WPD.tS 10 rfl rfl rfl rfl (fun w h => (((h.perm pl9).perm pl4)).dropEnd (L := [_, _])) (Val.extract rfl rfl rfl) ?_
    refine WPD.perm pl4 ?_
    refine WPD.stepC0 12 (by kernel_rfl) rfl rfl rfl (by kernel_rfl) (Eff.storeAgg (cs := [.int .i64 (((ins (d * 2 - 1) (ht + 1) (Tr.nd [y] [(Tr.nd (t.is.take ((d * 2 - 1) / 2)) (t.ks.take ((d * 2 - 1) / 2 + 1))), (Tr.nd (t.is.drop ((d * 2 - 1) / 2 + 1)) (t.ks.drop ((d * 2 - 1) / 2 + 1)))]) x).2.getD El0).k), .int .i64 (((ins (d * 2 - 1) (ht + 1) (Tr.nd [y] [(Tr.nd (t.is.take ((d * 2 - 1) / 2)) (t.ks.take ((d * 2 - 1) / 2 + 1))), (Tr.nd (t.is.drop ((d * 2 - 1) / 2 + 1)) (t.ks.drop ((d * 2 - 1) / 2 + 1)))]) x).2.getD El0).v)]) (C' := [.int .i64 (((ins (d * 2 - 1) (ht + 1) (Tr.nd [y] [(Tr.nd (t.is.take ((d * 2 - 1) / 2)) (t.ks.take ((d * 2 - 1) / 2 + 1))), (Tr.nd (t.is.drop ((d * 2 - 1) / 2 + 1)) (t.ks.drop ((d * 2 - 1) / 2 + 1)))]) x).2.getD El0).k), .int .i64 (((ins (d * 2 - 1) (ht + 1) (Tr.nd [y] [(Tr.nd (t.is.take ((d * 2 - 1) / 2)) (t.ks.take ((d * 2 - 1) / 2 + 1))), (Tr.nd (t.is.drop ((d * 2 - 1) / 2 + 1)) (t.ks.drop ((d * 2 - 1) / 2 + 1)))]) x).2.getD El0).v)]) rfl Ty.ag55 rfl rfl rfl rfl (by simp) rfl) ?_
    rintro _ _ rfl
    refine ⟨_, (fun _ h => h), ?_⟩
    refine WPD.tM 13 rfl rfl rfl rfl (Val.assign rfl rfl) ?_
    refine WPD.done (by kernel_rfl) ?_
    refine Out.next ?_
    refine WPc.seq ?_
    refine WPc.sr ?_
    refine WP.val rfl rfl rfl (Val.move rfl rfl) ?_
    refine WP.val rfl rfl rfl (Val.not rfl rfl) ?_
    refine WP.nx ?_
    refine WPc.cond rfl (fun h10 => ?_) (fun h10 => ?_)
    ·
     have h10 : (!((ins (d * 2 - 1) (ht + 1) (Tr.nd [y] [(Tr.nd (t.is.take ((d * 2 - 1) / 2)) (t.ks.take ((d * 2 - 1) / 2 + 1))), (Tr.nd (t.is.drop ((d * 2 - 1) / 2 + 1)) (t.ks.drop ((d * 2 - 1) / 2 + 1)))]) x).2.isSome)) = true := h10
     refine WPc.region ?_
     refine WP.val rfl rfl rfl (Val.move rfl rfl) ?_
     refine WP.val rfl rfl rfl (Val.nilCheck rfl rfl) ?_
     refine WP.val rfl rfl rfl (Val.fieldAddr (j := 1) rfl Ty.fo174_1 rfl rfl) ?_
     refine WP.val rfl rfl rfl (Val.load rfl Ty.sc3 rfl (fun w h => h.cell 4 rfl rfl)) ?_
     refine WP.val rfl rfl rfl (Val.add (z := n + (1 : Int)) rfl rfl rfl (w64 (by omega) (by omega))) ?_
     refine WP.val rfl rfl rfl (Val.nilCheck rfl rfl) ?_
     refine WP.val rfl rfl rfl (Val.fieldAddr (j := 1) rfl Ty.fo174_1 rfl rfl) ?_
     refine WP.perm pl4 ?_
     refine WP.eff0 rfl rfl (Eff.store rfl Ty.sc3 rfl rfl rfl (by simp) st1) ?_
     rintro _ _ rfl
     refine WP.nx ?_
     refine WPc.sr ?_
     refine WP.val rfl rfl rfl (Val.loadAgg (cs := [.int .i64 (((ins (d * 2 - 1) (ht + 1) (Tr.nd [y] [(Tr.nd (t.is.take ((d * 2 - 1) / 2)) (t.ks.take ((d * 2 - 1) / 2 + 1))), (Tr.nd (t.is.drop ((d * 2 - 1) / 2 + 1)) (t.ks.drop ((d * 2 - 1) / 2 + 1)))]) x).2.getD El0).k), .int .i64 (((ins (d * 2 - 1) (ht + 1) (Tr.nd [y] [(Tr.nd (t.is.take ((d * 2 - 1) / 2)) (t.ks.take ((d * 2 - 1) / 2 + 1))), (Tr.nd (t.is.drop ((d * 2 - 1) / 2 + 1)) (t.ks.drop ((d * 2 - 1) / 2 + 1)))]) x).2.getD El0).v)]) rfl Ty.ag55 rfl rfl (fun w h => h.range 1 rfl rfl)) ?_
     refine WP.val rfl rfl rfl (Val.move rfl rfl) ?_
     refine WP.perm pl8 ?_
     refine WP.eff0 rfl rfl (Eff.storeAgg (cs := [.int .i64 (((ins (d * 2 - 1) (ht + 1) (Tr.nd [y] [(Tr.nd (t.is.take ((d * 2 - 1) / 2)) (t.ks.take ((d * 2 - 1) / 2 + 1))), (Tr.nd (t.is.drop ((d * 2 - 1) / 2 + 1)) (t.ks.drop ((d * 2 - 1) / 2 + 1)))]) x).2.getD El0).k), .int .i64 (((ins (d * 2 - 1) (ht + 1) (Tr.nd [y] [(Tr.nd (t.is.take ((d * 2 - 1) / 2)) (t.ks.take ((d * 2 - 1) / 2 + 1))), (Tr.nd (t.is.drop ((d * 2 - 1) / 2 + 1)) (t.ks.drop ((d * 2 - 1) / 2 + 1)))]) x).2.getD El0).v)]) (C' := [.int .i64 (((ins (d * 2 - 1) (ht + 1) (Tr.nd [y] [(Tr.nd (t.is.take ((d * 2 - 1) / 2)) (t.ks.take ((d * 2 - 1) / 2 + 1))), (Tr.nd (t.is.drop ((d * 2 - 1) / 2 + 1)) (t.ks.drop ((d * 2 - 1) / 2 + 1)))]) x).2.getD El0).k), .int .i64 (((ins (d * 2 - 1) (ht + 1) (Tr.nd [y] [(Tr.nd (t.is.take ((d * 2 - 1) / 2)) (t.ks.take ((d * 2 - 1) / 2 + 1))), (Tr.nd (t.is.drop ((d * 2 - 1) / 2 + 1)) (t.ks.drop ((d * 2 - 1) / 2 + 1)))]) x).2.getD El0).v)]) rfl Ty.ag55 rfl rfl rfl rfl (by simp) rfl) ?_
     rintro _ _ rfl
     refine WP.val rfl rfl rfl (Val.assign rfl rfl) ?_
     refine WP.nx ?_
     refine WPc.ret ?_
     refine Out.perm pl2 ?_
     iterate 4 (refine Out.drop ?_; refine Out.perm pl5 ?_)
     refine Out.drop ?_
     have hr : rins (d * 2 - 1) ht t x = (((ht + 1), (ins (d * 2 - 1) (ht + 1) (Tr.nd [y] [(Tr.nd (t.is.take ((d * 2 - 1) / 2)) (t.ks.take ((d * 2 - 1) / 2 + 1))), (Tr.nd (t.is.drop ((d * 2 - 1) / 2 + 1)) (t.ks.drop ((d * 2 - 1) / 2 + 1)))]) x).1), (ins (d * 2 - 1) (ht + 1) (Tr.nd [y] [(Tr.nd (t.is.take ((d * 2 - 1) / 2)) (t.ks.take ((d * 2 - 1) / 2 + 1))), (Tr.nd (t.is.drop ((d * 2 - 1) / 2 + 1)) (t.ks.drop ((d * 2 - 1) / 2 + 1)))]) x).2) := by unfold rins; rw [if_pos (by omega), getD_at hy]
     exact Out.retRun (L' := [Blk tb [.int .i64 (((d : Nat) : Int)), .int .i64 (n + (1 : Int)), .pointer (some ⟨pr, 0, none⟩), .pointer (some ⟨c, 0, none⟩)] 174, Nd c (ht + 1) (pr, (ins (d * 2 - 1) (ht + 1) (Tr.nd [y] [(Tr.nd (t.is.take ((d * 2 - 1) / 2)) (t.ks.take ((d * 2 - 1) / 2 + 1))), (Tr.nd (t.is.drop ((d * 2 - 1) / 2 + 1)) (t.ks.drop ((d * 2 - 1) / 2 + 1)))]) x).1), Blk c [.pointer (some ⟨f, 0, none⟩), .func (.func 53) #[] #[]] 170, FL f]) (results_ct Try.results74 rfl Ty.ag55 rfl rfl (fun w h => h.range 0 rfl rfl)) ⟨pr, by rw [hr]; rfl, by rw [hr]; rw [if_neg (by simp_all)]⟩ (fun w h => h.drop)
    ·
     have h10 : (!((ins (d * 2 - 1) (ht + 1) (Tr.nd [y] [(Tr.nd (t.is.take ((d * 2 - 1) / 2)) (t.ks.take ((d * 2 - 1) / 2 + 1))), (Tr.nd (t.is.drop ((d * 2 - 1) / 2 + 1)) (t.ks.drop ((d * 2 - 1) / 2 + 1)))]) x).2.isSome)) = false := h10
     refine WPc.skip ?_
     refine Out.next ?_
     refine WPc.sr ?_
     refine WP.val rfl rfl rfl (Val.loadAgg (cs := [.int .i64 (((ins (d * 2 - 1) (ht + 1) (Tr.nd [y] [(Tr.nd (t.is.take ((d * 2 - 1) / 2)) (t.ks.take ((d * 2 - 1) / 2 + 1))), (Tr.nd (t.is.drop ((d * 2 - 1) / 2 + 1)) (t.ks.drop ((d * 2 - 1) / 2 + 1)))]) x).2.getD El0).k), .int .i64 (((ins (d * 2 - 1) (ht + 1) (Tr.nd [y] [(Tr.nd (t.is.take ((d * 2 - 1) / 2)) (t.ks.take ((d * 2 - 1) / 2 + 1))), (Tr.nd (t.is.drop ((d * 2 - 1) / 2 + 1)) (t.ks.drop ((d * 2 - 1) / 2 + 1)))]) x).2.getD El0).v)]) rfl Ty.ag55 rfl rfl (fun w h => h.range 0 rfl rfl)) ?_
     refine WP.val rfl rfl rfl (Val.move rfl rfl) ?_
     refine WP.perm pl8 ?_
     refine WP.eff0 rfl rfl (Eff.storeAgg (cs := [.int .i64 (((ins (d * 2 - 1) (ht + 1) (Tr.nd [y] [(Tr.nd (t.is.take ((d * 2 - 1) / 2)) (t.ks.take ((d * 2 - 1) / 2 + 1))), (Tr.nd (t.is.drop ((d * 2 - 1) / 2 + 1)) (t.ks.drop ((d * 2 - 1) / 2 + 1)))]) x).2.getD El0).k), .int .i64 (((ins (d * 2 - 1) (ht + 1) (Tr.nd [y] [(Tr.nd (t.is.take ((d * 2 - 1) / 2)) (t.ks.take ((d * 2 - 1) / 2 + 1))), (Tr.nd (t.is.drop ((d * 2 - 1) / 2 + 1)) (t.ks.drop ((d * 2 - 1) / 2 + 1)))]) x).2.getD El0).v)]) (C' := [.int .i64 (((ins (d * 2 - 1) (ht + 1) (Tr.nd [y] [(Tr.nd (t.is.take ((d * 2 - 1) / 2)) (t.ks.take ((d * 2 - 1) / 2 + 1))), (Tr.nd (t.is.drop ((d * 2 - 1) / 2 + 1)) (t.ks.drop ((d * 2 - 1) / 2 + 1)))]) x).2.getD El0).k), .int .i64 (((ins (d * 2 - 1) (ht + 1) (Tr.nd [y] [(Tr.nd (t.is.take ((d * 2 - 1) / 2)) (t.ks.take ((d * 2 - 1) / 2 + 1))), (Tr.nd (t.is.drop ((d * 2 - 1) / 2 + 1)) (t.ks.drop ((d * 2 - 1) / 2 + 1)))]) x).2.getD El0).v)]) rfl Ty.ag55 rfl rfl rfl rfl (by simp) rfl) ?_
     rintro _ _ rfl
     refine WP.val rfl rfl rfl (Val.assign rfl rfl) ?_
     refine WP.nx ?_
     refine WPc.ret ?_
     refine Out.perm pl1 ?_
     iterate 4 (refine Out.drop ?_; refine Out.perm pl5 ?_)
     refine Out.drop ?_
     iterate 3 (refine Out.perm pl3 ?_)
     refine Out.perm pl4 ?_
     refine Out.perm pl4 ?_
     have hr : rins (d * 2 - 1) ht t x = (((ht + 1), (ins (d * 2 - 1) (ht + 1) (Tr.nd [y] [(Tr.nd (t.is.take ((d * 2 - 1) / 2)) (t.ks.take ((d * 2 - 1) / 2 + 1))), (Tr.nd (t.is.drop ((d * 2 - 1) / 2 + 1)) (t.ks.drop ((d * 2 - 1) / 2 + 1)))]) x).1), (ins (d * 2 - 1) (ht + 1) (Tr.nd [y] [(Tr.nd (t.is.take ((d * 2 - 1) / 2)) (t.ks.take ((d * 2 - 1) / 2 + 1))), (Tr.nd (t.is.drop ((d * 2 - 1) / 2 + 1)) (t.ks.drop ((d * 2 - 1) / 2 + 1)))]) x).2) := by unfold rins; rw [if_pos (by omega), getD_at hy]
     exact Out.retRun (L' := [Blk tb [.int .i64 (((d : Nat) : Int)), .int .i64 (n), .pointer (some ⟨pr, 0, none⟩), .pointer (some ⟨c, 0, none⟩)] 174, Nd c (ht + 1) (pr, (ins (d * 2 - 1) (ht + 1) (Tr.nd [y] [(Tr.nd (t.is.take ((d * 2 - 1) / 2)) (t.ks.take ((d * 2 - 1) / 2 + 1))), (Tr.nd (t.is.drop ((d * 2 - 1) / 2 + 1)) (t.ks.drop ((d * 2 - 1) / 2 + 1)))]) x).1), Blk c [.pointer (some ⟨f, 0, none⟩), .func (.func 53) #[] #[]] 170, FL f]) (results_ct Try.results74 rfl Ty.ag55 rfl rfl (fun w h => h.range 0 rfl rfl)) ⟨pr, by rw [hr]; rfl, by rw [hr]; rw [if_pos (by simp_all)]⟩ (fun w h => h.drop)
 ·
  have h1 : ¬ (((d * 2 - 1 : Nat) : Int) ≤ ((t.is.length : Nat) : Int)) := h1
  refine WPc.skip ?_
  refine Out.next ?_
  refine WPc.seq ?_
  iterate 4 (refine WPc.perm pl4 ?_)
  refine WPc.conv (fun w h => Sat.ndMk (c := c) (h := ht) (t := t) (ks := ks) hk hl h) ?_
  show WPc _ _ _ _ _ _ (Nd c ht (p, t) :: _)
  have hb2 := hbal
  have hlt2 : t.is.length < M := by omega
  have hins := insert_spec c f m M hM (by omega) x ht p t hb2 hlt2
  rw [hMd] at hins
  refine WPD.start (Sat W [Blk tb [.int .i64 (((d : Nat) : Int)), .int .i64 (n), .pointer (some ⟨p, 0, none⟩), .pointer (some ⟨c, 0, none⟩)] 174, Blk b1 [.int .i64 (x.k), .int .i64 (x.v)] 55]) Ty.mixed ?_
  refine WPD.tS 0 rfl rfl rfl rfl (fun w h => (((h.perm pl3).perm pl2)).dropEnd (L := [_, _])) (Val.move rfl rfl) ?_
  refine WPD.tS 1 rfl rfl rfl rfl (fun w h => (((h.perm pl3).perm pl2)).dropEnd (L := [_, _])) (Val.nilCheck rfl rfl) ?_
  refine WPD.tS 2 rfl rfl rfl rfl (fun w h => (((h.perm pl3).perm pl2)).dropEnd (L := [_, _])) (Val.fieldAddr (j := 2) rfl Ty.fo174_2 rfl rfl) ?_
  refine WPD.tL 3 rfl rfl rfl rfl (fun w h => (((h.perm pl3).perm pl2)).dropEnd (L := [_, _])) (Val.load rfl Ty.sc171 rfl (fun w h => h.cell 0 rfl rfl)) ?_
  refine WPD.tL 4 rfl rfl rfl rfl (fun w h => (((h.perm pl3).perm pl2)).dropEnd (L := [_, _])) (Val.loadAgg (cs := [.int .i64 (x.k), .int .i64 (x.v)]) rfl Ty.ag55 rfl rfl (fun w h => h.range 1 rfl rfl)) ?_
  refine WPD.tS 5 rfl rfl rfl rfl (fun w h => (((h.perm pl3).perm pl2)).dropEnd (L := [_, _])) (Val.move rfl rfl) ?_
  refine WPD.pick2 6 11 (by kernel_rfl) ?_ ?_
  ·
   refine WPO.perm pl1 ?_
   refine WPO.step rfl rfl rfl rfl (Eff.call rfl rfl Try.call101 (maxi_spec c d tb n (.pointer (some ⟨p, 0, none⟩)) (by omega) (by omega))) ?_
   rintro _ _ ⟨_, ⟨rfl, rfl⟩, rfl⟩
   refine ⟨(fun w h => (((h.perm pl3).perm pl1)).dropEnd (L := [_, _])), ?_⟩
   refine WPD.pick2 7 11 (by kernel_rfl) ?_ ?_
   ·
    refine WPO.perm pl5 ?_
    refine WPO.perm pl5 ?_
    refine WPO.perm pl3 ?_
    refine WPO.step rfl rfl rfl rfl (Eff.call rfl rfl Try.call103 (hins)) ?_
    rintro _ _ ⟨_, ⟨rfl, rfl⟩, rfl⟩
    refine ⟨(fun w h => (((h.perm pl5).perm pl4)).dropEnd (L := [_, _])), ?_⟩
    show WPD _ _ _ _ _ _ _ _ _ (Nd c ht (p, (ins (d * 2 - 1) ht t x).1) :: _)
    refine WPD.tS 8 rfl rfl rfl rfl (fun w h => (((h.perm pl5).perm pl4)).dropEnd (L := [_, _])) (Val.move rfl rfl) ?_
    refine WPD.tS 9 rfl rfl rfl rfl (fun w h => (((h.perm pl5).perm pl4)).dropEnd (L := [_, _])) (Val.extract rfl rfl rfl) ?_
    refine WPD.tS 10 rfl rfl rfl rfl (fun w h => (((h.perm pl5).perm pl4)).dropEnd (L := [_, _])) (Val.extract rfl rfl rfl) ?_
    refine WPD.step 11 (by kernel_rfl) rfl rfl rfl rfl (Eff.alloc rfl Ty.z55) ?_
    rintro _ _ ⟨b27, rfl, rfl⟩
    refine ⟨(fun w h => (((h.perm pl6).perm pl5)).dropEnd (L := [_, _])), ?_⟩
    refine WPD.stepC0 12 (by kernel_rfl) rfl rfl rfl (by kernel_rfl) (Eff.storeAgg (cs := [.int .i64 (((ins (d * 2 - 1) ht t x).2.getD El0).k), .int .i64 (((ins (d * 2 - 1) ht t x).2.getD El0).v)]) (C' := [.int .i64 (((ins (d * 2 - 1) ht t x).2.getD El0).k), .int .i64 (((ins (d * 2 - 1) ht t x).2.getD El0).v)]) rfl Ty.ag55 rfl rfl rfl rfl (by simp) rfl) ?_
    rintro _ _ rfl
    refine ⟨_, (fun _ h => h), ?_⟩
    refine WPD.tM 13 rfl rfl rfl rfl (Val.assign rfl rfl) ?_
    refine WPD.done (by kernel_rfl) ?_
    refine Out.next ?_
    refine WPc.seq ?_
    refine WPc.sr ?_
    refine WP.val rfl rfl rfl (Val.move rfl rfl) ?_
    refine WP.val rfl rfl rfl (Val.not rfl rfl) ?_
    refine WP.nx ?_
    refine WPc.cond rfl (fun h11 => ?_) (fun h11 => ?_)
    ·
     have h11 : (!((ins (d * 2 - 1) ht t x).2.isSome)) = true := h11
     refine WPc.region ?_
     refine WP.val rfl rfl rfl (Val.move rfl rfl) ?_
     refine WP.val rfl rfl rfl (Val.nilCheck rfl rfl) ?_
     refine WP.val rfl rfl rfl (Val.fieldAddr (j := 1) rfl Ty.fo174_1 rfl rfl) ?_
     refine WP.val rfl rfl rfl (Val.load rfl Ty.sc3 rfl (fun w h => h.cell 4 rfl rfl)) ?_
     refine WP.val rfl rfl rfl (Val.add (z := n + (1 : Int)) rfl rfl rfl (w64 (by omega) (by omega))) ?_
     refine WP.val rfl rfl rfl (Val.nilCheck rfl rfl) ?_
     refine WP.val rfl rfl rfl (Val.fieldAddr (j := 1) rfl Ty.fo174_1 rfl rfl) ?_
     refine WP.perm pl4 ?_
     refine WP.eff0 rfl rfl (Eff.store rfl Ty.sc3 rfl rfl rfl (by simp) st1) ?_
     rintro _ _ rfl
     refine WP.nx ?_
     refine WPc.sr ?_
     refine WP.val rfl rfl rfl (Val.loadAgg (cs := [.int .i64 (((ins (d * 2 - 1) ht t x).2.getD El0).k), .int .i64 (((ins (d * 2 - 1) ht t x).2.getD El0).v)]) rfl Ty.ag55 rfl rfl (fun w h => h.range 1 rfl rfl)) ?_
     refine WP.val rfl rfl rfl (Val.move rfl rfl) ?_
     refine WP.perm pl5 ?_
     refine WP.eff0 rfl rfl (Eff.storeAgg (cs := [.int .i64 (((ins (d * 2 - 1) ht t x).2.getD El0).k), .int .i64 (((ins (d * 2 - 1) ht t x).2.getD El0).v)]) (C' := [.int .i64 (((ins (d * 2 - 1) ht t x).2.getD El0).k), .int .i64 (((ins (d * 2 - 1) ht t x).2.getD El0).v)]) rfl Ty.ag55 rfl rfl rfl rfl (by simp) rfl) ?_
     rintro _ _ rfl
     refine WP.val rfl rfl rfl (Val.assign rfl rfl) ?_
     refine WP.nx ?_
     refine WPc.ret ?_
     refine Out.perm pl2 ?_
     refine Out.drop ?_
     refine Out.perm pl5 ?_
     refine Out.drop ?_
     have hr : rins (d * 2 - 1) ht t x = ((ht, (ins (d * 2 - 1) ht t x).1), (ins (d * 2 - 1) ht t x).2) := by unfold rins; rw [if_neg (by omega)]
     exact Out.retRun (L' := [Blk tb [.int .i64 (((d : Nat) : Int)), .int .i64 (n + (1 : Int)), .pointer (some ⟨p, 0, none⟩), .pointer (some ⟨c, 0, none⟩)] 174, Nd c ht (p, (ins (d * 2 - 1) ht t x).1), Blk c [.pointer (some ⟨f, 0, none⟩), .func (.func 53) #[] #[]] 170, FL f]) (results_ct Try.results74 rfl Ty.ag55 rfl rfl (fun w h => h.range 0 rfl rfl)) ⟨p, by rw [hr]; rfl, by rw [hr]; rw [if_neg (by simp_all)]⟩ (fun w h => h.drop)
    ·
     have h11 : (!((ins (d * 2 - 1) ht t x).2.isSome)) = false := h11
     refine WPc.skip ?_
     refine Out.next ?_
     refine WPc.sr ?_
     refine WP.val rfl rfl rfl (Val.loadAgg (cs := [.int .i64 (((ins (d * 2 - 1) ht t x).2.getD El0).k), .int .i64 (((ins (d * 2 - 1) ht t x).2.getD El0).v)]) rfl Ty.ag55 rfl rfl (fun w h => h.range 0 rfl rfl)) ?_
     refine WP.val rfl rfl rfl (Val.move rfl rfl) ?_
     refine WP.perm pl5 ?_
     refine WP.eff0 rfl rfl (Eff.storeAgg (cs := [.int .i64 (((ins (d * 2 - 1) ht t x).2.getD El0).k), .int .i64 (((ins (d * 2 - 1) ht t x).2.getD El0).v)]) (C' := [.int .i64 (((ins (d * 2 - 1) ht t x).2.getD El0).k), .int .i64 (((ins (d * 2 - 1) ht t x).2.getD El0).v)]) rfl Ty.ag55 rfl rfl rfl rfl (by simp) rfl) ?_
     rintro _ _ rfl
     refine WP.val rfl rfl rfl (Val.assign rfl rfl) ?_
     refine WP.nx ?_
     refine WPc.ret ?_
     refine Out.perm pl1 ?_
     refine Out.drop ?_
     refine Out.perm pl5 ?_
     refine Out.drop ?_
     iterate 3 (refine Out.perm pl3 ?_)
     refine Out.perm pl4 ?_
     refine Out.perm pl4 ?_
     have hr : rins (d * 2 - 1) ht t x = ((ht, (ins (d * 2 - 1) ht t x).1), (ins (d * 2 - 1) ht t x).2) := by unfold rins; rw [if_neg (by omega)]
     exact Out.retRun (L' := [Blk tb [.int .i64 (((d : Nat) : Int)), .int .i64 (n), .pointer (some ⟨p, 0, none⟩), .pointer (some ⟨c, 0, none⟩)] 174, Nd c ht (p, (ins (d * 2 - 1) ht t x).1), Blk c [.pointer (some ⟨f, 0, none⟩), .func (.func 53) #[] #[]] 170, FL f]) (results_ct Try.results74 rfl Ty.ag55 rfl rfl (fun w h => h.range 0 rfl rfl)) ⟨p, by rw [hr]; rfl, by rw [hr]; rw [if_pos (by simp_all)]⟩ (fun w h => h.drop)
   ·
    refine WPO.step rfl rfl rfl rfl (Eff.alloc rfl Ty.z55) ?_
    rintro _ _ ⟨b28, rfl, rfl⟩
    refine ⟨(fun w h => (((h.perm pl4).perm pl2)).dropEnd (L := [_, _])), ?_⟩
    refine WPD.perm pl6 ?_
    refine WPD.perm pl6 ?_
    refine WPD.perm pl4 ?_
    refine WPD.step 7 (by kernel_rfl) rfl rfl rfl rfl (Eff.call rfl rfl Try.call103 (hins)) ?_
    rintro _ _ ⟨_, ⟨rfl, rfl⟩, rfl⟩
    refine ⟨(fun w h => (((h.perm pl6).perm pl5)).dropEnd (L := [_, _])), ?_⟩
    show WPD _ _ _ _ _ _ _ _ _ (Nd c ht (p, (ins (d * 2 - 1) ht t x).1) :: _ :: _ :: Blk b28 [.int .i64 0, .int .i64 0] 55 :: _)
    refine WPD.tS 8 rfl rfl rfl rfl (fun w h => (((h.perm pl6).perm pl5)).dropEnd (L := [_, _])) (Val.move rfl rfl) ?_
    refine WPD.tS 9 rfl rfl rfl rfl (fun w h => (((h.perm pl6).perm pl5)).dropEnd (L := [_, _])) (Val.extract rfl rfl rfl) ?_
    refine WPD.tS 10 rfl rfl rfl rfl (fun w h => (((h.perm pl6).perm pl5)).dropEnd (L := [_, _])) (Val.extract rfl rfl rfl) ?_
    refine WPD.perm pl3 ?_
    refine WPD.stepC0 12 (by kernel_rfl) rfl rfl rfl (by kernel_rfl) (Eff.storeAgg (cs := [.int .i64 (((ins (d * 2 - 1) ht t x).2.getD El0).k), .int .i64 (((ins (d * 2 - 1) ht t x).2.getD El0).v)]) (C' := [.int .i64 (((ins (d * 2 - 1) ht t x).2.getD El0).k), .int .i64 (((ins (d * 2 - 1) ht t x).2.getD El0).v)]) rfl Ty.ag55 rfl rfl rfl rfl (by simp) rfl) ?_
    rintro _ _ rfl
    refine ⟨_, (fun _ h => h), ?_⟩
    refine WPD.tM 13 rfl rfl rfl rfl (Val.assign rfl rfl) ?_
    refine WPD.done (by kernel_rfl) ?_
    refine Out.next ?_
    refine WPc.seq ?_
    refine WPc.sr ?_
    refine WP.val rfl rfl rfl (Val.move rfl rfl) ?_
    refine WP.val rfl rfl rfl (Val.not rfl rfl) ?_
    refine WP.nx ?_
    refine WPc.cond rfl (fun h12 => ?_) (fun h12 => ?_)
    ·
     have h12 : (!((ins (d * 2 - 1) ht t x).2.isSome)) = true := h12
     refine WPc.region ?_
     refine WP.val rfl rfl rfl (Val.move rfl rfl) ?_
     refine WP.val rfl rfl rfl (Val.nilCheck rfl rfl) ?_
     refine WP.val rfl rfl rfl (Val.fieldAddr (j := 1) rfl Ty.fo174_1 rfl rfl) ?_
     refine WP.val rfl rfl rfl (Val.load rfl Ty.sc3 rfl (fun w h => h.cell 4 rfl rfl)) ?_
     refine WP.val rfl rfl rfl (Val.add (z := n + (1 : Int)) rfl rfl rfl (w64 (by omega) (by omega))) ?_
     refine WP.val rfl rfl rfl (Val.nilCheck rfl rfl) ?_
     refine WP.val rfl rfl rfl (Val.fieldAddr (j := 1) rfl Ty.fo174_1 rfl rfl) ?_
     refine WP.perm pl4 ?_
     refine WP.eff0 rfl rfl (Eff.store rfl Ty.sc3 rfl rfl rfl (by simp) st1) ?_
     rintro _ _ rfl
     refine WP.nx ?_
     refine WPc.sr ?_
     refine WP.val rfl rfl rfl (Val.loadAgg (cs := [.int .i64 (((ins (d * 2 - 1) ht t x).2.getD El0).k), .int .i64 (((ins (d * 2 - 1) ht t x).2.getD El0).v)]) rfl Ty.ag55 rfl rfl (fun w h => h.range 1 rfl rfl)) ?_
     refine WP.val rfl rfl rfl (Val.move rfl rfl) ?_
     refine WP.perm pl5 ?_
     refine WP.eff0 rfl rfl (Eff.storeAgg (cs := [.int .i64 (((ins (d * 2 - 1) ht t x).2.getD El0).k), .int .i64 (((ins (d * 2 - 1) ht t x).2.getD El0).v)]) (C' := [.int .i64 (((ins (d * 2 - 1) ht t x).2.getD El0).k), .int .i64 (((ins (d * 2 - 1) ht t x).2.getD El0).v)]) rfl Ty.ag55 rfl rfl rfl rfl (by simp) rfl) ?_
     rintro _ _ rfl
     refine WP.val rfl rfl rfl (Val.assign rfl rfl) ?_
     refine WP.nx ?_
     refine WPc.ret ?_
     refine Out.perm pl2 ?_
     refine Out.drop ?_
     refine Out.perm pl5 ?_
     refine Out.drop ?_
     have hr : rins (d * 2 - 1) ht t x = ((ht, (ins (d * 2 - 1) ht t x).1), (ins (d * 2 - 1) ht t x).2) := by unfold rins; rw [if_neg (by omega)]
     exact Out.retRun (L' := [Blk tb [.int .i64 (((d : Nat) : Int)), .int .i64 (n + (1 : Int)), .pointer (some ⟨p, 0, none⟩), .pointer (some ⟨c, 0, none⟩)] 174, Nd c ht (p, (ins (d * 2 - 1) ht t x).1), Blk c [.pointer (some ⟨f, 0, none⟩), .func (.func 53) #[] #[]] 170, FL f]) (results_ct Try.results74 rfl Ty.ag55 rfl rfl (fun w h => h.range 0 rfl rfl)) ⟨p, by rw [hr]; rfl, by rw [hr]; rw [if_neg (by simp_all)]⟩ (fun w h => h.drop)
    ·
     have h12 : (!((ins (d * 2 - 1) ht t x).2.isSome)) = false := h12
     refine WPc.skip ?_
     refine Out.next ?_
     refine WPc.sr ?_
     refine WP.val rfl rfl rfl (Val.loadAgg (cs := [.int .i64 (((ins (d * 2 - 1) ht t x).2.getD El0).k), .int .i64 (((ins (d * 2 - 1) ht t x).2.getD El0).v)]) rfl Ty.ag55 rfl rfl (fun w h => h.range 0 rfl rfl)) ?_
     refine WP.val rfl rfl rfl (Val.move rfl rfl) ?_
     refine WP.perm pl5 ?_
     refine WP.eff0 rfl rfl (Eff.storeAgg (cs := [.int .i64 (((ins (d * 2 - 1) ht t x).2.getD El0).k), .int .i64 (((ins (d * 2 - 1) ht t x).2.getD El0).v)]) (C' := [.int .i64 (((ins (d * 2 - 1) ht t x).2.getD El0).k), .int .i64 (((ins (d * 2 - 1) ht t x).2.getD El0).v)]) rfl Ty.ag55 rfl rfl rfl rfl (by simp) rfl) ?_
     rintro _ _ rfl
     refine WP.val rfl rfl rfl (Val.assign rfl rfl) ?_
     refine WP.nx ?_
     refine WPc.ret ?_
     refine Out.perm pl1 ?_
     refine Out.drop ?_
     refine Out.perm pl5 ?_
     refine Out.drop ?_
     iterate 3 (refine Out.perm pl3 ?_)
     refine Out.perm pl4 ?_
     refine Out.perm pl4 ?_
     have hr : rins (d * 2 - 1) ht t x = ((ht, (ins (d * 2 - 1) ht t x).1), (ins (d * 2 - 1) ht t x).2) := by unfold rins; rw [if_neg (by omega)]
     exact Out.retRun (L' := [Blk tb [.int .i64 (((d : Nat) : Int)), .int .i64 (n), .pointer (some ⟨p, 0, none⟩), .pointer (some ⟨c, 0, none⟩)] 174, Nd c ht (p, (ins (d * 2 - 1) ht t x).1), Blk c [.pointer (some ⟨f, 0, none⟩), .func (.func 53) #[] #[]] 170, FL f]) (results_ct Try.results74 rfl Ty.ag55 rfl rfl (fun w h => h.range 0 rfl rfl)) ⟨p, by rw [hr]; rfl, by rw [hr]; rw [if_pos (by simp_all)]⟩ (fun w h => h.drop)
  ·
   refine WPO.step rfl rfl rfl rfl (Eff.alloc rfl Ty.z55) ?_
   rintro _ _ ⟨b29, rfl, rfl⟩
   refine ⟨(fun w h => (((h.perm pl4).perm pl3)).dropEnd (L := [_, _])), ?_⟩
   refine WPD.perm pl2 ?_
   refine WPD.step 6 (by kernel_rfl) rfl rfl rfl rfl (Eff.call rfl rfl Try.call101 (maxi_spec c d tb n (.pointer (some ⟨p, 0, none⟩)) (by omega) (by omega))) ?_
   rintro _ _ ⟨_, ⟨rfl, rfl⟩, rfl⟩
   refine ⟨(fun w h => (((h.perm pl4).perm pl1)).dropEnd (L := [_, _])), ?_⟩
   show WPD _ _ _ _ _ _ _ _ _ (_ :: Blk b29 [.int .i64 0, .int .i64 0] 55 :: _)
   refine WPD.perm pl6 ?_
   refine WPD.perm pl6 ?_
   refine WPD.perm pl4 ?_
   refine WPD.step 7 (by kernel_rfl) rfl rfl rfl rfl (Eff.call rfl rfl Try.call103 (hins)) ?_
   rintro _ _ ⟨_, ⟨rfl, rfl⟩, rfl⟩
   refine ⟨(fun w h => (((h.perm pl6).perm pl4)).dropEnd (L := [_, _])), ?_⟩
   show WPD _ _ _ _ _ _ _ _ _ (Nd c ht (p, (ins (d * 2 - 1) ht t x).1) :: _)
   refine WPD.tS 8 rfl rfl rfl rfl (fun w h => (((h.perm pl6).perm pl4)).dropEnd (L := [_, _])) (Val.move rfl rfl) ?_
   refine WPD.tS 9 rfl rfl rfl rfl (fun w h => (((h.perm pl6).perm pl4)).dropEnd (L := [_, _])) (Val.extract rfl rfl rfl) ?_
   refine WPD.tS 10 rfl rfl rfl rfl (fun w h => (((h.perm pl6).perm pl4)).dropEnd (L := [_, _])) (Val.extract rfl rfl rfl) ?_
   refine WPD.perm pl4 ?_
   refine WPD.stepC0 12 (by kernel_rfl) rfl rfl rfl (by kernel_rfl) (Eff.storeAgg (cs := [.int .i64 (((ins (d * 2 - 1) ht t x).2.getD El0).k), .int .i64 (((ins (d * 2 - 1) ht t x).2.getD El0).v)]) (C' := [.int .i64 (((ins (d * 2 - 1) ht t x).2.getD El0).k), .int .i64 (((ins (d * 2 - 1) ht t x).2.getD El0).v)]) rfl Ty.ag55 rfl rfl rfl rfl (by simp) rfl) ?_
   rintro _ _ rfl
   refine ⟨_, (fun _ h => h), ?_⟩
   refine WPD.tM 13 rfl rfl rfl rfl (Val.assign rfl rfl) ?_
   refine WPD.done (by kernel_rfl) ?_
   refine Out.next ?_
   refine WPc.seq ?_
   refine WPc.sr ?_
   refine WP.val rfl rfl rfl (Val.move rfl rfl) ?_
   refine WP.val rfl rfl rfl (Val.not rfl rfl) ?_
   refine WP.nx ?_
   refine WPc.cond rfl (fun h13 => ?_) (fun h13 => ?_)
   ·
    have h13 : (!((ins (d * 2 - 1) ht t x).2.isSome)) = true := h13
    refine WPc.region ?_
    refine WP.val rfl rfl rfl (Val.move rfl rfl) ?_
    refine WP.val rfl rfl rfl (Val.nilCheck rfl rfl) ?_
    refine WP.val rfl rfl rfl (Val.fieldAddr (j := 1) rfl Ty.fo174_1 rfl rfl) ?_
    refine WP.val rfl rfl rfl (Val.load rfl Ty.sc3 rfl (fun w h => h.cell 4 rfl rfl)) ?_
    refine WP.val rfl rfl rfl (Val.add (z := n + (1 : Int)) rfl rfl rfl (w64 (by omega) (by omega))) ?_
    refine WP.val rfl rfl rfl (Val.nilCheck rfl rfl) ?_
    refine WP.val rfl rfl rfl (Val.fieldAddr (j := 1) rfl Ty.fo174_1 rfl rfl) ?_
    refine WP.perm pl4 ?_
    refine WP.eff0 rfl rfl (Eff.store rfl Ty.sc3 rfl rfl rfl (by simp) st1) ?_
    rintro _ _ rfl
    refine WP.nx ?_
    refine WPc.sr ?_
    refine WP.val rfl rfl rfl (Val.loadAgg (cs := [.int .i64 (((ins (d * 2 - 1) ht t x).2.getD El0).k), .int .i64 (((ins (d * 2 - 1) ht t x).2.getD El0).v)]) rfl Ty.ag55 rfl rfl (fun w h => h.range 1 rfl rfl)) ?_
    refine WP.val rfl rfl rfl (Val.move rfl rfl) ?_
    refine WP.perm pl5 ?_
    refine WP.eff0 rfl rfl (Eff.storeAgg (cs := [.int .i64 (((ins (d * 2 - 1) ht t x).2.getD El0).k), .int .i64 (((ins (d * 2 - 1) ht t x).2.getD El0).v)]) (C' := [.int .i64 (((ins (d * 2 - 1) ht t x).2.getD El0).k), .int .i64 (((ins (d * 2 - 1) ht t x).2.getD El0).v)]) rfl Ty.ag55 rfl rfl rfl rfl (by simp) rfl) ?_
    rintro _ _ rfl
    refine WP.val rfl rfl rfl (Val.assign rfl rfl) ?_
    refine WP.nx ?_
    refine WPc.ret ?_
    refine Out.perm pl2 ?_
    refine Out.drop ?_
    refine Out.perm pl5 ?_
    refine Out.drop ?_
    have hr : rins (d * 2 - 1) ht t x = ((ht, (ins (d * 2 - 1) ht t x).1), (ins (d * 2 - 1) ht t x).2) := by unfold rins; rw [if_neg (by omega)]
    exact Out.retRun (L' := [Blk tb [.int .i64 (((d : Nat) : Int)), .int .i64 (n + (1 : Int)), .pointer (some ⟨p, 0, none⟩), .pointer (some ⟨c, 0, none⟩)] 174, Nd c ht (p, (ins (d * 2 - 1) ht t x).1), Blk c [.pointer (some ⟨f, 0, none⟩), .func (.func 53) #[] #[]] 170, FL f]) (results_ct Try.results74 rfl Ty.ag55 rfl rfl (fun w h => h.range 0 rfl rfl)) ⟨p, by rw [hr]; rfl, by rw [hr]; rw [if_neg (by simp_all)]⟩ (fun w h => h.drop)
   ·
    have h13 : (!((ins (d * 2 - 1) ht t x).2.isSome)) = false := h13
    refine WPc.skip ?_
    refine Out.next ?_
    refine WPc.sr ?_
    refine WP.val rfl rfl rfl (Val.loadAgg (cs := [.int .i64 (((ins (d * 2 - 1) ht t x).2.getD El0).k), .int .i64 (((ins (d * 2 - 1) ht t x).2.getD El0).v)]) rfl Ty.ag55 rfl rfl (fun w h => h.range 0 rfl rfl)) ?_
    refine WP.val rfl rfl rfl (Val.move rfl rfl) ?_
    refine WP.perm pl5 ?_
    refine WP.eff0 rfl rfl (Eff.storeAgg (cs := [.int .i64 (((ins (d * 2 - 1) ht t x).2.getD El0).k), .int .i64 (((ins (d * 2 - 1) ht t x).2.getD El0).v)]) (C' := [.int .i64 (((ins (d * 2 - 1) ht t x).2.getD El0).k), .int .i64 (((ins (d * 2 - 1) ht t x).2.getD El0).v)]) rfl Ty.ag55 rfl rfl rfl rfl (by simp) rfl) ?_
    rintro _ _ rfl
    refine WP.val rfl rfl rfl (Val.assign rfl rfl) ?_
    refine WP.nx ?_
    refine WPc.ret ?_
    refine Out.perm pl1 ?_
    refine Out.drop ?_
    refine Out.perm pl5 ?_
    refine Out.drop ?_
    iterate 3 (refine Out.perm pl3 ?_)
    refine Out.perm pl4 ?_
    refine Out.perm pl4 ?_
    have hr : rins (d * 2 - 1) ht t x = ((ht, (ins (d * 2 - 1) ht t x).1), (ins (d * 2 - 1) ht t x).2) := by unfold rins; rw [if_neg (by omega)]
    exact Out.retRun (L' := [Blk tb [.int .i64 (((d : Nat) : Int)), .int .i64 (n), .pointer (some ⟨p, 0, none⟩), .pointer (some ⟨c, 0, none⟩)] 174, Nd c ht (p, (ins (d * 2 - 1) ht t x).1), Blk c [.pointer (some ⟨f, 0, none⟩), .func (.func 53) #[] #[]] 170, FL f]) (results_ct Try.results74 rfl Ty.ag55 rfl rfl (fun w h => h.range 0 rfl rfl)) ⟨p, by rw [hr]; rfl, by rw [hr]; rw [if_pos (by simp_all)]⟩ (fun w h => h.drop)

end Go.Proofs.Ythmkdioafjmclaa.Bt8
