import Derived.Test.YthmkdioafjmclaaQh4
namespace Go.Proofs.Ythmkdioafjmclaa.Qh5
open Go.RowKit Go.Proofs.Ythmkdioafjmclaa Go.Proofs.Ythmkdioafjmclaa.Sl Go.Proofs.Ythmkdioafjmclaa.Qm Go.Proofs.Ythmkdioafjmclaa.Qh Go.Proofs.Ythmkdioafjmclaa.Qh2 Go.Proofs.Ythmkdioafjmclaa.Qh3 Go.Proofs.Ythmkdioafjmclaa.Qh4
set_option linter.unusedVariables false
set_option linter.unusedSimpArgs false
set_option linter.unusedSectionVars false


theorem idx_front {q : List QI} {z : QI} (h : Idx (q ++ [z])) : Idx q := fun i x hx => h i x (by rw [List.getElem?_append_left (List.getElem?_eq_some_iff.1 hx).1]; exact hx)
theorem ok_front {q : List QI} {z : QI} {n : Nat} (hq : q.length = n) (h : Ok (tm (q ++ [z])) n) : Ok (tm q) n := fun k hk hn => by
  have := h k hk hn
  rwa [tm_app hq hn, tm_app hq (by omega)] at this
theorem ok_none {f : Nat → Nat} {n : Nat} (h : n ≤ 1) : Ok f n := fun k hk hn => by omega
set_option maxRecDepth 100000 in
set_option maxHeartbeats 1000000 in
theorem hpush_spec (nb mb rb cap n : Nat) (sp : List Value) (q : List QI) (z : QI) (hq : q.length = n) (hn : n ≤ 1000000) (hix : Idx q) (hok : Ok (tm q) n) (hc : n ≤ cap) (hsp : sp.length = cap - n) (hcm : cap ≤ 9223372036854775807) : Does Try.prog 60 [.iface 136 (.pointer (some ⟨nb, 1, none⟩)), .iface 90 (.pointer (some ⟨z.b, 0, none⟩))] [Blk nb [.map (some mb), .slice (some ⟨rb, 0, none⟩) n cap] 132, Blk rb (q.map QI.ptr ++ sp) 90, Its q, Blk z.b [.int .i64 (z.id), .int .i64 ((((z.t / 1000000000) : Nat) : Int)), .int .i64 ((((z.t % 1000000000) : Nat) : Int)), .bool true, .int .i64 (z.ix)] 134] (fun v L => ∃ q' rb' cap' sp', Same (q ++ [{ z with ix := (n : Int) }]) q' (n + 1) ∧ Ok (tm q') (n + 1) ∧ (n + 1 ≤ cap' ∧ sp'.length = cap' - (n + 1) ∧ cap' ≤ 9223372036854775807) ∧ v = .tuple #[] ∧ L = [Blk nb [.map (some mb), .slice (some ⟨rb', 0, none⟩) (n + 1) cap'] 132, Blk rb' (q'.map QI.ptr ++ sp') 90, Its q']) := by
  refine Does.enter 12 Try.func60 rfl rfl rfl fun W F => ?_
  show WPc _ _ _ _ _ [(0, .iface 136 (.pointer (some ⟨nb, 1, none⟩))), (1, .iface 90 (.pointer (some ⟨z.b, 0, none⟩)))] (Blk nb [.map (some mb), .slice (some ⟨rb, 0, none⟩) n cap] 132 :: Blk rb (q.map QI.ptr ++ sp) 90 :: Its q :: Blk z.b [.int .i64 (z.id), .int .i64 ((((z.t / 1000000000) : Nat) : Int)), .int .i64 ((((z.t % 1000000000) : Nat) : Int)), .bool true, .int .i64 (z.ix)] 134 :: F)
  refine WPc.seq ?_
  refine WPc.region ?_
  refine WP.val rfl rfl rfl (Val.move rfl rfl) ?_
  refine WP.val rfl rfl rfl (Val.move rfl rfl) ?_
  refine WP.perm pl3 ?_
  refine WP.perm pl3 ?_
  refine WP.perm pl3 ?_
  refine WP.perm pl3 ?_
  refine WP.eff rfl rfl rfl (Eff.invoke (f := 169) rfl rfl rfl (fun _ => by kernel_rfl) Try.call169 (qpush_spec nb mb rb cap n sp q z hq (by omega) hc hsp hcm)) ?_
  rintro _ _ ⟨_, ⟨u1, rfl, rfl⟩, rfl⟩
  show WP _ _ _ _ _ _ _ (Its ((q ++ [{ z with ix := (n : Int) }])) :: Blk nb [.map (some mb), u1] 132 :: Own 90 1 u1 ((n + 1)) ((q ++ [{ z with ix := (n : Int) }]).map QI.ptr) :: F)
  refine WP.perm pl2 ?_
  refine WP.open (fun w h => own_open (by omega) h) ?_
  rintro ⟨rb2, cap2, sp2⟩
  refine WP.pure (fun ⟨hv2, hc2, hs2, hm2⟩ => ?_)
  subst hv2
  show WP _ _ _ _ _ _ _ (Blk rb2 ((q ++ [{ z with ix := (n : Int) }]).map QI.ptr ++ sp2) 90 :: Its ((q ++ [{ z with ix := (n : Int) }])) :: Blk nb [.map (some mb), .slice (some ⟨rb2, 0, none⟩) ((n + 1)) cap2] 132 :: F)
  refine WP.nil ?_
  refine Out.next ?_
  refine WPc.region ?_
  refine WP.val rfl rfl rfl (Val.move rfl rfl) ?_
  refine WP.val rfl rfl rfl (Val.move rfl rfl) ?_
  refine WP.eff rfl rfl rfl (Eff.invokeP (f := 164) (u := .slice (some ⟨rb2, 0, none⟩) ((n + 1)) cap2) rfl rfl rfl Ty2.mv136_Len (fun w h => h.cell 2 rfl rfl) Try.call164 (qlen_spec rb2 (n + 1) cap2)) ?_
  rintro _ _ ⟨_, ⟨rfl, rfl⟩, rfl⟩
  show WP _ _ _ _ _ _ _ (Blk rb2 ((q ++ [{ z with ix := (n : Int) }]).map QI.ptr ++ sp2) 90 :: Its ((q ++ [{ z with ix := (n : Int) }])) :: Blk nb [.map (some mb), .slice (some ⟨rb2, 0, none⟩) ((n + 1)) cap2] 132 :: F)
  refine WP.val rfl rfl rfl (Val.sub (z := ((((n + 1)) - 1 : Nat) : Int)) rfl rfl rfl ((w64 (by omega) (by omega)).trans (by omega))) ?_
  refine WP.perm pl1 ?_
  refine WP.perm pl1 ?_
  refine WP.perm pl2 ?_
  refine WP.eff rfl rfl rfl (Eff.call rfl rfl Try.call87 (up_spec nb mb rb2 cap2 (n + 1) sp2 (q ++ [{ z with ix := (n : Int) }]) (by simp [hq]) (by omega) (idx_app hq hix rfl) n (by omega) (hole_push (ok_app hq hok)).1 (hole_push (ok_app hq hok)).2)) ?_
  rintro _ _ ⟨_, ⟨dq3, hS3, hO3, rfl, rfl⟩, rfl⟩
  show WP _ _ _ _ _ _ _ (Blk nb [.map (some mb), .slice (some ⟨rb2, 0, none⟩) ((n + 1)) cap2] 132 :: Blk rb2 (dq3.map QI.ptr ++ sp2) 90 :: Its dq3 :: F)
  refine WP.nil ?_
  exact Out.end0 (L' := _) Try.results60 ⟨dq3, rb2, cap2, sp2, hS3, hO3, ⟨hc2, by simpa using hs2, hm2⟩, rfl, rfl⟩ (fun _ h => h)
set_option maxRecDepth 100000 in
set_option maxHeartbeats 1000000 in
theorem hpop_spec (nb mb rb cap n : Nat) (sp : List Value) (q : List QI) (x y : QI) (hq : q.length = n + 1) (hn : n ≤ 1000000) (hix : Idx q) (hok : Ok (tm q) (n + 1)) (hc : n + 1 ≤ cap) (hx : q[0]? = some x) (hy : q[n]? = some y) : Does Try.prog 62 [.iface 136 (.pointer (some ⟨nb, 1, none⟩))] [Blk nb [.map (some mb), .slice (some ⟨rb, 0, none⟩) ((n + 1)) cap] 132, Blk rb (q.map QI.ptr ++ sp) 90, Its q] (fun v L => ∃ ql, ql.length = n ∧ ((ql ++ [{ x with ix := (n : Int) }]).map QI.key).Perm (q.map QI.key) ∧ Idx ql ∧ Ok (tm ql) n ∧ v = .iface 90 (.pointer (some ⟨x.b, 0, none⟩)) ∧ L = [Blk nb [.map (some mb), .slice (some ⟨rb, 0, none⟩) n cap] 132, Blk rb (ql.map QI.ptr ++ (x.ptr :: sp)) 90, Blk x.b [.int .i64 (x.id), .int .i64 ((((x.t / 1000000000) : Nat) : Int)), .int .i64 ((((x.t % 1000000000) : Nat) : Int)), .bool true, .int .i64 (-1)] 134, Its ql]) := by
  refine Does.enter 15 Try.func62 rfl rfl rfl fun W F => ?_
  show WPc _ _ _ _ _ [(0, .iface 136 (.pointer (some ⟨nb, 1, none⟩)))] (Blk nb [.map (some mb), .slice (some ⟨rb, 0, none⟩) ((n + 1)) cap] 132 :: Blk rb (q.map QI.ptr ++ sp) 90 :: Its q :: F)
  refine WPc.seq ?_
  refine WPc.region ?_
  refine WP.val rfl rfl rfl (Val.assign rfl rfl) ?_
  refine WP.nil ?_
  refine Out.next ?_
  refine WPc.seq ?_
  refine WPc.region ?_
  refine WP.val rfl rfl rfl (Val.move rfl rfl) ?_
  refine WP.eff rfl rfl rfl (Eff.invokeP (f := 164) (u := .slice (some ⟨rb, 0, none⟩) ((n + 1)) cap) rfl rfl rfl Ty2.mv136_Len (fun w h => h.cell 0 rfl rfl) Try.call164 (qlen_spec rb ((n + 1)) cap)) ?_
  rintro _ _ ⟨_, ⟨rfl, rfl⟩, rfl⟩
  show WP _ _ _ _ _ _ _ (Blk nb [.map (some mb), .slice (some ⟨rb, 0, none⟩) ((n + 1)) cap] 132 :: Blk rb (q.map QI.ptr ++ sp) 90 :: Its q :: F)
  refine WP.val rfl rfl rfl (Val.sub (z := ((((n + 1)) - 1 : Nat) : Int)) rfl rfl rfl ((w64 (by omega) (by omega)).trans (by omega))) ?_
  refine WP.val rfl rfl rfl (Val.assign rfl rfl) ?_
  refine WP.nil ?_
  refine Out.next ?_
  refine WPc.seq ?_
  refine WPc.know 3 (.int .i64 ((n : Nat) : Int)) rfl rfl ?_
  refine WPc.region ?_
  refine WP.val rfl rfl rfl (Val.move rfl rfl) ?_
  refine WP.val rfl rfl rfl (Val.move rfl rfl) ?_
  refine WP.perm pl2 ?_
  refine WP.perm pl2 ?_
  refine WP.eff rfl rfl rfl (Eff.invokeP (f := 166) (u := .slice (some ⟨rb, 0, none⟩) ((n + 1)) cap) rfl rfl rfl Ty2.mv136_Swap (fun w h => h.cell 2 rfl rfl) Try.call166 (swap_spec rb cap (n + 1) q sp 0 n x y hx hy (by omega) (by omega) (by omega))) ?_
  rintro _ _ ⟨_, ⟨rfl, rfl⟩, rfl⟩
  show WP _ _ _ _ _ _ _ (Blk rb (((sw q 0 n x y)).map QI.ptr ++ sp) 90 :: Its ((sw q 0 n x y)) :: Blk nb [.map (some mb), .slice (some ⟨rb, 0, none⟩) ((n + 1)) cap] 132 :: F)
  refine WP.nil ?_
  refine Out.next ?_
  refine WPc.seq ?_
  refine WPc.region ?_
  refine WP.val rfl rfl rfl (Val.move rfl rfl) ?_
  refine WP.val rfl rfl rfl (Val.move rfl rfl) ?_
  refine WP.perm pl1 ?_
  refine WP.perm pl1 ?_
  refine WP.perm pl2 ?_
  refine WP.eff rfl rfl rfl (Eff.call rfl rfl Try.call86 (down_spec nb mb rb cap (n + 1) sp (sw q 0 n x y) ((sw_len hx hy).trans hq) (by omega) (sw_idx hx hy hix) 0 n (by omega) (by omega) (by rw [tm_sw hx hy]; exact hole_pop hok))) ?_
  rintro _ _ ⟨_, ⟨dq1, dd1, hS1, hr1, rfl, rfl⟩, rfl⟩
  show WP _ _ _ _ _ _ _ (Blk nb [.map (some mb), .slice (some ⟨rb, 0, none⟩) ((n + 1)) cap] 132 :: Blk rb ((dq1).map QI.ptr ++ sp) 90 :: Its dq1 :: F)
  refine WP.nil ?_
  refine Out.next ?_
  refine WPc.seq ?_
  have hlast : dq1[n]? = some { x with ix := (n : Int) } := by rw [hS1.rest n (Nat.le_refl n), sw_at hx hy, if_pos rfl]
  have hok2 : Ok (tm dq1) n := by
    rcases hr1 with h | h
    · exact h.2
    · rw [h.2.1]; exact ok_of (by rw [tm_sw hx hy]; exact hole_pop hok) (fun h0 => absurd h0 (by omega)) h.2.2
  obtain ⟨ql, hql⟩ : ∃ ql, dq1 = ql ++ [{ x with ix := (n : Int) }] := ⟨_, split_last (hS1.len.trans ((sw_len hx hy).trans hq)) hlast⟩
  subst hql
  have hqn : ql.length = n := by have := hS1.len.trans ((sw_len hx hy).trans hq); simpa using this
  show WPc _ _ _ _ _ _ (Blk nb [.map (some mb), .slice (some ⟨rb, 0, none⟩) ((n + 1)) cap] 132 :: Blk rb (((ql ++ [{ x with ix := (n : Int) }])).map QI.ptr ++ sp) 90 :: Its ((ql ++ [{ x with ix := (n : Int) }])) :: F)
  refine WPc.region ?_
  refine WP.val rfl rfl rfl (Val.move rfl rfl) ?_
  refine WP.perm pl2 ?_
  refine WP.perm pl2 ?_
  refine WP.perm pl2 ?_
  refine WP.eff rfl rfl rfl (Eff.invoke (f := 168) rfl rfl rfl (fun _ => by kernel_rfl) Try.call168 (qpop_spec nb mb rb cap n sp ql { x with ix := (n : Int) } hqn (by omega) hc)) ?_
  rintro _ _ ⟨_, ⟨rfl, rfl⟩, rfl⟩
  show WP _ _ _ _ _ _ _ (Blk nb [.map (some mb), .slice (some ⟨rb, 0, none⟩) n cap] 132 :: Blk rb (ql.map QI.ptr ++ (x.ptr :: sp)) 90 :: Blk x.b [.int .i64 (x.id), .int .i64 ((((x.t / 1000000000) : Nat) : Int)), .int .i64 ((((x.t % 1000000000) : Nat) : Int)), .bool true, .int .i64 (-1)] 134 :: Its ql :: F)
  refine WP.val rfl rfl rfl (Val.assign rfl rfl) ?_
  refine WP.nil ?_
  refine Out.next ?_
  refine WPc.ret ?_
  exact Out.ret1 (L' := _) Try.results62 rfl ⟨ql, hqn, hS1.perm.trans (sw_perm hx hy), idx_front hS1.idx, ok_front hqn hok2, rfl, rfl⟩ (fun _ h => h)

end Go.Proofs.Ythmkdioafjmclaa.Qh5
