import Derived.Test.YthmkdioafjmclaaQh3
namespace Go.Proofs.Ythmkdioafjmclaa.Qh4
open Go.RowKit Go.Proofs.Ythmkdioafjmclaa Go.Proofs.Ythmkdioafjmclaa.Sl Go.Proofs.Ythmkdioafjmclaa.Qm Go.Proofs.Ythmkdioafjmclaa.Qh Go.Proofs.Ythmkdioafjmclaa.Qh2 Go.Proofs.Ythmkdioafjmclaa.Qh3
set_option linter.unusedVariables false
set_option linter.unusedSimpArgs false
set_option linter.unusedSectionVars false


theorem last_at (q : List QI) (z : QI) {n : Nat} (h : q.length = n) : (q ++ [z])[n]? = some z := by subst h; simp
theorem its_last {W w : World} {L : List HProp} {q : List QI} {z : QI} (h : Sat W (Its (q ++ [z]) :: L) w) : Sat W (Blk z.b z.cells 134 :: Its q :: L) w := by
  have h2 := its_out (last_at q z rfl) h
  rw [List.eraseIdx_append_of_length_le (Nat.le_refl _)] at h2
  simpa using h2
theorem own_open {W w : World} {e : TypeId} {k m : Nat} {v : Value} {xs : List Value} {L : List HProp} (hm : 0 < m) (h : Sat W (Own e k v m xs :: L) w) :
    ∃ p : Nat × Nat × List Value, Sat W (Pure (v = .slice (some ⟨p.1, 0, none⟩) m p.2.1 ∧ m ≤ p.2.1 ∧ p.2.2.length = (p.2.1 - m) * k ∧ p.2.1 ≤ maxLen) :: Blk p.1 (xs ++ p.2.2) e :: L) w := by
  rcases h.own with ⟨_, h0, _⟩ | ⟨b, cap, sp, h1, h2, h3, h4, h5, h6⟩
  · omega
  · exact ⟨(b, cap, sp), Sat.pure_mk ⟨h1, h2, h4, h5⟩ h6⟩
theorem tm_app {q : List QI} {z : QI} {n k : Nat} (hq : q.length = n) (h : k < n) : tm (q ++ [z]) k = tm q k := by
  unfold tm; rw [List.getElem?_append_left (by omega)]
theorem ok_app {q : List QI} {z : QI} {n : Nat} (hq : q.length = n) (h : Ok (tm q) n) : Ok (tm (q ++ [z])) n := fun k hk hn => by
  rw [tm_app hq hn, tm_app hq (by omega)]; exact h k hk hn
theorem ok_take {q : List QI} {n : Nat} (h : Ok (tm q) n) : Ok (tm (q.take n)) n := fun k hk hn => by
  have e : ∀ k, k < n → tm (q.take n) k = tm q k := fun k hk => by unfold tm; rw [List.getElem?_take_of_lt hk]
  rw [e k hn, e _ (by omega)]; exact h k hk hn
theorem idx_take {q : List QI} {n : Nat} (h : Idx q) : Idx (q.take n) := fun i x hx => by
  rw [List.getElem?_take] at hx
  split at hx
  · exact h i x hx
  · cases hx
theorem idx_app {q : List QI} {z : QI} {n : Nat} (hq : q.length = n) (h : Idx q) (hz : z.ix = (n : Int)) : Idx (q ++ [z]) := fun i x hx => by
  rw [List.getElem?_append] at hx
  split at hx
  · exact h i x hx
  · have : i = n := by
      have := (List.getElem?_eq_some_iff.1 hx).1
      simp at this
      omega
    subst this
    simp [hq] at hx
    rw [← hx]; exact hz
theorem split_last {q : List QI} {n : Nat} {z : QI} (hq : q.length = n + 1) (hz : q[n]? = some z) : q = q.take n ++ [z] := by
  apply List.ext_getElem?
  intro i
  rw [List.getElem?_append, List.length_take, Nat.min_eq_left (by omega)]
  split
  · rw [List.getElem?_take_of_lt (by assumption)]
  · by_cases e : i = n
    · subst e; simpa using hz
    · rw [List.getElem?_eq_none (by omega), List.getElem?_eq_none (by simp; omega)]
set_option maxRecDepth 100000 in
set_option maxHeartbeats 1000000 in
theorem qpop_spec (nb mb rb cap n : Nat) (sp : List Value) (q : List QI) (z : QI) (hq : q.length = n) (hn : n ≤ 1048576) (hc : n + 1 ≤ cap) : Does Try.prog 168 [.pointer (some ⟨nb, 1, none⟩)] [Blk nb [.map (some mb), .slice (some ⟨rb, 0, none⟩) ((n + 1)) cap] 132, Blk rb ((q ++ [z]).map QI.ptr ++ sp) 90, Its ((q ++ [z]))] (fun v L => v = .iface 90 (.pointer (some ⟨z.b, 0, none⟩)) ∧ L = [Blk nb [.map (some mb), .slice (some ⟨rb, 0, none⟩) n cap] 132, Blk rb (q.map QI.ptr ++ (z.ptr :: sp)) 90, Blk z.b { z with ix := -1 }.cells 134, Its q]) := by
  have hcap : n + 1 - 1 = n := rfl
  refine Does.enter 27 Try.func168 rfl rfl rfl fun W F => ?_
  show WPc _ _ _ _ _ [(0, .pointer (some ⟨nb, 1, none⟩))] (Blk nb [.map (some mb), .slice (some ⟨rb, 0, none⟩) ((n + 1)) cap] 132 :: Blk rb ((q ++ [z]).map QI.ptr ++ sp) 90 :: Its ((q ++ [z])) :: F)
  refine WPc.seq ?_
  refine WPc.region ?_
  refine WP.val rfl rfl rfl (Val.assign rfl rfl) ?_
  refine WP.nil ?_
  refine Out.next ?_
  refine WPc.seq ?_
  refine WPc.region ?_
  refine WP.val rfl rfl rfl (Val.move rfl rfl) ?_
  refine WP.val rfl rfl rfl (Val.nilCheck rfl rfl) ?_
  refine WP.val rfl rfl rfl (Val.load rfl Ty.sc130 rfl (fun w h => h.cell 0 rfl rfl)) ?_
  refine WP.val rfl rfl rfl (Val.assign rfl rfl) ?_
  refine WP.nil ?_
  refine Out.next ?_
  refine WPc.seq ?_
  refine WPc.region ?_
  refine WP.val rfl rfl rfl (Val.move rfl rfl) ?_
  refine WP.val rfl rfl rfl (Val.len rfl Ty.sl130 rfl) ?_
  refine WP.val rfl rfl rfl (Val.assign rfl rfl) ?_
  refine WP.nil ?_
  refine Out.next ?_
  refine WPc.seq ?_
  refine WPc.region ?_
  refine WP.val rfl rfl rfl (Val.move rfl rfl) ?_
  refine WP.val rfl rfl rfl (Val.move rfl rfl) ?_
  refine WP.val rfl rfl rfl (Val.sub (z := ((((n + 1)) - 1 : Nat) : Int)) rfl rfl rfl ((w64 (by omega) (by omega)).trans (by omega))) ?_
  refine WP.val rfl rfl rfl (Val.indexAddr (j := ((n + 1)) - 1) (q := ((n + 1)) - 1) rfl Ty.sl130 rfl rfl (by omega) (by omega) (by omega)) ?_
  refine WP.val rfl rfl rfl (Val.load (v := .pointer (some ⟨z.b, 0, none⟩)) rfl Ty.sc90 rfl (fun w h => h.cell 1 rfl (row_at (last_at q z hq) sp))) ?_
  refine WP.val rfl rfl rfl (Val.assign rfl rfl) ?_
  refine WP.nil ?_
  refine Out.next ?_
  refine WPc.seq ?_
  refine WPc.perm pl2 ?_
  refine WPc.conv (M := Blk z.b [.int .i64 (z.id), .int .i64 ((((z.t / 1000000000) : Nat) : Int)), .int .i64 ((((z.t % 1000000000) : Nat) : Int)), .bool true, .int .i64 (z.ix)] 134 :: Its q :: Blk nb [.map (some mb), .slice (some ⟨rb, 0, none⟩) ((n + 1)) cap] 132 :: Blk rb ((q ++ [z]).map QI.ptr ++ sp) 90 :: F) (fun w h => its_last h) ?_
  refine WPc.region ?_
  refine WP.val rfl rfl rfl (Val.move rfl rfl) ?_
  refine WP.val rfl rfl rfl (Val.nilCheck rfl rfl) ?_
  refine WP.val rfl rfl rfl (Val.fieldAddr (j := 4) rfl Ty.fo134_2 rfl rfl) ?_
  refine WP.eff0 rfl rfl (Eff.store rfl Ty.sc3 rfl rfl rfl (by simp) st4) ?_
  rintro _ _ rfl
  refine WP.nil ?_
  refine Out.next ?_
  refine WPc.seq ?_
  refine WPc.region ?_
  refine WP.val rfl rfl rfl (Val.move rfl rfl) ?_
  refine WP.val rfl rfl rfl (Val.move rfl rfl) ?_
  refine WP.val rfl rfl rfl (Val.move rfl rfl) ?_
  refine WP.val rfl rfl rfl (Val.sub (z := ((((n + 1)) - 1 : Nat) : Int)) rfl rfl rfl ((w64 (by omega) (by omega)).trans (by omega))) ?_
  refine WP.val rfl rfl rfl (Val.slice (lo := 0) (hi := ((n + 1)) - 1) (j := 0) (vlo := some (.i64, (0 : Int))) (vhi := some (.i64, ((((n + 1)) - 1 : Nat) : Int))) rfl Ty.sl130 rfl rfl rfl (by simp [bnd]; try omega) (by simp [bnd]; try omega) (by omega) (by omega) (by omega) (by simp)) ?_
  refine WP.val rfl rfl rfl (Val.nilCheck rfl rfl) ?_
  refine WP.perm pl2 ?_
  refine WP.eff0 rfl rfl (Eff.store rfl Ty.sc130 rfl rfl rfl (by simp) st1) ?_
  rintro _ _ rfl
  refine WP.nil ?_
  refine Out.next ?_
  refine WPc.seq ?_
  refine WPc.region ?_
  refine WP.val rfl rfl rfl (Val.move rfl rfl) ?_
  refine WP.val rfl rfl rfl (Val.iface rfl rfl Ty.ni90) ?_
  refine WP.val rfl rfl rfl (Val.assign rfl rfl) ?_
  refine WP.nil ?_
  refine Out.next ?_
  refine WPc.ret ?_
  refine Out.perm pl2 ?_
  refine Out.perm pl2 ?_
  refine Out.perm pl3 ?_
  refine Out.perm pl3 ?_
  exact Out.ret1 (L' := [Blk nb [.map (some mb), .slice (some ⟨rb, 0, none⟩) n cap] 132, Blk rb (q.map QI.ptr ++ (z.ptr :: sp)) 90, Blk z.b { z with ix := -1 }.cells 134, Its q]) Try.results168 rfl ⟨rfl, rfl⟩ (fun w h => by rw [show (q ++ [z]).map QI.ptr ++ sp = q.map QI.ptr ++ (z.ptr :: sp) by simp] at h; exact h)
set_option maxRecDepth 100000 in
set_option maxHeartbeats 1000000 in
theorem qpush_spec (nb mb rb cap n : Nat) (sp : List Value) (q : List QI) (z : QI) (hq : q.length = n) (hn : n ≤ 1048576) (hc : n ≤ cap) (hsp : sp.length = cap - n) (hcm : cap ≤ 9223372036854775807) : Does Try.prog 169 [.pointer (some ⟨nb, 1, none⟩), .iface 90 (.pointer (some ⟨z.b, 0, none⟩))] [Blk nb [.map (some mb), .slice (some ⟨rb, 0, none⟩) n cap] 132, Blk rb (q.map QI.ptr ++ sp) 90, Its q, Blk z.b [.int .i64 (z.id), .int .i64 ((((z.t / 1000000000) : Nat) : Int)), .int .i64 ((((z.t % 1000000000) : Nat) : Int)), .bool true, .int .i64 (z.ix)] 134] (fun v L => ∃ u, v = .tuple #[] ∧ L = [Its (q ++ [{ z with ix := (n : Int) }]), Blk nb [.map (some mb), u] 132, Own 90 1 u (n + 1) ((q ++ [{ z with ix := (n : Int) }]).map QI.ptr)]) := by
  refine Does.enter 24 Try.func169 rfl rfl rfl fun W F => ?_
  show WPc _ _ _ _ _ [(0, .pointer (some ⟨nb, 1, none⟩)), (1, .iface 90 (.pointer (some ⟨z.b, 0, none⟩)))] (Blk nb [.map (some mb), .slice (some ⟨rb, 0, none⟩) n cap] 132 :: Blk rb (q.map QI.ptr ++ sp) 90 :: Its q :: Blk z.b [.int .i64 (z.id), .int .i64 ((((z.t / 1000000000) : Nat) : Int)), .int .i64 ((((z.t % 1000000000) : Nat) : Int)), .bool true, .int .i64 (z.ix)] 134 :: F)
  refine WPc.seq ?_
  refine WPc.perm pl1 ?_
  refine WPc.conv (M := Own 90 1 (.slice (some ⟨rb, 0, none⟩) n cap) n (q.map QI.ptr) :: Blk nb [.map (some mb), .slice (some ⟨rb, 0, none⟩) n cap] 132 :: Its q :: Blk z.b [.int .i64 (z.id), .int .i64 ((((z.t / 1000000000) : Nat) : Int)), .int .i64 ((((z.t % 1000000000) : Nat) : Int)), .bool true, .int .i64 (z.ix)] 134 :: F) (fun w h => h.ownMk hc (by simp [hq]) (by simp [hsp]) hcm) ?_
  refine WPc.region ?_
  refine WP.val rfl rfl rfl (Val.move rfl rfl) ?_
  refine WP.val rfl rfl rfl (Val.nilCheck rfl rfl) ?_
  refine WP.val rfl rfl rfl (Val.load rfl Ty.sc130 rfl (fun w h => h.cell 1 rfl rfl)) ?_
  refine WP.val rfl rfl rfl (Val.len rfl Ty.sl130 rfl) ?_
  refine WP.val rfl rfl rfl (Val.assign rfl rfl) ?_
  refine WP.nil ?_
  refine Out.next ?_
  refine WPc.seq ?_
  refine WPc.region ?_
  refine WP.val rfl rfl rfl (Val.move rfl rfl) ?_
  refine WP.val rfl rfl rfl (Val.assertC rfl Ty.ni90 rfl) ?_
  refine WP.val rfl rfl rfl (Val.assign rfl rfl) ?_
  refine WP.nil ?_
  refine Out.next ?_
  refine WPc.seq ?_
  refine WPc.region ?_
  refine WP.val rfl rfl rfl (Val.move rfl rfl) ?_
  refine WP.val rfl rfl rfl (Val.move rfl rfl) ?_
  refine WP.val rfl rfl rfl (Val.nilCheck rfl rfl) ?_
  refine WP.val rfl rfl rfl (Val.fieldAddr (j := 4) rfl Ty.fo134_2 rfl rfl) ?_
  refine WP.perm pl3 ?_
  refine WP.eff0 rfl rfl (Eff.store rfl Ty.sc3 rfl rfl rfl (by simp) st4) ?_
  rintro _ _ rfl
  refine WP.nil ?_
  refine Out.next ?_
  refine WPc.region ?_
  refine WP.val rfl rfl rfl (Val.move rfl rfl) ?_
  refine WP.val rfl rfl rfl (Val.move rfl rfl) ?_
  refine WP.val rfl rfl rfl (Val.nilCheck rfl rfl) ?_
  refine WP.val rfl rfl rfl (Val.load rfl Ty.sc130 rfl (fun w h => h.cell 2 rfl rfl)) ?_
  refine WP.val rfl rfl rfl (Val.move rfl rfl) ?_
  refine WP.eff rfl rfl rfl (Eff.mkSlice (C := [.pointer (some ⟨z.b, 0, none⟩)]) rfl Ty.sl130 rfl (fun _ => by kernel_rfl)) ?_
  rintro _ _ ⟨b1, rfl, rfl⟩
  refine WP.perm pl2 ?_
  refine WP.eff rfl rfl rfl (Eff.append (m := 1) (n0 := n) (news := [.pointer (some ⟨z.b, 0, none⟩)]) rfl Ty.sl130 Ty.z90 rfl rfl rfl (.slice Ty.sl130 rfl rfl (fun w h => cells_range (h.range 1 rfl rfl))) (by omega) (by omega)) ?_
  rintro v2 _ ⟨onev2, rfl⟩
  refine WP.val rfl rfl rfl (Val.nilCheck rfl rfl) ?_
  refine WP.perm pl3 ?_
  refine WP.eff0 rfl rfl (Eff.store rfl Ty.sc130 rfl rfl onev2 (by simp) st1) ?_
  rintro _ _ rfl
  refine WP.nil ?_
  refine Out.perm pl2 ?_
  refine Out.drop ?_
  refine Out.perm pl1 ?_
  refine Out.perm pl1 ?_
  refine Out.perm pl3 ?_
  refine Out.perm pl3 ?_
  exact Out.end0 (L' := [Its (q ++ [{ z with ix := (n : Int) }]), Blk nb [.map (some mb), v2] 132, Own 90 1 v2 (n + 1) ((q ++ [{ z with ix := (n : Int) }]).map QI.ptr)]) Try.results169 ⟨v2, rfl, rfl⟩ (fun w h => by rw [List.map_append]; exact its_add { z with ix := (n : Int) } h)
set_option maxRecDepth 100000 in
set_option maxHeartbeats 1000000 in
theorem fix_spec (nb mb rb cap n : Nat) (sp : List Value) (q : List QI) (hq : q.length = n) (hn : n ≤ 1048576) (hix : Idx q) (i : Nat) (hi : i < n) (hh : Hole (tm q) n i) : Does Try.prog 59 [.iface 136 (.pointer (some ⟨nb, 1, none⟩)), .int .i64 (((i : Nat) : Int))] [Blk nb [.map (some mb), .slice (some ⟨rb, 0, none⟩) n cap] 132, Blk rb (q.map QI.ptr ++ sp) 90, Its q] (fun v L => ∃ q', Same q q' n ∧ Ok (tm q') n ∧ v = .tuple #[] ∧ L = [Blk nb [.map (some mb), .slice (some ⟨rb, 0, none⟩) n cap] 132, Blk rb ((q').map QI.ptr ++ sp) 90, Its q']) := by
  refine Does.enter 13 Try.func59 rfl rfl rfl fun W F => ?_
  show WPc _ _ _ _ _ [(0, .iface 136 (.pointer (some ⟨nb, 1, none⟩))), (1, .int .i64 (((i : Nat) : Int)))] (Blk nb [.map (some mb), .slice (some ⟨rb, 0, none⟩) n cap] 132 :: Blk rb (q.map QI.ptr ++ sp) 90 :: Its q :: F)
  refine WPc.seq ?_
  refine WPc.region ?_
  refine WP.val rfl rfl rfl (Val.move rfl rfl) ?_
  refine WP.val rfl rfl rfl (Val.move rfl rfl) ?_
  refine WP.val rfl rfl rfl (Val.move rfl rfl) ?_
  refine WP.eff rfl rfl rfl (Eff.invokeP (f := 164) (u := .slice (some ⟨rb, 0, none⟩) n cap) rfl rfl rfl Ty2.mv136_Len (fun w h => h.cell 0 rfl rfl) Try.call164 (qlen_spec rb n cap)) ?_
  rintro _ _ ⟨_, ⟨rfl, rfl⟩, rfl⟩
  show WP _ _ _ _ _ _ _ (Blk nb [.map (some mb), .slice (some ⟨rb, 0, none⟩) n cap] 132 :: Blk rb (q.map QI.ptr ++ sp) 90 :: Its q :: F)
  refine WP.perm pl2 ?_
  refine WP.perm pl2 ?_
  refine WP.perm pl2 ?_
  refine WP.eff rfl rfl rfl (Eff.call rfl rfl Try.call86 (down_spec nb mb rb cap n sp q hq hn hix i n (by omega) (by omega) hh)) ?_
  rintro _ _ ⟨_, ⟨dq1, dd1, hS1, hr1, rfl, rfl⟩, rfl⟩
  show WP _ _ _ _ _ _ _ (Blk nb [.map (some mb), .slice (some ⟨rb, 0, none⟩) n cap] 132 :: Blk rb ((dq1).map QI.ptr ++ sp) 90 :: Its dq1 :: F)
  refine WP.val rfl rfl rfl (Val.not rfl rfl) ?_
  refine WP.nil ?_
  refine Out.next ?_
  refine WPc.cond rfl (fun h1 => ?_) (fun h1 => ?_)
  · skip
    have h1 : (!dd1) = true := h1
    refine WPc.region ?_
    refine WP.val rfl rfl rfl (Val.move rfl rfl) ?_
    refine WP.val rfl rfl rfl (Val.move rfl rfl) ?_
    obtain ⟨hqe, hdn⟩ : dq1 = q ∧ Dn (tm q) n i := by
      rcases hr1 with h | h
      · rw [h.1] at h1; simp at h1
      · exact h.2
    refine WP.perm pl2 ?_
    refine WP.perm pl2 ?_
    refine WP.perm pl2 ?_
    refine WP.eff rfl rfl rfl (Eff.call rfl rfl Try.call87 (up_spec nb mb rb cap n sp dq1 (by rw [hS1.len]; exact hq) hn hS1.idx i hi (by rw [hqe]; exact hh) (by rw [hqe]; exact hdn))) ?_
    rintro _ _ ⟨_, ⟨uq2, hU2, hO2, rfl, rfl⟩, rfl⟩
    show WP _ _ _ _ _ _ _ (Blk nb [.map (some mb), .slice (some ⟨rb, 0, none⟩) n cap] 132 :: Blk rb ((uq2).map QI.ptr ++ sp) 90 :: Its uq2 :: F)
    refine WP.nil ?_
    exact Out.end0 (L' := _) Try.results59 ⟨uq2, hS1.trans hU2, hO2, rfl, rfl⟩ (fun _ h => h)
  · skip
    have h1 : (!dd1) = false := h1
    refine WPc.skip ?_
    have hok : Ok (tm dq1) n := by
      rcases hr1 with h | h
      · exact h.2
      · rw [h.1] at h1; simp at h1
    exact Out.end0 (L' := _) Try.results59 ⟨dq1, hS1, hok, rfl, rfl⟩ (fun _ h => h)

end Go.Proofs.Ythmkdioafjmclaa.Qh4
