import Derived.Test.YthmkdioafjmclaaQh2
namespace Go.Proofs.Ythmkdioafjmclaa.Qh3
open Go.RowKit Go.Proofs.Ythmkdioafjmclaa Go.Proofs.Ythmkdioafjmclaa.Sl Go.Proofs.Ythmkdioafjmclaa.Qm Go.Proofs.Ythmkdioafjmclaa.Qh Go.Proofs.Ythmkdioafjmclaa.Qh2
set_option linter.unusedVariables false
set_option linter.unusedSimpArgs false
set_option linter.unusedSectionVars false


/-- the same items, in another order; none beyond m has moved -/
structure Same (q q' : List QI) (m : Nat) : Prop where
  len : q'.length = q.length
  perm : (q'.map QI.key).Perm (q.map QI.key)
  idx : Idx q'
  rest : ∀ k, m ≤ k → q'[k]? = q[k]?
theorem Same.refl {q : List QI} (h : Idx q) (m : Nat) : Same q q m := ⟨rfl, List.Perm.refl _, h, fun _ _ => rfl⟩
theorem Same.trans {q q' q'' : List QI} {m : Nat} (h : Same q q' m) (h' : Same q' q'' m) : Same q q'' m := ⟨h'.len.trans h.len, h'.perm.trans h.perm, h'.idx, fun k hk => (h'.rest k hk).trans (h.rest k hk)⟩
theorem same_sw {q q1 : List QI} {m i j : Nat} {x y : QI} (h : Same q q1 m) (hi : q1[i]? = some x) (hj : q1[j]? = some y) (him : i < m) (hjm : j < m) : Same q (sw q1 i j x y) m :=
  ⟨(sw_len hi hj).trans h.len, (sw_perm hi hj).trans h.perm, sw_idx hi hj h.idx, fun k hk => by rw [sw_at hi hj, if_neg (by omega), if_neg (by omega)]; exact h.rest k hk⟩
theorem tm_sw {q1 : List QI} {i j : Nat} {x y : QI} (hi : q1[i]? = some x) (hj : q1[j]? = some y) : tm (sw q1 i j x y) = swf (tm q1) i j := funext fun k => sw_tm hi hj k
theorem down_step {q q1 : List QI} {m k j : Nat} {x y : QI} (hS : Same q q1 m) (hH : Hole (tm q1) m k) (hk : q1[k]? = some x) (hj : q1[j]? = some y) (hp : (j - 1) / 2 = k) (h0 : 0 < j) (hjm : j < m) (hlt : y.t < x.t)
    (hmin : ∀ c, 0 < c → c < m → (c - 1) / 2 = k → y.t ≤ tm q1 c) : Same q (sw q1 k j x y) m ∧ Hole (tm (sw q1 k j x y)) m j ∧ Up (tm (sw q1 k j x y)) j := by
  refine ⟨same_sw hS hk hj (by omega) hjm, ?_⟩
  rw [tm_sw hk hj]
  exact hole_down hH hp h0 hjm (by rw [tm_at hk, tm_at hj]; exact hlt) fun c h1 h2 h3 => by rw [tm_at hj]; exact hmin c h1 h2 h3
theorem up_step {q q1 : List QI} {m k i : Nat} {x y : QI} (hS : Same q q1 m) (hH : Hole (tm q1) m k) (hD : Dn (tm q1) m k) (hi : q1[i]? = some x) (hk : q1[k]? = some y) (hp : (k - 1) / 2 = i) (h0 : 0 < k) (hkm : k < m) (hlt : y.t < x.t) : Same q (sw q1 i k x y) m ∧ Hole (tm (sw q1 i k x y)) m i ∧ Dn (tm (sw q1 i k x y)) m i := by
  refine ⟨same_sw hS hi hk (by omega) hkm, ?_⟩
  rw [tm_sw hi hk]
  exact hole_up hH hD hp h0 hkm (by rw [tm_at hi, tm_at hk]; exact hlt)
theorem parent_quo (j : Nat) (h : j ≤ 4294967296) : IntKind.i64.wrap (Int.tdiv ((j : Int) - 1) 2) = (((j - 1) / 2 : Nat) : Int) := by
  cases j with
  | zero => rfl
  | succ j =>
    have e : ((j + 1 : Nat) : Int) - 1 = (j : Int) := by omega
    rw [e]
    show IntKind.i64.wrap ((j / 2 : Nat) : Int) = ((j / 2 : Nat) : Int)
    exact w64 (by omega) (by omega)
set_option maxRecDepth 100000 in
set_option maxHeartbeats 1000000 in
theorem down_spec (nb mb rb cap n : Nat) (sp : List Value) (q : List QI) (hq : q.length = n) (hn : n ≤ 1048576) (hix : Idx q) (i m : Nat) (hm : m ≤ n) (hi : i ≤ 1048576) (hh : Hole (tm q) m i) : Does Try.prog 86 [.iface 136 (.pointer (some ⟨nb, 1, none⟩)), .int .i64 (((i : Nat) : Int)), .int .i64 (((m : Nat) : Int))] [Blk nb [.map (some mb), .slice (some ⟨rb, 0, none⟩) n cap] 132, Blk rb (q.map QI.ptr ++ sp) 90, Its q] (fun v L => ∃ q' d, Same q q' m ∧ ((d = true ∧ Ok (tm q') m) ∨ (d = false ∧ q' = q ∧ Dn (tm q) m i)) ∧ v = .bool d ∧ L = [Blk nb [.map (some mb), .slice (some ⟨rb, 0, none⟩) n cap] 132, Blk rb ((q').map QI.ptr ++ sp) 90, Its q']) := by
  refine Does.enter 48 Try.func86 rfl rfl rfl fun W F => ?_
  show WPc _ _ _ _ _ [(0, .iface 136 (.pointer (some ⟨nb, 1, none⟩))), (1, .int .i64 (((i : Nat) : Int))), (2, .int .i64 (((m : Nat) : Int)))] (Blk nb [.map (some mb), .slice (some ⟨rb, 0, none⟩) n cap] 132 :: Blk rb (q.map QI.ptr ++ sp) 90 :: Its q :: F)
  refine WPc.seq ?_
  refine WPc.region ?_
  refine WP.val rfl rfl rfl (Val.assign rfl rfl) ?_
  refine WP.nil ?_
  refine Out.next ?_
  refine WPc.seq ?_
  refine WPc.region ?_
  refine WP.val rfl rfl rfl (Val.move rfl rfl) ?_
  refine WP.val rfl rfl rfl (Val.assign rfl rfl) ?_
  refine WP.nil ?_
  refine Out.next ?_
  refine WPc.seq ?_
  refine WPc.block ?_
  refine WPc.loop (ι := List QI × Nat) (fun ⟨q1, k⟩ => Same q q1 m ∧ Hole (tm q1) m k ∧ ((k = i ∧ q1 = q) ∨ (i < k ∧ Up (tm q1) k)) ∧ k ≤ 1048576) (fun ⟨q1, k⟩ => [(0, .iface 136 (.pointer (some ⟨nb, 1, none⟩))), (1, .int .i64 (((i : Nat) : Int))), (2, .int .i64 (((m : Nat) : Int))), (7, .int .i64 (((k : Nat) : Int)))]) (fun ⟨q1, k⟩ => Blk nb [.map (some mb), .slice (some ⟨rb, 0, none⟩) n cap] 132 :: Blk rb ((q1).map QI.ptr ++ sp) 90 :: Its q1 :: F) (fun ⟨q1, k⟩ => m - k) (q, i) ⟨Same.refl hix m, hh, .inl ⟨rfl, rfl⟩, by omega⟩ ((Sub.cons rfl (Sub.cons rfl (Sub.cons rfl (Sub.cons rfl Sub.nil))))) (fun _ h => h) ?_
  rintro ⟨q1, k⟩ ⟨hS, hH, hU, hkb⟩
  show WPc _ _ _ _ _ [(0, .iface 136 (.pointer (some ⟨nb, 1, none⟩))), (1, .int .i64 (((i : Nat) : Int))), (2, .int .i64 (((m : Nat) : Int))), (7, .int .i64 (((k : Nat) : Int)))] (Blk nb [.map (some mb), .slice (some ⟨rb, 0, none⟩) n cap] 132 :: Blk rb ((q1).map QI.ptr ++ sp) 90 :: Its q1 :: F)
  have hlen := hS.len
  have hki : i ≤ k := by rcases hU with h | h <;> omega
  refine WPc.block ?_
  refine WPc.seq ?_
  refine WPc.region ?_
  refine WP.val rfl rfl rfl (Val.move rfl rfl) ?_
  refine WP.val rfl rfl rfl (Val.mul (z := ((2 * k : Nat) : Int)) rfl rfl rfl ((w64 (by omega) (by omega)).trans (by omega))) ?_
  refine WP.val rfl rfl rfl (Val.add (z := (((2 * k) + 1 : Nat) : Int)) rfl rfl rfl ((w64 (by omega) (by omega)).trans (by omega))) ?_
  refine WP.val rfl rfl rfl (Val.assign rfl rfl) ?_
  refine WP.nil ?_
  refine Out.next ?_
  refine WPc.seq ?_
  refine WPc.seq ?_
  refine WPc.region ?_
  refine WP.val rfl rfl rfl (Val.move rfl rfl) ?_
  refine WP.val rfl rfl rfl (Val.move rfl rfl) ?_
  refine WP.val rfl rfl rfl (Val.geq rfl rfl rfl) ?_
  refine WP.val rfl rfl rfl (Val.move rfl rfl) ?_
  refine WP.split 18 rfl (fun h1 => ?_) (fun h1 => ?_)
  · skip
    have h1 : (((m : Nat) : Int) ≤ (((2 * k) + 1 : Nat) : Int)) := h1
    refine WP.skip rfl rfl rfl rfl rfl rfl rfl ?_
    refine WP.skip rfl rfl rfl rfl rfl rfl rfl ?_
    refine WP.val rfl rfl rfl (Val.pickT rfl rfl rfl) ?_
    refine WP.nil ?_
    refine Out.next ?_
    refine WPc.condT rfl rfl ?_
    refine WPc.exit ?_
    refine Out.then_exit ?_
    refine Out.block_other rfl ?_
    refine Out.then_exit ?_
    refine Out.block_exit ?_
    refine Out.next ?_
    refine WPc.seq ?_
    refine WPc.region ?_
    refine WP.val rfl rfl rfl (Val.move rfl rfl) ?_
    refine WP.val rfl rfl rfl (Val.move rfl rfl) ?_
    refine WP.val rfl rfl rfl (Val.gtr rfl rfl rfl) ?_
    refine WP.val rfl rfl rfl (Val.assign rfl rfl) ?_
    refine WP.nil ?_
    refine Out.next ?_
    refine WPc.ret ?_
    have hdn : Dn (tm q1) m k := by
      first
      | (intro c hc0 hcm hcp; exfalso; omega)
      | (rw [Dn, tm_at hx1]
         intro c hc0 hcm hcp
         have hc12 : c = 2 * k + 1 ∨ c = 2 * k + 1 + 1 := by omega
         rcases hc12 with rfl | rfl
         · first | omega | (rw [tm_at hy1]; omega)
         · first | omega | (rw [tm_at hy2]; omega))
    have hres : (decide ((i : Int) < (k : Int)) = true ∧ Ok (tm q1) m) ∨ (decide ((i : Int) < (k : Int)) = false ∧ q1 = q ∧ Dn (tm q) m i) := by
      rcases hU with ⟨h1, h2⟩ | ⟨h1, h2⟩
      · subst h1 h2; exact .inr ⟨decide_eq_false (by omega), rfl, hdn⟩
      · exact .inl ⟨decide_eq_true (by omega), ok_of hH h2 hdn⟩
    exact Out.ret1 (L' := _) Try.results86 rfl ⟨q1, _, hS, hres, rfl, rfl⟩ (fun _ h => h)
  · skip
    have h1 : ¬ (((m : Nat) : Int) ≤ (((2 * k) + 1 : Nat) : Int)) := h1
    refine WP.valG rfl rfl rfl rfl rfl rfl rfl (Val.move rfl rfl) ?_
    refine WP.valG rfl rfl rfl rfl rfl rfl rfl (Val.lss rfl rfl rfl) ?_
    refine WP.val rfl rfl rfl (Val.pickF rfl rfl rfl) ?_
    refine WP.nil ?_
    refine Out.next ?_
    refine WPc.ifP rfl (fun h2 => ?_) (fun h2 => ?_)
    · skip
      have h2 : ((((2 * k) + 1 : Nat) : Int) < (0 : Int)) := h2
      exfalso; omega
    · skip
      have h2 : ¬ ((((2 * k) + 1 : Nat) : Int) < (0 : Int)) := h2
      refine WPc.skip ?_
      refine Out.next ?_
      refine WPc.seq ?_
      obtain ⟨x, hx1⟩ : ∃ x, q1[k]? = some x := ⟨_, List.getElem?_eq_getElem (by omega)⟩
      obtain ⟨y1, hy1⟩ : ∃ x, q1[2 * k + 1]? = some x := ⟨_, List.getElem?_eq_getElem (by omega)⟩
      refine WPc.region ?_
      refine WP.val rfl rfl rfl (Val.move rfl rfl) ?_
      refine WP.val rfl rfl rfl (Val.assign rfl rfl) ?_
      refine WP.nil ?_
      refine Out.next ?_
      refine WPc.seq ?_
      refine WPc.seq ?_
      refine WPc.region ?_
      refine WP.val rfl rfl rfl (Val.move rfl rfl) ?_
      refine WP.val rfl rfl rfl (Val.add (z := ((((2 * k) + 1) + 1 : Nat) : Int)) rfl rfl rfl ((w64 (by omega) (by omega)).trans (by omega))) ?_
      refine WP.val rfl rfl rfl (Val.assign rfl rfl) ?_
      refine WP.nil ?_
      refine Out.next ?_
      refine WPc.seq ?_
      refine WPc.region ?_
      refine WP.val rfl rfl rfl (Val.move rfl rfl) ?_
      refine WP.val rfl rfl rfl (Val.move rfl rfl) ?_
      refine WP.val rfl rfl rfl (Val.lss rfl rfl rfl) ?_
      refine WP.val rfl rfl rfl (Val.move rfl rfl) ?_
      refine WP.split 28 rfl (fun h3 => ?_) (fun h3 => ?_)
      · skip
        have h3 : (((((2 * k) + 1) + 1 : Nat) : Int) < ((m : Nat) : Int)) := h3
        refine WP.valG rfl rfl rfl rfl rfl rfl rfl (Val.move rfl rfl) ?_
        refine WP.valG rfl rfl rfl rfl rfl rfl rfl (Val.move rfl rfl) ?_
        refine WP.valG rfl rfl rfl rfl rfl rfl rfl (Val.move rfl rfl) ?_
        obtain ⟨y2, hy2⟩ : ∃ x, q1[2 * k + 1 + 1]? = some x := ⟨_, List.getElem?_eq_getElem (by omega)⟩
        refine WP.perm pl2 ?_
        refine WP.perm pl2 ?_
        refine WP.effG rfl rfl rfl rfl rfl rfl rfl (Eff.invokeP (f := 165) (u := .slice (some ⟨rb, 0, none⟩) n cap) rfl rfl rfl Ty2.mv136_Less (fun w h => h.cell 2 rfl rfl) Try.call165 (less_spec rb cap n q1 sp (((2 * k) + 1) + 1) ((2 * k) + 1) y2 y1 hy2 hy1 (by omega) (by omega) (by omega))) ?_
        rintro _ _ ⟨_, ⟨rfl, rfl⟩, rfl⟩
        show WP _ _ _ _ _ _ _ (Blk rb ((q1).map QI.ptr ++ sp) 90 :: Its q1 :: Blk nb [.map (some mb), .slice (some ⟨rb, 0, none⟩) n cap] 132 :: F)
        refine WP.val rfl rfl rfl (Val.pickT rfl rfl rfl) ?_
        refine WP.nil ?_
        refine Out.next ?_
        refine WPc.ifP rfl (fun h4 => ?_) (fun h4 => ?_)
        · skip
          have h4 : (y2.t < y1.t) := h4
          refine WPc.region ?_
          refine WP.val rfl rfl rfl (Val.move rfl rfl) ?_
          refine WP.val rfl rfl rfl (Val.assign rfl rfl) ?_
          refine WP.nil ?_
          refine Out.next ?_
          refine WPc.seq ?_
          refine WPc.seq ?_
          refine WPc.region ?_
          refine WP.val rfl rfl rfl (Val.move rfl rfl) ?_
          refine WP.val rfl rfl rfl (Val.move rfl rfl) ?_
          refine WP.val rfl rfl rfl (Val.move rfl rfl) ?_
          refine WP.perm pl1 ?_
          refine WP.perm pl1 ?_
          refine WP.eff rfl rfl rfl (Eff.invokeP (f := 165) (u := .slice (some ⟨rb, 0, none⟩) n cap) rfl rfl rfl Ty2.mv136_Less (fun w h => h.cell 2 rfl rfl) Try.call165 (less_spec rb cap n q1 sp (((2 * k) + 1) + 1) k y2 x hy2 hx1 (by omega) (by omega) (by omega))) ?_
          rintro _ _ ⟨_, ⟨rfl, rfl⟩, rfl⟩
          show WP _ _ _ _ _ _ _ (Blk rb ((q1).map QI.ptr ++ sp) 90 :: Its q1 :: Blk nb [.map (some mb), .slice (some ⟨rb, 0, none⟩) n cap] 132 :: F)
          refine WP.val rfl rfl rfl (Val.notP rfl rfl) ?_
          refine WP.nil ?_
          refine Out.next ?_
          refine WPc.ifP rfl (fun h5 => ?_) (fun h5 => ?_)
          · skip
            have h5 : (¬ (y2.t < x.t)) := h5
            refine WPc.exit ?_
            refine Out.then_exit ?_
            refine Out.block_other rfl ?_
            refine Out.then_exit ?_
            refine Out.block_exit ?_
            refine Out.next ?_
            refine WPc.seq ?_
            refine WPc.region ?_
            refine WP.val rfl rfl rfl (Val.move rfl rfl) ?_
            refine WP.val rfl rfl rfl (Val.move rfl rfl) ?_
            refine WP.val rfl rfl rfl (Val.gtr rfl rfl rfl) ?_
            refine WP.val rfl rfl rfl (Val.assign rfl rfl) ?_
            refine WP.nil ?_
            refine Out.next ?_
            refine WPc.ret ?_
            have hdn : Dn (tm q1) m k := by
              first
              | (intro c hc0 hcm hcp; exfalso; omega)
              | (rw [Dn, tm_at hx1]
                 intro c hc0 hcm hcp
                 have hc12 : c = 2 * k + 1 ∨ c = 2 * k + 1 + 1 := by omega
                 rcases hc12 with rfl | rfl
                 · first | omega | (rw [tm_at hy1]; omega)
                 · first | omega | (rw [tm_at hy2]; omega))
            have hres : (decide ((i : Int) < (k : Int)) = true ∧ Ok (tm q1) m) ∨ (decide ((i : Int) < (k : Int)) = false ∧ q1 = q ∧ Dn (tm q) m i) := by
              rcases hU with ⟨h1, h2⟩ | ⟨h1, h2⟩
              · subst h1 h2; exact .inr ⟨decide_eq_false (by omega), rfl, hdn⟩
              · exact .inl ⟨decide_eq_true (by omega), ok_of hH h2 hdn⟩
            refine Out.perm pl1 ?_
            refine Out.perm pl1 ?_
            refine Out.perm pl2 ?_
            exact Out.ret1 (L' := _) Try.results86 rfl ⟨q1, _, hS, hres, rfl, rfl⟩ (fun _ h => h)
          · skip
            have h5 : ¬ (¬ (y2.t < x.t)) := h5
            refine WPc.skip ?_
            refine Out.next ?_
            refine WPc.seq ?_
            refine WPc.region ?_
            refine WP.val rfl rfl rfl (Val.move rfl rfl) ?_
            refine WP.val rfl rfl rfl (Val.move rfl rfl) ?_
            refine WP.val rfl rfl rfl (Val.move rfl rfl) ?_
            refine WP.perm pl1 ?_
            refine WP.perm pl1 ?_
            refine WP.eff rfl rfl rfl (Eff.invokeP (f := 166) (u := .slice (some ⟨rb, 0, none⟩) n cap) rfl rfl rfl Ty2.mv136_Swap (fun w h => h.cell 2 rfl rfl) Try.call166 (swap_spec rb cap n q1 sp k (((2 * k) + 1) + 1) x y2 hx1 hy2 (by omega) (by omega) (by omega))) ?_
            rintro _ _ ⟨_, ⟨rfl, rfl⟩, rfl⟩
            show WP _ _ _ _ _ _ _ (Blk rb (((sw q1 k (((2 * k) + 1) + 1) x y2)).map QI.ptr ++ sp) 90 :: Its ((sw q1 k (((2 * k) + 1) + 1) x y2)) :: Blk nb [.map (some mb), .slice (some ⟨rb, 0, none⟩) n cap] 132 :: F)
            refine WP.nil ?_
            refine Out.next ?_
            have hst := down_step (j := ((2 * k) + 1) + 1) hS hH hx1 hy2 (by omega) (by omega) (by omega) (by omega) (by
              intro c hc0 hcm hcp
              have hc12 : c = 2 * k + 1 ∨ c = 2 * k + 1 + 1 := by omega
              rcases hc12 with rfl | rfl
              · first | omega | (rw [tm_at hy1]; omega)
              · first | omega | (rw [tm_at hy2]; omega))
            refine WPc.region ?_
            refine WP.val rfl rfl rfl (Val.move rfl rfl) ?_
            refine WP.val rfl rfl rfl (Val.assign rfl rfl) ?_
            refine WP.nil ?_
            refine Out.block ?_
            refine Out.perm pl1 ?_
            refine Out.perm pl1 ?_
            refine Out.perm pl2 ?_
            refine Out.again ((sw q1 k (((2 * k) + 1) + 1) x y2), ((2 * k) + 1) + 1) ?_ ?_ ?_ ?_
            · exact ⟨hst.1, hst.2.1, .inr ⟨by rcases hU with h | h <;> omega, hst.2.2⟩, by omega⟩
            · first | omega | (dsimp only; omega)
            · exact (Sub.cons rfl (Sub.cons rfl (Sub.cons rfl (Sub.cons rfl Sub.nil))))
            · exact (fun _ h => h)
        · skip
          have h4 : ¬ (y2.t < y1.t) := h4
          refine WPc.skip ?_
          refine Out.next ?_
          refine WPc.seq ?_
          refine WPc.seq ?_
          refine WPc.region ?_
          refine WP.val rfl rfl rfl (Val.move rfl rfl) ?_
          refine WP.val rfl rfl rfl (Val.move rfl rfl) ?_
          refine WP.val rfl rfl rfl (Val.move rfl rfl) ?_
          refine WP.perm pl1 ?_
          refine WP.perm pl1 ?_
          refine WP.eff rfl rfl rfl (Eff.invokeP (f := 165) (u := .slice (some ⟨rb, 0, none⟩) n cap) rfl rfl rfl Ty2.mv136_Less (fun w h => h.cell 2 rfl rfl) Try.call165 (less_spec rb cap n q1 sp ((2 * k) + 1) k y1 x hy1 hx1 (by omega) (by omega) (by omega))) ?_
          rintro _ _ ⟨_, ⟨rfl, rfl⟩, rfl⟩
          show WP _ _ _ _ _ _ _ (Blk rb ((q1).map QI.ptr ++ sp) 90 :: Its q1 :: Blk nb [.map (some mb), .slice (some ⟨rb, 0, none⟩) n cap] 132 :: F)
          refine WP.val rfl rfl rfl (Val.notP rfl rfl) ?_
          refine WP.nil ?_
          refine Out.next ?_
          refine WPc.ifP rfl (fun h6 => ?_) (fun h6 => ?_)
          · skip
            have h6 : (¬ (y1.t < x.t)) := h6
            refine WPc.exit ?_
            refine Out.then_exit ?_
            refine Out.block_other rfl ?_
            refine Out.then_exit ?_
            refine Out.block_exit ?_
            refine Out.next ?_
            refine WPc.seq ?_
            refine WPc.region ?_
            refine WP.val rfl rfl rfl (Val.move rfl rfl) ?_
            refine WP.val rfl rfl rfl (Val.move rfl rfl) ?_
            refine WP.val rfl rfl rfl (Val.gtr rfl rfl rfl) ?_
            refine WP.val rfl rfl rfl (Val.assign rfl rfl) ?_
            refine WP.nil ?_
            refine Out.next ?_
            refine WPc.ret ?_
            have hdn : Dn (tm q1) m k := by
              first
              | (intro c hc0 hcm hcp; exfalso; omega)
              | (rw [Dn, tm_at hx1]
                 intro c hc0 hcm hcp
                 have hc12 : c = 2 * k + 1 ∨ c = 2 * k + 1 + 1 := by omega
                 rcases hc12 with rfl | rfl
                 · first | omega | (rw [tm_at hy1]; omega)
                 · first | omega | (rw [tm_at hy2]; omega))
            have hres : (decide ((i : Int) < (k : Int)) = true ∧ Ok (tm q1) m) ∨ (decide ((i : Int) < (k : Int)) = false ∧ q1 = q ∧ Dn (tm q) m i) := by
              rcases hU with ⟨h1, h2⟩ | ⟨h1, h2⟩
              · subst h1 h2; exact .inr ⟨decide_eq_false (by omega), rfl, hdn⟩
              · exact .inl ⟨decide_eq_true (by omega), ok_of hH h2 hdn⟩
            refine Out.perm pl1 ?_
            refine Out.perm pl1 ?_
            refine Out.perm pl2 ?_
            exact Out.ret1 (L' := _) Try.results86 rfl ⟨q1, _, hS, hres, rfl, rfl⟩ (fun _ h => h)
          · skip
            have h6 : ¬ (¬ (y1.t < x.t)) := h6
            refine WPc.skip ?_
            refine Out.next ?_
            refine WPc.seq ?_
            refine WPc.region ?_
            refine WP.val rfl rfl rfl (Val.move rfl rfl) ?_
            refine WP.val rfl rfl rfl (Val.move rfl rfl) ?_
            refine WP.val rfl rfl rfl (Val.move rfl rfl) ?_
            refine WP.perm pl1 ?_
            refine WP.perm pl1 ?_
            refine WP.eff rfl rfl rfl (Eff.invokeP (f := 166) (u := .slice (some ⟨rb, 0, none⟩) n cap) rfl rfl rfl Ty2.mv136_Swap (fun w h => h.cell 2 rfl rfl) Try.call166 (swap_spec rb cap n q1 sp k ((2 * k) + 1) x y1 hx1 hy1 (by omega) (by omega) (by omega))) ?_
            rintro _ _ ⟨_, ⟨rfl, rfl⟩, rfl⟩
            show WP _ _ _ _ _ _ _ (Blk rb (((sw q1 k ((2 * k) + 1) x y1)).map QI.ptr ++ sp) 90 :: Its ((sw q1 k ((2 * k) + 1) x y1)) :: Blk nb [.map (some mb), .slice (some ⟨rb, 0, none⟩) n cap] 132 :: F)
            refine WP.nil ?_
            refine Out.next ?_
            have hst := down_step (j := (2 * k) + 1) hS hH hx1 hy1 (by omega) (by omega) (by omega) (by omega) (by
              intro c hc0 hcm hcp
              have hc12 : c = 2 * k + 1 ∨ c = 2 * k + 1 + 1 := by omega
              rcases hc12 with rfl | rfl
              · first | omega | (rw [tm_at hy1]; omega)
              · first | omega | (rw [tm_at hy2]; omega))
            refine WPc.region ?_
            refine WP.val rfl rfl rfl (Val.move rfl rfl) ?_
            refine WP.val rfl rfl rfl (Val.assign rfl rfl) ?_
            refine WP.nil ?_
            refine Out.block ?_
            refine Out.perm pl1 ?_
            refine Out.perm pl1 ?_
            refine Out.perm pl2 ?_
            refine Out.again ((sw q1 k ((2 * k) + 1) x y1), (2 * k) + 1) ?_ ?_ ?_ ?_
            · exact ⟨hst.1, hst.2.1, .inr ⟨by rcases hU with h | h <;> omega, hst.2.2⟩, by omega⟩
            · first | omega | (dsimp only; omega)
            · exact (Sub.cons rfl (Sub.cons rfl (Sub.cons rfl (Sub.cons rfl Sub.nil))))
            · exact (fun _ h => h)
      · skip
        have h3 : ¬ (((((2 * k) + 1) + 1 : Nat) : Int) < ((m : Nat) : Int)) := h3
        refine WP.skip rfl rfl rfl rfl rfl rfl rfl ?_
        refine WP.skip rfl rfl rfl rfl rfl rfl rfl ?_
        refine WP.skip rfl rfl rfl rfl rfl rfl rfl ?_
        refine WP.skip rfl rfl rfl rfl rfl rfl rfl ?_
        refine WP.val rfl rfl rfl (Val.pickF rfl rfl rfl) ?_
        refine WP.nil ?_
        refine Out.next ?_
        refine WPc.condF rfl rfl ?_
        refine WPc.skip ?_
        refine Out.next ?_
        refine WPc.seq ?_
        refine WPc.seq ?_
        refine WPc.region ?_
        refine WP.val rfl rfl rfl (Val.move rfl rfl) ?_
        refine WP.val rfl rfl rfl (Val.move rfl rfl) ?_
        refine WP.val rfl rfl rfl (Val.move rfl rfl) ?_
        refine WP.perm pl2 ?_
        refine WP.perm pl2 ?_
        refine WP.eff rfl rfl rfl (Eff.invokeP (f := 165) (u := .slice (some ⟨rb, 0, none⟩) n cap) rfl rfl rfl Ty2.mv136_Less (fun w h => h.cell 2 rfl rfl) Try.call165 (less_spec rb cap n q1 sp ((2 * k) + 1) k y1 x hy1 hx1 (by omega) (by omega) (by omega))) ?_
        rintro _ _ ⟨_, ⟨rfl, rfl⟩, rfl⟩
        show WP _ _ _ _ _ _ _ (Blk rb ((q1).map QI.ptr ++ sp) 90 :: Its q1 :: Blk nb [.map (some mb), .slice (some ⟨rb, 0, none⟩) n cap] 132 :: F)
        refine WP.val rfl rfl rfl (Val.notP rfl rfl) ?_
        refine WP.nil ?_
        refine Out.next ?_
        refine WPc.ifP rfl (fun h7 => ?_) (fun h7 => ?_)
        · skip
          have h7 : (¬ (y1.t < x.t)) := h7
          refine WPc.exit ?_
          refine Out.then_exit ?_
          refine Out.block_other rfl ?_
          refine Out.then_exit ?_
          refine Out.block_exit ?_
          refine Out.next ?_
          refine WPc.seq ?_
          refine WPc.region ?_
          refine WP.val rfl rfl rfl (Val.move rfl rfl) ?_
          refine WP.val rfl rfl rfl (Val.move rfl rfl) ?_
          refine WP.val rfl rfl rfl (Val.gtr rfl rfl rfl) ?_
          refine WP.val rfl rfl rfl (Val.assign rfl rfl) ?_
          refine WP.nil ?_
          refine Out.next ?_
          refine WPc.ret ?_
          have hdn : Dn (tm q1) m k := by
            first
            | (intro c hc0 hcm hcp; exfalso; omega)
            | (rw [Dn, tm_at hx1]
               intro c hc0 hcm hcp
               have hc12 : c = 2 * k + 1 ∨ c = 2 * k + 1 + 1 := by omega
               rcases hc12 with rfl | rfl
               · first | omega | (rw [tm_at hy1]; omega)
               · first | omega | (rw [tm_at hy2]; omega))
          have hres : (decide ((i : Int) < (k : Int)) = true ∧ Ok (tm q1) m) ∨ (decide ((i : Int) < (k : Int)) = false ∧ q1 = q ∧ Dn (tm q) m i) := by
            rcases hU with ⟨h1, h2⟩ | ⟨h1, h2⟩
            · subst h1 h2; exact .inr ⟨decide_eq_false (by omega), rfl, hdn⟩
            · exact .inl ⟨decide_eq_true (by omega), ok_of hH h2 hdn⟩
          refine Out.perm pl1 ?_
          refine Out.perm pl1 ?_
          refine Out.perm pl2 ?_
          exact Out.ret1 (L' := _) Try.results86 rfl ⟨q1, _, hS, hres, rfl, rfl⟩ (fun _ h => h)
        · skip
          have h7 : ¬ (¬ (y1.t < x.t)) := h7
          refine WPc.skip ?_
          refine Out.next ?_
          refine WPc.seq ?_
          refine WPc.region ?_
          refine WP.val rfl rfl rfl (Val.move rfl rfl) ?_
          refine WP.val rfl rfl rfl (Val.move rfl rfl) ?_
          refine WP.val rfl rfl rfl (Val.move rfl rfl) ?_
          refine WP.perm pl1 ?_
          refine WP.perm pl1 ?_
          refine WP.eff rfl rfl rfl (Eff.invokeP (f := 166) (u := .slice (some ⟨rb, 0, none⟩) n cap) rfl rfl rfl Ty2.mv136_Swap (fun w h => h.cell 2 rfl rfl) Try.call166 (swap_spec rb cap n q1 sp k ((2 * k) + 1) x y1 hx1 hy1 (by omega) (by omega) (by omega))) ?_
          rintro _ _ ⟨_, ⟨rfl, rfl⟩, rfl⟩
          show WP _ _ _ _ _ _ _ (Blk rb (((sw q1 k ((2 * k) + 1) x y1)).map QI.ptr ++ sp) 90 :: Its ((sw q1 k ((2 * k) + 1) x y1)) :: Blk nb [.map (some mb), .slice (some ⟨rb, 0, none⟩) n cap] 132 :: F)
          refine WP.nil ?_
          refine Out.next ?_
          have hst := down_step (j := (2 * k) + 1) hS hH hx1 hy1 (by omega) (by omega) (by omega) (by omega) (by
            intro c hc0 hcm hcp
            have hc12 : c = 2 * k + 1 ∨ c = 2 * k + 1 + 1 := by omega
            rcases hc12 with rfl | rfl
            · first | omega | (rw [tm_at hy1]; omega)
            · first | omega | (rw [tm_at hy2]; omega))
          refine WPc.region ?_
          refine WP.val rfl rfl rfl (Val.move rfl rfl) ?_
          refine WP.val rfl rfl rfl (Val.assign rfl rfl) ?_
          refine WP.nil ?_
          refine Out.block ?_
          refine Out.perm pl1 ?_
          refine Out.perm pl1 ?_
          refine Out.perm pl2 ?_
          refine Out.again ((sw q1 k ((2 * k) + 1) x y1), (2 * k) + 1) ?_ ?_ ?_ ?_
          · exact ⟨hst.1, hst.2.1, .inr ⟨by rcases hU with h | h <;> omega, hst.2.2⟩, by omega⟩
          · first | omega | (dsimp only; omega)
          · exact (Sub.cons rfl (Sub.cons rfl (Sub.cons rfl (Sub.cons rfl Sub.nil))))
          · exact (fun _ h => h)
set_option maxRecDepth 100000 in
set_option maxHeartbeats 1000000 in
theorem up_spec (nb mb rb cap n : Nat) (sp : List Value) (q : List QI) (hq : q.length = n) (hn : n ≤ 1048576) (hix : Idx q) (j : Nat) (hj : j < n) (hh : Hole (tm q) n j) (hd : Dn (tm q) n j) : Does Try.prog 87 [.iface 136 (.pointer (some ⟨nb, 1, none⟩)), .int .i64 (((j : Nat) : Int))] [Blk nb [.map (some mb), .slice (some ⟨rb, 0, none⟩) n cap] 132, Blk rb (q.map QI.ptr ++ sp) 90, Its q] (fun v L => ∃ q', Same q q' n ∧ Ok (tm q') n ∧ v = .tuple #[] ∧ L = [Blk nb [.map (some mb), .slice (some ⟨rb, 0, none⟩) n cap] 132, Blk rb ((q').map QI.ptr ++ sp) 90, Its q']) := by
  refine Does.enter 23 Try.func87 rfl rfl rfl fun W F => ?_
  show WPc _ _ _ _ _ [(0, .iface 136 (.pointer (some ⟨nb, 1, none⟩))), (1, .int .i64 (((j : Nat) : Int)))] (Blk nb [.map (some mb), .slice (some ⟨rb, 0, none⟩) n cap] 132 :: Blk rb (q.map QI.ptr ++ sp) 90 :: Its q :: F)
  refine WPc.block ?_
  refine WPc.loop (ι := List QI × Nat) (fun ⟨q1, k⟩ => Same q q1 n ∧ Hole (tm q1) n k ∧ Dn (tm q1) n k ∧ k < n) (fun ⟨q1, k⟩ => [(0, .iface 136 (.pointer (some ⟨nb, 1, none⟩))), (1, .int .i64 (((k : Nat) : Int)))]) (fun ⟨q1, k⟩ => Blk nb [.map (some mb), .slice (some ⟨rb, 0, none⟩) n cap] 132 :: Blk rb ((q1).map QI.ptr ++ sp) 90 :: Its q1 :: F) (fun ⟨q1, k⟩ => k) (q, j) ⟨Same.refl hix n, hh, hd, hj⟩ ((Sub.cons rfl (Sub.cons rfl Sub.nil))) (fun _ h => h) ?_
  rintro ⟨q1, k⟩ ⟨hS, hH, hD, hkn⟩
  show WPc _ _ _ _ _ [(0, .iface 136 (.pointer (some ⟨nb, 1, none⟩))), (1, .int .i64 (((k : Nat) : Int)))] (Blk nb [.map (some mb), .slice (some ⟨rb, 0, none⟩) n cap] 132 :: Blk rb ((q1).map QI.ptr ++ sp) 90 :: Its q1 :: F)
  have hlen := hS.len
  obtain ⟨y, hy1⟩ : ∃ x, q1[k]? = some x := ⟨_, List.getElem?_eq_getElem (by omega)⟩
  obtain ⟨x, hx1⟩ : ∃ x, q1[((k - 1) / 2)]? = some x := ⟨_, List.getElem?_eq_getElem (by omega)⟩
  refine WPc.block ?_
  refine WPc.seq ?_
  refine WPc.region ?_
  refine WP.val rfl rfl rfl (Val.move rfl rfl) ?_
  refine WP.val rfl rfl rfl (Val.sub (z := (k : Int) - 1) rfl rfl rfl (w64 (by omega) (by omega))) ?_
  refine WP.val rfl rfl rfl (Val.quo (z := ((((k - 1) / 2) : Nat) : Int)) rfl rfl rfl (by omega) (parent_quo k (by omega))) ?_
  refine WP.val rfl rfl rfl (Val.assign rfl rfl) ?_
  refine WP.nil ?_
  refine Out.next ?_
  refine WPc.seq ?_
  refine WPc.seq ?_
  refine WPc.region ?_
  refine WP.val rfl rfl rfl (Val.move rfl rfl) ?_
  refine WP.val rfl rfl rfl (Val.move rfl rfl) ?_
  refine WP.val rfl rfl rfl (Val.eql rfl rfl rfl) ?_
  refine WP.val rfl rfl rfl (Val.move rfl rfl) ?_
  refine WP.split 11 rfl (fun h1 => ?_) (fun h1 => ?_)
  · skip
    have h1 : ((((k - 1) / 2 : Nat) : Int) = ((k : Nat) : Int)) := h1
    refine WP.skip rfl rfl rfl rfl rfl rfl rfl ?_
    refine WP.skip rfl rfl rfl rfl rfl rfl rfl ?_
    refine WP.skip rfl rfl rfl rfl rfl rfl rfl ?_
    refine WP.skip rfl rfl rfl rfl rfl rfl rfl ?_
    refine WP.skip rfl rfl rfl rfl rfl rfl rfl ?_
    refine WP.val rfl rfl rfl (Val.pickT rfl rfl rfl) ?_
    refine WP.nil ?_
    refine Out.next ?_
    refine WPc.condT rfl rfl ?_
    refine WPc.exit ?_
    refine Out.then_exit ?_
    refine Out.block_other rfl ?_
    refine Out.then_exit ?_
    refine Out.block_exit ?_
    have hup : Up (tm q1) k := fun h0 => by first | omega | (rw [tm_at hx1, tm_at hy1]; omega)
    exact Out.end0 (L' := _) Try.results87 ⟨q1, hS, ok_of hH hup hD, rfl, rfl⟩ (fun _ h => h)
  · skip
    have h1 : ¬ ((((k - 1) / 2 : Nat) : Int) = ((k : Nat) : Int)) := h1
    refine WP.valG rfl rfl rfl rfl rfl rfl rfl (Val.move rfl rfl) ?_
    refine WP.valG rfl rfl rfl rfl rfl rfl rfl (Val.move rfl rfl) ?_
    refine WP.valG rfl rfl rfl rfl rfl rfl rfl (Val.move rfl rfl) ?_
    refine WP.perm pl2 ?_
    refine WP.perm pl2 ?_
    refine WP.effG rfl rfl rfl rfl rfl rfl rfl (Eff.invokeP (f := 165) (u := .slice (some ⟨rb, 0, none⟩) n cap) rfl rfl rfl Ty2.mv136_Less (fun w h => h.cell 2 rfl rfl) Try.call165 (less_spec rb cap n q1 sp k ((k - 1) / 2) y x hy1 hx1 (by omega) (by omega) (by omega))) ?_
    rintro _ _ ⟨_, ⟨rfl, rfl⟩, rfl⟩
    show WP _ _ _ _ _ _ _ (Blk rb ((q1).map QI.ptr ++ sp) 90 :: Its q1 :: Blk nb [.map (some mb), .slice (some ⟨rb, 0, none⟩) n cap] 132 :: F)
    refine WP.valG rfl rfl rfl rfl rfl rfl rfl (Val.notP rfl rfl) ?_
    refine WP.val rfl rfl rfl (Val.pickF rfl rfl rfl) ?_
    refine WP.nil ?_
    refine Out.next ?_
    refine WPc.ifP rfl (fun h2 => ?_) (fun h2 => ?_)
    · skip
      have h2 : (¬ (y.t < x.t)) := h2
      refine WPc.exit ?_
      refine Out.then_exit ?_
      refine Out.block_other rfl ?_
      refine Out.then_exit ?_
      refine Out.block_exit ?_
      have hup : Up (tm q1) k := fun h0 => by first | omega | (rw [tm_at hx1, tm_at hy1]; omega)
      refine Out.perm pl1 ?_
      refine Out.perm pl1 ?_
      refine Out.perm pl2 ?_
      exact Out.end0 (L' := _) Try.results87 ⟨q1, hS, ok_of hH hup hD, rfl, rfl⟩ (fun _ h => h)
    · skip
      have h2 : ¬ (¬ (y.t < x.t)) := h2
      refine WPc.skip ?_
      refine Out.next ?_
      refine WPc.seq ?_
      refine WPc.region ?_
      refine WP.val rfl rfl rfl (Val.move rfl rfl) ?_
      refine WP.val rfl rfl rfl (Val.move rfl rfl) ?_
      refine WP.val rfl rfl rfl (Val.move rfl rfl) ?_
      refine WP.perm pl1 ?_
      refine WP.perm pl1 ?_
      refine WP.eff rfl rfl rfl (Eff.invokeP (f := 166) (u := .slice (some ⟨rb, 0, none⟩) n cap) rfl rfl rfl Ty2.mv136_Swap (fun w h => h.cell 2 rfl rfl) Try.call166 (swap_spec rb cap n q1 sp ((k - 1) / 2) k x y hx1 hy1 (by omega) (by omega) (by omega))) ?_
      rintro _ _ ⟨_, ⟨rfl, rfl⟩, rfl⟩
      show WP _ _ _ _ _ _ _ (Blk rb (((sw q1 ((k - 1) / 2) k x y)).map QI.ptr ++ sp) 90 :: Its ((sw q1 ((k - 1) / 2) k x y)) :: Blk nb [.map (some mb), .slice (some ⟨rb, 0, none⟩) n cap] 132 :: F)
      refine WP.nil ?_
      refine Out.next ?_
      have hst := up_step hS hH hD hx1 hy1 rfl (by omega) hkn (by omega)
      refine WPc.region ?_
      refine WP.val rfl rfl rfl (Val.move rfl rfl) ?_
      refine WP.val rfl rfl rfl (Val.assign rfl rfl) ?_
      refine WP.nil ?_
      refine Out.block ?_
      refine Out.perm pl1 ?_
      refine Out.perm pl1 ?_
      refine Out.perm pl2 ?_
      refine Out.again ((sw q1 ((k - 1) / 2) k x y), ((k - 1) / 2)) ?_ ?_ ?_ ?_
      · exact ⟨hst.1, hst.2.1, hst.2.2, by omega⟩
      · first | omega | (dsimp only; omega)
      · exact (Sub.cons rfl (Sub.cons rfl Sub.nil))
      · exact (fun _ h => h)

end Go.Proofs.Ythmkdioafjmclaa.Qh3
