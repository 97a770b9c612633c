import Derived.Test.YthmkdioafjmclaaQx
namespace Go.Proofs.Ythmkdioafjmclaa.Qi
open Go.RowKit Go.Proofs.Ythmkdioafjmclaa Go.Proofs.Ythmkdioafjmclaa.Sl Go.Proofs.Ythmkdioafjmclaa.Qm Go.Proofs.Ythmkdioafjmclaa.Qh Go.Proofs.Ythmkdioafjmclaa.Qh2 Go.Proofs.Ythmkdioafjmclaa.Qh3 Go.Proofs.Ythmkdioafjmclaa.Qh4 Go.Proofs.Ythmkdioafjmclaa.Qh5 Go.Proofs.Ythmkdioafjmclaa.Qh6 Go.Proofs.Ythmkdioafjmclaa.Qh7 Go.Proofs.Ythmkdioafjmclaa.Qx
set_option linter.unusedVariables false
set_option linter.unusedSimpArgs false
set_option linter.unusedSectionVars false


theorem parts_mem : ∀ {L : List HProp} {A : HProp} {r s : Nat → Prop} {h : Array Obj}, A ∈ L → parts L r s h → ∃ s' : Nat → Prop, (∀ b, s' b → s b) ∧ A.p r s' h
  | [], _, _, _, _, hA, _ => by cases hA
  | B :: L, A, r, s, h, hA, hp => by
    obtain ⟨s1, s2, h1, h2, h3, h4, h5⟩ := hp
    rcases List.mem_cons.1 hA with rfl | hA
    · exact ⟨s1, h1, h4⟩
    · obtain ⟨s', hs', hx⟩ := parts_mem hA h5
      exact ⟨s', fun b hb => h2 b (hs' b hb), hx⟩
theorem its_at {q : List QI} {x : QI} {w : World} (hx : x ∈ q) (h : Holds (Its q) w) : Holds (Blk x.b x.cells 134) w := by
  obtain ⟨r, s, hb, hp⟩ := h
  obtain ⟨s', hs', hx'⟩ := parts_mem (A := Blk x.b x.cells 134) (List.mem_map.2 ⟨x, hx, rfl⟩) hp
  exact ⟨r, s', fun b hb' => hb b (hb'.imp id (hs' b)), hx'⟩
theorem its_zz {q : List QI} {x : QI} (hx : x ∈ q) : ∀ w, Holds (Its q) w → w.cell? ⟨x.b, 0, none⟩ = some (.int .i64 x.id) ∧ w.rangeAt x.b 1 [.int .i64 ((x.t / 1000000000 : Nat) : Int), .int .i64 ((x.t % 1000000000 : Nat) : Int), .bool true] := fun w h => ⟨item_id (its_at hx h), item_cells (its_at hx h)⟩
theorem blk_zz {x : QI} {v : Value} : ∀ w, Holds (Blk x.b [.int .i64 x.id, .int .i64 ((x.t / 1000000000 : Nat) : Int), .int .i64 ((x.t % 1000000000 : Nat) : Int), .bool true, v] 134) w → w.cell? ⟨x.b, 0, none⟩ = some (.int .i64 x.id) ∧ w.rangeAt x.b 1 [.int .i64 ((x.t / 1000000000 : Nat) : Int), .int .i64 ((x.t % 1000000000 : Nat) : Int), .bool true] := fun w h => ⟨by rw [h.cell]; rfl, fun j u hj => by
  rw [h.cell]
  match j with
  | 0 => simpa using hj
  | 1 => simpa using hj
  | 2 => simpa using hj
  | j + 3 => simp at hj⟩
theorem idt_nd {q : List QI} {l m : List QOp} (hp : (IdT q).Perm (Idm m)) (hm : MOk l m) : ((IdT q).map (·.1)).Nodup := by
  refine (hp.map (·.1)).nodup_iff.2 ?_
  have e : (Idm m).map (·.1) = m.map (·.id) := by simp [Idm]
  rw [e]; exact hm.nd
theorem head_mn {q : List QI} {l m : List QOp} {y0 : QI} (hp : (IdT q).Perm (Idm m)) (hmin : ∀ z ∈ q, y0.t ≤ z.t) (hx : q[0]? = some y0) (hm : MOk l m) (ht : NoTie l) : ∃ y, mn m = some y ∧ y ∈ l ∧ y.id = y0.id ∧ y.at_ = (y0.t : Int) := by
  have h1 : (y0.id, (y0.t : Int)) ∈ Idm m := hp.mem_iff.1 (List.mem_map.2 ⟨y0, List.mem_of_getElem? hx, rfl⟩)
  obtain ⟨y, hy, he⟩ := List.mem_map.1 h1
  simp only [Prod.mk.injEq] at he
  refine ⟨y, mn_one hm ht hy fun z hz => ?_, (hm.sub y hy).1, he.1, he.2⟩
  have h2 : (z.id, z.at_) ∈ IdT q := hp.mem_iff.2 (List.mem_map.2 ⟨z, hz, rfl⟩)
  obtain ⟨z', hz', he'⟩ := List.mem_map.1 h2
  simp only [Prod.mk.injEq] at he'
  have := hmin z' hz'
  omega
theorem ans_1 {m : List QOp} {x : QOp} (h : x.k = 1) : ansI m x = ⟨true, 0, 0, 0⟩ ∧ qstep m x = without m x.id ++ [x] := ⟨by unfold ansI; rw [if_pos h], by unfold qstep; rw [if_pos h]⟩
theorem ans_2 {m : List QOp} {x y : QOp} (h : x.k = 2) (hy : mn m = some y) : ansI m x = ⟨true, y.id, y.at_, 0⟩ ∧ qstep m x = m := ⟨by unfold ansI; rw [if_neg (by omega), if_pos (.inl h), hy], by unfold qstep; rw [if_neg (by omega), if_neg (by omega)]⟩
theorem ans_3 {m : List QOp} {x y : QOp} (h : x.k = 3) (hy : mn m = some y) : ansI m x = ⟨true, y.id, y.at_, 0⟩ ∧ qstep m x = without m y.id := ⟨by unfold ansI; rw [if_neg (by omega), if_pos (.inr h), hy], by unfold qstep; rw [if_neg (by omega), if_pos h, hy]⟩
theorem ans_4 {m : List QOp} {x : QOp} (h : x.k = 4) : ansI m x = ⟨true, 0, 0, (m.length : Nat)⟩ ∧ qstep m x = m := ⟨by unfold ansI; rw [if_neg (by omega), if_neg (by omega), if_pos h], by unfold qstep; rw [if_neg (by omega), if_neg (by omega)]⟩
theorem ans_0 {m : List QOp} {x : QOp} (h1 : x.k ≠ 1) (h4 : x.k ≠ 4) (h : x.k = 2 ∨ x.k = 3 → mn m = none) : ansI m x = ⟨false, 0, 0, 0⟩ ∧ qstep m x = m := by
  refine ⟨?_, ?_⟩
  · unfold ansI
    rw [if_neg h1, if_neg h4]
    split
    · rename_i h2; rw [h h2]
    · rfl
  · unfold qstep
    rw [if_neg h1]
    split
    · rename_i h3; rw [h (.inr h3)]
    · rfl
theorem step_1 {q q2 : List QI} {m : List QOp} {x : QOp} {t : Nat} (hp : (IdT q).Perm (Idm m)) (h2 : (IdT q2).Perm ((IdT q).filter (fun p => decide (p.1 ≠ x.id)) ++ [(x.id, (t : Int))])) (ht : x.at_ = (t : Int)) : (IdT q2).Perm (Idm (without m x.id ++ [x])) := by
  have e : Idm (without m x.id ++ [x]) = (Idm m).filter (fun p => decide (p.1 ≠ x.id)) ++ [(x.id, (t : Int))] := by
    rw [← idm_without, ← ht]; simp [Idm]
  rw [e]
  exact h2.trans ((hp.filter _).append_right _)
theorem step_3 {q q2 : List QI} {m : List QOp} {id : Int} (hp : (IdT q).Perm (Idm m)) (h2 : (IdT q2).Perm ((IdT q).filter fun p => decide (p.1 ≠ id))) : (IdT q2).Perm (Idm (without m id)) := by
  rw [idm_without]
  exact h2.trans (hp.filter _)
theorem mn_empty {q : List QI} {m : List QOp} {n : Nat} (hp : (IdT q).Perm (Idm m)) (hq : q.length = n) (h0 : n = 0) : mn m = none := by
  have h1 : m.length = q.length := by
    have := hp.length_eq
    simpa [IdT, Idm] using this.symm
  rw [List.eq_nil_of_length_eq_zero (show m.length = 0 by omega)]
  rfl
theorem m_len {q : List QI} {m : List QOp} (hp : (IdT q).Perm (Idm m)) : m.length = q.length := by
  have := hp.length_eq
  simpa [IdT, Idm] using this.symm
set_option maxRecDepth 100000 in
set_option maxHeartbeats 1000000 in
theorem impl_nil (A : HProp) (a : Option Addr) (c : Nat) : Does Try.prog 14 [.slice a 0 c] [A] (fun v L => L = [Own 40 4 v 0 (flatOf QA.cells (answers ansI [] ([] : List QOp))), A]) := by
  refine Does.enter 87 Try.func14 rfl rfl rfl fun W F => ?_
  show WPc _ _ _ _ _ [(0, .slice a 0 c)] (A :: F)
  refine WPc.seq ?_
  refine WPc.region ?_
  refine WP.val rfl rfl rfl (Val.assign rfl rfl) ?_
  refine WP.nil ?_
  refine Out.next ?_
  refine WPc.seq ?_
  refine WPc.region ?_
  refine WP.eff rfl rfl rfl (Eff.call rfl rfl Try.call35 (zzqueue_spec)) ?_
  rintro _ _ ⟨_, ⟨nb, mb, rb0, rfl, rfl⟩, rfl⟩
  show WP _ _ _ _ _ _ _ (Blk nb [.map (some mb), .slice (some ⟨rb0, 0, none⟩) 0 0] 132 :: Blk rb0 ([]) 90 :: Mapk mb (.int .i64) ([]) :: A :: F)
  refine WP.val rfl rfl rfl (Val.assign rfl rfl) ?_
  refine WP.nil ?_
  refine Out.next ?_
  refine WPc.seq ?_
  refine WPc.region ?_
  refine WP.val rfl rfl rfl (Val.assign rfl rfl) ?_
  refine WP.nil ?_
  refine Out.next ?_
  refine WPc.seq ?_
  refine WPc.seq ?_
  refine WPc.conv (fun w h => its_nil h) ?_
  refine WPc.conv (fun w h => h.ownNil (e := 40) (k := 4)) ?_
  show WPc _ _ _ _ _ _ (Own 40 4 (.slice none 0 0) 0 ([]) :: Its (([] : List QI)) :: Blk nb [.map (some mb), .slice (some ⟨rb0, 0, none⟩) 0 0] 132 :: Blk rb0 ([]) 90 :: Mapk mb (.int .i64) ([]) :: A :: F)
  refine WPc.region ?_
  refine WP.val rfl rfl rfl (Val.assign rfl rfl) ?_
  refine WP.nil ?_
  refine Out.next ?_
  refine WPc.block ?_
  refine WPc.perm pl5 ?_
  refine WPc.perm pl1 ?_
  refine WPc.perm pl5 ?_
  refine WPc.perm pl3 ?_
  refine WPc.perm pl5 ?_
  refine WPc.perm pl5 ?_
  refine WPc.loop (ι := Nat × Nat × Nat × Nat × List Value × List QI × List (Value × Value) × Value) (fun ⟨i, rb, n, cap, sp, q, kvs, v⟩ => i ≤ (([] : List QOp)).length ∧ QGood q kvs n cap sp ∧ n ≤ i ∧ (IdT q).Perm (Idm (qst ((([] : List QOp)).take i)))) (fun ⟨i, rb, n, cap, sp, q, kvs, v⟩ => [(0, .slice a 0 c), (3, .pointer (some ⟨nb, 0, none⟩)), (4, v), (5, .int .i64 (((i : Nat) : Int)))]) (fun ⟨i, rb, n, cap, sp, q, kvs, v⟩ => Blk nb [.map (some mb), .slice (some ⟨rb, 0, none⟩) n cap] 132 :: Blk rb (q.map QI.ptr ++ sp) 90 :: Its q :: Mapk mb (.int .i64) (kvs) :: Own 40 4 v i (flatOf QA.cells (answers ansI [] ((([] : List QOp)).take i))) :: A :: F) (fun ⟨i, rb, n, cap, sp, q, kvs, v⟩ => (([] : List QOp)).length - i) (0, rb0, 0, 0, [], [], [], .slice none 0 0) ⟨Nat.zero_le _, ⟨rfl, fun i x h => by simp at h, fun k h1 h2 => by omega, List.Perm.refl _, Nat.le_refl _, rfl, by omega⟩, Nat.le_refl _, List.Perm.refl _⟩ ((Sub.cons rfl (Sub.cons rfl (Sub.cons rfl (Sub.cons rfl Sub.nil))))) (fun _ h => h) ?_
  rintro ⟨i, rb, n, cap, sp, q, kvs, v⟩ ⟨hi, hg, hni, hp⟩
  show WPc _ _ _ _ _ [(0, .slice a 0 c), (3, .pointer (some ⟨nb, 0, none⟩)), (4, v), (5, .int .i64 (((i : Nat) : Int)))] (Blk nb [.map (some mb), .slice (some ⟨rb, 0, none⟩) n cap] 132 :: Blk rb (q.map QI.ptr ++ sp) 90 :: Its q :: Mapk mb (.int .i64) (kvs) :: Own 40 4 v i (flatOf QA.cells (answers ansI [] ((([] : List QOp)).take i))) :: A :: F)
  refine WPc.seq ?_
  refine WPc.seq ?_
  refine WPc.region ?_
  refine WP.val rfl rfl rfl (Val.move rfl rfl) ?_
  refine WP.val rfl rfl rfl (Val.move rfl rfl) ?_
  refine WP.val rfl rfl rfl (Val.len rfl Ty.sl33 rfl) ?_
  refine WP.val rfl rfl rfl (Val.lss rfl rfl rfl) ?_
  refine WP.nil ?_
  refine Out.next ?_
  refine WPc.ifP rfl (fun h1 => ?_) (fun h1 => ?_)
  · skip
    have h1 : (((i : Nat) : Int) < (0 : Int)) := h1
    exfalso; simp at *; omega
  · skip
    have h1 : ¬ (((i : Nat) : Int) < (0 : Int)) := h1
    refine WPc.exit ?_
    refine Out.then_exit ?_
    refine Out.then_exit ?_
    refine Out.block_exit ?_
    refine Out.next ?_
    refine WPc.seq ?_
    refine WPc.region ?_
    refine WP.val rfl rfl rfl (Val.move rfl rfl) ?_
    refine WP.val rfl rfl rfl (Val.assign rfl rfl) ?_
    refine WP.nil ?_
    refine Out.next ?_
    refine WPc.ret ?_
    have hti2 : (([] : List QOp)).take i = ([] : List QOp) := List.take_of_length_le (by first | omega | (simp at *; try omega))
    have hil : i = (([] : List QOp)).length := by first | omega | (simp at *; omega)
    refine Out.drop ?_
    refine Out.drop ?_
    refine Out.drop ?_
    refine Out.drop ?_
    exact Out.ret1 (L' := _) Try.results14 rfl rfl (fun w h => by rw [hti2, hil] at h; exact h)

set_option maxRecDepth 100000 in
set_option maxHeartbeats 1000000 in
theorem impl_row (A : HProp) (l : List QOp) (hl : l.length ≤ 200) (hat : ∀ x ∈ l, 0 ≤ x.at_ ∧ x.at_ ≤ 1152921504606846976) (hti : NoTie l) (b0 o0 c0 : Nat) (hr : ∀ w, Holds A w → ∀ i x, l[i]? = some x → w.rangeAt b0 (o0 + i * 3) (QOp.cells x)) : Does Try.prog 14 [.slice (some ⟨b0, o0, none⟩) l.length c0] [A] (fun v L => L = [Own 40 4 v l.length (flatOf QA.cells (answers ansI [] l)), A]) := by
  refine Does.enter 87 Try.func14 rfl rfl rfl fun W F => ?_
  show WPc _ _ _ _ _ [(0, .slice (some ⟨b0, o0, none⟩) l.length c0)] (A :: F)
  refine WPc.seq ?_
  refine WPc.region ?_
  refine WP.val rfl rfl rfl (Val.assign rfl rfl) ?_
  refine WP.nil ?_
  refine Out.next ?_
  refine WPc.seq ?_
  refine WPc.region ?_
  refine WP.eff rfl rfl rfl (Eff.call rfl rfl Try.call35 (zzqueue_spec)) ?_
  rintro _ _ ⟨_, ⟨nb, mb, rb0, rfl, rfl⟩, rfl⟩
  show WP _ _ _ _ _ _ _ (Blk nb [.map (some mb), .slice (some ⟨rb0, 0, none⟩) 0 0] 132 :: Blk rb0 ([]) 90 :: Mapk mb (.int .i64) ([]) :: A :: F)
  refine WP.val rfl rfl rfl (Val.assign rfl rfl) ?_
  refine WP.nil ?_
  refine Out.next ?_
  refine WPc.seq ?_
  refine WPc.region ?_
  refine WP.val rfl rfl rfl (Val.assign rfl rfl) ?_
  refine WP.nil ?_
  refine Out.next ?_
  refine WPc.seq ?_
  refine WPc.seq ?_
  refine WPc.conv (fun w h => its_nil h) ?_
  refine WPc.conv (fun w h => h.ownNil (e := 40) (k := 4)) ?_
  show WPc _ _ _ _ _ _ (Own 40 4 (.slice none 0 0) 0 ([]) :: Its (([] : List QI)) :: Blk nb [.map (some mb), .slice (some ⟨rb0, 0, none⟩) 0 0] 132 :: Blk rb0 ([]) 90 :: Mapk mb (.int .i64) ([]) :: A :: F)
  refine WPc.region ?_
  refine WP.val rfl rfl rfl (Val.assign rfl rfl) ?_
  refine WP.nil ?_
  refine Out.next ?_
  refine WPc.block ?_
  refine WPc.perm pl5 ?_
  refine WPc.perm pl1 ?_
  refine WPc.perm pl5 ?_
  refine WPc.perm pl3 ?_
  refine WPc.perm pl5 ?_
  refine WPc.perm pl5 ?_
  refine WPc.loop (ι := Nat × Nat × Nat × Nat × List Value × List QI × List (Value × Value) × Value) (fun ⟨i, rb, n, cap, sp, q, kvs, v⟩ => i ≤ (l).length ∧ QGood q kvs n cap sp ∧ n ≤ i ∧ (IdT q).Perm (Idm (qst ((l).take i)))) (fun ⟨i, rb, n, cap, sp, q, kvs, v⟩ => [(0, .slice (some ⟨b0, o0, none⟩) l.length c0), (3, .pointer (some ⟨nb, 0, none⟩)), (4, v), (5, .int .i64 (((i : Nat) : Int)))]) (fun ⟨i, rb, n, cap, sp, q, kvs, v⟩ => Blk nb [.map (some mb), .slice (some ⟨rb, 0, none⟩) n cap] 132 :: Blk rb (q.map QI.ptr ++ sp) 90 :: Its q :: Mapk mb (.int .i64) (kvs) :: Own 40 4 v i (flatOf QA.cells (answers ansI [] ((l).take i))) :: A :: F) (fun ⟨i, rb, n, cap, sp, q, kvs, v⟩ => (l).length - i) (0, rb0, 0, 0, [], [], [], .slice none 0 0) ⟨Nat.zero_le _, ⟨rfl, fun i x h => by simp at h, fun k h1 h2 => by omega, List.Perm.refl _, Nat.le_refl _, rfl, by omega⟩, Nat.le_refl _, List.Perm.refl _⟩ ((Sub.cons rfl (Sub.cons rfl (Sub.cons rfl (Sub.cons rfl Sub.nil))))) (fun _ h => h) ?_
  rintro ⟨i, rb, n, cap, sp, q, kvs, v⟩ ⟨hi, hg, hni, hp⟩
  show WPc _ _ _ _ _ [(0, .slice (some ⟨b0, o0, none⟩) l.length c0), (3, .pointer (some ⟨nb, 0, none⟩)), (4, v), (5, .int .i64 (((i : Nat) : Int)))] (Blk nb [.map (some mb), .slice (some ⟨rb, 0, none⟩) n cap] 132 :: Blk rb (q.map QI.ptr ++ sp) 90 :: Its q :: Mapk mb (.int .i64) (kvs) :: Own 40 4 v i (flatOf QA.cells (answers ansI [] ((l).take i))) :: A :: F)
  refine WPc.seq ?_
  refine WPc.seq ?_
  refine WPc.region ?_
  refine WP.val rfl rfl rfl (Val.move rfl rfl) ?_
  refine WP.val rfl rfl rfl (Val.move rfl rfl) ?_
  refine WP.val rfl rfl rfl (Val.len rfl Ty.sl33 rfl) ?_
  refine WP.val rfl rfl rfl (Val.lss rfl rfl rfl) ?_
  refine WP.nil ?_
  refine Out.next ?_
  refine WPc.ifP rfl (fun h1 => ?_) (fun h1 => ?_)
  · skip
    have h1 : (((i : Nat) : Int) < ((l.length : Nat) : Int)) := h1
    refine WPc.skip ?_
    refine Out.next ?_
    refine WPc.seq ?_
    refine WPc.block ?_
    refine WPc.seq ?_
    have hlt : i < l.length := by omega
    obtain ⟨x, hx⟩ : ∃ x, l[i]? = some x := ⟨_, List.getElem?_eq_getElem hlt⟩
    have hxl := List.mem_of_getElem? hx
    have hxa := hat x hxl
    have hm := mok_take l i
    have hnd := idt_nd hp hm
    have hml := m_len hp
    have hgl := hg.len
    have hst : qst (l.take (i + 1)) = qstep (qst (l.take i)) x := by rw [take_more hx, qst_snoc]
    refine WPc.region ?_
    refine WP.val rfl rfl rfl (Val.move rfl rfl) ?_
    refine WP.val rfl rfl rfl (Val.move rfl rfl) ?_
    refine WP.val rfl rfl rfl (Val.indexAddr (j := i) (q := o0 + i * 3) rfl Ty.sl33 rfl rfl (by omega) (by omega) (by omega)) ?_
    refine WP.val rfl rfl rfl (Val.loadAgg (cs := (QOp.cells x)) rfl Ty.ag36 rfl (by rfl) (fun w h => hr w (h.at 5 rfl) i x hx)) ?_
    refine WP.eff rfl rfl rfl (Eff.alloc rfl Ty.z36) ?_
    rintro _ _ ⟨b1, rfl, rfl⟩
    refine WP.eff0 rfl rfl (Eff.storeAgg (cs := [.int .i64 (x.k), .int .i64 (x.id), .int .i64 (x.at_)]) (C' := [.int .i64 (x.k), .int .i64 (x.id), .int .i64 (x.at_)]) rfl Ty.ag36 rfl rfl rfl rfl (by simp) rfl) ?_
    rintro _ _ rfl
    refine WP.nil ?_
    refine Out.next ?_
    refine WPc.seq ?_
    refine WPc.region ?_
    refine WP.val rfl rfl rfl (Val.mk (cs := [.bool false, .int .i64 0, .int .i64 0, .int .i64 0]) rfl rfl (fun _ => by kernel_rfl)) ?_
    refine WP.eff rfl rfl rfl (Eff.alloc rfl Ty.z40) ?_
    rintro _ _ ⟨b2, rfl, rfl⟩
    refine WP.eff0 rfl rfl (Eff.storeAgg (cs := [.bool false, .int .i64 0, .int .i64 0, .int .i64 0]) (C' := [.bool false, .int .i64 0, .int .i64 0, .int .i64 0]) rfl Ty.ag40 rfl rfl rfl rfl (by simp) rfl) ?_
    rintro _ _ rfl
    refine WP.nil ?_
    refine Out.next ?_
    refine WPc.seq ?_
    refine WPc.block ?_
    refine WPc.seq ?_
    refine WPc.region ?_
    refine WP.val rfl rfl rfl (Val.fieldAddr (j := 0) rfl Ty.fo36_0 rfl rfl) ?_
    refine WP.val rfl rfl rfl (Val.load rfl Ty.sc3 rfl (fun w h => h.cell 1 rfl rfl)) ?_
    refine WP.val rfl rfl rfl (Val.eql rfl rfl rfl) ?_
    refine WP.val rfl rfl rfl (Val.assign rfl rfl) ?_
    refine WP.nil ?_
    refine Out.next ?_
    refine WPc.ifP rfl (fun h2 => ?_) (fun h2 => ?_)
    · skip
      have h2 : (x.k = (1 : Int)) := h2
      refine WPc.seq ?_
      obtain ⟨t, ht⟩ := Int.eq_ofNat_of_zero_le hxa.1
      refine WPD.start (Sat W [Blk b1 [.int .i64 (x.k), .int .i64 (x.id), .int .i64 (x.at_)] 36]) Ty.mixed ?_
      refine WPD.takeM 0 rfl rfl rfl rfl (by kernel_rfl) (by kernel_rfl) (by kernel_rfl) (by kernel_rfl) (fun _ _ _ h => h) (fun w h => ((h.perm pl1)).dropEnd (L := [_])) (Val.move rfl rfl) ?_
      refine WPD.takeM 1 rfl rfl rfl rfl (by kernel_rfl) (by kernel_rfl) (by kernel_rfl) (by kernel_rfl) (fun _ _ _ h => h) (fun w h => ((h.perm pl1)).dropEnd (L := [_])) (Val.fieldAddr (j := 1) rfl Ty.fo36_1 rfl rfl) ?_
      refine WPD.take 2 rfl rfl rfl rfl (by kernel_rfl) (by kernel_rfl) (by kernel_rfl) (by kernel_rfl) (fun _ _ _ h => h) (by kernel_rfl) (fun w h => ((h.perm pl1)).dropEnd (L := [_])) (Val.load rfl Ty.sc2 rfl (fun w h => h.cell 0 rfl rfl)) ?_
      refine WPD.takeM 3 rfl rfl rfl rfl (by kernel_rfl) (by kernel_rfl) (by kernel_rfl) (by kernel_rfl) (fun _ _ _ h => h) (fun w h => ((h.perm pl1)).dropEnd (L := [_])) (Val.fieldAddr (j := 2) rfl Ty.fo36_2 rfl rfl) ?_
      refine WPD.take 4 rfl rfl rfl rfl (by kernel_rfl) (by kernel_rfl) (by kernel_rfl) (by kernel_rfl) (fun _ _ _ h => h) (by kernel_rfl) (fun w h => ((h.perm pl1)).dropEnd (L := [_])) (Val.load rfl Ty.sc2 rfl (fun w h => h.cell 0 rfl rfl)) ?_
      refine WPD.know 32 (.int .i64 ((t : Nat) : Int)) rfl (by rw [ht]) ?_
      refine WPD.step 5 (by kernel_rfl) rfl rfl rfl rfl (Eff.call rfl rfl Try.call38 (at_spec t (by omega))) ?_
      rintro _ _ ⟨_, ⟨rfl, rfl⟩, rfl⟩
      refine ⟨(fun w h => ((h.perm pl1)).dropEnd (L := [_])), ?_⟩
      show WPD _ _ _ _ _ _ _ _ _ (Blk b2 [.bool false, .int .i64 0, .int .i64 0, .int .i64 0] 40 :: Blk b1 [.int .i64 (x.k), .int .i64 (x.id), .int .i64 (x.at_)] 36 :: Blk nb [.map (some mb), .slice (some ⟨rb, 0, none⟩) n cap] 132 :: Blk rb (q.map QI.ptr ++ sp) 90 :: Its q :: Mapk mb (.int .i64) (kvs) :: Own 40 4 v i (flatOf QA.cells (answers ansI [] ((l).take i))) :: A :: F)
      refine WPD.stepC 6 (by kernel_rfl) rfl rfl rfl rfl (by kernel_rfl) (Eff.call rfl rfl Try.call37 (item_spec x.id t)) ?_
      rintro _ _ ⟨_, ⟨zb, rfl, rfl⟩, rfl⟩
      refine ⟨(Sat W (Blk zb [.int .i64 (x.id), .int .i64 ((((t / 1000000000) : Nat) : Int)), .int .i64 ((((t % 1000000000) : Nat) : Int)), .bool true, .int .i64 0] 134 :: Blk b2 [.bool false, .int .i64 0, .int .i64 0, .int .i64 0] 40 :: Blk b1 [.int .i64 (x.k), .int .i64 (x.id), .int .i64 (x.at_)] 36 :: Blk nb [.map (some mb), .slice (some ⟨rb, 0, none⟩) n cap] 132 :: Blk rb (q.map QI.ptr ++ sp) 90 :: Its q :: Mapk mb (.int .i64) (kvs) :: Own 40 4 v i (flatOf QA.cells (answers ansI [] ((l).take i))) :: A :: F)), (fun _ h => h), ?_⟩
      show WPD _ _ _ _ _ _ _ _ _ (Blk zb [.int .i64 (x.id), .int .i64 ((((t / 1000000000) : Nat) : Int)), .int .i64 ((((t % 1000000000) : Nat) : Int)), .bool true, .int .i64 0] 134 :: Blk b2 [.bool false, .int .i64 0, .int .i64 0, .int .i64 0] 40 :: Blk b1 [.int .i64 (x.k), .int .i64 (x.id), .int .i64 (x.at_)] 36 :: Blk nb [.map (some mb), .slice (some ⟨rb, 0, none⟩) n cap] 132 :: Blk rb (q.map QI.ptr ++ sp) 90 :: Its q :: Mapk mb (.int .i64) (kvs) :: Own 40 4 v i (flatOf QA.cells (answers ansI [] ((l).take i))) :: A :: F)
      refine WPD.perm pl6 ?_
      refine WPD.perm pl6 ?_
      refine WPD.perm pl6 ?_
      refine WPD.perm pl6 ?_
      refine WPD.stepC 7 (by kernel_rfl) rfl rfl rfl rfl (by kernel_rfl) (Eff.call rfl rfl Try.call36 (reg_spec nb mb rb cap n sp q kvs hg (by omega) hnd zb t x.id)) ?_
      rintro _ _ ⟨_, ⟨q2, kvs2, n2, rb2, cap2, sp2, hg2, hn2, hp2, rfl, rfl⟩, rfl⟩
      refine ⟨(Sat W (Blk nb [.map (some mb), .slice (some ⟨rb2, 0, none⟩) n2 cap2] 132 :: Blk rb2 (q2.map QI.ptr ++ sp2) 90 :: Its q2 :: Mapk mb (.int .i64) (kvs2) :: Blk b2 [.bool false, .int .i64 0, .int .i64 0, .int .i64 0] 40 :: Blk b1 [.int .i64 (x.k), .int .i64 (x.id), .int .i64 (x.at_)] 36 :: Own 40 4 v i (flatOf QA.cells (answers ansI [] ((l).take i))) :: A :: F)), (fun _ h => h), ?_⟩
      show WPD _ _ _ _ _ _ _ _ _ (Blk nb [.map (some mb), .slice (some ⟨rb2, 0, none⟩) n2 cap2] 132 :: Blk rb2 (q2.map QI.ptr ++ sp2) 90 :: Its q2 :: Mapk mb (.int .i64) (kvs2) :: Blk b2 [.bool false, .int .i64 0, .int .i64 0, .int .i64 0] 40 :: Blk b1 [.int .i64 (x.k), .int .i64 (x.id), .int .i64 (x.at_)] 36 :: Own 40 4 v i (flatOf QA.cells (answers ansI [] ((l).take i))) :: A :: F)
      refine WPD.done (by kernel_rfl) ?_
      refine Out.next ?_
      refine WPc.region ?_
      refine WP.val rfl rfl rfl (Val.fieldAddr (j := 0) rfl Ty.fo40_0 rfl rfl) ?_
      refine WP.perm pl4 ?_
      refine WP.eff0 rfl rfl (Eff.store rfl Ty.sc4 rfl rfl rfl (by simp) st0) ?_
      rintro _ _ rfl
      refine WP.nil ?_
      refine Out.block ?_
      refine Out.next ?_
      refine WPc.region ?_
      refine WP.val rfl rfl rfl (Val.move rfl rfl) ?_
      refine WP.val rfl rfl rfl (Val.loadAgg (cs := [.bool true, .int .i64 0, .int .i64 0, .int .i64 0]) rfl Ty.ag40 rfl rfl (fun w h => h.range 0 rfl rfl)) ?_
      refine WP.eff rfl rfl rfl (Eff.mkSlice (C := [.bool true, .int .i64 0, .int .i64 0, .int .i64 0]) rfl Ty.sl37 rfl (fun _ => by kernel_rfl)) ?_
      rintro _ _ ⟨b3, rfl, rfl⟩
      refine WP.perm pl7 ?_
      refine WP.eff rfl rfl rfl (Eff.append (m := 1) (n0 := i) (news := [.bool true, .int .i64 0, .int .i64 0, .int .i64 0]) rfl Ty.sl37 Ty.z40 rfl rfl rfl (.slice Ty.sl37 rfl rfl (fun w h => cells_range (h.range 1 rfl rfl))) (by omega) (by omega)) ?_
      rintro v4 _ ⟨onev4, rfl⟩
      refine WP.val rfl rfl rfl (Val.assign rfl rfl) ?_
      refine WP.nil ?_
      refine Out.block ?_
      refine Out.next ?_
      refine WPc.region ?_
      refine WP.val rfl rfl rfl (Val.move rfl rfl) ?_
      refine WP.val rfl rfl rfl (Val.add (z := ((i + 1 : Nat) : Int)) rfl rfl rfl ((w64 (by omega) (by omega)).trans (by omega))) ?_
      refine WP.val rfl rfl rfl (Val.assign rfl rfl) ?_
      refine WP.nil ?_
      have hak := ans_1 (m := qst ((l).take i)) (x := x) (by omega)
      have he : answers ansI [] ((l).take (i + 1)) = answers ansI [] ((l).take i) ++ [⟨true, 0, 0, 0⟩] := by
        rw [take_more hx, answers_snoc]
        refine congrArg (fun z => answers ansI [] ((l).take i) ++ [z]) (hak.1.trans ?_)
        rfl
      refine Out.perm pl1 ?_
      refine Out.drop ?_
      refine Out.perm pl1 ?_
      refine Out.drop ?_
      refine Out.perm pl5 ?_
      refine Out.drop ?_
      refine Out.perm pl5 ?_
      refine Out.perm pl1 ?_
      refine Out.perm pl5 ?_
      refine Out.perm pl5 ?_
      refine Out.perm pl5 ?_
      refine Out.perm pl5 ?_
      refine Out.again (i + 1, rb2, n2, cap2, sp2, q2, kvs2, v4) ?_ ?_ ?_ ?_
      · exact ⟨by omega, hg2, by omega, by rw [hst, hak.2]; exact step_1 hp hp2 ht⟩
      · (dsimp only; omega)
      · exact (Sub.cons rfl (Sub.cons rfl (Sub.cons rfl (Sub.cons rfl Sub.nil))))
      · exact (fun w h => by dsimp only; rw [he, flatOf_snoc]; exact h)
    · skip
      have h2 : ¬ (x.k = (1 : Int)) := h2
      refine WPc.seq ?_
      rcases Nat.eq_zero_or_pos n with h0 | h0
      · skip
        refine WPc.region ?_
        refine WP.val rfl rfl rfl (Val.fieldAddr (j := 0) rfl Ty.fo36_0 rfl rfl) ?_
        refine WP.val rfl rfl rfl (Val.load rfl Ty.sc3 rfl (fun w h => h.cell 1 rfl rfl)) ?_
        refine WP.val rfl rfl rfl (Val.eql rfl rfl rfl) ?_
        refine WP.val rfl rfl rfl (Val.move rfl rfl) ?_
        refine WP.split 41 rfl (fun h3 => ?_) (fun h3 => ?_)
        · skip
          have h3 : (x.k = (2 : Int)) := h3
          refine WP.valG rfl rfl rfl rfl rfl rfl rfl (Val.move rfl rfl) ?_
          refine WP.perm pl5 ?_
          refine WP.perm pl3 ?_
          refine WP.effG rfl rfl rfl rfl rfl rfl rfl (Eff.call rfl rfl Try.call39 (peek_none nb mb rb cap n kvs hg.kn h0)) ?_
          rintro _ _ ⟨_, ⟨rfl, rfl⟩, rfl⟩
          show WP _ _ _ _ _ _ _ (Blk nb [.map (some mb), .slice (some ⟨rb, 0, none⟩) n cap] 132 :: Mapk mb (.int .i64) (kvs) :: Blk b2 [.bool false, .int .i64 0, .int .i64 0, .int .i64 0] 40 :: Blk b1 [.int .i64 (x.k), .int .i64 (x.id), .int .i64 (x.at_)] 36 :: Blk rb (q.map QI.ptr ++ sp) 90 :: Its q :: Own 40 4 v i (flatOf QA.cells (answers ansI [] ((l).take i))) :: A :: F)
          refine WP.valG rfl rfl rfl rfl rfl rfl rfl (Val.nilPn rfl Ty.ip90 rfl rfl) ?_
          refine WP.val rfl rfl rfl (Val.pickT rfl rfl rfl) ?_
          refine WP.val rfl rfl rfl (Val.assign rfl rfl) ?_
          refine WP.nil ?_
          refine Out.next ?_
          refine WPc.condF rfl rfl ?_
          refine WPc.seq ?_
          refine WPc.region ?_
          refine WP.val rfl rfl rfl (Val.fieldAddr (j := 0) rfl Ty.fo36_0 rfl rfl) ?_
          refine WP.val rfl rfl rfl (Val.load rfl Ty.sc3 rfl (fun w h => h.cell 3 rfl rfl)) ?_
          refine WP.val rfl rfl rfl (Val.eql rfl rfl rfl) ?_
          refine WP.val rfl rfl rfl (Val.move rfl rfl) ?_
          refine WP.split 60 rfl (fun h4 => ?_) (fun h4 => ?_)
          · skip
            have h4 : (x.k = (3 : Int)) := h4
            refine WP.valG rfl rfl rfl rfl rfl rfl rfl (Val.move rfl rfl) ?_
            refine WP.perm pl1 ?_
            refine WP.perm pl1 ?_
            refine WP.effG rfl rfl rfl rfl rfl rfl rfl (Eff.call rfl rfl Try.call42 (len_spec nb mb rb cap n kvs hg.kn)) ?_
            rintro _ _ ⟨_, ⟨rfl, rfl⟩, rfl⟩
            show WP _ _ _ _ _ _ _ (Blk nb [.map (some mb), .slice (some ⟨rb, 0, none⟩) n cap] 132 :: Mapk mb (.int .i64) (kvs) :: Blk b2 [.bool false, .int .i64 0, .int .i64 0, .int .i64 0] 40 :: Blk b1 [.int .i64 (x.k), .int .i64 (x.id), .int .i64 (x.at_)] 36 :: Blk rb (q.map QI.ptr ++ sp) 90 :: Its q :: Own 40 4 v i (flatOf QA.cells (answers ansI [] ((l).take i))) :: A :: F)
            refine WP.valG rfl rfl rfl rfl rfl rfl rfl (Val.gtr rfl rfl rfl) ?_
            refine WP.val rfl rfl rfl (Val.pickT rfl rfl rfl) ?_
            refine WP.val rfl rfl rfl (Val.assign rfl rfl) ?_
            refine WP.nil ?_
            refine Out.next ?_
            refine WPc.ifP rfl (fun h5 => ?_) (fun h5 => ?_)
            · skip
              have h5 : ((0 : Int) < ((n : Nat) : Int)) := h5
              exfalso; omega
            · skip
              have h5 : ¬ ((0 : Int) < ((n : Nat) : Int)) := h5
              refine WPc.seq ?_
              refine WPc.region ?_
              refine WP.val rfl rfl rfl (Val.fieldAddr (j := 0) rfl Ty.fo36_0 rfl rfl) ?_
              refine WP.val rfl rfl rfl (Val.load rfl Ty.sc3 rfl (fun w h => h.cell 3 rfl rfl)) ?_
              refine WP.val rfl rfl rfl (Val.eql rfl rfl rfl) ?_
              refine WP.val rfl rfl rfl (Val.assign rfl rfl) ?_
              refine WP.nil ?_
              refine Out.next ?_
              refine WPc.ifP rfl (fun h6 => ?_) (fun h6 => ?_)
              · skip
                have h6 : (x.k = (4 : Int)) := h6
                refine WPc.region ?_
                refine WP.val rfl rfl rfl (Val.move rfl rfl) ?_
                refine WP.perm pl1 ?_
                refine WP.perm pl1 ?_
                refine WP.eff rfl rfl rfl (Eff.call rfl rfl Try.call42 (len_spec nb mb rb cap n kvs hg.kn)) ?_
                rintro _ _ ⟨_, ⟨rfl, rfl⟩, rfl⟩
                show WP _ _ _ _ _ _ _ (Blk nb [.map (some mb), .slice (some ⟨rb, 0, none⟩) n cap] 132 :: Mapk mb (.int .i64) (kvs) :: Blk b2 [.bool false, .int .i64 0, .int .i64 0, .int .i64 0] 40 :: Blk b1 [.int .i64 (x.k), .int .i64 (x.id), .int .i64 (x.at_)] 36 :: Blk rb (q.map QI.ptr ++ sp) 90 :: Its q :: Own 40 4 v i (flatOf QA.cells (answers ansI [] ((l).take i))) :: A :: F)
                refine WP.val rfl rfl rfl (Val.mk (cs := [.bool true, .int .i64 0, .int .i64 0, .int .i64 (((n : Nat) : Int))]) rfl rfl (fun _ => by kernel_rfl)) ?_
                refine WP.perm pl2 ?_
                refine WP.eff0 rfl rfl (Eff.storeAgg (cs := [.bool true, .int .i64 0, .int .i64 0, .int .i64 (((n : Nat) : Int))]) (C' := [.bool true, .int .i64 0, .int .i64 0, .int .i64 (((n : Nat) : Int))]) rfl Ty.ag40 rfl rfl rfl rfl (by simp) rfl) ?_
                rintro _ _ rfl
                refine WP.nil ?_
                refine Out.block ?_
                refine Out.next ?_
                refine WPc.region ?_
                refine WP.val rfl rfl rfl (Val.move rfl rfl) ?_
                refine WP.val rfl rfl rfl (Val.loadAgg (cs := [.bool true, .int .i64 0, .int .i64 0, .int .i64 (((n : Nat) : Int))]) rfl Ty.ag40 rfl rfl (fun w h => h.range 0 rfl rfl)) ?_
                refine WP.eff rfl rfl rfl (Eff.mkSlice (C := [.bool true, .int .i64 0, .int .i64 0, .int .i64 (((n : Nat) : Int))]) rfl Ty.sl37 rfl (fun _ => by kernel_rfl)) ?_
                rintro _ _ ⟨b5, rfl, rfl⟩
                refine WP.perm pl7 ?_
                refine WP.eff rfl rfl rfl (Eff.append (m := 1) (n0 := i) (news := [.bool true, .int .i64 0, .int .i64 0, .int .i64 (((n : Nat) : Int))]) rfl Ty.sl37 Ty.z40 rfl rfl rfl (.slice Ty.sl37 rfl rfl (fun w h => cells_range (h.range 1 rfl rfl))) (by omega) (by omega)) ?_
                rintro v6 _ ⟨onev6, rfl⟩
                refine WP.val rfl rfl rfl (Val.assign rfl rfl) ?_
                refine WP.nil ?_
                refine Out.block ?_
                refine Out.next ?_
                refine WPc.region ?_
                refine WP.val rfl rfl rfl (Val.move rfl rfl) ?_
                refine WP.val rfl rfl rfl (Val.add (z := ((i + 1 : Nat) : Int)) rfl rfl rfl ((w64 (by omega) (by omega)).trans (by omega))) ?_
                refine WP.val rfl rfl rfl (Val.assign rfl rfl) ?_
                refine WP.nil ?_
                have hak := ans_4 (m := qst ((l).take i)) (x := x) (by omega)
                have he : answers ansI [] ((l).take (i + 1)) = answers ansI [] ((l).take i) ++ [⟨true, 0, 0, (n : Int)⟩] := by
                  rw [take_more hx, answers_snoc]
                  refine congrArg (fun z => answers ansI [] ((l).take i) ++ [z]) (hak.1.trans ?_)
                  rw [hml, hgl]
                refine Out.perm pl1 ?_
                refine Out.drop ?_
                refine Out.perm pl1 ?_
                refine Out.drop ?_
                refine Out.perm pl3 ?_
                refine Out.drop ?_
                refine Out.perm pl5 ?_
                refine Out.perm pl1 ?_
                refine Out.perm pl3 ?_
                refine Out.perm pl5 ?_
                refine Out.perm pl5 ?_
                refine Out.perm pl5 ?_
                refine Out.again (i + 1, rb, n, cap, sp, q, kvs, v6) ?_ ?_ ?_ ?_
                · exact ⟨by omega, hg, by omega, by rw [hst, hak.2]; exact hp⟩
                · (dsimp only; omega)
                · exact (Sub.cons rfl (Sub.cons rfl (Sub.cons rfl (Sub.cons rfl Sub.nil))))
                · exact (fun w h => by dsimp only; rw [he, flatOf_snoc]; exact h)
              · skip
                have h6 : ¬ (x.k = (4 : Int)) := h6
                refine WPc.skip ?_
                refine Out.block ?_
                refine Out.next ?_
                refine WPc.region ?_
                refine WP.val rfl rfl rfl (Val.move rfl rfl) ?_
                refine WP.val rfl rfl rfl (Val.loadAgg (cs := [.bool false, .int .i64 0, .int .i64 0, .int .i64 0]) rfl Ty.ag40 rfl rfl (fun w h => h.range 2 rfl rfl)) ?_
                refine WP.eff rfl rfl rfl (Eff.mkSlice (C := [.bool false, .int .i64 0, .int .i64 0, .int .i64 0]) rfl Ty.sl37 rfl (fun _ => by kernel_rfl)) ?_
                rintro _ _ ⟨b7, rfl, rfl⟩
                refine WP.perm pl7 ?_
                refine WP.eff rfl rfl rfl (Eff.append (m := 1) (n0 := i) (news := [.bool false, .int .i64 0, .int .i64 0, .int .i64 0]) rfl Ty.sl37 Ty.z40 rfl rfl rfl (.slice Ty.sl37 rfl rfl (fun w h => cells_range (h.range 1 rfl rfl))) (by omega) (by omega)) ?_
                rintro v8 _ ⟨onev8, rfl⟩
                refine WP.val rfl rfl rfl (Val.assign rfl rfl) ?_
                refine WP.nil ?_
                refine Out.block ?_
                refine Out.next ?_
                refine WPc.region ?_
                refine WP.val rfl rfl rfl (Val.move rfl rfl) ?_
                refine WP.val rfl rfl rfl (Val.add (z := ((i + 1 : Nat) : Int)) rfl rfl rfl ((w64 (by omega) (by omega)).trans (by omega))) ?_
                refine WP.val rfl rfl rfl (Val.assign rfl rfl) ?_
                refine WP.nil ?_
                have hak := ans_0 (m := qst ((l).take i)) (x := x) (by omega) (by omega) (fun _ => mn_empty hp hg.len h0)
                have he : answers ansI [] ((l).take (i + 1)) = answers ansI [] ((l).take i) ++ [⟨false, 0, 0, 0⟩] := by
                  rw [take_more hx, answers_snoc]
                  refine congrArg (fun z => answers ansI [] ((l).take i) ++ [z]) (hak.1.trans ?_)
                  rfl
                refine Out.perm pl1 ?_
                refine Out.drop ?_
                refine Out.perm pl3 ?_
                refine Out.drop ?_
                refine Out.perm pl3 ?_
                refine Out.drop ?_
                refine Out.perm pl5 ?_
                refine Out.perm pl1 ?_
                refine Out.perm pl3 ?_
                refine Out.perm pl5 ?_
                refine Out.perm pl5 ?_
                refine Out.perm pl5 ?_
                refine Out.again (i + 1, rb, n, cap, sp, q, kvs, v8) ?_ ?_ ?_ ?_
                · exact ⟨by omega, hg, by omega, by rw [hst, hak.2]; exact hp⟩
                · (dsimp only; omega)
                · exact (Sub.cons rfl (Sub.cons rfl (Sub.cons rfl (Sub.cons rfl Sub.nil))))
                · exact (fun w h => by dsimp only; rw [he, flatOf_snoc]; exact h)
          · skip
            have h4 : ¬ (x.k = (3 : Int)) := h4
            refine WP.skip rfl rfl rfl rfl rfl rfl rfl ?_
            refine WP.skip rfl rfl rfl rfl rfl rfl rfl ?_
            refine WP.skip rfl rfl rfl rfl rfl rfl rfl ?_
            refine WP.val rfl rfl rfl (Val.pickF rfl rfl rfl) ?_
            refine WP.val rfl rfl rfl (Val.assign rfl rfl) ?_
            refine WP.nil ?_
            refine Out.next ?_
            refine WPc.condF rfl rfl ?_
            refine WPc.seq ?_
            refine WPc.region ?_
            refine WP.val rfl rfl rfl (Val.fieldAddr (j := 0) rfl Ty.fo36_0 rfl rfl) ?_
            refine WP.val rfl rfl rfl (Val.load rfl Ty.sc3 rfl (fun w h => h.cell 3 rfl rfl)) ?_
            refine WP.val rfl rfl rfl (Val.eql rfl rfl rfl) ?_
            refine WP.val rfl rfl rfl (Val.assign rfl rfl) ?_
            refine WP.nil ?_
            refine Out.next ?_
            refine WPc.ifP rfl (fun h7 => ?_) (fun h7 => ?_)
            · skip
              have h7 : (x.k = (4 : Int)) := h7
              refine WPc.region ?_
              refine WP.val rfl rfl rfl (Val.move rfl rfl) ?_
              refine WP.perm pl1 ?_
              refine WP.perm pl1 ?_
              refine WP.eff rfl rfl rfl (Eff.call rfl rfl Try.call42 (len_spec nb mb rb cap n kvs hg.kn)) ?_
              rintro _ _ ⟨_, ⟨rfl, rfl⟩, rfl⟩
              show WP _ _ _ _ _ _ _ (Blk nb [.map (some mb), .slice (some ⟨rb, 0, none⟩) n cap] 132 :: Mapk mb (.int .i64) (kvs) :: Blk b2 [.bool false, .int .i64 0, .int .i64 0, .int .i64 0] 40 :: Blk b1 [.int .i64 (x.k), .int .i64 (x.id), .int .i64 (x.at_)] 36 :: Blk rb (q.map QI.ptr ++ sp) 90 :: Its q :: Own 40 4 v i (flatOf QA.cells (answers ansI [] ((l).take i))) :: A :: F)
              refine WP.val rfl rfl rfl (Val.mk (cs := [.bool true, .int .i64 0, .int .i64 0, .int .i64 (((n : Nat) : Int))]) rfl rfl (fun _ => by kernel_rfl)) ?_
              refine WP.perm pl2 ?_
              refine WP.eff0 rfl rfl (Eff.storeAgg (cs := [.bool true, .int .i64 0, .int .i64 0, .int .i64 (((n : Nat) : Int))]) (C' := [.bool true, .int .i64 0, .int .i64 0, .int .i64 (((n : Nat) : Int))]) rfl Ty.ag40 rfl rfl rfl rfl (by simp) rfl) ?_
              rintro _ _ rfl
              refine WP.nil ?_
              refine Out.block ?_
              refine Out.next ?_
              refine WPc.region ?_
              refine WP.val rfl rfl rfl (Val.move rfl rfl) ?_
              refine WP.val rfl rfl rfl (Val.loadAgg (cs := [.bool true, .int .i64 0, .int .i64 0, .int .i64 (((n : Nat) : Int))]) rfl Ty.ag40 rfl rfl (fun w h => h.range 0 rfl rfl)) ?_
              refine WP.eff rfl rfl rfl (Eff.mkSlice (C := [.bool true, .int .i64 0, .int .i64 0, .int .i64 (((n : Nat) : Int))]) rfl Ty.sl37 rfl (fun _ => by kernel_rfl)) ?_
              rintro _ _ ⟨b9, rfl, rfl⟩
              refine WP.perm pl7 ?_
              refine WP.eff rfl rfl rfl (Eff.append (m := 1) (n0 := i) (news := [.bool true, .int .i64 0, .int .i64 0, .int .i64 (((n : Nat) : Int))]) rfl Ty.sl37 Ty.z40 rfl rfl rfl (.slice Ty.sl37 rfl rfl (fun w h => cells_range (h.range 1 rfl rfl))) (by omega) (by omega)) ?_
              rintro v10 _ ⟨onev10, rfl⟩
              refine WP.val rfl rfl rfl (Val.assign rfl rfl) ?_
              refine WP.nil ?_
              refine Out.block ?_
              refine Out.next ?_
              refine WPc.region ?_
              refine WP.val rfl rfl rfl (Val.move rfl rfl) ?_
              refine WP.val rfl rfl rfl (Val.add (z := ((i + 1 : Nat) : Int)) rfl rfl rfl ((w64 (by omega) (by omega)).trans (by omega))) ?_
              refine WP.val rfl rfl rfl (Val.assign rfl rfl) ?_
              refine WP.nil ?_
              have hak := ans_4 (m := qst ((l).take i)) (x := x) (by omega)
              have he : answers ansI [] ((l).take (i + 1)) = answers ansI [] ((l).take i) ++ [⟨true, 0, 0, (n : Int)⟩] := by
                rw [take_more hx, answers_snoc]
                refine congrArg (fun z => answers ansI [] ((l).take i) ++ [z]) (hak.1.trans ?_)
                rw [hml, hgl]
              refine Out.perm pl1 ?_
              refine Out.drop ?_
              refine Out.perm pl1 ?_
              refine Out.drop ?_
              refine Out.perm pl3 ?_
              refine Out.drop ?_
              refine Out.perm pl5 ?_
              refine Out.perm pl1 ?_
              refine Out.perm pl3 ?_
              refine Out.perm pl5 ?_
              refine Out.perm pl5 ?_
              refine Out.perm pl5 ?_
              refine Out.again (i + 1, rb, n, cap, sp, q, kvs, v10) ?_ ?_ ?_ ?_
              · exact ⟨by omega, hg, by omega, by rw [hst, hak.2]; exact hp⟩
              · (dsimp only; omega)
              · exact (Sub.cons rfl (Sub.cons rfl (Sub.cons rfl (Sub.cons rfl Sub.nil))))
              · exact (fun w h => by dsimp only; rw [he, flatOf_snoc]; exact h)
            · skip
              have h7 : ¬ (x.k = (4 : Int)) := h7
              refine WPc.skip ?_
              refine Out.block ?_
              refine Out.next ?_
              refine WPc.region ?_
              refine WP.val rfl rfl rfl (Val.move rfl rfl) ?_
              refine WP.val rfl rfl rfl (Val.loadAgg (cs := [.bool false, .int .i64 0, .int .i64 0, .int .i64 0]) rfl Ty.ag40 rfl rfl (fun w h => h.range 2 rfl rfl)) ?_
              refine WP.eff rfl rfl rfl (Eff.mkSlice (C := [.bool false, .int .i64 0, .int .i64 0, .int .i64 0]) rfl Ty.sl37 rfl (fun _ => by kernel_rfl)) ?_
              rintro _ _ ⟨b11, rfl, rfl⟩
              refine WP.perm pl7 ?_
              refine WP.eff rfl rfl rfl (Eff.append (m := 1) (n0 := i) (news := [.bool false, .int .i64 0, .int .i64 0, .int .i64 0]) rfl Ty.sl37 Ty.z40 rfl rfl rfl (.slice Ty.sl37 rfl rfl (fun w h => cells_range (h.range 1 rfl rfl))) (by omega) (by omega)) ?_
              rintro v12 _ ⟨onev12, rfl⟩
              refine WP.val rfl rfl rfl (Val.assign rfl rfl) ?_
              refine WP.nil ?_
              refine Out.block ?_
              refine Out.next ?_
              refine WPc.region ?_
              refine WP.val rfl rfl rfl (Val.move rfl rfl) ?_
              refine WP.val rfl rfl rfl (Val.add (z := ((i + 1 : Nat) : Int)) rfl rfl rfl ((w64 (by omega) (by omega)).trans (by omega))) ?_
              refine WP.val rfl rfl rfl (Val.assign rfl rfl) ?_
              refine WP.nil ?_
              have hak := ans_0 (m := qst ((l).take i)) (x := x) (by omega) (by omega) (fun _ => mn_empty hp hg.len h0)
              have he : answers ansI [] ((l).take (i + 1)) = answers ansI [] ((l).take i) ++ [⟨false, 0, 0, 0⟩] := by
                rw [take_more hx, answers_snoc]
                refine congrArg (fun z => answers ansI [] ((l).take i) ++ [z]) (hak.1.trans ?_)
                rfl
              refine Out.perm pl1 ?_
              refine Out.drop ?_
              refine Out.perm pl3 ?_
              refine Out.drop ?_
              refine Out.perm pl3 ?_
              refine Out.drop ?_
              refine Out.perm pl5 ?_
              refine Out.perm pl1 ?_
              refine Out.perm pl3 ?_
              refine Out.perm pl5 ?_
              refine Out.perm pl5 ?_
              refine Out.perm pl5 ?_
              refine Out.again (i + 1, rb, n, cap, sp, q, kvs, v12) ?_ ?_ ?_ ?_
              · exact ⟨by omega, hg, by omega, by rw [hst, hak.2]; exact hp⟩
              · (dsimp only; omega)
              · exact (Sub.cons rfl (Sub.cons rfl (Sub.cons rfl (Sub.cons rfl Sub.nil))))
              · exact (fun w h => by dsimp only; rw [he, flatOf_snoc]; exact h)
        · skip
          have h3 : ¬ (x.k = (2 : Int)) := h3
          refine WP.skip rfl rfl rfl rfl rfl rfl rfl ?_
          refine WP.skip rfl rfl rfl rfl rfl rfl rfl ?_
          refine WP.skip rfl rfl rfl rfl rfl rfl rfl ?_
          refine WP.val rfl rfl rfl (Val.pickF rfl rfl rfl) ?_
          refine WP.val rfl rfl rfl (Val.assign rfl rfl) ?_
          refine WP.nil ?_
          refine Out.next ?_
          refine WPc.condF rfl rfl ?_
          refine WPc.seq ?_
          refine WPc.region ?_
          refine WP.val rfl rfl rfl (Val.fieldAddr (j := 0) rfl Ty.fo36_0 rfl rfl) ?_
          refine WP.val rfl rfl rfl (Val.load rfl Ty.sc3 rfl (fun w h => h.cell 1 rfl rfl)) ?_
          refine WP.val rfl rfl rfl (Val.eql rfl rfl rfl) ?_
          refine WP.val rfl rfl rfl (Val.move rfl rfl) ?_
          refine WP.split 60 rfl (fun h8 => ?_) (fun h8 => ?_)
          · skip
            have h8 : (x.k = (3 : Int)) := h8
            refine WP.valG rfl rfl rfl rfl rfl rfl rfl (Val.move rfl rfl) ?_
            refine WP.perm pl5 ?_
            refine WP.perm pl3 ?_
            refine WP.effG rfl rfl rfl rfl rfl rfl rfl (Eff.call rfl rfl Try.call42 (len_spec nb mb rb cap n kvs hg.kn)) ?_
            rintro _ _ ⟨_, ⟨rfl, rfl⟩, rfl⟩
            show WP _ _ _ _ _ _ _ (Blk nb [.map (some mb), .slice (some ⟨rb, 0, none⟩) n cap] 132 :: Mapk mb (.int .i64) (kvs) :: Blk b2 [.bool false, .int .i64 0, .int .i64 0, .int .i64 0] 40 :: Blk b1 [.int .i64 (x.k), .int .i64 (x.id), .int .i64 (x.at_)] 36 :: Blk rb (q.map QI.ptr ++ sp) 90 :: Its q :: Own 40 4 v i (flatOf QA.cells (answers ansI [] ((l).take i))) :: A :: F)
            refine WP.valG rfl rfl rfl rfl rfl rfl rfl (Val.gtr rfl rfl rfl) ?_
            refine WP.val rfl rfl rfl (Val.pickT rfl rfl rfl) ?_
            refine WP.val rfl rfl rfl (Val.assign rfl rfl) ?_
            refine WP.nil ?_
            refine Out.next ?_
            refine WPc.ifP rfl (fun h9 => ?_) (fun h9 => ?_)
            · skip
              have h9 : ((0 : Int) < ((n : Nat) : Int)) := h9
              exfalso; omega
            · skip
              have h9 : ¬ ((0 : Int) < ((n : Nat) : Int)) := h9
              refine WPc.seq ?_
              refine WPc.region ?_
              refine WP.val rfl rfl rfl (Val.fieldAddr (j := 0) rfl Ty.fo36_0 rfl rfl) ?_
              refine WP.val rfl rfl rfl (Val.load rfl Ty.sc3 rfl (fun w h => h.cell 3 rfl rfl)) ?_
              refine WP.val rfl rfl rfl (Val.eql rfl rfl rfl) ?_
              refine WP.val rfl rfl rfl (Val.assign rfl rfl) ?_
              refine WP.nil ?_
              refine Out.next ?_
              refine WPc.ifP rfl (fun h10 => ?_) (fun h10 => ?_)
              · skip
                have h10 : (x.k = (4 : Int)) := h10
                refine WPc.region ?_
                refine WP.val rfl rfl rfl (Val.move rfl rfl) ?_
                refine WP.perm pl1 ?_
                refine WP.perm pl1 ?_
                refine WP.eff rfl rfl rfl (Eff.call rfl rfl Try.call42 (len_spec nb mb rb cap n kvs hg.kn)) ?_
                rintro _ _ ⟨_, ⟨rfl, rfl⟩, rfl⟩
                show WP _ _ _ _ _ _ _ (Blk nb [.map (some mb), .slice (some ⟨rb, 0, none⟩) n cap] 132 :: Mapk mb (.int .i64) (kvs) :: Blk b2 [.bool false, .int .i64 0, .int .i64 0, .int .i64 0] 40 :: Blk b1 [.int .i64 (x.k), .int .i64 (x.id), .int .i64 (x.at_)] 36 :: Blk rb (q.map QI.ptr ++ sp) 90 :: Its q :: Own 40 4 v i (flatOf QA.cells (answers ansI [] ((l).take i))) :: A :: F)
                refine WP.val rfl rfl rfl (Val.mk (cs := [.bool true, .int .i64 0, .int .i64 0, .int .i64 (((n : Nat) : Int))]) rfl rfl (fun _ => by kernel_rfl)) ?_
                refine WP.perm pl2 ?_
                refine WP.eff0 rfl rfl (Eff.storeAgg (cs := [.bool true, .int .i64 0, .int .i64 0, .int .i64 (((n : Nat) : Int))]) (C' := [.bool true, .int .i64 0, .int .i64 0, .int .i64 (((n : Nat) : Int))]) rfl Ty.ag40 rfl rfl rfl rfl (by simp) rfl) ?_
                rintro _ _ rfl
                refine WP.nil ?_
                refine Out.block ?_
                refine Out.next ?_
                refine WPc.region ?_
                refine WP.val rfl rfl rfl (Val.move rfl rfl) ?_
                refine WP.val rfl rfl rfl (Val.loadAgg (cs := [.bool true, .int .i64 0, .int .i64 0, .int .i64 (((n : Nat) : Int))]) rfl Ty.ag40 rfl rfl (fun w h => h.range 0 rfl rfl)) ?_
                refine WP.eff rfl rfl rfl (Eff.mkSlice (C := [.bool true, .int .i64 0, .int .i64 0, .int .i64 (((n : Nat) : Int))]) rfl Ty.sl37 rfl (fun _ => by kernel_rfl)) ?_
                rintro _ _ ⟨b13, rfl, rfl⟩
                refine WP.perm pl7 ?_
                refine WP.eff rfl rfl rfl (Eff.append (m := 1) (n0 := i) (news := [.bool true, .int .i64 0, .int .i64 0, .int .i64 (((n : Nat) : Int))]) rfl Ty.sl37 Ty.z40 rfl rfl rfl (.slice Ty.sl37 rfl rfl (fun w h => cells_range (h.range 1 rfl rfl))) (by omega) (by omega)) ?_
                rintro v14 _ ⟨onev14, rfl⟩
                refine WP.val rfl rfl rfl (Val.assign rfl rfl) ?_
                refine WP.nil ?_
                refine Out.block ?_
                refine Out.next ?_
                refine WPc.region ?_
                refine WP.val rfl rfl rfl (Val.move rfl rfl) ?_
                refine WP.val rfl rfl rfl (Val.add (z := ((i + 1 : Nat) : Int)) rfl rfl rfl ((w64 (by omega) (by omega)).trans (by omega))) ?_
                refine WP.val rfl rfl rfl (Val.assign rfl rfl) ?_
                refine WP.nil ?_
                have hak := ans_4 (m := qst ((l).take i)) (x := x) (by omega)
                have he : answers ansI [] ((l).take (i + 1)) = answers ansI [] ((l).take i) ++ [⟨true, 0, 0, (n : Int)⟩] := by
                  rw [take_more hx, answers_snoc]
                  refine congrArg (fun z => answers ansI [] ((l).take i) ++ [z]) (hak.1.trans ?_)
                  rw [hml, hgl]
                refine Out.perm pl1 ?_
                refine Out.drop ?_
                refine Out.perm pl1 ?_
                refine Out.drop ?_
                refine Out.perm pl3 ?_
                refine Out.drop ?_
                refine Out.perm pl5 ?_
                refine Out.perm pl1 ?_
                refine Out.perm pl3 ?_
                refine Out.perm pl5 ?_
                refine Out.perm pl5 ?_
                refine Out.perm pl5 ?_
                refine Out.again (i + 1, rb, n, cap, sp, q, kvs, v14) ?_ ?_ ?_ ?_
                · exact ⟨by omega, hg, by omega, by rw [hst, hak.2]; exact hp⟩
                · (dsimp only; omega)
                · exact (Sub.cons rfl (Sub.cons rfl (Sub.cons rfl (Sub.cons rfl Sub.nil))))
                · exact (fun w h => by dsimp only; rw [he, flatOf_snoc]; exact h)
              · skip
                have h10 : ¬ (x.k = (4 : Int)) := h10
                refine WPc.skip ?_
                refine Out.block ?_
                refine Out.next ?_
                refine WPc.region ?_
                refine WP.val rfl rfl rfl (Val.move rfl rfl) ?_
                refine WP.val rfl rfl rfl (Val.loadAgg (cs := [.bool false, .int .i64 0, .int .i64 0, .int .i64 0]) rfl Ty.ag40 rfl rfl (fun w h => h.range 2 rfl rfl)) ?_
                refine WP.eff rfl rfl rfl (Eff.mkSlice (C := [.bool false, .int .i64 0, .int .i64 0, .int .i64 0]) rfl Ty.sl37 rfl (fun _ => by kernel_rfl)) ?_
                rintro _ _ ⟨b15, rfl, rfl⟩
                refine WP.perm pl7 ?_
                refine WP.eff rfl rfl rfl (Eff.append (m := 1) (n0 := i) (news := [.bool false, .int .i64 0, .int .i64 0, .int .i64 0]) rfl Ty.sl37 Ty.z40 rfl rfl rfl (.slice Ty.sl37 rfl rfl (fun w h => cells_range (h.range 1 rfl rfl))) (by omega) (by omega)) ?_
                rintro v16 _ ⟨onev16, rfl⟩
                refine WP.val rfl rfl rfl (Val.assign rfl rfl) ?_
                refine WP.nil ?_
                refine Out.block ?_
                refine Out.next ?_
                refine WPc.region ?_
                refine WP.val rfl rfl rfl (Val.move rfl rfl) ?_
                refine WP.val rfl rfl rfl (Val.add (z := ((i + 1 : Nat) : Int)) rfl rfl rfl ((w64 (by omega) (by omega)).trans (by omega))) ?_
                refine WP.val rfl rfl rfl (Val.assign rfl rfl) ?_
                refine WP.nil ?_
                have hak := ans_0 (m := qst ((l).take i)) (x := x) (by omega) (by omega) (fun _ => mn_empty hp hg.len h0)
                have he : answers ansI [] ((l).take (i + 1)) = answers ansI [] ((l).take i) ++ [⟨false, 0, 0, 0⟩] := by
                  rw [take_more hx, answers_snoc]
                  refine congrArg (fun z => answers ansI [] ((l).take i) ++ [z]) (hak.1.trans ?_)
                  rfl
                refine Out.perm pl1 ?_
                refine Out.drop ?_
                refine Out.perm pl3 ?_
                refine Out.drop ?_
                refine Out.perm pl3 ?_
                refine Out.drop ?_
                refine Out.perm pl5 ?_
                refine Out.perm pl1 ?_
                refine Out.perm pl3 ?_
                refine Out.perm pl5 ?_
                refine Out.perm pl5 ?_
                refine Out.perm pl5 ?_
                refine Out.again (i + 1, rb, n, cap, sp, q, kvs, v16) ?_ ?_ ?_ ?_
                · exact ⟨by omega, hg, by omega, by rw [hst, hak.2]; exact hp⟩
                · (dsimp only; omega)
                · exact (Sub.cons rfl (Sub.cons rfl (Sub.cons rfl (Sub.cons rfl Sub.nil))))
                · exact (fun w h => by dsimp only; rw [he, flatOf_snoc]; exact h)
          · skip
            have h8 : ¬ (x.k = (3 : Int)) := h8
            refine WP.skip rfl rfl rfl rfl rfl rfl rfl ?_
            refine WP.skip rfl rfl rfl rfl rfl rfl rfl ?_
            refine WP.skip rfl rfl rfl rfl rfl rfl rfl ?_
            refine WP.val rfl rfl rfl (Val.pickF rfl rfl rfl) ?_
            refine WP.val rfl rfl rfl (Val.assign rfl rfl) ?_
            refine WP.nil ?_
            refine Out.next ?_
            refine WPc.condF rfl rfl ?_
            refine WPc.seq ?_
            refine WPc.region ?_
            refine WP.val rfl rfl rfl (Val.fieldAddr (j := 0) rfl Ty.fo36_0 rfl rfl) ?_
            refine WP.val rfl rfl rfl (Val.load rfl Ty.sc3 rfl (fun w h => h.cell 1 rfl rfl)) ?_
            refine WP.val rfl rfl rfl (Val.eql rfl rfl rfl) ?_
            refine WP.val rfl rfl rfl (Val.assign rfl rfl) ?_
            refine WP.nil ?_
            refine Out.next ?_
            refine WPc.ifP rfl (fun h11 => ?_) (fun h11 => ?_)
            · skip
              have h11 : (x.k = (4 : Int)) := h11
              refine WPc.region ?_
              refine WP.val rfl rfl rfl (Val.move rfl rfl) ?_
              refine WP.perm pl5 ?_
              refine WP.perm pl3 ?_
              refine WP.eff rfl rfl rfl (Eff.call rfl rfl Try.call42 (len_spec nb mb rb cap n kvs hg.kn)) ?_
              rintro _ _ ⟨_, ⟨rfl, rfl⟩, rfl⟩
              show WP _ _ _ _ _ _ _ (Blk nb [.map (some mb), .slice (some ⟨rb, 0, none⟩) n cap] 132 :: Mapk mb (.int .i64) (kvs) :: Blk b2 [.bool false, .int .i64 0, .int .i64 0, .int .i64 0] 40 :: Blk b1 [.int .i64 (x.k), .int .i64 (x.id), .int .i64 (x.at_)] 36 :: Blk rb (q.map QI.ptr ++ sp) 90 :: Its q :: Own 40 4 v i (flatOf QA.cells (answers ansI [] ((l).take i))) :: A :: F)
              refine WP.val rfl rfl rfl (Val.mk (cs := [.bool true, .int .i64 0, .int .i64 0, .int .i64 (((n : Nat) : Int))]) rfl rfl (fun _ => by kernel_rfl)) ?_
              refine WP.perm pl2 ?_
              refine WP.eff0 rfl rfl (Eff.storeAgg (cs := [.bool true, .int .i64 0, .int .i64 0, .int .i64 (((n : Nat) : Int))]) (C' := [.bool true, .int .i64 0, .int .i64 0, .int .i64 (((n : Nat) : Int))]) rfl Ty.ag40 rfl rfl rfl rfl (by simp) rfl) ?_
              rintro _ _ rfl
              refine WP.nil ?_
              refine Out.block ?_
              refine Out.next ?_
              refine WPc.region ?_
              refine WP.val rfl rfl rfl (Val.move rfl rfl) ?_
              refine WP.val rfl rfl rfl (Val.loadAgg (cs := [.bool true, .int .i64 0, .int .i64 0, .int .i64 (((n : Nat) : Int))]) rfl Ty.ag40 rfl rfl (fun w h => h.range 0 rfl rfl)) ?_
              refine WP.eff rfl rfl rfl (Eff.mkSlice (C := [.bool true, .int .i64 0, .int .i64 0, .int .i64 (((n : Nat) : Int))]) rfl Ty.sl37 rfl (fun _ => by kernel_rfl)) ?_
              rintro _ _ ⟨b17, rfl, rfl⟩
              refine WP.perm pl7 ?_
              refine WP.eff rfl rfl rfl (Eff.append (m := 1) (n0 := i) (news := [.bool true, .int .i64 0, .int .i64 0, .int .i64 (((n : Nat) : Int))]) rfl Ty.sl37 Ty.z40 rfl rfl rfl (.slice Ty.sl37 rfl rfl (fun w h => cells_range (h.range 1 rfl rfl))) (by omega) (by omega)) ?_
              rintro v18 _ ⟨onev18, rfl⟩
              refine WP.val rfl rfl rfl (Val.assign rfl rfl) ?_
              refine WP.nil ?_
              refine Out.block ?_
              refine Out.next ?_
              refine WPc.region ?_
              refine WP.val rfl rfl rfl (Val.move rfl rfl) ?_
              refine WP.val rfl rfl rfl (Val.add (z := ((i + 1 : Nat) : Int)) rfl rfl rfl ((w64 (by omega) (by omega)).trans (by omega))) ?_
              refine WP.val rfl rfl rfl (Val.assign rfl rfl) ?_
              refine WP.nil ?_
              have hak := ans_4 (m := qst ((l).take i)) (x := x) (by omega)
              have he : answers ansI [] ((l).take (i + 1)) = answers ansI [] ((l).take i) ++ [⟨true, 0, 0, (n : Int)⟩] := by
                rw [take_more hx, answers_snoc]
                refine congrArg (fun z => answers ansI [] ((l).take i) ++ [z]) (hak.1.trans ?_)
                rw [hml, hgl]
              refine Out.perm pl1 ?_
              refine Out.drop ?_
              refine Out.perm pl1 ?_
              refine Out.drop ?_
              refine Out.perm pl3 ?_
              refine Out.drop ?_
              refine Out.perm pl5 ?_
              refine Out.perm pl1 ?_
              refine Out.perm pl3 ?_
              refine Out.perm pl5 ?_
              refine Out.perm pl5 ?_
              refine Out.perm pl5 ?_
              refine Out.again (i + 1, rb, n, cap, sp, q, kvs, v18) ?_ ?_ ?_ ?_
              · exact ⟨by omega, hg, by omega, by rw [hst, hak.2]; exact hp⟩
              · (dsimp only; omega)
              · exact (Sub.cons rfl (Sub.cons rfl (Sub.cons rfl (Sub.cons rfl Sub.nil))))
              · exact (fun w h => by dsimp only; rw [he, flatOf_snoc]; exact h)
            · skip
              have h11 : ¬ (x.k = (4 : Int)) := h11
              refine WPc.skip ?_
              refine Out.block ?_
              refine Out.next ?_
              refine WPc.region ?_
              refine WP.val rfl rfl rfl (Val.move rfl rfl) ?_
              refine WP.val rfl rfl rfl (Val.loadAgg (cs := [.bool false, .int .i64 0, .int .i64 0, .int .i64 0]) rfl Ty.ag40 rfl rfl (fun w h => h.range 0 rfl rfl)) ?_
              refine WP.eff rfl rfl rfl (Eff.mkSlice (C := [.bool false, .int .i64 0, .int .i64 0, .int .i64 0]) rfl Ty.sl37 rfl (fun _ => by kernel_rfl)) ?_
              rintro _ _ ⟨b19, rfl, rfl⟩
              refine WP.perm pl7 ?_
              refine WP.eff rfl rfl rfl (Eff.append (m := 1) (n0 := i) (news := [.bool false, .int .i64 0, .int .i64 0, .int .i64 0]) rfl Ty.sl37 Ty.z40 rfl rfl rfl (.slice Ty.sl37 rfl rfl (fun w h => cells_range (h.range 1 rfl rfl))) (by omega) (by omega)) ?_
              rintro v20 _ ⟨onev20, rfl⟩
              refine WP.val rfl rfl rfl (Val.assign rfl rfl) ?_
              refine WP.nil ?_
              refine Out.block ?_
              refine Out.next ?_
              refine WPc.region ?_
              refine WP.val rfl rfl rfl (Val.move rfl rfl) ?_
              refine WP.val rfl rfl rfl (Val.add (z := ((i + 1 : Nat) : Int)) rfl rfl rfl ((w64 (by omega) (by omega)).trans (by omega))) ?_
              refine WP.val rfl rfl rfl (Val.assign rfl rfl) ?_
              refine WP.nil ?_
              have hak := ans_0 (m := qst ((l).take i)) (x := x) (by omega) (by omega) (fun _ => mn_empty hp hg.len h0)
              have he : answers ansI [] ((l).take (i + 1)) = answers ansI [] ((l).take i) ++ [⟨false, 0, 0, 0⟩] := by
                rw [take_more hx, answers_snoc]
                refine congrArg (fun z => answers ansI [] ((l).take i) ++ [z]) (hak.1.trans ?_)
                rfl
              refine Out.perm pl1 ?_
              refine Out.drop ?_
              refine Out.perm pl1 ?_
              refine Out.drop ?_
              refine Out.perm pl1 ?_
              refine Out.drop ?_
              refine Out.perm pl5 ?_
              refine Out.perm pl1 ?_
              refine Out.perm pl5 ?_
              refine Out.perm pl5 ?_
              refine Out.perm pl5 ?_
              refine Out.perm pl5 ?_
              refine Out.again (i + 1, rb, n, cap, sp, q, kvs, v20) ?_ ?_ ?_ ?_
              · exact ⟨by omega, hg, by omega, by rw [hst, hak.2]; exact hp⟩
              · (dsimp only; omega)
              · exact (Sub.cons rfl (Sub.cons rfl (Sub.cons rfl (Sub.cons rfl Sub.nil))))
              · exact (fun w h => by dsimp only; rw [he, flatOf_snoc]; exact h)
      · skip
        obtain ⟨y0, hy0⟩ : ∃ y, q[0]? = some y := ⟨_, List.getElem?_eq_getElem (by omega)⟩
        obtain ⟨y, hy, hyl, hyi, hyt⟩ := head_mn hp (hg.min hy0) hy0 hm hti
        have hya := hat y hyl
        refine WPc.region ?_
        refine WP.val rfl rfl rfl (Val.fieldAddr (j := 0) rfl Ty.fo36_0 rfl rfl) ?_
        refine WP.val rfl rfl rfl (Val.load rfl Ty.sc3 rfl (fun w h => h.cell 1 rfl rfl)) ?_
        refine WP.val rfl rfl rfl (Val.eql rfl rfl rfl) ?_
        refine WP.val rfl rfl rfl (Val.move rfl rfl) ?_
        refine WP.split 41 rfl (fun h12 => ?_) (fun h12 => ?_)
        · skip
          have h12 : (x.k = (2 : Int)) := h12
          refine WP.valG rfl rfl rfl rfl rfl rfl rfl (Val.move rfl rfl) ?_
          refine WP.perm pl3 ?_
          refine WP.perm pl5 ?_
          refine WP.perm pl4 ?_
          refine WP.effG rfl rfl rfl rfl rfl rfl rfl (Eff.call rfl rfl Try.call39 (peek_some nb mb rb cap n kvs hg.kn q y0 sp h0 (by omega) hy0)) ?_
          rintro _ _ ⟨_, ⟨rfl, rfl⟩, rfl⟩
          show WP _ _ _ _ _ _ _ (Blk nb [.map (some mb), .slice (some ⟨rb, 0, none⟩) n cap] 132 :: Mapk mb (.int .i64) (kvs) :: Blk rb (q.map QI.ptr ++ sp) 90 :: Blk b2 [.bool false, .int .i64 0, .int .i64 0, .int .i64 0] 40 :: Blk b1 [.int .i64 (x.k), .int .i64 (x.id), .int .i64 (x.at_)] 36 :: Its q :: Own 40 4 v i (flatOf QA.cells (answers ansI [] ((l).take i))) :: A :: F)
          refine WP.valG rfl rfl rfl rfl rfl rfl rfl (Val.nilPn rfl Ty.ip90 rfl rfl) ?_
          refine WP.val rfl rfl rfl (Val.pickT rfl rfl rfl) ?_
          refine WP.val rfl rfl rfl (Val.assign rfl rfl) ?_
          refine WP.nil ?_
          refine Out.next ?_
          refine WPc.condT rfl rfl ?_
          refine WPc.seq ?_
          refine WPc.region ?_
          refine WP.val rfl rfl rfl (Val.move rfl rfl) ?_
          refine WP.perm pl2 ?_
          refine WP.perm pl2 ?_
          refine WP.perm pl2 ?_
          refine WP.eff rfl rfl rfl (Eff.call rfl rfl Try.call39 (peek_some nb mb rb cap n kvs hg.kn q y0 sp h0 (by omega) hy0)) ?_
          rintro _ _ ⟨_, ⟨rfl, rfl⟩, rfl⟩
          show WP _ _ _ _ _ _ _ (Blk nb [.map (some mb), .slice (some ⟨rb, 0, none⟩) n cap] 132 :: Mapk mb (.int .i64) (kvs) :: Blk rb (q.map QI.ptr ++ sp) 90 :: Blk b2 [.bool false, .int .i64 0, .int .i64 0, .int .i64 0] 40 :: Blk b1 [.int .i64 (x.k), .int .i64 (x.id), .int .i64 (x.at_)] 36 :: Its q :: Own 40 4 v i (flatOf QA.cells (answers ansI [] ((l).take i))) :: A :: F)
          refine WP.perm pl5 ?_
          refine WP.eff rfl rfl rfl (Eff.call rfl rfl Try.call40 (zzof_spec (Its q) y0.b y0.id y0.t (its_zz (List.mem_of_getElem? hy0)))) ?_
          rintro _ _ ⟨_, ⟨rfl, rfl⟩, rfl⟩
          show WP _ _ _ _ _ _ _ (Its q :: Blk nb [.map (some mb), .slice (some ⟨rb, 0, none⟩) n cap] 132 :: Mapk mb (.int .i64) (kvs) :: Blk rb (q.map QI.ptr ++ sp) 90 :: Blk b2 [.bool false, .int .i64 0, .int .i64 0, .int .i64 0] 40 :: Blk b1 [.int .i64 (x.k), .int .i64 (x.id), .int .i64 (x.at_)] 36 :: Own 40 4 v i (flatOf QA.cells (answers ansI [] ((l).take i))) :: A :: F)
          refine WP.val rfl rfl rfl (Val.move rfl rfl) ?_
          refine WP.val rfl rfl rfl (Val.extract rfl rfl rfl) ?_
          refine WP.val rfl rfl rfl (Val.extract rfl rfl rfl) ?_
          refine WP.eff rfl rfl rfl (Eff.alloc rfl Ty.z94) ?_
          rintro _ _ ⟨b21, rfl, rfl⟩
          refine WP.val rfl rfl rfl (Val.assign rfl rfl) ?_
          refine WP.eff0 rfl rfl (Eff.storeAgg (cs := [.int .i64 ((((y0.t / 1000000000) : Nat) : Int)), .int .i64 ((((y0.t % 1000000000) : Nat) : Int)), .bool true]) (C' := [.int .i64 ((((y0.t / 1000000000) : Nat) : Int)), .int .i64 ((((y0.t % 1000000000) : Nat) : Int)), .bool true]) rfl Ty.ag94 rfl rfl rfl rfl (by simp) rfl) ?_
          rintro _ _ rfl
          refine WP.nil ?_
          refine Out.next ?_
          refine WPc.region ?_
          refine WP.val rfl rfl rfl (Val.move rfl rfl) ?_
          refine WP.val rfl rfl rfl (Val.loadAgg (cs := [.int .i64 ((((y0.t / 1000000000) : Nat) : Int)), .int .i64 ((((y0.t % 1000000000) : Nat) : Int)), .bool true]) rfl Ty.ag94 rfl rfl (fun w h => h.range 0 rfl rfl)) ?_
          refine WP.eff rfl rfl rfl (Eff.call rfl rfl Try.call41 (nanos_spec y0.t (by omega))) ?_
          rintro _ _ ⟨_, ⟨rfl, rfl⟩, rfl⟩
          show WP _ _ _ _ _ _ _ (Blk b21 [.int .i64 ((((y0.t / 1000000000) : Nat) : Int)), .int .i64 ((((y0.t % 1000000000) : Nat) : Int)), .bool true] 94 :: Its q :: Blk nb [.map (some mb), .slice (some ⟨rb, 0, none⟩) n cap] 132 :: Mapk mb (.int .i64) (kvs) :: Blk rb (q.map QI.ptr ++ sp) 90 :: Blk b2 [.bool false, .int .i64 0, .int .i64 0, .int .i64 0] 40 :: Blk b1 [.int .i64 (x.k), .int .i64 (x.id), .int .i64 (x.at_)] 36 :: Own 40 4 v i (flatOf QA.cells (answers ansI [] ((l).take i))) :: A :: F)
          refine WP.val rfl rfl rfl (Val.mk (cs := [.bool true, .int .i64 (y0.id), .int .i64 (((y0.t : Nat) : Int)), .int .i64 0]) rfl rfl (fun _ => by kernel_rfl)) ?_
          refine WP.perm pl5 ?_
          refine WP.eff0 rfl rfl (Eff.storeAgg (cs := [.bool true, .int .i64 (y0.id), .int .i64 (((y0.t : Nat) : Int)), .int .i64 0]) (C' := [.bool true, .int .i64 (y0.id), .int .i64 (((y0.t : Nat) : Int)), .int .i64 0]) rfl Ty.ag40 rfl rfl rfl rfl (by simp) rfl) ?_
          rintro _ _ rfl
          refine WP.nil ?_
          refine Out.block ?_
          refine Out.next ?_
          refine WPc.region ?_
          refine WP.val rfl rfl rfl (Val.move rfl rfl) ?_
          refine WP.val rfl rfl rfl (Val.loadAgg (cs := [.bool true, .int .i64 (y0.id), .int .i64 (((y0.t : Nat) : Int)), .int .i64 0]) rfl Ty.ag40 rfl rfl (fun w h => h.range 0 rfl rfl)) ?_
          refine WP.eff rfl rfl rfl (Eff.mkSlice (C := [.bool true, .int .i64 (y0.id), .int .i64 (((y0.t : Nat) : Int)), .int .i64 0]) rfl Ty.sl37 rfl (fun _ => by kernel_rfl)) ?_
          rintro _ _ ⟨b22, rfl, rfl⟩
          refine WP.perm pl8 ?_
          refine WP.eff rfl rfl rfl (Eff.append (m := 1) (n0 := i) (news := [.bool true, .int .i64 (y0.id), .int .i64 (((y0.t : Nat) : Int)), .int .i64 0]) rfl Ty.sl37 Ty.z40 rfl rfl rfl (.slice Ty.sl37 rfl rfl (fun w h => cells_range (h.range 1 rfl rfl))) (by omega) (by omega)) ?_
          rintro v23 _ ⟨onev23, rfl⟩
          refine WP.val rfl rfl rfl (Val.assign rfl rfl) ?_
          refine WP.nil ?_
          refine Out.block ?_
          refine Out.next ?_
          refine WPc.region ?_
          refine WP.val rfl rfl rfl (Val.move rfl rfl) ?_
          refine WP.val rfl rfl rfl (Val.add (z := ((i + 1 : Nat) : Int)) rfl rfl rfl ((w64 (by omega) (by omega)).trans (by omega))) ?_
          refine WP.val rfl rfl rfl (Val.assign rfl rfl) ?_
          refine WP.nil ?_
          have hak := ans_2 (m := qst ((l).take i)) (x := x) (by omega) hy
          have he : answers ansI [] ((l).take (i + 1)) = answers ansI [] ((l).take i) ++ [⟨true, y0.id, (y0.t : Int), 0⟩] := by
            rw [take_more hx, answers_snoc]
            refine congrArg (fun z => answers ansI [] ((l).take i) ++ [z]) (hak.1.trans ?_)
            rw [hyi, hyt]
          refine Out.perm pl1 ?_
          refine Out.drop ?_
          refine Out.perm pl1 ?_
          refine Out.drop ?_
          refine Out.perm pl1 ?_
          refine Out.drop ?_
          refine Out.perm pl5 ?_
          refine Out.drop ?_
          refine Out.perm pl5 ?_
          refine Out.perm pl1 ?_
          refine Out.perm pl4 ?_
          refine Out.perm pl3 ?_
          refine Out.perm pl5 ?_
          refine Out.perm pl5 ?_
          refine Out.again (i + 1, rb, n, cap, sp, q, kvs, v23) ?_ ?_ ?_ ?_
          · exact ⟨by omega, hg, by omega, by rw [hst, hak.2]; exact hp⟩
          · (dsimp only; omega)
          · exact (Sub.cons rfl (Sub.cons rfl (Sub.cons rfl (Sub.cons rfl Sub.nil))))
          · exact (fun w h => by dsimp only; rw [he, flatOf_snoc]; exact h)
        · skip
          have h12 : ¬ (x.k = (2 : Int)) := h12
          refine WP.skip rfl rfl rfl rfl rfl rfl rfl ?_
          refine WP.skip rfl rfl rfl rfl rfl rfl rfl ?_
          refine WP.skip rfl rfl rfl rfl rfl rfl rfl ?_
          refine WP.val rfl rfl rfl (Val.pickF rfl rfl rfl) ?_
          refine WP.val rfl rfl rfl (Val.assign rfl rfl) ?_
          refine WP.nil ?_
          refine Out.next ?_
          refine WPc.condF rfl rfl ?_
          refine WPc.seq ?_
          refine WPc.region ?_
          refine WP.val rfl rfl rfl (Val.fieldAddr (j := 0) rfl Ty.fo36_0 rfl rfl) ?_
          refine WP.val rfl rfl rfl (Val.load rfl Ty.sc3 rfl (fun w h => h.cell 1 rfl rfl)) ?_
          refine WP.val rfl rfl rfl (Val.eql rfl rfl rfl) ?_
          refine WP.val rfl rfl rfl (Val.move rfl rfl) ?_
          refine WP.split 60 rfl (fun h13 => ?_) (fun h13 => ?_)
          · skip
            have h13 : (x.k = (3 : Int)) := h13
            refine WP.valG rfl rfl rfl rfl rfl rfl rfl (Val.move rfl rfl) ?_
            refine WP.perm pl5 ?_
            refine WP.perm pl3 ?_
            refine WP.effG rfl rfl rfl rfl rfl rfl rfl (Eff.call rfl rfl Try.call42 (len_spec nb mb rb cap n kvs hg.kn)) ?_
            rintro _ _ ⟨_, ⟨rfl, rfl⟩, rfl⟩
            show WP _ _ _ _ _ _ _ (Blk nb [.map (some mb), .slice (some ⟨rb, 0, none⟩) n cap] 132 :: Mapk mb (.int .i64) (kvs) :: Blk b2 [.bool false, .int .i64 0, .int .i64 0, .int .i64 0] 40 :: Blk b1 [.int .i64 (x.k), .int .i64 (x.id), .int .i64 (x.at_)] 36 :: Blk rb (q.map QI.ptr ++ sp) 90 :: Its q :: Own 40 4 v i (flatOf QA.cells (answers ansI [] ((l).take i))) :: A :: F)
            refine WP.valG rfl rfl rfl rfl rfl rfl rfl (Val.gtr rfl rfl rfl) ?_
            refine WP.val rfl rfl rfl (Val.pickT rfl rfl rfl) ?_
            refine WP.val rfl rfl rfl (Val.assign rfl rfl) ?_
            refine WP.nil ?_
            refine Out.next ?_
            refine WPc.ifP rfl (fun h14 => ?_) (fun h14 => ?_)
            · skip
              have h14 : ((0 : Int) < ((n : Nat) : Int)) := h14
              refine WPc.seq ?_
              obtain ⟨n1, rfl⟩ : ∃ k, n = k + 1 := ⟨n - 1, by omega⟩
              show WPc _ _ _ _ _ _ (Blk nb [.map (some mb), .slice (some ⟨rb, 0, none⟩) ((n1 + 1)) cap] 132 :: Mapk mb (.int .i64) (kvs) :: Blk b2 [.bool false, .int .i64 0, .int .i64 0, .int .i64 0] 40 :: Blk b1 [.int .i64 (x.k), .int .i64 (x.id), .int .i64 (x.at_)] 36 :: Blk rb (q.map QI.ptr ++ sp) 90 :: Its q :: Own 40 4 v i (flatOf QA.cells (answers ansI [] ((l).take i))) :: A :: F)
              refine WPc.region ?_
              refine WP.val rfl rfl rfl (Val.move rfl rfl) ?_
              refine WP.perm pl1 ?_
              refine WP.perm pl5 ?_
              refine WP.perm pl5 ?_
              refine WP.perm pl3 ?_
              refine WP.eff rfl rfl rfl (Eff.call rfl rfl Try.call43 (unreg2 nb mb rb cap n1 sp q kvs hg (by omega) hnd y0 hy0)) ?_
              rintro _ _ ⟨_, ⟨q2, kvs2, hg2, hp2, rfl, rfl⟩, rfl⟩
              show WP _ _ _ _ _ _ _ (Blk nb [.map (some mb), .slice (some ⟨rb, 0, none⟩) n1 cap] 132 :: Blk rb (q2.map QI.ptr ++ (y0.ptr :: sp)) 90 :: Blk y0.b [.int .i64 (y0.id), .int .i64 ((((y0.t / 1000000000) : Nat) : Int)), .int .i64 ((((y0.t % 1000000000) : Nat) : Int)), .bool true, .int .i64 (-1)] 134 :: Its q2 :: Mapk mb (.int .i64) (kvs2) :: Blk b2 [.bool false, .int .i64 0, .int .i64 0, .int .i64 0] 40 :: Blk b1 [.int .i64 (x.k), .int .i64 (x.id), .int .i64 (x.at_)] 36 :: Own 40 4 v i (flatOf QA.cells (answers ansI [] ((l).take i))) :: A :: F)
              refine WP.perm pl2 ?_
              refine WP.eff rfl rfl rfl (Eff.call rfl rfl Try.call40 (zzof_spec (Blk y0.b [.int .i64 (y0.id), .int .i64 ((((y0.t / 1000000000) : Nat) : Int)), .int .i64 ((((y0.t % 1000000000) : Nat) : Int)), .bool true, .int .i64 (-1)] 134) y0.b y0.id y0.t blk_zz)) ?_
              rintro _ _ ⟨_, ⟨rfl, rfl⟩, rfl⟩
              show WP _ _ _ _ _ _ _ (Blk y0.b [.int .i64 (y0.id), .int .i64 ((((y0.t / 1000000000) : Nat) : Int)), .int .i64 ((((y0.t % 1000000000) : Nat) : Int)), .bool true, .int .i64 (-1)] 134 :: Blk nb [.map (some mb), .slice (some ⟨rb, 0, none⟩) n1 cap] 132 :: Blk rb (q2.map QI.ptr ++ (y0.ptr :: sp)) 90 :: Its q2 :: Mapk mb (.int .i64) (kvs2) :: Blk b2 [.bool false, .int .i64 0, .int .i64 0, .int .i64 0] 40 :: Blk b1 [.int .i64 (x.k), .int .i64 (x.id), .int .i64 (x.at_)] 36 :: Own 40 4 v i (flatOf QA.cells (answers ansI [] ((l).take i))) :: A :: F)
              refine WP.val rfl rfl rfl (Val.move rfl rfl) ?_
              refine WP.val rfl rfl rfl (Val.extract rfl rfl rfl) ?_
              refine WP.val rfl rfl rfl (Val.extract rfl rfl rfl) ?_
              refine WP.eff rfl rfl rfl (Eff.alloc rfl Ty.z94) ?_
              rintro _ _ ⟨b24, rfl, rfl⟩
              refine WP.val rfl rfl rfl (Val.assign rfl rfl) ?_
              refine WP.eff0 rfl rfl (Eff.storeAgg (cs := [.int .i64 ((((y0.t / 1000000000) : Nat) : Int)), .int .i64 ((((y0.t % 1000000000) : Nat) : Int)), .bool true]) (C' := [.int .i64 ((((y0.t / 1000000000) : Nat) : Int)), .int .i64 ((((y0.t % 1000000000) : Nat) : Int)), .bool true]) rfl Ty.ag94 rfl rfl rfl rfl (by simp) rfl) ?_
              rintro _ _ rfl
              refine WP.nil ?_
              refine Out.next ?_
              refine WPc.region ?_
              refine WP.val rfl rfl rfl (Val.move rfl rfl) ?_
              refine WP.val rfl rfl rfl (Val.loadAgg (cs := [.int .i64 ((((y0.t / 1000000000) : Nat) : Int)), .int .i64 ((((y0.t % 1000000000) : Nat) : Int)), .bool true]) rfl Ty.ag94 rfl rfl (fun w h => h.range 0 rfl rfl)) ?_
              refine WP.eff rfl rfl rfl (Eff.call rfl rfl Try.call41 (nanos_spec y0.t (by omega))) ?_
              rintro _ _ ⟨_, ⟨rfl, rfl⟩, rfl⟩
              show WP _ _ _ _ _ _ _ (Blk b24 [.int .i64 ((((y0.t / 1000000000) : Nat) : Int)), .int .i64 ((((y0.t % 1000000000) : Nat) : Int)), .bool true] 94 :: Blk y0.b [.int .i64 (y0.id), .int .i64 ((((y0.t / 1000000000) : Nat) : Int)), .int .i64 ((((y0.t % 1000000000) : Nat) : Int)), .bool true, .int .i64 (-1)] 134 :: Blk nb [.map (some mb), .slice (some ⟨rb, 0, none⟩) n1 cap] 132 :: Blk rb (q2.map QI.ptr ++ (y0.ptr :: sp)) 90 :: Its q2 :: Mapk mb (.int .i64) (kvs2) :: Blk b2 [.bool false, .int .i64 0, .int .i64 0, .int .i64 0] 40 :: Blk b1 [.int .i64 (x.k), .int .i64 (x.id), .int .i64 (x.at_)] 36 :: Own 40 4 v i (flatOf QA.cells (answers ansI [] ((l).take i))) :: A :: F)
              refine WP.val rfl rfl rfl (Val.mk (cs := [.bool true, .int .i64 (y0.id), .int .i64 (((y0.t : Nat) : Int)), .int .i64 0]) rfl rfl (fun _ => by kernel_rfl)) ?_
              refine WP.perm pl6 ?_
              refine WP.eff0 rfl rfl (Eff.storeAgg (cs := [.bool true, .int .i64 (y0.id), .int .i64 (((y0.t : Nat) : Int)), .int .i64 0]) (C' := [.bool true, .int .i64 (y0.id), .int .i64 (((y0.t : Nat) : Int)), .int .i64 0]) rfl Ty.ag40 rfl rfl rfl rfl (by simp) rfl) ?_
              rintro _ _ rfl
              refine WP.nil ?_
              refine Out.block ?_
              refine Out.next ?_
              refine WPc.region ?_
              refine WP.val rfl rfl rfl (Val.move rfl rfl) ?_
              refine WP.val rfl rfl rfl (Val.loadAgg (cs := [.bool true, .int .i64 (y0.id), .int .i64 (((y0.t : Nat) : Int)), .int .i64 0]) rfl Ty.ag40 rfl rfl (fun w h => h.range 0 rfl rfl)) ?_
              refine WP.eff rfl rfl rfl (Eff.mkSlice (C := [.bool true, .int .i64 (y0.id), .int .i64 (((y0.t : Nat) : Int)), .int .i64 0]) rfl Ty.sl37 rfl (fun _ => by kernel_rfl)) ?_
              rintro _ _ ⟨b25, rfl, rfl⟩
              refine WP.perm pl9 ?_
              refine WP.eff rfl rfl rfl (Eff.append (m := 1) (n0 := i) (news := [.bool true, .int .i64 (y0.id), .int .i64 (((y0.t : Nat) : Int)), .int .i64 0]) rfl Ty.sl37 Ty.z40 rfl rfl rfl (.slice Ty.sl37 rfl rfl (fun w h => cells_range (h.range 1 rfl rfl))) (by omega) (by omega)) ?_
              rintro v26 _ ⟨onev26, rfl⟩
              refine WP.val rfl rfl rfl (Val.assign rfl rfl) ?_
              refine WP.nil ?_
              refine Out.block ?_
              refine Out.next ?_
              refine WPc.region ?_
              refine WP.val rfl rfl rfl (Val.move rfl rfl) ?_
              refine WP.val rfl rfl rfl (Val.add (z := ((i + 1 : Nat) : Int)) rfl rfl rfl ((w64 (by omega) (by omega)).trans (by omega))) ?_
              refine WP.val rfl rfl rfl (Val.assign rfl rfl) ?_
              refine WP.nil ?_
              have hak := ans_3 (m := qst ((l).take i)) (x := x) (by omega) hy
              have he : answers ansI [] ((l).take (i + 1)) = answers ansI [] ((l).take i) ++ [⟨true, y0.id, (y0.t : Int), 0⟩] := by
                rw [take_more hx, answers_snoc]
                refine congrArg (fun z => answers ansI [] ((l).take i) ++ [z]) (hak.1.trans ?_)
                rw [hyi, hyt]
              refine Out.perm pl1 ?_
              refine Out.drop ?_
              refine Out.perm pl1 ?_
              refine Out.drop ?_
              refine Out.perm pl1 ?_
              refine Out.drop ?_
              refine Out.perm pl1 ?_
              refine Out.drop ?_
              refine Out.perm pl5 ?_
              refine Out.drop ?_
              refine Out.perm pl5 ?_
              refine Out.perm pl1 ?_
              refine Out.perm pl5 ?_
              refine Out.perm pl5 ?_
              refine Out.perm pl5 ?_
              refine Out.perm pl5 ?_
              refine Out.again (i + 1, rb, n1, cap, y0.ptr :: sp, q2, kvs2, v26) ?_ ?_ ?_ ?_
              · exact ⟨by omega, hg2, by omega, by rw [hst, hak.2, hyi]; exact step_3 hp hp2⟩
              · (dsimp only; omega)
              · exact (Sub.cons rfl (Sub.cons rfl (Sub.cons rfl (Sub.cons rfl Sub.nil))))
              · exact (fun w h => by dsimp only; rw [he, flatOf_snoc]; exact h)
            · skip
              have h14 : ¬ ((0 : Int) < ((n : Nat) : Int)) := h14
              exfalso; omega
          · skip
            have h13 : ¬ (x.k = (3 : Int)) := h13
            refine WP.skip rfl rfl rfl rfl rfl rfl rfl ?_
            refine WP.skip rfl rfl rfl rfl rfl rfl rfl ?_
            refine WP.skip rfl rfl rfl rfl rfl rfl rfl ?_
            refine WP.val rfl rfl rfl (Val.pickF rfl rfl rfl) ?_
            refine WP.val rfl rfl rfl (Val.assign rfl rfl) ?_
            refine WP.nil ?_
            refine Out.next ?_
            refine WPc.condF rfl rfl ?_
            refine WPc.seq ?_
            refine WPc.region ?_
            refine WP.val rfl rfl rfl (Val.fieldAddr (j := 0) rfl Ty.fo36_0 rfl rfl) ?_
            refine WP.val rfl rfl rfl (Val.load rfl Ty.sc3 rfl (fun w h => h.cell 1 rfl rfl)) ?_
            refine WP.val rfl rfl rfl (Val.eql rfl rfl rfl) ?_
            refine WP.val rfl rfl rfl (Val.assign rfl rfl) ?_
            refine WP.nil ?_
            refine Out.next ?_
            refine WPc.ifP rfl (fun h15 => ?_) (fun h15 => ?_)
            · skip
              have h15 : (x.k = (4 : Int)) := h15
              refine WPc.region ?_
              refine WP.val rfl rfl rfl (Val.move rfl rfl) ?_
              refine WP.perm pl5 ?_
              refine WP.perm pl3 ?_
              refine WP.eff rfl rfl rfl (Eff.call rfl rfl Try.call42 (len_spec nb mb rb cap n kvs hg.kn)) ?_
              rintro _ _ ⟨_, ⟨rfl, rfl⟩, rfl⟩
              show WP _ _ _ _ _ _ _ (Blk nb [.map (some mb), .slice (some ⟨rb, 0, none⟩) n cap] 132 :: Mapk mb (.int .i64) (kvs) :: Blk b2 [.bool false, .int .i64 0, .int .i64 0, .int .i64 0] 40 :: Blk b1 [.int .i64 (x.k), .int .i64 (x.id), .int .i64 (x.at_)] 36 :: Blk rb (q.map QI.ptr ++ sp) 90 :: Its q :: Own 40 4 v i (flatOf QA.cells (answers ansI [] ((l).take i))) :: A :: F)
              refine WP.val rfl rfl rfl (Val.mk (cs := [.bool true, .int .i64 0, .int .i64 0, .int .i64 (((n : Nat) : Int))]) rfl rfl (fun _ => by kernel_rfl)) ?_
              refine WP.perm pl2 ?_
              refine WP.eff0 rfl rfl (Eff.storeAgg (cs := [.bool true, .int .i64 0, .int .i64 0, .int .i64 (((n : Nat) : Int))]) (C' := [.bool true, .int .i64 0, .int .i64 0, .int .i64 (((n : Nat) : Int))]) rfl Ty.ag40 rfl rfl rfl rfl (by simp) rfl) ?_
              rintro _ _ rfl
              refine WP.nil ?_
              refine Out.block ?_
              refine Out.next ?_
              refine WPc.region ?_
              refine WP.val rfl rfl rfl (Val.move rfl rfl) ?_
              refine WP.val rfl rfl rfl (Val.loadAgg (cs := [.bool true, .int .i64 0, .int .i64 0, .int .i64 (((n : Nat) : Int))]) rfl Ty.ag40 rfl rfl (fun w h => h.range 0 rfl rfl)) ?_
              refine WP.eff rfl rfl rfl (Eff.mkSlice (C := [.bool true, .int .i64 0, .int .i64 0, .int .i64 (((n : Nat) : Int))]) rfl Ty.sl37 rfl (fun _ => by kernel_rfl)) ?_
              rintro _ _ ⟨b27, rfl, rfl⟩
              refine WP.perm pl7 ?_
              refine WP.eff rfl rfl rfl (Eff.append (m := 1) (n0 := i) (news := [.bool true, .int .i64 0, .int .i64 0, .int .i64 (((n : Nat) : Int))]) rfl Ty.sl37 Ty.z40 rfl rfl rfl (.slice Ty.sl37 rfl rfl (fun w h => cells_range (h.range 1 rfl rfl))) (by omega) (by omega)) ?_
              rintro v28 _ ⟨onev28, rfl⟩
              refine WP.val rfl rfl rfl (Val.assign rfl rfl) ?_
              refine WP.nil ?_
              refine Out.block ?_
              refine Out.next ?_
              refine WPc.region ?_
              refine WP.val rfl rfl rfl (Val.move rfl rfl) ?_
              refine WP.val rfl rfl rfl (Val.add (z := ((i + 1 : Nat) : Int)) rfl rfl rfl ((w64 (by omega) (by omega)).trans (by omega))) ?_
              refine WP.val rfl rfl rfl (Val.assign rfl rfl) ?_
              refine WP.nil ?_
              have hak := ans_4 (m := qst ((l).take i)) (x := x) (by omega)
              have he : answers ansI [] ((l).take (i + 1)) = answers ansI [] ((l).take i) ++ [⟨true, 0, 0, (n : Int)⟩] := by
                rw [take_more hx, answers_snoc]
                refine congrArg (fun z => answers ansI [] ((l).take i) ++ [z]) (hak.1.trans ?_)
                rw [hml, hgl]
              refine Out.perm pl1 ?_
              refine Out.drop ?_
              refine Out.perm pl1 ?_
              refine Out.drop ?_
              refine Out.perm pl3 ?_
              refine Out.drop ?_
              refine Out.perm pl5 ?_
              refine Out.perm pl1 ?_
              refine Out.perm pl3 ?_
              refine Out.perm pl5 ?_
              refine Out.perm pl5 ?_
              refine Out.perm pl5 ?_
              refine Out.again (i + 1, rb, n, cap, sp, q, kvs, v28) ?_ ?_ ?_ ?_
              · exact ⟨by omega, hg, by omega, by rw [hst, hak.2]; exact hp⟩
              · (dsimp only; omega)
              · exact (Sub.cons rfl (Sub.cons rfl (Sub.cons rfl (Sub.cons rfl Sub.nil))))
              · exact (fun w h => by dsimp only; rw [he, flatOf_snoc]; exact h)
            · skip
              have h15 : ¬ (x.k = (4 : Int)) := h15
              refine WPc.skip ?_
              refine Out.block ?_
              refine Out.next ?_
              refine WPc.region ?_
              refine WP.val rfl rfl rfl (Val.move rfl rfl) ?_
              refine WP.val rfl rfl rfl (Val.loadAgg (cs := [.bool false, .int .i64 0, .int .i64 0, .int .i64 0]) rfl Ty.ag40 rfl rfl (fun w h => h.range 0 rfl rfl)) ?_
              refine WP.eff rfl rfl rfl (Eff.mkSlice (C := [.bool false, .int .i64 0, .int .i64 0, .int .i64 0]) rfl Ty.sl37 rfl (fun _ => by kernel_rfl)) ?_
              rintro _ _ ⟨b29, rfl, rfl⟩
              refine WP.perm pl7 ?_
              refine WP.eff rfl rfl rfl (Eff.append (m := 1) (n0 := i) (news := [.bool false, .int .i64 0, .int .i64 0, .int .i64 0]) rfl Ty.sl37 Ty.z40 rfl rfl rfl (.slice Ty.sl37 rfl rfl (fun w h => cells_range (h.range 1 rfl rfl))) (by omega) (by omega)) ?_
              rintro v30 _ ⟨onev30, rfl⟩
              refine WP.val rfl rfl rfl (Val.assign rfl rfl) ?_
              refine WP.nil ?_
              refine Out.block ?_
              refine Out.next ?_
              refine WPc.region ?_
              refine WP.val rfl rfl rfl (Val.move rfl rfl) ?_
              refine WP.val rfl rfl rfl (Val.add (z := ((i + 1 : Nat) : Int)) rfl rfl rfl ((w64 (by omega) (by omega)).trans (by omega))) ?_
              refine WP.val rfl rfl rfl (Val.assign rfl rfl) ?_
              refine WP.nil ?_
              have hak := ans_0 (m := qst ((l).take i)) (x := x) (by omega) (by omega) (fun hh => absurd hh (by omega))
              have he : answers ansI [] ((l).take (i + 1)) = answers ansI [] ((l).take i) ++ [⟨false, 0, 0, 0⟩] := by
                rw [take_more hx, answers_snoc]
                refine congrArg (fun z => answers ansI [] ((l).take i) ++ [z]) (hak.1.trans ?_)
                rfl
              refine Out.perm pl1 ?_
              refine Out.drop ?_
              refine Out.perm pl1 ?_
              refine Out.drop ?_
              refine Out.perm pl1 ?_
              refine Out.drop ?_
              refine Out.perm pl5 ?_
              refine Out.perm pl1 ?_
              refine Out.perm pl5 ?_
              refine Out.perm pl5 ?_
              refine Out.perm pl5 ?_
              refine Out.perm pl5 ?_
              refine Out.again (i + 1, rb, n, cap, sp, q, kvs, v30) ?_ ?_ ?_ ?_
              · exact ⟨by omega, hg, by omega, by rw [hst, hak.2]; exact hp⟩
              · (dsimp only; omega)
              · exact (Sub.cons rfl (Sub.cons rfl (Sub.cons rfl (Sub.cons rfl Sub.nil))))
              · exact (fun w h => by dsimp only; rw [he, flatOf_snoc]; exact h)
  · skip
    have h1 : ¬ (((i : Nat) : Int) < ((l.length : Nat) : Int)) := h1
    refine WPc.exit ?_
    refine Out.then_exit ?_
    refine Out.then_exit ?_
    refine Out.block_exit ?_
    refine Out.next ?_
    refine WPc.seq ?_
    refine WPc.region ?_
    refine WP.val rfl rfl rfl (Val.move rfl rfl) ?_
    refine WP.val rfl rfl rfl (Val.assign rfl rfl) ?_
    refine WP.nil ?_
    refine Out.next ?_
    refine WPc.ret ?_
    have hti2 : (l).take i = l := List.take_of_length_le (by first | omega | (simp at *; try omega))
    have hil : i = (l).length := by first | omega | (simp at *; omega)
    refine Out.drop ?_
    refine Out.drop ?_
    refine Out.drop ?_
    refine Out.drop ?_
    exact Out.ret1 (L' := _) Try.results14 rfl rfl (fun w h => by rw [hti2, hil] at h; exact h)

theorem impl_spec (A : HProp) (l : List QOp) (hl : l.length ≤ 200) (hat : ∀ x ∈ l, 0 ≤ x.at_ ∧ x.at_ ≤ 1152921504606846976) (hti : NoTie l) (va : Value) (hva : Rd A 3 QOp.cells va l) : Does Try.prog 14 [va] [A] (fun v L => L = [Own 40 4 v l.length (flatOf QA.cells (answers ansI [] l)), A]) := by
  rcases hva with ⟨b0, o0, c0, rfl, hr⟩ | ⟨rfl, a, c, rfl⟩
  · exact impl_row A l hl hat hti b0 o0 c0 hr
  · exact impl_nil A a c

end Go.Proofs.Ythmkdioafjmclaa.Qi
