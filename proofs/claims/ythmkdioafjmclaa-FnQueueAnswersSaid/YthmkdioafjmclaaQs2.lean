import Derived.Test.YthmkdioafjmclaaQs
namespace Go.Proofs.Ythmkdioafjmclaa.Qs2
open Go.RowKit Go.Proofs.Ythmkdioafjmclaa Go.Proofs.Ythmkdioafjmclaa.Sl Go.Proofs.Ythmkdioafjmclaa.Qm Go.Proofs.Ythmkdioafjmclaa.Qh Go.Proofs.Ythmkdioafjmclaa.Qh2 Go.Proofs.Ythmkdioafjmclaa.Qh3 Go.Proofs.Ythmkdioafjmclaa.Qh4 Go.Proofs.Ythmkdioafjmclaa.Qh5 Go.Proofs.Ythmkdioafjmclaa.Qh6 Go.Proofs.Ythmkdioafjmclaa.Qh7 Go.Proofs.Ythmkdioafjmclaa.Qx Go.Proofs.Ythmkdioafjmclaa.Qi Go.Proofs.Ythmkdioafjmclaa.Qs
set_option linter.unusedVariables false
set_option linter.unusedSimpArgs false
set_option linter.unusedSectionVars false


theorem qst_len : ∀ (l m : List QOp), (l.foldl qstep m).length ≤ m.length + l.length
  | [], m => Nat.le_refl _
  | x :: l, m => by
    have h1 : (qstep m x).length ≤ m.length + 1 := by
      have hw := fun id => without_len m id
      unfold qstep
      split
      · have := hw x.id; simp; omega
      · split
        · split
          · omega
          · rename_i y _; have := hw y.id; omega
        · omega
    have := qst_len l (qstep m x)
    simp only [List.foldl_cons, List.length_cons]
    omega
theorem s_ok {m : List QOp} {x y : QOp} (h : x.k = 2 ∨ x.k = 3) (hy : mn m = some y) : ansS m x = ⟨true, y.id, y.at_, ((qstep m x).length : Nat)⟩ := by unfold ansS; rw [if_pos h, hy]
theorem s_none {m : List QOp} {x : QOp} (h : x.k = 2 ∨ x.k = 3 → mn m = none) : ansS m x = ⟨false, 0, 0, ((qstep m x).length : Nat)⟩ := by
  unfold ansS
  split
  · rename_i h2; rw [h h2]
  · rfl
theorem q_same {m : List QOp} {x : QOp} (h1 : x.k ≠ 1) (h3 : x.k = 3 → mn m = none) : qstep m x = m := by
  unfold qstep
  rw [if_neg h1]
  split
  · rename_i h; rw [h3 h]
  · rfl
set_option maxRecDepth 100000 in
set_option maxHeartbeats 1000000 in
theorem spec_nil (A : HProp) (a : Option Addr) (c : Nat) : Does Try.prog 15 [.slice a 0 c] [A] (fun v L => L = [Own 40 4 v 0 (flatOf QA.cells (answers ansS [] ([] : List QOp))), A]) := by
  refine Does.enter 73 Try.func15 rfl rfl rfl fun W F => ?_
  show WPc _ _ _ _ _ [(0, .slice a 0 c)] (A :: F)
  refine WPc.seq ?_
  refine WPc.region ?_
  refine WP.val rfl rfl rfl (Val.assign rfl rfl) ?_
  refine WP.nil ?_
  refine Out.next ?_
  refine WPc.seq ?_
  refine WPc.region ?_
  refine WP.val rfl rfl rfl (Val.assign rfl rfl) ?_
  refine WP.nil ?_
  refine Out.next ?_
  refine WPc.seq ?_
  refine WPc.region ?_
  refine WP.val rfl rfl rfl (Val.assign rfl rfl) ?_
  refine WP.nil ?_
  refine Out.next ?_
  refine WPc.seq ?_
  refine WPc.seq ?_
  refine WPc.conv (fun w h => h.ownNil (e := 40) (k := 4)) ?_
  refine WPc.conv (fun w h => Sat.pure_mk (φ := True) trivial h) ?_
  show WPc _ _ _ _ _ _ (Pure True :: Own 40 4 (.slice none 0 0) 0 ([]) :: A :: F)
  refine WPc.region ?_
  refine WP.val rfl rfl rfl (Val.assign rfl rfl) ?_
  refine WP.nil ?_
  refine Out.next ?_
  refine WPc.block ?_
  refine WPc.loop (ι := Nat × HProp × Value × Value) (fun ⟨i, A2, sv, v⟩ => i ≤ (([] : List QOp)).length ∧ Rd A2 3 QOp.cells sv (qst ((([] : List QOp)).take i))) (fun ⟨i, A2, sv, v⟩ => [(0, .slice a 0 c), (3, sv), (4, v), (5, .int .i64 (((i : Nat) : Int)))]) (fun ⟨i, A2, sv, v⟩ => A2 :: Own 40 4 v i (flatOf QA.cells (answers ansS [] ((([] : List QOp)).take i))) :: A :: F) (fun ⟨i, A2, sv, v⟩ => (([] : List QOp)).length - i) (0, Pure True, .slice none 0 0, .slice none 0 0) ⟨Nat.zero_le _, .inr ⟨rfl, none, 0, rfl⟩⟩ ((Sub.cons rfl (Sub.cons rfl (Sub.cons rfl (Sub.cons rfl Sub.nil))))) (fun _ h => h) ?_
  rintro ⟨i, A2, sv, v⟩ ⟨hi, hsv⟩
  show WPc _ _ _ _ _ [(0, .slice a 0 c), (3, sv), (4, v), (5, .int .i64 (((i : Nat) : Int)))] (A2 :: Own 40 4 v i (flatOf QA.cells (answers ansS [] ((([] : List QOp)).take i))) :: A :: F)
  refine WPc.seq ?_
  refine WPc.seq ?_
  refine WPc.region ?_
  refine WP.val rfl rfl rfl (Val.move rfl rfl) ?_
  refine WP.val rfl rfl rfl (Val.move rfl rfl) ?_
  refine WP.val rfl rfl rfl (Val.len rfl Ty.sl33 rfl) ?_
  refine WP.val rfl rfl rfl (Val.lss rfl rfl rfl) ?_
  refine WP.nil ?_
  refine Out.next ?_
  refine WPc.ifP rfl (fun h1 => ?_) (fun h1 => ?_)
  · skip
    have h1 : (((i : Nat) : Int) < (0 : Int)) := h1
    exfalso; simp at *; omega
  · skip
    have h1 : ¬ (((i : Nat) : Int) < (0 : Int)) := h1
    refine WPc.exit ?_
    refine Out.then_exit ?_
    refine Out.then_exit ?_
    refine Out.block_exit ?_
    refine Out.next ?_
    refine WPc.seq ?_
    refine WPc.region ?_
    refine WP.val rfl rfl rfl (Val.move rfl rfl) ?_
    refine WP.val rfl rfl rfl (Val.assign rfl rfl) ?_
    refine WP.nil ?_
    refine Out.next ?_
    refine WPc.ret ?_
    have hti2 : (([] : List QOp)).take i = ([] : List QOp) := List.take_of_length_le (by first | omega | (simp at *; try omega))
    have hil : i = (([] : List QOp)).length := by first | omega | (simp at *; omega)
    refine Out.drop ?_
    exact Out.ret1 (L' := _) Try.results15 rfl rfl (fun w h => by rw [hti2, hil] at h; exact h)

set_option maxRecDepth 100000 in
set_option maxHeartbeats 1000000 in
theorem spec_row (A : HProp) (l : List QOp) (hl : l.length ≤ 200) (hat : ∀ x ∈ l, 0 ≤ x.at_ ∧ x.at_ ≤ 1152921504606846976) (hti : NoTie l) (b0 o0 c0 : Nat) (hr : ∀ w, Holds A w → ∀ i x, l[i]? = some x → w.rangeAt b0 (o0 + i * 3) (QOp.cells x)) : Does Try.prog 15 [.slice (some ⟨b0, o0, none⟩) l.length c0] [A] (fun v L => L = [Own 40 4 v l.length (flatOf QA.cells (answers ansS [] l)), A]) := by
  refine Does.enter 73 Try.func15 rfl rfl rfl fun W F => ?_
  show WPc _ _ _ _ _ [(0, .slice (some ⟨b0, o0, none⟩) l.length c0)] (A :: F)
  refine WPc.seq ?_
  refine WPc.region ?_
  refine WP.val rfl rfl rfl (Val.assign rfl rfl) ?_
  refine WP.nil ?_
  refine Out.next ?_
  refine WPc.seq ?_
  refine WPc.region ?_
  refine WP.val rfl rfl rfl (Val.assign rfl rfl) ?_
  refine WP.nil ?_
  refine Out.next ?_
  refine WPc.seq ?_
  refine WPc.region ?_
  refine WP.val rfl rfl rfl (Val.assign rfl rfl) ?_
  refine WP.nil ?_
  refine Out.next ?_
  refine WPc.seq ?_
  refine WPc.seq ?_
  refine WPc.conv (fun w h => h.ownNil (e := 40) (k := 4)) ?_
  refine WPc.conv (fun w h => Sat.pure_mk (φ := True) trivial h) ?_
  show WPc _ _ _ _ _ _ (Pure True :: Own 40 4 (.slice none 0 0) 0 ([]) :: A :: F)
  refine WPc.region ?_
  refine WP.val rfl rfl rfl (Val.assign rfl rfl) ?_
  refine WP.nil ?_
  refine Out.next ?_
  refine WPc.block ?_
  refine WPc.loop (ι := Nat × HProp × Value × Value) (fun ⟨i, A2, sv, v⟩ => i ≤ (l).length ∧ Rd A2 3 QOp.cells sv (qst ((l).take i))) (fun ⟨i, A2, sv, v⟩ => [(0, .slice (some ⟨b0, o0, none⟩) l.length c0), (3, sv), (4, v), (5, .int .i64 (((i : Nat) : Int)))]) (fun ⟨i, A2, sv, v⟩ => A2 :: Own 40 4 v i (flatOf QA.cells (answers ansS [] ((l).take i))) :: A :: F) (fun ⟨i, A2, sv, v⟩ => (l).length - i) (0, Pure True, .slice none 0 0, .slice none 0 0) ⟨Nat.zero_le _, .inr ⟨rfl, none, 0, rfl⟩⟩ ((Sub.cons rfl (Sub.cons rfl (Sub.cons rfl (Sub.cons rfl Sub.nil))))) (fun _ h => h) ?_
  rintro ⟨i, A2, sv, v⟩ ⟨hi, hsv⟩
  show WPc _ _ _ _ _ [(0, .slice (some ⟨b0, o0, none⟩) l.length c0), (3, sv), (4, v), (5, .int .i64 (((i : Nat) : Int)))] (A2 :: Own 40 4 v i (flatOf QA.cells (answers ansS [] ((l).take i))) :: A :: F)
  refine WPc.seq ?_
  refine WPc.seq ?_
  refine WPc.region ?_
  refine WP.val rfl rfl rfl (Val.move rfl rfl) ?_
  refine WP.val rfl rfl rfl (Val.move rfl rfl) ?_
  refine WP.val rfl rfl rfl (Val.len rfl Ty.sl33 rfl) ?_
  refine WP.val rfl rfl rfl (Val.lss rfl rfl rfl) ?_
  refine WP.nil ?_
  refine Out.next ?_
  refine WPc.ifP rfl (fun h1 => ?_) (fun h1 => ?_)
  · skip
    have h1 : (((i : Nat) : Int) < ((l.length : Nat) : Int)) := h1
    refine WPc.skip ?_
    refine Out.next ?_
    refine WPc.seq ?_
    refine WPc.block ?_
    refine WPc.seq ?_
    have hlt : i < l.length := by omega
    obtain ⟨x, hx⟩ : ∃ x, l[i]? = some x := ⟨_, List.getElem?_eq_getElem hlt⟩
    have hxl := List.mem_of_getElem? hx
    have hst : qst (l.take (i + 1)) = qstep (qst (l.take i)) x := by rw [take_more hx, qst_snoc]
    have hm := mok_take l i
    have hml : (qst (l.take i)).length ≤ i := Nat.le_trans (qst_len (l.take i) []) (by rw [List.length_take]; simp; omega)
    have hfo : List.foldl qstep [] (l.take i) = qst (l.take i) := rfl
    generalize hmd : qst (l.take i) = m at *
    refine WPc.region ?_
    refine WP.val rfl rfl rfl (Val.move rfl rfl) ?_
    refine WP.val rfl rfl rfl (Val.move rfl rfl) ?_
    refine WP.val rfl rfl rfl (Val.indexAddr (j := i) (q := o0 + i * 3) rfl Ty.sl33 rfl rfl (by omega) (by omega) (by omega)) ?_
    refine WP.val rfl rfl rfl (Val.loadAgg (cs := (QOp.cells x)) rfl Ty.ag36 rfl (by rfl) (fun w h => hr w (h.at 2 rfl) i x hx)) ?_
    refine WP.eff rfl rfl rfl (Eff.alloc rfl Ty.z36) ?_
    rintro _ _ ⟨b1, rfl, rfl⟩
    refine WP.eff0 rfl rfl (Eff.storeAgg (cs := [.int .i64 (x.k), .int .i64 (x.id), .int .i64 (x.at_)]) (C' := [.int .i64 (x.k), .int .i64 (x.id), .int .i64 (x.at_)]) rfl Ty.ag36 rfl rfl rfl rfl (by simp) rfl) ?_
    rintro _ _ rfl
    refine WP.nil ?_
    refine Out.next ?_
    refine WPc.seq ?_
    refine WPc.region ?_
    refine WP.val rfl rfl rfl (Val.mk (cs := [.bool false, .int .i64 0, .int .i64 0, .int .i64 0]) rfl rfl (fun _ => by kernel_rfl)) ?_
    refine WP.eff rfl rfl rfl (Eff.alloc rfl Ty.z40) ?_
    rintro _ _ ⟨b2, rfl, rfl⟩
    refine WP.eff0 rfl rfl (Eff.storeAgg (cs := [.bool false, .int .i64 0, .int .i64 0, .int .i64 0]) (C' := [.bool false, .int .i64 0, .int .i64 0, .int .i64 0]) rfl Ty.ag40 rfl rfl rfl rfl (by simp) rfl) ?_
    rintro _ _ rfl
    refine WP.nil ?_
    refine Out.next ?_
    refine WPc.seq ?_
    refine WPc.seq ?_
    refine WPc.region ?_
    refine WP.val rfl rfl rfl (Val.fieldAddr (j := 0) rfl Ty.fo36_0 rfl rfl) ?_
    refine WP.val rfl rfl rfl (Val.load rfl Ty.sc3 rfl (fun w h => h.cell 1 rfl rfl)) ?_
    refine WP.nil ?_
    refine Out.next ?_
    refine WPc.block ?_
    refine WPc.seq ?_
    refine WPc.region ?_
    refine WP.val rfl rfl rfl (Val.eql rfl rfl rfl) ?_
    refine WP.val rfl rfl rfl (Val.assign rfl rfl) ?_
    refine WP.nil ?_
    refine Out.next ?_
    refine WPc.ifP rfl (fun h2 => ?_) (fun h2 => ?_)
    · skip
      have h2 : (x.k = (1 : Int)) := h2
      have hwl := without_len m x.id
      refine WPD.start (Sat W [Blk b1 [.int .i64 (x.k), .int .i64 (x.id), .int .i64 (x.at_)] 36]) Ty.mixed ?_
      refine WPD.takeM 0 rfl rfl rfl rfl (by kernel_rfl) (by kernel_rfl) (by kernel_rfl) (by kernel_rfl) (fun _ _ _ h => h) (fun w h => ((h.perm pl1)).dropEnd (L := [_])) (Val.move rfl rfl) ?_
      refine WPD.takeM 1 rfl rfl rfl rfl (by kernel_rfl) (by kernel_rfl) (by kernel_rfl) (by kernel_rfl) (fun _ _ _ h => h) (fun w h => ((h.perm pl1)).dropEnd (L := [_])) (Val.fieldAddr (j := 1) rfl Ty.fo36_1 rfl rfl) ?_
      refine WPD.take 2 rfl rfl rfl rfl (by kernel_rfl) (by kernel_rfl) (by kernel_rfl) (by kernel_rfl) (fun _ _ _ h => h) (by kernel_rfl) (fun w h => ((h.perm pl1)).dropEnd (L := [_])) (Val.load rfl Ty.sc2 rfl (fun w h => h.cell 0 rfl rfl)) ?_
      refine WPD.take 4 rfl rfl rfl rfl (by kernel_rfl) (by kernel_rfl) (by kernel_rfl) (by kernel_rfl) (fun _ _ _ h => h) (by kernel_rfl) (fun w h => ((h.perm pl1)).dropEnd (L := [_])) (Val.loadAgg (cs := [.int .i64 (x.k), .int .i64 (x.id), .int .i64 (x.at_)]) rfl Ty.ag36 rfl rfl (fun w h => h.range 0 rfl rfl)) ?_
      refine WPD.pick2 3 5 (by kernel_rfl) ?_ ?_
      · skip
        refine WPO.perm pl2 ?_
        refine WPO.step rfl rfl rfl rfl (Eff.call rfl rfl Try.call44 (wo_spec A2 x.id m (by omega) sv hsv)) ?_
        rintro wu3 _ ⟨_, rfl, rfl⟩
        refine ⟨(fun w h => ((h.perm pl3)).dropEnd (L := [_])), ?_⟩
        show WPD _ _ _ _ _ _ _ _ _ (Own 36 3 wu3 ((without m x.id).length) (flatOf QOp.cells (without m x.id)) :: A2 :: Blk b2 [.bool false, .int .i64 0, .int .i64 0, .int .i64 0] 40 :: Blk b1 [.int .i64 (x.k), .int .i64 (x.id), .int .i64 (x.at_)] 36 :: Own 40 4 v i (flatOf QA.cells (answers ansS [] ((l).take i))) :: A :: F)
        refine WPD.step 5 (by kernel_rfl) rfl rfl rfl rfl (Eff.mkSlice (C := [.int .i64 (x.k), .int .i64 (x.id), .int .i64 (x.at_)]) rfl Ty.sl33 rfl (fun _ => by kernel_rfl)) ?_
        rintro _ _ ⟨b4, rfl, rfl⟩
        refine ⟨(fun w h => ((h.perm pl4)).dropEnd (L := [_])), ?_⟩
        refine WPD.perm pl1 ?_
        refine WPD.stepC 6 (by kernel_rfl) rfl rfl rfl rfl (by kernel_rfl) (Eff.append (m := 1) (n0 := (without m x.id).length) (news := [.int .i64 (x.k), .int .i64 (x.id), .int .i64 (x.at_)]) rfl Ty.sl33 Ty.z36 rfl rfl rfl (.slice Ty.sl33 rfl rfl (fun w h => cells_range (h.range 1 rfl rfl))) (by omega) (by omega)) ?_
        rintro v5 _ ⟨onev5, rfl⟩
        refine ⟨(Sat W (Own 36 3 v5 (((without m x.id).length) + 1) ((flatOf QOp.cells (without m x.id)) ++ ([.int .i64 (x.k), .int .i64 (x.id), .int .i64 (x.at_)])) :: Blk b4 [.int .i64 (x.k), .int .i64 (x.id), .int .i64 (x.at_)] 36 :: A2 :: Blk b2 [.bool false, .int .i64 0, .int .i64 0, .int .i64 0] 40 :: Blk b1 [.int .i64 (x.k), .int .i64 (x.id), .int .i64 (x.at_)] 36 :: Own 40 4 v i (flatOf QA.cells (answers ansS [] ((l).take i))) :: A :: F)), (fun _ h => h), ?_⟩
        refine WPD.takeM 7 rfl rfl rfl rfl (by kernel_rfl) (by kernel_rfl) (by kernel_rfl) (by kernel_rfl) (fun _ _ _ h => h) (fun _ h => h) (Val.assign rfl rfl) ?_
        refine WPD.done (by kernel_rfl) ?_
        refine Out.block ?_
        refine Out.next ?_
        refine WPc.seq ?_
        refine WPc.open (fun w h => own_rd (l := (without m x.id ++ [x])) QOp.len (by rw [flatOf_snoc, List.length_append]; exact h)) ?_
        rintro A3
        refine WPc.pure (fun hsv3 => ?_)
        show WPc _ _ _ _ _ _ (A3 :: Blk b4 [.int .i64 (x.k), .int .i64 (x.id), .int .i64 (x.at_)] 36 :: A2 :: Blk b2 [.bool false, .int .i64 0, .int .i64 0, .int .i64 0] 40 :: Blk b1 [.int .i64 (x.k), .int .i64 (x.id), .int .i64 (x.at_)] 36 :: Own 40 4 v i (flatOf QA.cells (answers ansS [] ((l).take i))) :: A :: F)
        refine WPc.region ?_
        refine WP.val rfl rfl rfl (Val.move rfl rfl) ?_
        refine WP.val rfl rfl rfl (Rd.len hsv3 rfl Ty.sl33 rfl) ?_
        refine WP.val rfl rfl rfl (Val.fieldAddr (j := 3) rfl Ty.fo40_3 rfl rfl) ?_
        refine WP.perm pl3 ?_
        refine WP.eff0 rfl rfl (Eff.store rfl Ty.sc3 rfl rfl rfl (by simp) st3) ?_
        rintro _ _ rfl
        refine WP.nil ?_
        refine Out.next ?_
        refine WPc.region ?_
        refine WP.val rfl rfl rfl (Val.move rfl rfl) ?_
        refine WP.val rfl rfl rfl (Val.loadAgg (cs := [.bool false, .int .i64 0, .int .i64 0, .int .i64 (((((without m x.id ++ [x])).length : Nat) : Int))]) rfl Ty.ag40 rfl rfl (fun w h => h.range 0 rfl rfl)) ?_
        refine WP.eff rfl rfl rfl (Eff.mkSlice (C := [.bool false, .int .i64 0, .int .i64 0, .int .i64 (((((without m x.id ++ [x])).length : Nat) : Int))]) rfl Ty.sl37 rfl (fun _ => by kernel_rfl)) ?_
        rintro _ _ ⟨b6, rfl, rfl⟩
        refine WP.perm pl6 ?_
        refine WP.eff rfl rfl rfl (Eff.append (m := 1) (n0 := i) (news := [.bool false, .int .i64 0, .int .i64 0, .int .i64 (((((without m x.id ++ [x])).length : Nat) : Int))]) rfl Ty.sl37 Ty.z40 rfl rfl rfl (.slice Ty.sl37 rfl rfl (fun w h => cells_range (h.range 1 rfl rfl))) (by omega) (by omega)) ?_
        rintro v7 _ ⟨onev7, rfl⟩
        refine WP.val rfl rfl rfl (Val.assign rfl rfl) ?_
        refine WP.nil ?_
        refine Out.block ?_
        refine Out.next ?_
        refine WPc.region ?_
        refine WP.val rfl rfl rfl (Val.move rfl rfl) ?_
        refine WP.val rfl rfl rfl (Val.add (z := ((i + 1 : Nat) : Int)) rfl rfl rfl ((w64 (by omega) (by omega)).trans (by omega))) ?_
        refine WP.val rfl rfl rfl (Val.assign rfl rfl) ?_
        refine WP.nil ?_
        have hq : qstep m x = (without m x.id ++ [x]) := (ans_1 (m := m) (x := x) (by omega)).2
        have hak := s_none (m := m) (x := x) (fun hh => by first | exact hmn | (exfalso; omega))
        have he : answers ansS [] ((l).take (i + 1)) = answers ansS [] ((l).take i) ++ [⟨false, 0, 0, (((without m x.id ++ [x])).length : Nat)⟩] := by
          rw [take_more hx, answers_snoc, hfo, hak, hq]
        refine Out.perm pl1 ?_
        refine Out.drop ?_
        refine Out.perm pl1 ?_
        refine Out.drop ?_
        refine Out.perm pl2 ?_
        refine Out.drop ?_
        refine Out.perm pl2 ?_
        refine Out.drop ?_
        refine Out.perm pl2 ?_
        refine Out.drop ?_
        refine Out.perm pl2 ?_
        refine Out.perm pl1 ?_
        refine Out.perm pl2 ?_
        refine Out.again (i + 1, A3, v5, v7) ?_ ?_ ?_ ?_
        · exact ⟨by omega, by rw [hst, hq]; exact hsv3⟩
        · (dsimp only; omega)
        · exact (Sub.cons rfl (Sub.cons rfl (Sub.cons rfl (Sub.cons rfl Sub.nil))))
        · exact (fun w h => by dsimp only; rw [he, flatOf_snoc]; exact h)
      · skip
        refine WPO.step rfl rfl rfl rfl (Eff.mkSlice (C := [.int .i64 (x.k), .int .i64 (x.id), .int .i64 (x.at_)]) rfl Ty.sl33 rfl (fun _ => by kernel_rfl)) ?_
        rintro _ _ ⟨b8, rfl, rfl⟩
        refine ⟨(fun w h => ((h.perm pl2)).dropEnd (L := [_])), ?_⟩
        refine WPD.perm pl3 ?_
        refine WPD.step 3 (by kernel_rfl) rfl rfl rfl rfl (Eff.call rfl rfl Try.call44 (wo_spec A2 x.id m (by omega) sv hsv)) ?_
        rintro wu9 _ ⟨_, rfl, rfl⟩
        refine ⟨(fun w h => ((h.perm pl4)).dropEnd (L := [_])), ?_⟩
        show WPD _ _ _ _ _ _ _ _ _ (Own 36 3 wu9 ((without m x.id).length) (flatOf QOp.cells (without m x.id)) :: A2 :: Blk b8 [.int .i64 (x.k), .int .i64 (x.id), .int .i64 (x.at_)] 36 :: Blk b2 [.bool false, .int .i64 0, .int .i64 0, .int .i64 0] 40 :: Blk b1 [.int .i64 (x.k), .int .i64 (x.id), .int .i64 (x.at_)] 36 :: Own 40 4 v i (flatOf QA.cells (answers ansS [] ((l).take i))) :: A :: F)
        refine WPD.stepC 6 (by kernel_rfl) rfl rfl rfl rfl (by kernel_rfl) (Eff.append (m := 1) (n0 := (without m x.id).length) (news := [.int .i64 (x.k), .int .i64 (x.id), .int .i64 (x.at_)]) rfl Ty.sl33 Ty.z36 rfl rfl rfl (.slice Ty.sl33 rfl rfl (fun w h => cells_range (h.range 2 rfl rfl))) (by omega) (by omega)) ?_
        rintro v10 _ ⟨onev10, rfl⟩
        refine ⟨(Sat W (Own 36 3 v10 (((without m x.id).length) + 1) ((flatOf QOp.cells (without m x.id)) ++ ([.int .i64 (x.k), .int .i64 (x.id), .int .i64 (x.at_)])) :: A2 :: Blk b8 [.int .i64 (x.k), .int .i64 (x.id), .int .i64 (x.at_)] 36 :: Blk b2 [.bool false, .int .i64 0, .int .i64 0, .int .i64 0] 40 :: Blk b1 [.int .i64 (x.k), .int .i64 (x.id), .int .i64 (x.at_)] 36 :: Own 40 4 v i (flatOf QA.cells (answers ansS [] ((l).take i))) :: A :: F)), (fun _ h => h), ?_⟩
        refine WPD.takeM 7 rfl rfl rfl rfl (by kernel_rfl) (by kernel_rfl) (by kernel_rfl) (by kernel_rfl) (fun _ _ _ h => h) (fun _ h => h) (Val.assign rfl rfl) ?_
        refine WPD.done (by kernel_rfl) ?_
        refine Out.block ?_
        refine Out.next ?_
        refine WPc.seq ?_
        refine WPc.open (fun w h => own_rd (l := (without m x.id ++ [x])) QOp.len (by rw [flatOf_snoc, List.length_append]; exact h)) ?_
        rintro A3
        refine WPc.pure (fun hsv3 => ?_)
        show WPc _ _ _ _ _ _ (A3 :: A2 :: Blk b8 [.int .i64 (x.k), .int .i64 (x.id), .int .i64 (x.at_)] 36 :: Blk b2 [.bool false, .int .i64 0, .int .i64 0, .int .i64 0] 40 :: Blk b1 [.int .i64 (x.k), .int .i64 (x.id), .int .i64 (x.at_)] 36 :: Own 40 4 v i (flatOf QA.cells (answers ansS [] ((l).take i))) :: A :: F)
        refine WPc.region ?_
        refine WP.val rfl rfl rfl (Val.move rfl rfl) ?_
        refine WP.val rfl rfl rfl (Rd.len hsv3 rfl Ty.sl33 rfl) ?_
        refine WP.val rfl rfl rfl (Val.fieldAddr (j := 3) rfl Ty.fo40_3 rfl rfl) ?_
        refine WP.perm pl3 ?_
        refine WP.eff0 rfl rfl (Eff.store rfl Ty.sc3 rfl rfl rfl (by simp) st3) ?_
        rintro _ _ rfl
        refine WP.nil ?_
        refine Out.next ?_
        refine WPc.region ?_
        refine WP.val rfl rfl rfl (Val.move rfl rfl) ?_
        refine WP.val rfl rfl rfl (Val.loadAgg (cs := [.bool false, .int .i64 0, .int .i64 0, .int .i64 (((((without m x.id ++ [x])).length : Nat) : Int))]) rfl Ty.ag40 rfl rfl (fun w h => h.range 0 rfl rfl)) ?_
        refine WP.eff rfl rfl rfl (Eff.mkSlice (C := [.bool false, .int .i64 0, .int .i64 0, .int .i64 (((((without m x.id ++ [x])).length : Nat) : Int))]) rfl Ty.sl37 rfl (fun _ => by kernel_rfl)) ?_
        rintro _ _ ⟨b11, rfl, rfl⟩
        refine WP.perm pl6 ?_
        refine WP.eff rfl rfl rfl (Eff.append (m := 1) (n0 := i) (news := [.bool false, .int .i64 0, .int .i64 0, .int .i64 (((((without m x.id ++ [x])).length : Nat) : Int))]) rfl Ty.sl37 Ty.z40 rfl rfl rfl (.slice Ty.sl37 rfl rfl (fun w h => cells_range (h.range 1 rfl rfl))) (by omega) (by omega)) ?_
        rintro v12 _ ⟨onev12, rfl⟩
        refine WP.val rfl rfl rfl (Val.assign rfl rfl) ?_
        refine WP.nil ?_
        refine Out.block ?_
        refine Out.next ?_
        refine WPc.region ?_
        refine WP.val rfl rfl rfl (Val.move rfl rfl) ?_
        refine WP.val rfl rfl rfl (Val.add (z := ((i + 1 : Nat) : Int)) rfl rfl rfl ((w64 (by omega) (by omega)).trans (by omega))) ?_
        refine WP.val rfl rfl rfl (Val.assign rfl rfl) ?_
        refine WP.nil ?_
        have hq : qstep m x = (without m x.id ++ [x]) := (ans_1 (m := m) (x := x) (by omega)).2
        have hak := s_none (m := m) (x := x) (fun hh => by first | exact hmn | (exfalso; omega))
        have he : answers ansS [] ((l).take (i + 1)) = answers ansS [] ((l).take i) ++ [⟨false, 0, 0, (((without m x.id ++ [x])).length : Nat)⟩] := by
          rw [take_more hx, answers_snoc, hfo, hak, hq]
        refine Out.perm pl1 ?_
        refine Out.drop ?_
        refine Out.perm pl1 ?_
        refine Out.drop ?_
        refine Out.perm pl2 ?_
        refine Out.drop ?_
        refine Out.perm pl2 ?_
        refine Out.drop ?_
        refine Out.perm pl2 ?_
        refine Out.drop ?_
        refine Out.perm pl2 ?_
        refine Out.perm pl1 ?_
        refine Out.perm pl2 ?_
        refine Out.again (i + 1, A3, v10, v12) ?_ ?_ ?_ ?_
        · exact ⟨by omega, by rw [hst, hq]; exact hsv3⟩
        · (dsimp only; omega)
        · exact (Sub.cons rfl (Sub.cons rfl (Sub.cons rfl (Sub.cons rfl Sub.nil))))
        · exact (fun w h => by dsimp only; rw [he, flatOf_snoc]; exact h)
    · skip
      have h2 : ¬ (x.k = (1 : Int)) := h2
      refine WPc.seq ?_
      refine WPc.seq ?_
      refine WPc.region ?_
      refine WP.val rfl rfl rfl (Val.eql rfl rfl rfl) ?_
      refine WP.val rfl rfl rfl (Val.assign rfl rfl) ?_
      refine WP.nil ?_
      refine Out.next ?_
      refine WPc.ifP rfl (fun h3 => ?_) (fun h3 => ?_)
      · skip
        have h3 : (x.k = (2 : Int)) := h3
        refine WPc.know 31 (.bool true) rfl (congrArg Value.bool (decide_eq_true h3)) ?_
        refine WPc.skip ?_
        refine Out.next ?_
        refine WPc.condT rfl rfl ?_
        refine WPc.seq ?_
        refine WPc.region ?_
        refine WP.val rfl rfl rfl (Val.move rfl rfl) ?_
        refine WP.perm pl2 ?_
        refine WP.eff rfl rfl rfl (Eff.call rfl rfl Try.call45 (first_spec A2 m (by omega) sv hsv)) ?_
        rintro _ _ ⟨_, ⟨fb, hfb, rfl, rfl⟩, rfl⟩
        show WP _ _ _ _ _ _ _ (A2 :: Blk b2 [.bool false, .int .i64 0, .int .i64 0, .int .i64 0] 40 :: Blk b1 [.int .i64 (x.k), .int .i64 (x.id), .int .i64 (x.at_)] 36 :: Own 40 4 v i (flatOf QA.cells (answers ansS [] ((l).take i))) :: A :: F)
        refine WP.val rfl rfl rfl (Val.assign rfl rfl) ?_
        refine WP.nil ?_
        refine Out.next ?_
        refine WPc.seq ?_
        refine WPc.seq ?_
        rcases hfb with ⟨hm0, rfl⟩ | ⟨j, y, rfl, hjl, hj, hmin⟩
        · skip
          have hmn : mn m = none := by rw [hm0]; rfl
          refine WPc.region ?_
          refine WP.val rfl rfl rfl (Val.move rfl rfl) ?_
          refine WP.val rfl rfl rfl (Val.geq rfl rfl rfl) ?_
          refine WP.nil ?_
          refine Out.next ?_
          refine WPc.ifP rfl (fun h4 => ?_) (fun h4 => ?_)
          · skip
            have h4 : ((0 : Int) ≤ (-1 : Int)) := h4
            exfalso; omega
          · skip
            have h4 : ¬ ((0 : Int) ≤ (-1 : Int)) := h4
            refine WPc.skip ?_
            refine Out.next ?_
            refine WPc.seq ?_
            refine WPc.region ?_
            refine WP.val rfl rfl rfl (Val.move rfl rfl) ?_
            refine WP.val rfl rfl rfl (Val.geq rfl rfl rfl) ?_
            refine WP.val rfl rfl rfl (Val.move rfl rfl) ?_
            refine WP.split 53 rfl (fun h5 => ?_) (fun h5 => ?_)
            · skip
              have h5 : ((0 : Int) ≤ (-1 : Int)) := h5
              exfalso; omega
            · skip
              have h5 : ¬ ((0 : Int) ≤ (-1 : Int)) := h5
              refine WP.skip rfl rfl rfl rfl rfl rfl rfl ?_
              refine WP.skip rfl rfl rfl rfl rfl rfl rfl ?_
              refine WP.skip rfl rfl rfl rfl rfl rfl rfl ?_
              refine WP.val rfl rfl rfl (Val.pickF rfl rfl rfl) ?_
              refine WP.nil ?_
              refine Out.next ?_
              refine WPc.condF rfl rfl ?_
              refine WPc.skip ?_
              refine Out.block ?_
              refine Out.next ?_
              refine WPc.seq ?_
              refine WPc.region ?_
              refine WP.val rfl rfl rfl (Val.move rfl rfl) ?_
              refine WP.val rfl rfl rfl (Rd.len hsv rfl Ty.sl33 rfl) ?_
              refine WP.val rfl rfl rfl (Val.fieldAddr (j := 3) rfl Ty.fo40_3 rfl rfl) ?_
              refine WP.perm pl1 ?_
              refine WP.eff0 rfl rfl (Eff.store rfl Ty.sc3 rfl rfl rfl (by simp) st3) ?_
              rintro _ _ rfl
              refine WP.nil ?_
              refine Out.next ?_
              refine WPc.region ?_
              refine WP.val rfl rfl rfl (Val.move rfl rfl) ?_
              refine WP.val rfl rfl rfl (Val.loadAgg (cs := [.bool false, .int .i64 0, .int .i64 0, .int .i64 (((m.length : Nat) : Int))]) rfl Ty.ag40 rfl rfl (fun w h => h.range 0 rfl rfl)) ?_
              refine WP.eff rfl rfl rfl (Eff.mkSlice (C := [.bool false, .int .i64 0, .int .i64 0, .int .i64 (((m.length : Nat) : Int))]) rfl Ty.sl37 rfl (fun _ => by kernel_rfl)) ?_
              rintro _ _ ⟨b13, rfl, rfl⟩
              refine WP.perm pl4 ?_
              refine WP.eff rfl rfl rfl (Eff.append (m := 1) (n0 := i) (news := [.bool false, .int .i64 0, .int .i64 0, .int .i64 (((m.length : Nat) : Int))]) rfl Ty.sl37 Ty.z40 rfl rfl rfl (.slice Ty.sl37 rfl rfl (fun w h => cells_range (h.range 1 rfl rfl))) (by omega) (by omega)) ?_
              rintro v14 _ ⟨onev14, rfl⟩
              refine WP.val rfl rfl rfl (Val.assign rfl rfl) ?_
              refine WP.nil ?_
              refine Out.block ?_
              refine Out.next ?_
              refine WPc.region ?_
              refine WP.val rfl rfl rfl (Val.move rfl rfl) ?_
              refine WP.val rfl rfl rfl (Val.add (z := ((i + 1 : Nat) : Int)) rfl rfl rfl ((w64 (by omega) (by omega)).trans (by omega))) ?_
              refine WP.val rfl rfl rfl (Val.assign rfl rfl) ?_
              refine WP.nil ?_
              have hq : qstep m x = m := q_same (m := m) (x := x) (by omega) (fun hh => by first | exact hmn | (exfalso; omega))
              have hak := s_none (m := m) (x := x) (fun hh => by first | exact hmn | (exfalso; omega))
              have he : answers ansS [] ((l).take (i + 1)) = answers ansS [] ((l).take i) ++ [⟨false, 0, 0, ((m).length : Nat)⟩] := by
                rw [take_more hx, answers_snoc, hfo, hak, hq]
              refine Out.perm pl1 ?_
              refine Out.drop ?_
              refine Out.perm pl1 ?_
              refine Out.drop ?_
              refine Out.perm pl2 ?_
              refine Out.drop ?_
              refine Out.perm pl2 ?_
              refine Out.perm pl1 ?_
              refine Out.perm pl2 ?_
              refine Out.again (i + 1, A2, sv, v14) ?_ ?_ ?_ ?_
              · exact ⟨by omega, by rw [hst, hq]; exact hsv⟩
              · (dsimp only; omega)
              · exact (Sub.cons rfl (Sub.cons rfl (Sub.cons rfl (Sub.cons rfl Sub.nil))))
              · exact (fun w h => by dsimp only; rw [he, flatOf_snoc]; exact h)
        · skip
          have hy := mn_one hm hti (List.mem_of_getElem? hj) hmin
          obtain ⟨sb, so, sc, rfl, hsr⟩ := hsv.resolve_right (fun ⟨e, _⟩ => by rw [e] at hjl; simp at hjl)
          refine WPc.region ?_
          refine WP.val rfl rfl rfl (Val.move rfl rfl) ?_
          refine WP.val rfl rfl rfl (Val.geq rfl rfl rfl) ?_
          refine WP.nil ?_
          refine Out.next ?_
          refine WPc.ifP rfl (fun h6 => ?_) (fun h6 => ?_)
          · skip
            have h6 : ((0 : Int) ≤ ((j : Nat) : Int)) := h6
            refine WPc.seq ?_
            refine WPc.region ?_
            refine WP.val rfl rfl rfl (Val.fieldAddr (j := 0) rfl Ty.fo40_0 rfl rfl) ?_
            refine WP.perm pl1 ?_
            refine WP.eff0 rfl rfl (Eff.store rfl Ty.sc4 rfl rfl rfl (by simp) st0) ?_
            rintro _ _ rfl
            refine WP.nil ?_
            refine Out.next ?_
            refine WPc.seq ?_
            refine WPc.region ?_
            refine WP.val rfl rfl rfl (Val.move rfl rfl) ?_
            refine WP.val rfl rfl rfl (Val.move rfl rfl) ?_
            refine WP.val rfl rfl rfl (Val.indexAddr (j := j) (q := so + j * 3) rfl Ty.sl33 rfl rfl (by omega) (by omega) (by omega)) ?_
            refine WP.val rfl rfl rfl (Val.fieldAddr (j := so + j * 3 + 1) rfl Ty.fo36_1 rfl rfl) ?_
            refine WP.val rfl rfl rfl (Val.load (v := .int .i64 (y.id)) rfl Ty.sc2 rfl (fun w h => hsr w (h.at 1 rfl) j y hj 1 _ rfl)) ?_
            refine WP.val rfl rfl rfl (Val.fieldAddr (j := 1) rfl Ty.fo40_1 rfl rfl) ?_
            refine WP.eff0 rfl rfl (Eff.store rfl Ty.sc2 rfl rfl rfl (by simp) st1) ?_
            rintro _ _ rfl
            refine WP.nil ?_
            refine Out.next ?_
            refine WPc.region ?_
            refine WP.val rfl rfl rfl (Val.move rfl rfl) ?_
            refine WP.val rfl rfl rfl (Val.move rfl rfl) ?_
            refine WP.val rfl rfl rfl (Val.indexAddr (j := j) (q := so + j * 3) rfl Ty.sl33 rfl rfl (by omega) (by omega) (by omega)) ?_
            refine WP.val rfl rfl rfl (Val.fieldAddr (j := so + j * 3 + 2) rfl Ty.fo36_2 rfl rfl) ?_
            refine WP.val rfl rfl rfl (Val.load (v := .int .i64 (y.at_)) rfl Ty.sc2 rfl (fun w h => hsr w (h.at 1 rfl) j y hj 2 _ rfl)) ?_
            refine WP.val rfl rfl rfl (Val.fieldAddr (j := 2) rfl Ty.fo40_2 rfl rfl) ?_
            refine WP.eff0 rfl rfl (Eff.store rfl Ty.sc2 rfl rfl rfl (by simp) st2) ?_
            rintro _ _ rfl
            refine WP.nil ?_
            refine Out.next ?_
            refine WPc.seq ?_
            refine WPc.region ?_
            refine WP.val rfl rfl rfl (Val.move rfl rfl) ?_
            refine WP.val rfl rfl rfl (Val.geq rfl rfl rfl) ?_
            refine WP.val rfl rfl rfl (Val.move rfl rfl) ?_
            refine WP.split 53 rfl (fun h7 => ?_) (fun h7 => ?_)
            · skip
              have h7 : ((0 : Int) ≤ ((j : Nat) : Int)) := h7
              refine WP.valG rfl rfl rfl rfl rfl rfl rfl (Val.fieldAddr (j := 0) rfl Ty.fo36_0 rfl rfl) ?_
              refine WP.valG rfl rfl rfl rfl rfl rfl rfl (Val.load rfl Ty.sc3 rfl (fun w h => h.cell 2 rfl rfl)) ?_
              refine WP.valG rfl rfl rfl rfl rfl rfl rfl (Val.eql rfl rfl rfl) ?_
              refine WP.val rfl rfl rfl (Val.pickT rfl rfl rfl) ?_
              refine WP.nil ?_
              refine Out.next ?_
              refine WPc.ifP rfl (fun h8 => ?_) (fun h8 => ?_)
              · skip
                have h8 : (x.k = (3 : Int)) := h8
                have hwl := without_len m y.id
                refine WPc.region ?_
                refine WP.val rfl rfl rfl (Val.move rfl rfl) ?_
                refine WP.val rfl rfl rfl (Val.move rfl rfl) ?_
                refine WP.val rfl rfl rfl (Val.move rfl rfl) ?_
                refine WP.val rfl rfl rfl (Val.indexAddr (j := j) (q := so + j * 3) rfl Ty.sl33 rfl rfl (by omega) (by omega) (by omega)) ?_
                refine WP.val rfl rfl rfl (Val.fieldAddr (j := so + j * 3 + 1) rfl Ty.fo36_1 rfl rfl) ?_
                refine WP.val rfl rfl rfl (Val.load (v := .int .i64 (y.id)) rfl Ty.sc2 rfl (fun w h => hsr w (h.at 1 rfl) j y hj 1 _ rfl)) ?_
                refine WP.perm pl1 ?_
                refine WP.eff rfl rfl rfl (Eff.call rfl rfl Try.call44 (wo_spec A2 y.id m (by omega) (.slice (some ⟨sb, so, none⟩) m.length sc) hsv)) ?_
                rintro wu15 _ ⟨_, rfl, rfl⟩
                show WP _ _ _ _ _ _ _ (Own 36 3 wu15 ((without m y.id).length) (flatOf QOp.cells (without m y.id)) :: A2 :: Blk b2 [.bool true, .int .i64 (y.id), .int .i64 (y.at_), .int .i64 0] 40 :: Blk b1 [.int .i64 (x.k), .int .i64 (x.id), .int .i64 (x.at_)] 36 :: Own 40 4 v i (flatOf QA.cells (answers ansS [] ((l).take i))) :: A :: F)
                refine WP.val rfl rfl rfl (Val.assign rfl rfl) ?_
                refine WP.nil ?_
                refine Out.block ?_
                refine Out.next ?_
                refine WPc.seq ?_
                refine WPc.open (fun w h => own_rd (l := (without m y.id)) QOp.len h) ?_
                rintro A3
                refine WPc.pure (fun hsv3 => ?_)
                show WPc _ _ _ _ _ _ (A3 :: A2 :: Blk b2 [.bool true, .int .i64 (y.id), .int .i64 (y.at_), .int .i64 0] 40 :: Blk b1 [.int .i64 (x.k), .int .i64 (x.id), .int .i64 (x.at_)] 36 :: Own 40 4 v i (flatOf QA.cells (answers ansS [] ((l).take i))) :: A :: F)
                refine WPc.region ?_
                refine WP.val rfl rfl rfl (Val.move rfl rfl) ?_
                refine WP.val rfl rfl rfl (Rd.len hsv3 rfl Ty.sl33 rfl) ?_
                refine WP.val rfl rfl rfl (Val.fieldAddr (j := 3) rfl Ty.fo40_3 rfl rfl) ?_
                refine WP.perm pl2 ?_
                refine WP.eff0 rfl rfl (Eff.store rfl Ty.sc3 rfl rfl rfl (by simp) st3) ?_
                rintro _ _ rfl
                refine WP.nil ?_
                refine Out.next ?_
                refine WPc.region ?_
                refine WP.val rfl rfl rfl (Val.move rfl rfl) ?_
                refine WP.val rfl rfl rfl (Val.loadAgg (cs := [.bool true, .int .i64 (y.id), .int .i64 (y.at_), .int .i64 (((((without m y.id)).length : Nat) : Int))]) rfl Ty.ag40 rfl rfl (fun w h => h.range 0 rfl rfl)) ?_
                refine WP.eff rfl rfl rfl (Eff.mkSlice (C := [.bool true, .int .i64 (y.id), .int .i64 (y.at_), .int .i64 (((((without m y.id)).length : Nat) : Int))]) rfl Ty.sl37 rfl (fun _ => by kernel_rfl)) ?_
                rintro _ _ ⟨b16, rfl, rfl⟩
                refine WP.perm pl5 ?_
                refine WP.eff rfl rfl rfl (Eff.append (m := 1) (n0 := i) (news := [.bool true, .int .i64 (y.id), .int .i64 (y.at_), .int .i64 (((((without m y.id)).length : Nat) : Int))]) rfl Ty.sl37 Ty.z40 rfl rfl rfl (.slice Ty.sl37 rfl rfl (fun w h => cells_range (h.range 1 rfl rfl))) (by omega) (by omega)) ?_
                rintro v17 _ ⟨onev17, rfl⟩
                refine WP.val rfl rfl rfl (Val.assign rfl rfl) ?_
                refine WP.nil ?_
                refine Out.block ?_
                refine Out.next ?_
                refine WPc.region ?_
                refine WP.val rfl rfl rfl (Val.move rfl rfl) ?_
                refine WP.val rfl rfl rfl (Val.add (z := ((i + 1 : Nat) : Int)) rfl rfl rfl ((w64 (by omega) (by omega)).trans (by omega))) ?_
                refine WP.val rfl rfl rfl (Val.assign rfl rfl) ?_
                refine WP.nil ?_
                have hq : qstep m x = (without m y.id) := (ans_3 (m := m) (x := x) (by omega) hy).2
                have hak := s_ok (m := m) (x := x) (by omega) hy
                have he : answers ansS [] ((l).take (i + 1)) = answers ansS [] ((l).take i) ++ [⟨true, y.id, y.at_, (((without m y.id)).length : Nat)⟩] := by
                  rw [take_more hx, answers_snoc, hfo, hak, hq]
                refine Out.perm pl1 ?_
                refine Out.drop ?_
                refine Out.perm pl1 ?_
                refine Out.drop ?_
                refine Out.perm pl2 ?_
                refine Out.drop ?_
                refine Out.perm pl2 ?_
                refine Out.drop ?_
                refine Out.perm pl2 ?_
                refine Out.perm pl1 ?_
                refine Out.perm pl2 ?_
                refine Out.again (i + 1, A3, wu15, v17) ?_ ?_ ?_ ?_
                · exact ⟨by omega, by rw [hst, hq]; exact hsv3⟩
                · (dsimp only; omega)
                · exact (Sub.cons rfl (Sub.cons rfl (Sub.cons rfl (Sub.cons rfl Sub.nil))))
                · exact (fun w h => by dsimp only; rw [he, flatOf_snoc]; exact h)
              · skip
                have h8 : ¬ (x.k = (3 : Int)) := h8
                refine WPc.skip ?_
                refine Out.block ?_
                refine Out.next ?_
                refine WPc.seq ?_
                refine WPc.region ?_
                refine WP.val rfl rfl rfl (Val.move rfl rfl) ?_
                refine WP.val rfl rfl rfl (Val.len rfl Ty.sl33 rfl) ?_
                refine WP.val rfl rfl rfl (Val.fieldAddr (j := 3) rfl Ty.fo40_3 rfl rfl) ?_
                refine WP.eff0 rfl rfl (Eff.store rfl Ty.sc3 rfl rfl rfl (by simp) st3) ?_
                rintro _ _ rfl
                refine WP.nil ?_
                refine Out.next ?_
                refine WPc.region ?_
                refine WP.val rfl rfl rfl (Val.move rfl rfl) ?_
                refine WP.val rfl rfl rfl (Val.loadAgg (cs := [.bool true, .int .i64 (y.id), .int .i64 (y.at_), .int .i64 (((m.length : Nat) : Int))]) rfl Ty.ag40 rfl rfl (fun w h => h.range 0 rfl rfl)) ?_
                refine WP.eff rfl rfl rfl (Eff.mkSlice (C := [.bool true, .int .i64 (y.id), .int .i64 (y.at_), .int .i64 (((m.length : Nat) : Int))]) rfl Ty.sl37 rfl (fun _ => by kernel_rfl)) ?_
                rintro _ _ ⟨b18, rfl, rfl⟩
                refine WP.perm pl4 ?_
                refine WP.eff rfl rfl rfl (Eff.append (m := 1) (n0 := i) (news := [.bool true, .int .i64 (y.id), .int .i64 (y.at_), .int .i64 (((m.length : Nat) : Int))]) rfl Ty.sl37 Ty.z40 rfl rfl rfl (.slice Ty.sl37 rfl rfl (fun w h => cells_range (h.range 1 rfl rfl))) (by omega) (by omega)) ?_
                rintro v19 _ ⟨onev19, rfl⟩
                refine WP.val rfl rfl rfl (Val.assign rfl rfl) ?_
                refine WP.nil ?_
                refine Out.block ?_
                refine Out.next ?_
                refine WPc.region ?_
                refine WP.val rfl rfl rfl (Val.move rfl rfl) ?_
                refine WP.val rfl rfl rfl (Val.add (z := ((i + 1 : Nat) : Int)) rfl rfl rfl ((w64 (by omega) (by omega)).trans (by omega))) ?_
                refine WP.val rfl rfl rfl (Val.assign rfl rfl) ?_
                refine WP.nil ?_
                have hq : qstep m x = m := q_same (m := m) (x := x) (by omega) (fun hh => by exfalso; omega)
                have hak := s_ok (m := m) (x := x) (by omega) hy
                have he : answers ansS [] ((l).take (i + 1)) = answers ansS [] ((l).take i) ++ [⟨true, y.id, y.at_, ((m).length : Nat)⟩] := by
                  rw [take_more hx, answers_snoc, hfo, hak, hq]
                refine Out.perm pl1 ?_
                refine Out.drop ?_
                refine Out.perm pl1 ?_
                refine Out.drop ?_
                refine Out.perm pl2 ?_
                refine Out.drop ?_
                refine Out.perm pl2 ?_
                refine Out.perm pl1 ?_
                refine Out.perm pl2 ?_
                refine Out.again (i + 1, A2, .slice (some ⟨sb, so, none⟩) m.length sc, v19) ?_ ?_ ?_ ?_
                · exact ⟨by omega, by rw [hst, hq]; exact hsv⟩
                · (dsimp only; omega)
                · exact (Sub.cons rfl (Sub.cons rfl (Sub.cons rfl (Sub.cons rfl Sub.nil))))
                · exact (fun w h => by dsimp only; rw [he, flatOf_snoc]; exact h)
            · skip
              have h7 : ¬ ((0 : Int) ≤ ((j : Nat) : Int)) := h7
              exfalso; omega
          · skip
            have h6 : ¬ ((0 : Int) ≤ ((j : Nat) : Int)) := h6
            exfalso; omega
      · skip
        have h3 : ¬ (x.k = (2 : Int)) := h3
        refine WPc.know 31 (.bool false) rfl (congrArg Value.bool (decide_eq_false h3)) ?_
        refine WPc.region ?_
        refine WP.val rfl rfl rfl (Val.eql rfl rfl rfl) ?_
        refine WP.val rfl rfl rfl (Val.assign rfl rfl) ?_
        refine WP.nil ?_
        refine Out.next ?_
        refine WPc.ifP rfl (fun h9 => ?_) (fun h9 => ?_)
        · skip
          have h9 : (x.k = (3 : Int)) := h9
          refine WPc.know 31 (.bool true) rfl (congrArg Value.bool (decide_eq_true h9)) ?_
          refine WPc.seq ?_
          refine WPc.region ?_
          refine WP.val rfl rfl rfl (Val.move rfl rfl) ?_
          refine WP.perm pl2 ?_
          refine WP.eff rfl rfl rfl (Eff.call rfl rfl Try.call45 (first_spec A2 m (by omega) sv hsv)) ?_
          rintro _ _ ⟨_, ⟨fb, hfb, rfl, rfl⟩, rfl⟩
          show WP _ _ _ _ _ _ _ (A2 :: Blk b2 [.bool false, .int .i64 0, .int .i64 0, .int .i64 0] 40 :: Blk b1 [.int .i64 (x.k), .int .i64 (x.id), .int .i64 (x.at_)] 36 :: Own 40 4 v i (flatOf QA.cells (answers ansS [] ((l).take i))) :: A :: F)
          refine WP.val rfl rfl rfl (Val.assign rfl rfl) ?_
          refine WP.nil ?_
          refine Out.next ?_
          refine WPc.seq ?_
          refine WPc.seq ?_
          rcases hfb with ⟨hm0, rfl⟩ | ⟨j, y, rfl, hjl, hj, hmin⟩
          · skip
            have hmn : mn m = none := by rw [hm0]; rfl
            refine WPc.region ?_
            refine WP.val rfl rfl rfl (Val.move rfl rfl) ?_
            refine WP.val rfl rfl rfl (Val.geq rfl rfl rfl) ?_
            refine WP.nil ?_
            refine Out.next ?_
            refine WPc.ifP rfl (fun h10 => ?_) (fun h10 => ?_)
            · skip
              have h10 : ((0 : Int) ≤ (-1 : Int)) := h10
              exfalso; omega
            · skip
              have h10 : ¬ ((0 : Int) ≤ (-1 : Int)) := h10
              refine WPc.skip ?_
              refine Out.next ?_
              refine WPc.seq ?_
              refine WPc.region ?_
              refine WP.val rfl rfl rfl (Val.move rfl rfl) ?_
              refine WP.val rfl rfl rfl (Val.geq rfl rfl rfl) ?_
              refine WP.val rfl rfl rfl (Val.move rfl rfl) ?_
              refine WP.split 53 rfl (fun h11 => ?_) (fun h11 => ?_)
              · skip
                have h11 : ((0 : Int) ≤ (-1 : Int)) := h11
                exfalso; omega
              · skip
                have h11 : ¬ ((0 : Int) ≤ (-1 : Int)) := h11
                refine WP.skip rfl rfl rfl rfl rfl rfl rfl ?_
                refine WP.skip rfl rfl rfl rfl rfl rfl rfl ?_
                refine WP.skip rfl rfl rfl rfl rfl rfl rfl ?_
                refine WP.val rfl rfl rfl (Val.pickF rfl rfl rfl) ?_
                refine WP.nil ?_
                refine Out.next ?_
                refine WPc.condF rfl rfl ?_
                refine WPc.skip ?_
                refine Out.block ?_
                refine Out.next ?_
                refine WPc.seq ?_
                refine WPc.region ?_
                refine WP.val rfl rfl rfl (Val.move rfl rfl) ?_
                refine WP.val rfl rfl rfl (Rd.len hsv rfl Ty.sl33 rfl) ?_
                refine WP.val rfl rfl rfl (Val.fieldAddr (j := 3) rfl Ty.fo40_3 rfl rfl) ?_
                refine WP.perm pl1 ?_
                refine WP.eff0 rfl rfl (Eff.store rfl Ty.sc3 rfl rfl rfl (by simp) st3) ?_
                rintro _ _ rfl
                refine WP.nil ?_
                refine Out.next ?_
                refine WPc.region ?_
                refine WP.val rfl rfl rfl (Val.move rfl rfl) ?_
                refine WP.val rfl rfl rfl (Val.loadAgg (cs := [.bool false, .int .i64 0, .int .i64 0, .int .i64 (((m.length : Nat) : Int))]) rfl Ty.ag40 rfl rfl (fun w h => h.range 0 rfl rfl)) ?_
                refine WP.eff rfl rfl rfl (Eff.mkSlice (C := [.bool false, .int .i64 0, .int .i64 0, .int .i64 (((m.length : Nat) : Int))]) rfl Ty.sl37 rfl (fun _ => by kernel_rfl)) ?_
                rintro _ _ ⟨b20, rfl, rfl⟩
                refine WP.perm pl4 ?_
                refine WP.eff rfl rfl rfl (Eff.append (m := 1) (n0 := i) (news := [.bool false, .int .i64 0, .int .i64 0, .int .i64 (((m.length : Nat) : Int))]) rfl Ty.sl37 Ty.z40 rfl rfl rfl (.slice Ty.sl37 rfl rfl (fun w h => cells_range (h.range 1 rfl rfl))) (by omega) (by omega)) ?_
                rintro v21 _ ⟨onev21, rfl⟩
                refine WP.val rfl rfl rfl (Val.assign rfl rfl) ?_
                refine WP.nil ?_
                refine Out.block ?_
                refine Out.next ?_
                refine WPc.region ?_
                refine WP.val rfl rfl rfl (Val.move rfl rfl) ?_
                refine WP.val rfl rfl rfl (Val.add (z := ((i + 1 : Nat) : Int)) rfl rfl rfl ((w64 (by omega) (by omega)).trans (by omega))) ?_
                refine WP.val rfl rfl rfl (Val.assign rfl rfl) ?_
                refine WP.nil ?_
                have hq : qstep m x = m := q_same (m := m) (x := x) (by omega) (fun hh => by first | exact hmn | (exfalso; omega))
                have hak := s_none (m := m) (x := x) (fun hh => by first | exact hmn | (exfalso; omega))
                have he : answers ansS [] ((l).take (i + 1)) = answers ansS [] ((l).take i) ++ [⟨false, 0, 0, ((m).length : Nat)⟩] := by
                  rw [take_more hx, answers_snoc, hfo, hak, hq]
                refine Out.perm pl1 ?_
                refine Out.drop ?_
                refine Out.perm pl1 ?_
                refine Out.drop ?_
                refine Out.perm pl2 ?_
                refine Out.drop ?_
                refine Out.perm pl2 ?_
                refine Out.perm pl1 ?_
                refine Out.perm pl2 ?_
                refine Out.again (i + 1, A2, sv, v21) ?_ ?_ ?_ ?_
                · exact ⟨by omega, by rw [hst, hq]; exact hsv⟩
                · (dsimp only; omega)
                · exact (Sub.cons rfl (Sub.cons rfl (Sub.cons rfl (Sub.cons rfl Sub.nil))))
                · exact (fun w h => by dsimp only; rw [he, flatOf_snoc]; exact h)
          · skip
            have hy := mn_one hm hti (List.mem_of_getElem? hj) hmin
            obtain ⟨sb, so, sc, rfl, hsr⟩ := hsv.resolve_right (fun ⟨e, _⟩ => by rw [e] at hjl; simp at hjl)
            refine WPc.region ?_
            refine WP.val rfl rfl rfl (Val.move rfl rfl) ?_
            refine WP.val rfl rfl rfl (Val.geq rfl rfl rfl) ?_
            refine WP.nil ?_
            refine Out.next ?_
            refine WPc.ifP rfl (fun h12 => ?_) (fun h12 => ?_)
            · skip
              have h12 : ((0 : Int) ≤ ((j : Nat) : Int)) := h12
              refine WPc.seq ?_
              refine WPc.region ?_
              refine WP.val rfl rfl rfl (Val.fieldAddr (j := 0) rfl Ty.fo40_0 rfl rfl) ?_
              refine WP.perm pl1 ?_
              refine WP.eff0 rfl rfl (Eff.store rfl Ty.sc4 rfl rfl rfl (by simp) st0) ?_
              rintro _ _ rfl
              refine WP.nil ?_
              refine Out.next ?_
              refine WPc.seq ?_
              refine WPc.region ?_
              refine WP.val rfl rfl rfl (Val.move rfl rfl) ?_
              refine WP.val rfl rfl rfl (Val.move rfl rfl) ?_
              refine WP.val rfl rfl rfl (Val.indexAddr (j := j) (q := so + j * 3) rfl Ty.sl33 rfl rfl (by omega) (by omega) (by omega)) ?_
              refine WP.val rfl rfl rfl (Val.fieldAddr (j := so + j * 3 + 1) rfl Ty.fo36_1 rfl rfl) ?_
              refine WP.val rfl rfl rfl (Val.load (v := .int .i64 (y.id)) rfl Ty.sc2 rfl (fun w h => hsr w (h.at 1 rfl) j y hj 1 _ rfl)) ?_
              refine WP.val rfl rfl rfl (Val.fieldAddr (j := 1) rfl Ty.fo40_1 rfl rfl) ?_
              refine WP.eff0 rfl rfl (Eff.store rfl Ty.sc2 rfl rfl rfl (by simp) st1) ?_
              rintro _ _ rfl
              refine WP.nil ?_
              refine Out.next ?_
              refine WPc.region ?_
              refine WP.val rfl rfl rfl (Val.move rfl rfl) ?_
              refine WP.val rfl rfl rfl (Val.move rfl rfl) ?_
              refine WP.val rfl rfl rfl (Val.indexAddr (j := j) (q := so + j * 3) rfl Ty.sl33 rfl rfl (by omega) (by omega) (by omega)) ?_
              refine WP.val rfl rfl rfl (Val.fieldAddr (j := so + j * 3 + 2) rfl Ty.fo36_2 rfl rfl) ?_
              refine WP.val rfl rfl rfl (Val.load (v := .int .i64 (y.at_)) rfl Ty.sc2 rfl (fun w h => hsr w (h.at 1 rfl) j y hj 2 _ rfl)) ?_
              refine WP.val rfl rfl rfl (Val.fieldAddr (j := 2) rfl Ty.fo40_2 rfl rfl) ?_
              refine WP.eff0 rfl rfl (Eff.store rfl Ty.sc2 rfl rfl rfl (by simp) st2) ?_
              rintro _ _ rfl
              refine WP.nil ?_
              refine Out.next ?_
              refine WPc.seq ?_
              refine WPc.region ?_
              refine WP.val rfl rfl rfl (Val.move rfl rfl) ?_
              refine WP.val rfl rfl rfl (Val.geq rfl rfl rfl) ?_
              refine WP.val rfl rfl rfl (Val.move rfl rfl) ?_
              refine WP.split 53 rfl (fun h13 => ?_) (fun h13 => ?_)
              · skip
                have h13 : ((0 : Int) ≤ ((j : Nat) : Int)) := h13
                refine WP.valG rfl rfl rfl rfl rfl rfl rfl (Val.fieldAddr (j := 0) rfl Ty.fo36_0 rfl rfl) ?_
                refine WP.valG rfl rfl rfl rfl rfl rfl rfl (Val.load rfl Ty.sc3 rfl (fun w h => h.cell 2 rfl rfl)) ?_
                refine WP.valG rfl rfl rfl rfl rfl rfl rfl (Val.eql rfl rfl rfl) ?_
                refine WP.val rfl rfl rfl (Val.pickT rfl rfl rfl) ?_
                refine WP.nil ?_
                refine Out.next ?_
                refine WPc.ifP rfl (fun h14 => ?_) (fun h14 => ?_)
                · skip
                  have h14 : (x.k = (3 : Int)) := h14
                  have hwl := without_len m y.id
                  refine WPc.region ?_
                  refine WP.val rfl rfl rfl (Val.move rfl rfl) ?_
                  refine WP.val rfl rfl rfl (Val.move rfl rfl) ?_
                  refine WP.val rfl rfl rfl (Val.move rfl rfl) ?_
                  refine WP.val rfl rfl rfl (Val.indexAddr (j := j) (q := so + j * 3) rfl Ty.sl33 rfl rfl (by omega) (by omega) (by omega)) ?_
                  refine WP.val rfl rfl rfl (Val.fieldAddr (j := so + j * 3 + 1) rfl Ty.fo36_1 rfl rfl) ?_
                  refine WP.val rfl rfl rfl (Val.load (v := .int .i64 (y.id)) rfl Ty.sc2 rfl (fun w h => hsr w (h.at 1 rfl) j y hj 1 _ rfl)) ?_
                  refine WP.perm pl1 ?_
                  refine WP.eff rfl rfl rfl (Eff.call rfl rfl Try.call44 (wo_spec A2 y.id m (by omega) (.slice (some ⟨sb, so, none⟩) m.length sc) hsv)) ?_
                  rintro wu22 _ ⟨_, rfl, rfl⟩
                  show WP _ _ _ _ _ _ _ (Own 36 3 wu22 ((without m y.id).length) (flatOf QOp.cells (without m y.id)) :: A2 :: Blk b2 [.bool true, .int .i64 (y.id), .int .i64 (y.at_), .int .i64 0] 40 :: Blk b1 [.int .i64 (x.k), .int .i64 (x.id), .int .i64 (x.at_)] 36 :: Own 40 4 v i (flatOf QA.cells (answers ansS [] ((l).take i))) :: A :: F)
                  refine WP.val rfl rfl rfl (Val.assign rfl rfl) ?_
                  refine WP.nil ?_
                  refine Out.block ?_
                  refine Out.next ?_
                  refine WPc.seq ?_
                  refine WPc.open (fun w h => own_rd (l := (without m y.id)) QOp.len h) ?_
                  rintro A3
                  refine WPc.pure (fun hsv3 => ?_)
                  show WPc _ _ _ _ _ _ (A3 :: A2 :: Blk b2 [.bool true, .int .i64 (y.id), .int .i64 (y.at_), .int .i64 0] 40 :: Blk b1 [.int .i64 (x.k), .int .i64 (x.id), .int .i64 (x.at_)] 36 :: Own 40 4 v i (flatOf QA.cells (answers ansS [] ((l).take i))) :: A :: F)
                  refine WPc.region ?_
                  refine WP.val rfl rfl rfl (Val.move rfl rfl) ?_
                  refine WP.val rfl rfl rfl (Rd.len hsv3 rfl Ty.sl33 rfl) ?_
                  refine WP.val rfl rfl rfl (Val.fieldAddr (j := 3) rfl Ty.fo40_3 rfl rfl) ?_
                  refine WP.perm pl2 ?_
                  refine WP.eff0 rfl rfl (Eff.store rfl Ty.sc3 rfl rfl rfl (by simp) st3) ?_
                  rintro _ _ rfl
                  refine WP.nil ?_
                  refine Out.next ?_
                  refine WPc.region ?_
                  refine WP.val rfl rfl rfl (Val.move rfl rfl) ?_
                  refine WP.val rfl rfl rfl (Val.loadAgg (cs := [.bool true, .int .i64 (y.id), .int .i64 (y.at_), .int .i64 (((((without m y.id)).length : Nat) : Int))]) rfl Ty.ag40 rfl rfl (fun w h => h.range 0 rfl rfl)) ?_
                  refine WP.eff rfl rfl rfl (Eff.mkSlice (C := [.bool true, .int .i64 (y.id), .int .i64 (y.at_), .int .i64 (((((without m y.id)).length : Nat) : Int))]) rfl Ty.sl37 rfl (fun _ => by kernel_rfl)) ?_
                  rintro _ _ ⟨b23, rfl, rfl⟩
                  refine WP.perm pl5 ?_
                  refine WP.eff rfl rfl rfl (Eff.append (m := 1) (n0 := i) (news := [.bool true, .int .i64 (y.id), .int .i64 (y.at_), .int .i64 (((((without m y.id)).length : Nat) : Int))]) rfl Ty.sl37 Ty.z40 rfl rfl rfl (.slice Ty.sl37 rfl rfl (fun w h => cells_range (h.range 1 rfl rfl))) (by omega) (by omega)) ?_
                  rintro v24 _ ⟨onev24, rfl⟩
                  refine WP.val rfl rfl rfl (Val.assign rfl rfl) ?_
                  refine WP.nil ?_
                  refine Out.block ?_
                  refine Out.next ?_
                  refine WPc.region ?_
                  refine WP.val rfl rfl rfl (Val.move rfl rfl) ?_
                  refine WP.val rfl rfl rfl (Val.add (z := ((i + 1 : Nat) : Int)) rfl rfl rfl ((w64 (by omega) (by omega)).trans (by omega))) ?_
                  refine WP.val rfl rfl rfl (Val.assign rfl rfl) ?_
                  refine WP.nil ?_
                  have hq : qstep m x = (without m y.id) := (ans_3 (m := m) (x := x) (by omega) hy).2
                  have hak := s_ok (m := m) (x := x) (by omega) hy
                  have he : answers ansS [] ((l).take (i + 1)) = answers ansS [] ((l).take i) ++ [⟨true, y.id, y.at_, (((without m y.id)).length : Nat)⟩] := by
                    rw [take_more hx, answers_snoc, hfo, hak, hq]
                  refine Out.perm pl1 ?_
                  refine Out.drop ?_
                  refine Out.perm pl1 ?_
                  refine Out.drop ?_
                  refine Out.perm pl2 ?_
                  refine Out.drop ?_
                  refine Out.perm pl2 ?_
                  refine Out.drop ?_
                  refine Out.perm pl2 ?_
                  refine Out.perm pl1 ?_
                  refine Out.perm pl2 ?_
                  refine Out.again (i + 1, A3, wu22, v24) ?_ ?_ ?_ ?_
                  · exact ⟨by omega, by rw [hst, hq]; exact hsv3⟩
                  · (dsimp only; omega)
                  · exact (Sub.cons rfl (Sub.cons rfl (Sub.cons rfl (Sub.cons rfl Sub.nil))))
                  · exact (fun w h => by dsimp only; rw [he, flatOf_snoc]; exact h)
                · skip
                  have h14 : ¬ (x.k = (3 : Int)) := h14
                  refine WPc.skip ?_
                  refine Out.block ?_
                  refine Out.next ?_
                  refine WPc.seq ?_
                  refine WPc.region ?_
                  refine WP.val rfl rfl rfl (Val.move rfl rfl) ?_
                  refine WP.val rfl rfl rfl (Val.len rfl Ty.sl33 rfl) ?_
                  refine WP.val rfl rfl rfl (Val.fieldAddr (j := 3) rfl Ty.fo40_3 rfl rfl) ?_
                  refine WP.eff0 rfl rfl (Eff.store rfl Ty.sc3 rfl rfl rfl (by simp) st3) ?_
                  rintro _ _ rfl
                  refine WP.nil ?_
                  refine Out.next ?_
                  refine WPc.region ?_
                  refine WP.val rfl rfl rfl (Val.move rfl rfl) ?_
                  refine WP.val rfl rfl rfl (Val.loadAgg (cs := [.bool true, .int .i64 (y.id), .int .i64 (y.at_), .int .i64 (((m.length : Nat) : Int))]) rfl Ty.ag40 rfl rfl (fun w h => h.range 0 rfl rfl)) ?_
                  refine WP.eff rfl rfl rfl (Eff.mkSlice (C := [.bool true, .int .i64 (y.id), .int .i64 (y.at_), .int .i64 (((m.length : Nat) : Int))]) rfl Ty.sl37 rfl (fun _ => by kernel_rfl)) ?_
                  rintro _ _ ⟨b25, rfl, rfl⟩
                  refine WP.perm pl4 ?_
                  refine WP.eff rfl rfl rfl (Eff.append (m := 1) (n0 := i) (news := [.bool true, .int .i64 (y.id), .int .i64 (y.at_), .int .i64 (((m.length : Nat) : Int))]) rfl Ty.sl37 Ty.z40 rfl rfl rfl (.slice Ty.sl37 rfl rfl (fun w h => cells_range (h.range 1 rfl rfl))) (by omega) (by omega)) ?_
                  rintro v26 _ ⟨onev26, rfl⟩
                  refine WP.val rfl rfl rfl (Val.assign rfl rfl) ?_
                  refine WP.nil ?_
                  refine Out.block ?_
                  refine Out.next ?_
                  refine WPc.region ?_
                  refine WP.val rfl rfl rfl (Val.move rfl rfl) ?_
                  refine WP.val rfl rfl rfl (Val.add (z := ((i + 1 : Nat) : Int)) rfl rfl rfl ((w64 (by omega) (by omega)).trans (by omega))) ?_
                  refine WP.val rfl rfl rfl (Val.assign rfl rfl) ?_
                  refine WP.nil ?_
                  have hq : qstep m x = m := q_same (m := m) (x := x) (by omega) (fun hh => by exfalso; omega)
                  have hak := s_ok (m := m) (x := x) (by omega) hy
                  have he : answers ansS [] ((l).take (i + 1)) = answers ansS [] ((l).take i) ++ [⟨true, y.id, y.at_, ((m).length : Nat)⟩] := by
                    rw [take_more hx, answers_snoc, hfo, hak, hq]
                  refine Out.perm pl1 ?_
                  refine Out.drop ?_
                  refine Out.perm pl1 ?_
                  refine Out.drop ?_
                  refine Out.perm pl2 ?_
                  refine Out.drop ?_
                  refine Out.perm pl2 ?_
                  refine Out.perm pl1 ?_
                  refine Out.perm pl2 ?_
                  refine Out.again (i + 1, A2, .slice (some ⟨sb, so, none⟩) m.length sc, v26) ?_ ?_ ?_ ?_
                  · exact ⟨by omega, by rw [hst, hq]; exact hsv⟩
                  · (dsimp only; omega)
                  · exact (Sub.cons rfl (Sub.cons rfl (Sub.cons rfl (Sub.cons rfl Sub.nil))))
                  · exact (fun w h => by dsimp only; rw [he, flatOf_snoc]; exact h)
              · skip
                have h13 : ¬ ((0 : Int) ≤ ((j : Nat) : Int)) := h13
                exfalso; omega
            · skip
              have h12 : ¬ ((0 : Int) ≤ ((j : Nat) : Int)) := h12
              exfalso; omega
        · skip
          have h9 : ¬ (x.k = (3 : Int)) := h9
          refine WPc.know 31 (.bool false) rfl (congrArg Value.bool (decide_eq_false h9)) ?_
          refine WPc.skip ?_
          refine Out.block ?_
          refine Out.next ?_
          refine WPc.seq ?_
          refine WPc.region ?_
          refine WP.val rfl rfl rfl (Val.move rfl rfl) ?_
          refine WP.val rfl rfl rfl (Rd.len hsv rfl Ty.sl33 rfl) ?_
          refine WP.val rfl rfl rfl (Val.fieldAddr (j := 3) rfl Ty.fo40_3 rfl rfl) ?_
          refine WP.eff0 rfl rfl (Eff.store rfl Ty.sc3 rfl rfl rfl (by simp) st3) ?_
          rintro _ _ rfl
          refine WP.nil ?_
          refine Out.next ?_
          refine WPc.region ?_
          refine WP.val rfl rfl rfl (Val.move rfl rfl) ?_
          refine WP.val rfl rfl rfl (Val.loadAgg (cs := [.bool false, .int .i64 0, .int .i64 0, .int .i64 (((m.length : Nat) : Int))]) rfl Ty.ag40 rfl rfl (fun w h => h.range 0 rfl rfl)) ?_
          refine WP.eff rfl rfl rfl (Eff.mkSlice (C := [.bool false, .int .i64 0, .int .i64 0, .int .i64 (((m.length : Nat) : Int))]) rfl Ty.sl37 rfl (fun _ => by kernel_rfl)) ?_
          rintro _ _ ⟨b27, rfl, rfl⟩
          refine WP.perm pl4 ?_
          refine WP.eff rfl rfl rfl (Eff.append (m := 1) (n0 := i) (news := [.bool false, .int .i64 0, .int .i64 0, .int .i64 (((m.length : Nat) : Int))]) rfl Ty.sl37 Ty.z40 rfl rfl rfl (.slice Ty.sl37 rfl rfl (fun w h => cells_range (h.range 1 rfl rfl))) (by omega) (by omega)) ?_
          rintro v28 _ ⟨onev28, rfl⟩
          refine WP.val rfl rfl rfl (Val.assign rfl rfl) ?_
          refine WP.nil ?_
          refine Out.block ?_
          refine Out.next ?_
          refine WPc.region ?_
          refine WP.val rfl rfl rfl (Val.move rfl rfl) ?_
          refine WP.val rfl rfl rfl (Val.add (z := ((i + 1 : Nat) : Int)) rfl rfl rfl ((w64 (by omega) (by omega)).trans (by omega))) ?_
          refine WP.val rfl rfl rfl (Val.assign rfl rfl) ?_
          refine WP.nil ?_
          have hq : qstep m x = m := q_same (m := m) (x := x) (by omega) (fun hh => by first | exact hmn | (exfalso; omega))
          have hak := s_none (m := m) (x := x) (fun hh => by first | exact hmn | (exfalso; omega))
          have he : answers ansS [] ((l).take (i + 1)) = answers ansS [] ((l).take i) ++ [⟨false, 0, 0, ((m).length : Nat)⟩] := by
            rw [take_more hx, answers_snoc, hfo, hak, hq]
          refine Out.perm pl1 ?_
          refine Out.drop ?_
          refine Out.perm pl1 ?_
          refine Out.drop ?_
          refine Out.perm pl1 ?_
          refine Out.drop ?_
          refine Out.perm pl2 ?_
          refine Out.perm pl1 ?_
          refine Out.perm pl2 ?_
          refine Out.again (i + 1, A2, sv, v28) ?_ ?_ ?_ ?_
          · exact ⟨by omega, by rw [hst, hq]; exact hsv⟩
          · (dsimp only; omega)
          · exact (Sub.cons rfl (Sub.cons rfl (Sub.cons rfl (Sub.cons rfl Sub.nil))))
          · exact (fun w h => by dsimp only; rw [he, flatOf_snoc]; exact h)
  · skip
    have h1 : ¬ (((i : Nat) : Int) < ((l.length : Nat) : Int)) := h1
    refine WPc.exit ?_
    refine Out.then_exit ?_
    refine Out.then_exit ?_
    refine Out.block_exit ?_
    refine Out.next ?_
    refine WPc.seq ?_
    refine WPc.region ?_
    refine WP.val rfl rfl rfl (Val.move rfl rfl) ?_
    refine WP.val rfl rfl rfl (Val.assign rfl rfl) ?_
    refine WP.nil ?_
    refine Out.next ?_
    refine WPc.ret ?_
    have hti2 : (l).take i = l := List.take_of_length_le (by first | omega | (simp at *; try omega))
    have hil : i = (l).length := by first | omega | (simp at *; omega)
    refine Out.drop ?_
    exact Out.ret1 (L' := _) Try.results15 rfl rfl (fun w h => by rw [hti2, hil] at h; exact h)

theorem spec_spec (A : HProp) (l : List QOp) (hl : l.length ≤ 200) (hat : ∀ x ∈ l, 0 ≤ x.at_ ∧ x.at_ ≤ 1152921504606846976) (hti : NoTie l) (va : Value) (hva : Rd A 3 QOp.cells va l) : Does Try.prog 15 [va] [A] (fun v L => L = [Own 40 4 v l.length (flatOf QA.cells (answers ansS [] l)), A]) := by
  rcases hva with ⟨b0, o0, c0, rfl, hr⟩ | ⟨rfl, a, c, rfl⟩
  · exact spec_row A l hl hat hti b0 o0 c0 hr
  · exact spec_nil A a c

end Go.Proofs.Ythmkdioafjmclaa.Qs2
