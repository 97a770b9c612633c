import Derived.Test.YthmkdioafjmclaaQt
namespace Go.Proofs.Ythmkdioafjmclaa.Qu
open Go.RowKit Go.Proofs.Ythmkdioafjmclaa Go.Proofs.Ythmkdioafjmclaa.Sl Go.Proofs.Ythmkdioafjmclaa.Qm Go.Proofs.Ythmkdioafjmclaa.Qh Go.Proofs.Ythmkdioafjmclaa.Qh2 Go.Proofs.Ythmkdioafjmclaa.Qh3 Go.Proofs.Ythmkdioafjmclaa.Qh4 Go.Proofs.Ythmkdioafjmclaa.Qh5 Go.Proofs.Ythmkdioafjmclaa.Qh6 Go.Proofs.Ythmkdioafjmclaa.Qh7 Go.Proofs.Ythmkdioafjmclaa.Qx Go.Proofs.Ythmkdioafjmclaa.Qi Go.Proofs.Ythmkdioafjmclaa.Qs Go.Proofs.Ythmkdioafjmclaa.Qs2 Go.Proofs.Ythmkdioafjmclaa.Qt
set_option linter.unusedVariables false
set_option linter.unusedSimpArgs false
set_option linter.unusedSectionVars false


theorem equal_qa (d : Nat) (ok : Bool) (id t n m : Int) (w : World) : (Op.equalIn (d + 2) 40 (.agg #[.bool ok, .int .i64 id, .int .i64 t, .int .i64 n]) (.agg #[.bool ok, .int .i64 id, .int .i64 t, .int .i64 m])).run Try.prog w = .ok (n == m) w := by
  have hb : ∀ (b : Bool) (w : World), (Op.equalIn (d + 1) 4 (.bool b) (.bool b)).run Try.prog w = .ok true w := fun b w => by
    unfold Op.equalIn
    cases b <;> simp
  have hi : ∀ (a b : Int) (w : World), (Op.equalIn (d + 1) 2 (.int .i64 a) (.int .i64 b)).run Try.prog w = .ok (a == b) w := fun a b w => by
    unfold Op.equalIn
    simp
  have hi3 : ∀ (a b : Int) (w : World), (Op.equalIn (d + 1) 3 (.int .i64 a) (.int .i64 b)).run Try.prog w = .ok (a == b) w := fun a b w => by
    unfold Op.equalIn
    simp
  unfold Op.equalIn
  by_cases h : n = m
  · subst h
    simp [part, forIn, hb, hi, hi3]
  · simp [part, forIn, hb, hi, hi3, h]
theorem Val.neqQA {n : Nat} {l : List (Nat × Value)} {G : World → Prop} {o : Oper} {u : TypeId} {x y : Operand} {ok : Bool} {id t p q : Int} (ho : o.op = .binOp .neq 40 x y u) (hx : ev l x = some (.agg #[.bool ok, .int .i64 id, .int .i64 t, .int .i64 p])) (hy : ev l y = some (.agg #[.bool ok, .int .i64 id, .int .i64 t, .int .i64 q])) :
    Val Try.prog n l G o (.bool (!(p == q))) := fun a w hf hs => by
  have he : (eqGuard .neq 40 x y (.agg #[.bool ok, .int .i64 id, .int .i64 t, .int .i64 p]) (.agg #[.bool ok, .int .i64 id, .int .i64 t, .int .i64 q])).run Try.prog w = .ok () w := by
    simp [eqGuard]
  have h2 : (Op.equal 40 (.agg #[.bool ok, .int .i64 id, .int .i64 t, .int .i64 p]) (.agg #[.bool ok, .int .i64 id, .int .i64 t, .int .i64 q])).run Try.prog w = .ok (p == q) w := equal_qa 9998 ok id t p q w
  simp only [execOp, ho, hf.ev hx, hf.ev hy, Sem.run_bind, he, Result.andThen_ok, binOp, h2, Sem.run_pure]
theorem Val.neqSame {n : Nat} {l : List (Nat × Value)} {G : World → Prop} {o : Oper} {t u : TypeId} {x y : Operand} {p : Bool} (ho : o.op = .binOp .neq t x y u) (ht : isBool Try.prog t = true) (hx : ev l x = some (.bool p)) (hy : ev l y = some (.bool p)) : Val Try.prog n l G o (.bool false) := fun a w hf hs => by
  have := Val.neqB (G := G) ho ht hx hy a w hf hs
  rwa [beq_self_eq_true, Bool.not_true] at this
theorem ans_same {m : List QOp} {x : QOp} (h : x.k = 2 ∨ x.k = 3) : (ansS m x).ok = (ansI m x).ok ∧ (ansS m x).id = (ansI m x).id ∧ (ansS m x).at_ = (ansI m x).at_ := by
  unfold ansS ansI
  rw [if_pos h, if_neg (by omega), if_pos h]
  cases mn m <;> exact ⟨rfl, rfl, rfl⟩
theorem ans_n {m : List QOp} {x : QOp} (h : x.k = 4) : (ansS m x).n = (ansI m x).n := by
  unfold ansS ansI qstep
  rw [if_neg (by omega), if_neg (by omega), if_neg (by omega), if_pos h, if_neg (by omega), if_neg (by omega)]
set_option maxRecDepth 100000 in
set_option maxHeartbeats 2000000 in
theorem law_nil (W0 : World) (a : Option Addr) (c : Nat) : Does Try.prog 4 [.slice a 0 c] [Old W0] (fun v L => v = .bool true ∧ L = [Old W0]) := by
  refine Does.enter 162 Try.func4 rfl rfl rfl fun W F => ?_
  show WPc _ _ _ _ _ [(0, .slice a 0 c)] (Old W0 :: F)
  refine WPc.seq ?_
  refine WPc.region ?_
  refine WP.val rfl rfl rfl (Val.assign rfl rfl) ?_
  refine WP.nil ?_
  refine Out.next ?_
  refine WPc.seq ?_
  refine WPc.seq ?_
  refine WPc.region ?_
  refine WP.val rfl rfl rfl (Val.move rfl rfl) ?_
  refine WP.val rfl rfl rfl (Val.len rfl Ty.sl33 rfl) ?_
  refine WP.val rfl rfl rfl (Val.gtr rfl rfl rfl) ?_
  refine WP.nil ?_
  refine Out.next ?_
  refine WPc.ifP rfl (fun h1 => ?_) (fun h1 => ?_)
  · skip
    have h1 : ((2147483647 : Int) < (0 : Int)) := h1
    refine WPc.seq ?_
    refine WPc.region ?_
    refine WP.val rfl rfl rfl (Val.assign rfl rfl) ?_
    refine WP.nil ?_
    refine Out.next ?_
    refine WPc.ret ?_
    refine Out.then_ret ?_
    exact Out.ret1 (L' := _) Try.results4 rfl ⟨rfl, rfl⟩ (fun _ h => h)
  · skip
    have h1 : ¬ ((2147483647 : Int) < (0 : Int)) := h1
    refine WPc.skip ?_
    refine Out.next ?_
    refine WPc.seq ?_
    refine WPc.seq ?_
    refine WPc.region ?_
    refine WP.val rfl rfl rfl (Val.move rfl rfl) ?_
    refine WP.eff rfl rfl rfl (Eff.call rfl rfl Try.call13 (ops_spec (Old W0) (([] : List QOp)) (by first | omega | (simp; done)) (.slice a 0 c) (.inr ⟨rfl, a, c, rfl⟩))) ?_
    rintro _ _ ⟨_, ⟨bb, rfl, rfl, hG⟩, rfl⟩
    show WP _ _ _ _ _ _ _ (Old W0 :: F)
    refine WP.val rfl rfl rfl (Val.not rfl rfl) ?_
    refine WP.nil ?_
    refine Out.next ?_
    refine WPc.cond rfl (fun h2 => ?_) (fun h2 => ?_)
    · skip
      have h2 : (!bb) = true := h2
      refine WPc.seq ?_
      refine WPc.region ?_
      refine WP.val rfl rfl rfl (Val.assign rfl rfl) ?_
      refine WP.nil ?_
      refine Out.next ?_
      refine WPc.ret ?_
      refine Out.then_ret ?_
      exact Out.ret1 (L' := _) Try.results4 rfl ⟨rfl, rfl⟩ (fun _ h => h)
    · skip
      have h2 : (!bb) = false := h2
      refine WPc.skip ?_
      refine Out.next ?_
      refine WPc.seq ?_
      refine WPc.seq ?_
      refine WPc.region ?_
      refine WP.val rfl rfl rfl (Val.move rfl rfl) ?_
      refine WP.val rfl rfl rfl (Val.len rfl Ty.sl33 rfl) ?_
      refine WP.val rfl rfl rfl (Val.move rfl rfl) ?_
      refine WP.nil ?_
      refine Out.next ?_
      refine WPc.block ?_
      refine WPc.loop (ι := Nat) (fun i => i ≤ (([] : List QOp)).length ∧ ∀ a b, a < i → b < a → Pq (([] : List QOp)) a b) (fun i => [(0, .slice a 0 c), (17, .slice a 0 c), (18, .int .i64 (((0 : Nat) : Int))), (19, .int .i64 (((i : Nat) : Int)))]) (fun i => Old W0 :: F) (fun i => (([] : List QOp)).length - i) 0 ⟨Nat.zero_le _, fun a b h => by omega⟩ ((Sub.cons rfl (Sub.cons rfl (Sub.cons rfl (Sub.cons rfl Sub.nil))))) (fun _ h => h) ?_
      rintro i ⟨hi, hP⟩
      show WPc _ _ _ _ _ [(0, .slice a 0 c), (17, .slice a 0 c), (18, .int .i64 (((0 : Nat) : Int))), (19, .int .i64 (((i : Nat) : Int)))] (Old W0 :: F)
      refine WPc.seq ?_
      refine WPc.region ?_
      refine WP.val rfl rfl rfl (Val.lss rfl rfl rfl) ?_
      refine WP.nil ?_
      refine Out.next ?_
      refine WPc.seq ?_
      refine WPc.ifP rfl (fun h3 => ?_) (fun h3 => ?_)
      · skip
        have h3 : (((i : Nat) : Int) < ((0 : Nat) : Int)) := h3
        exfalso; simp at *; omega
      · skip
        have h3 : ¬ (((i : Nat) : Int) < ((0 : Nat) : Int)) := h3
        refine WPc.exit ?_
        refine Out.then_exit ?_
        refine Out.then_exit ?_
        refine Out.block_exit ?_
        refine Out.next ?_
        refine WPc.seq ?_
        obtain ⟨g1, g2⟩ := hG (by simpa using h2)
        have hil : i = (([] : List QOp)).length := by first | omega | (simp at *; omega)
        have hti : NoTie (([] : List QOp)) := notie_of (fun a b ha hb => hP a b (by rw [hil]; exact ha) hb)
        refine WPc.region ?_
        refine WP.val rfl rfl rfl (Val.move rfl rfl) ?_
        refine WP.eff rfl rfl rfl (Eff.call rfl rfl Try.call14 (impl_spec (Old W0) (([] : List QOp)) g1 (fun x hx => ⟨(g2 x hx).2.2.1, (g2 x hx).2.2.2⟩) hti (.slice a 0 c) (.inr ⟨rfl, a, c, rfl⟩))) ?_
        rintro uimpl _ ⟨_, rfl, rfl⟩
        show WP _ _ _ _ _ _ _ (Own 40 4 uimpl ((([] : List QOp)).length) (flatOf QA.cells (answers ansI [] (([] : List QOp)))) :: Old W0 :: F)
        refine WP.val rfl rfl rfl (Val.move rfl rfl) ?_
        refine WP.perm pl1 ?_
        refine WP.eff rfl rfl rfl (Eff.call rfl rfl Try.call15 (spec_spec (Old W0) (([] : List QOp)) g1 (fun x hx => ⟨(g2 x hx).2.2.1, (g2 x hx).2.2.2⟩) hti (.slice a 0 c) (.inr ⟨rfl, a, c, rfl⟩))) ?_
        rintro uspec _ ⟨_, rfl, rfl⟩
        show WP _ _ _ _ _ _ _ (Own 40 4 uspec ((([] : List QOp)).length) (flatOf QA.cells (answers ansS [] (([] : List QOp)))) :: Old W0 :: Own 40 4 uimpl ((([] : List QOp)).length) (flatOf QA.cells (answers ansI [] (([] : List QOp)))) :: F)
        refine WP.val rfl rfl rfl (Val.assign rfl rfl) ?_
        refine WP.val rfl rfl rfl (Val.assign rfl rfl) ?_
        refine WP.nil ?_
        refine Out.next ?_
        refine WPc.seq ?_
        refine WPc.seq ?_
        refine WPc.perm pl2 ?_
        refine WPc.conv (fun w h => h.seqMk) ?_
        show WPc _ _ _ _ _ _ (Seq uimpl ((([] : List QOp)).length) (flatOf QA.cells (answers ansI [] (([] : List QOp)))) :: Own 40 4 uspec ((([] : List QOp)).length) (flatOf QA.cells (answers ansS [] (([] : List QOp)))) :: Old W0 :: F)
        refine WPc.perm pl1 ?_
        refine WPc.conv (fun w h => h.seqMk) ?_
        show WPc _ _ _ _ _ _ (Seq uspec ((([] : List QOp)).length) (flatOf QA.cells (answers ansS [] (([] : List QOp)))) :: Seq uimpl ((([] : List QOp)).length) (flatOf QA.cells (answers ansI [] (([] : List QOp)))) :: Old W0 :: F)
        refine WPc.region ?_
        refine WP.val rfl rfl rfl (Val.move rfl rfl) ?_
        refine WP.val rfl rfl rfl (Val.lenSeq rfl Ty.sl37 rfl (fun w h => h.at 1 rfl)) ?_
        refine WP.val rfl rfl rfl (Val.move rfl rfl) ?_
        refine WP.val rfl rfl rfl (Val.len rfl Ty.sl33 rfl) ?_
        refine WP.val rfl rfl rfl (Val.neq rfl rfl rfl) ?_
        refine WP.nil ?_
        refine Out.next ?_
        refine WPc.ifP rfl (fun h4 => ?_) (fun h4 => ?_)
        · skip
          have h4 : ((((([] : List QOp)).length : Nat) : Int) ≠ (0 : Int)) := h4
          exfalso; first | omega | (simp at *; done) | (simp at *; omega)
        · skip
          have h4 : ¬ ((((([] : List QOp)).length : Nat) : Int) ≠ (0 : Int)) := h4
          refine WPc.skip ?_
          refine Out.next ?_
          refine WPc.seq ?_
          refine WPc.seq ?_
          refine WPc.region ?_
          refine WP.val rfl rfl rfl (Val.move rfl rfl) ?_
          refine WP.val rfl rfl rfl (Val.len rfl Ty.sl33 rfl) ?_
          refine WP.val rfl rfl rfl (Val.move rfl rfl) ?_
          refine WP.nil ?_
          refine Out.next ?_
          refine WPc.block ?_
          refine WPc.perm pl2 ?_
          refine WPc.perm pl1 ?_
          refine WPc.perm pl2 ?_
          refine WPc.loop (ι := Nat) (fun i => i ≤ (([] : List QOp)).length) (fun i => [(7, uimpl), (8, uspec), (65, .slice a 0 c), (66, .int .i64 (((0 : Nat) : Int))), (67, .int .i64 (((i : Nat) : Int)))]) (fun i => Seq uimpl ((([] : List QOp)).length) (flatOf QA.cells (answers ansI [] (([] : List QOp)))) :: Seq uspec ((([] : List QOp)).length) (flatOf QA.cells (answers ansS [] (([] : List QOp)))) :: Old W0 :: F) (fun i => (([] : List QOp)).length - i) 0 (Nat.zero_le _) ((Sub.cons rfl (Sub.cons rfl (Sub.cons rfl (Sub.cons rfl (Sub.cons rfl Sub.nil)))))) (fun _ h => h) ?_
          rintro i hi
          show WPc _ _ _ _ _ [(7, uimpl), (8, uspec), (65, .slice a 0 c), (66, .int .i64 (((0 : Nat) : Int))), (67, .int .i64 (((i : Nat) : Int)))] (Seq uimpl ((([] : List QOp)).length) (flatOf QA.cells (answers ansI [] (([] : List QOp)))) :: Seq uspec ((([] : List QOp)).length) (flatOf QA.cells (answers ansS [] (([] : List QOp)))) :: Old W0 :: F)
          replace hi : i ≤ (([] : List QOp)).length := hi
          refine WPc.seq ?_
          refine WPc.region ?_
          refine WP.val rfl rfl rfl (Val.lss rfl rfl rfl) ?_
          refine WP.nil ?_
          refine Out.next ?_
          refine WPc.seq ?_
          refine WPc.ifP rfl (fun h5 => ?_) (fun h5 => ?_)
          · skip
            have h5 : (((i : Nat) : Int) < ((0 : Nat) : Int)) := h5
            exfalso; simp at *; omega
          · skip
            have h5 : ¬ (((i : Nat) : Int) < ((0 : Nat) : Int)) := h5
            refine WPc.exit ?_
            refine Out.then_exit ?_
            refine Out.then_exit ?_
            refine Out.block_exit ?_
            refine Out.next ?_
            refine WPc.seq ?_
            refine WPc.region ?_
            refine WP.eff rfl rfl rfl (Eff.call rfl rfl Try.call16 (live_spec)) ?_
            rintro _ _ ⟨_, ⟨rfl, rfl⟩, rfl⟩
            show WP _ _ _ _ _ _ _ (Seq uimpl ((([] : List QOp)).length) (flatOf QA.cells (answers ansI [] (([] : List QOp)))) :: Seq uspec ((([] : List QOp)).length) (flatOf QA.cells (answers ansS [] (([] : List QOp)))) :: Old W0 :: F)
            refine WP.val rfl rfl rfl (Val.assign rfl rfl) ?_
            refine WP.nil ?_
            refine Out.next ?_
            refine WPc.ret ?_
            refine Out.drop ?_
            refine Out.drop ?_
            exact Out.ret1 (L' := _) Try.results4 rfl ⟨rfl, rfl⟩ (fun _ h => h)

set_option maxRecDepth 100000 in
set_option maxHeartbeats 2000000 in
theorem law_row (W0 : World) (l : List QOp) (b0 o0 c0 : Nat) (hc0 : l.length ≤ c0) (hr : ∀ w, Holds (Old W0) w → ∀ i x, l[i]? = some x → w.rangeAt b0 (o0 + i * 3) (QOp.cells x)) : Does Try.prog 4 [.slice (some ⟨b0, o0, none⟩) l.length c0] [Old W0] (fun v L => v = .bool true ∧ L = [Old W0]) := by
  refine Does.enter 162 Try.func4 rfl rfl rfl fun W F => ?_
  show WPc _ _ _ _ _ [(0, .slice (some ⟨b0, o0, none⟩) l.length c0)] (Old W0 :: F)
  refine WPc.seq ?_
  refine WPc.region ?_
  refine WP.val rfl rfl rfl (Val.assign rfl rfl) ?_
  refine WP.nil ?_
  refine Out.next ?_
  refine WPc.seq ?_
  refine WPc.seq ?_
  refine WPc.region ?_
  refine WP.val rfl rfl rfl (Val.move rfl rfl) ?_
  refine WP.val rfl rfl rfl (Val.len rfl Ty.sl33 rfl) ?_
  refine WP.val rfl rfl rfl (Val.gtr rfl rfl rfl) ?_
  refine WP.nil ?_
  refine Out.next ?_
  refine WPc.ifP rfl (fun h1 => ?_) (fun h1 => ?_)
  · skip
    have h1 : ((2147483647 : Int) < ((l.length : Nat) : Int)) := h1
    refine WPc.seq ?_
    refine WPc.region ?_
    refine WP.val rfl rfl rfl (Val.assign rfl rfl) ?_
    refine WP.nil ?_
    refine Out.next ?_
    refine WPc.ret ?_
    refine Out.then_ret ?_
    exact Out.ret1 (L' := _) Try.results4 rfl ⟨rfl, rfl⟩ (fun _ h => h)
  · skip
    have h1 : ¬ ((2147483647 : Int) < ((l.length : Nat) : Int)) := h1
    refine WPc.skip ?_
    refine Out.next ?_
    refine WPc.seq ?_
    refine WPc.seq ?_
    refine WPc.region ?_
    refine WP.val rfl rfl rfl (Val.move rfl rfl) ?_
    refine WP.eff rfl rfl rfl (Eff.call rfl rfl Try.call13 (ops_spec (Old W0) l (by first | omega | (simp; done)) (.slice (some ⟨b0, o0, none⟩) l.length c0) (.inl ⟨b0, o0, c0, rfl, hr⟩))) ?_
    rintro _ _ ⟨_, ⟨bb, rfl, rfl, hG⟩, rfl⟩
    show WP _ _ _ _ _ _ _ (Old W0 :: F)
    refine WP.val rfl rfl rfl (Val.not rfl rfl) ?_
    refine WP.nil ?_
    refine Out.next ?_
    refine WPc.cond rfl (fun h2 => ?_) (fun h2 => ?_)
    · skip
      have h2 : (!bb) = true := h2
      refine WPc.seq ?_
      refine WPc.region ?_
      refine WP.val rfl rfl rfl (Val.assign rfl rfl) ?_
      refine WP.nil ?_
      refine Out.next ?_
      refine WPc.ret ?_
      refine Out.then_ret ?_
      exact Out.ret1 (L' := _) Try.results4 rfl ⟨rfl, rfl⟩ (fun _ h => h)
    · skip
      have h2 : (!bb) = false := h2
      refine WPc.skip ?_
      refine Out.next ?_
      refine WPc.seq ?_
      refine WPc.seq ?_
      refine WPc.region ?_
      refine WP.val rfl rfl rfl (Val.move rfl rfl) ?_
      refine WP.val rfl rfl rfl (Val.len rfl Ty.sl33 rfl) ?_
      refine WP.val rfl rfl rfl (Val.move rfl rfl) ?_
      refine WP.nil ?_
      refine Out.next ?_
      refine WPc.block ?_
      refine WPc.loop (ι := Nat) (fun i => i ≤ (l).length ∧ ∀ a b, a < i → b < a → Pq l a b) (fun i => [(0, .slice (some ⟨b0, o0, none⟩) l.length c0), (17, .slice (some ⟨b0, o0, none⟩) l.length c0), (18, .int .i64 (((l.length : Nat) : Int))), (19, .int .i64 (((i : Nat) : Int)))]) (fun i => Old W0 :: F) (fun i => (l).length - i) 0 ⟨Nat.zero_le _, fun a b h => by omega⟩ ((Sub.cons rfl (Sub.cons rfl (Sub.cons rfl (Sub.cons rfl Sub.nil))))) (fun _ h => h) ?_
      rintro i ⟨hi, hP⟩
      show WPc _ _ _ _ _ [(0, .slice (some ⟨b0, o0, none⟩) l.length c0), (17, .slice (some ⟨b0, o0, none⟩) l.length c0), (18, .int .i64 (((l.length : Nat) : Int))), (19, .int .i64 (((i : Nat) : Int)))] (Old W0 :: F)
      refine WPc.seq ?_
      refine WPc.region ?_
      refine WP.val rfl rfl rfl (Val.lss rfl rfl rfl) ?_
      refine WP.nil ?_
      refine Out.next ?_
      refine WPc.seq ?_
      refine WPc.ifP rfl (fun h3 => ?_) (fun h3 => ?_)
      · skip
        have h3 : (((i : Nat) : Int) < ((l.length : Nat) : Int)) := h3
        refine WPc.skip ?_
        refine Out.next ?_
        refine WPc.seq ?_
        refine WPc.block ?_
        refine WPc.seq ?_
        have hlt : i < l.length := by omega
        obtain ⟨x, hx⟩ : ∃ x, l[i]? = some x := ⟨_, List.getElem?_eq_getElem hlt⟩
        refine WPc.region ?_
        refine WP.val rfl rfl rfl (Val.move rfl rfl) ?_
        refine WP.val rfl rfl rfl (Val.indexAddr (j := i) (q := o0 + i * 3) rfl Ty.sl33 rfl rfl (by omega) (by omega) (by omega)) ?_
        refine WP.val rfl rfl rfl (Val.loadAgg (cs := (QOp.cells x)) rfl Ty.ag36 rfl (by rfl) (fun w h => hr w (h.at 0 rfl) i x hx)) ?_
        refine WP.eff rfl rfl rfl (Eff.alloc rfl Ty.z36) ?_
        rintro _ _ ⟨b1, rfl, rfl⟩
        refine WP.val rfl rfl rfl (Val.assign rfl rfl) ?_
        refine WP.eff0 rfl rfl (Eff.storeAgg (cs := [.int .i64 (x.k), .int .i64 (x.id), .int .i64 (x.at_)]) (C' := [.int .i64 (x.k), .int .i64 (x.id), .int .i64 (x.at_)]) rfl Ty.ag36 rfl rfl rfl rfl (by simp) rfl) ?_
        rintro _ _ rfl
        refine WP.nil ?_
        refine Out.next ?_
        refine WPc.seq ?_
        refine WPc.region ?_
        refine WP.val rfl rfl rfl (Val.move rfl rfl) ?_
        refine WP.val rfl rfl rfl (Val.move rfl rfl) ?_
        refine WP.val rfl rfl rfl (Val.slice (lo := 0) (hi := i) (j := o0) (vlo := none) (vhi := some (.i64, ((i : Nat) : Int))) rfl Ty.sl33 rfl rfl rfl (by simp [bnd]) (by simp [bnd]; try omega) (by omega) (by omega) (by omega) (by simp)) ?_
        refine WP.val rfl rfl rfl (Val.len rfl Ty.sl33 rfl) ?_
        refine WP.val rfl rfl rfl (Val.move rfl rfl) ?_
        refine WP.nil ?_
        refine Out.next ?_
        refine WPc.block ?_
        refine WPc.loop (ι := Nat) (fun j => j ≤ i ∧ ∀ b, b < j → Pq l i b) (fun j => [(0, .slice (some ⟨b0, o0, none⟩) l.length c0), (4, .pointer (some ⟨b1, 0, none⟩)), (17, .slice (some ⟨b0, o0, none⟩) l.length c0), (18, .int .i64 (((l.length : Nat) : Int))), (19, .int .i64 (((i : Nat) : Int))), (26, .slice (some ⟨b0, o0, none⟩) i c0), (27, .int .i64 (((i : Nat) : Int))), (28, .int .i64 (((j : Nat) : Int)))]) (fun j => Blk b1 [.int .i64 (x.k), .int .i64 (x.id), .int .i64 (x.at_)] 36 :: Old W0 :: F) (fun j => i - j) 0 ⟨Nat.zero_le _, fun b hb => by omega⟩ ((Sub.cons rfl (Sub.cons rfl (Sub.cons rfl (Sub.cons rfl (Sub.cons rfl (Sub.cons rfl (Sub.cons rfl (Sub.cons rfl Sub.nil))))))))) (fun _ h => h) ?_
        rintro j ⟨hj, hQ⟩
        show WPc _ _ _ _ _ [(0, .slice (some ⟨b0, o0, none⟩) l.length c0), (4, .pointer (some ⟨b1, 0, none⟩)), (17, .slice (some ⟨b0, o0, none⟩) l.length c0), (18, .int .i64 (((l.length : Nat) : Int))), (19, .int .i64 (((i : Nat) : Int))), (26, .slice (some ⟨b0, o0, none⟩) i c0), (27, .int .i64 (((i : Nat) : Int))), (28, .int .i64 (((j : Nat) : Int)))] (Blk b1 [.int .i64 (x.k), .int .i64 (x.id), .int .i64 (x.at_)] 36 :: Old W0 :: F)
        refine WPc.seq ?_
        refine WPc.region ?_
        refine WP.val rfl rfl rfl (Val.lss rfl rfl rfl) ?_
        refine WP.nil ?_
        refine Out.next ?_
        refine WPc.seq ?_
        refine WPc.ifP rfl (fun h4 => ?_) (fun h4 => ?_)
        · skip
          have h4 : (((j : Nat) : Int) < ((i : Nat) : Int)) := h4
          refine WPc.skip ?_
          refine Out.next ?_
          refine WPc.seq ?_
          refine WPc.block ?_
          refine WPc.seq ?_
          obtain ⟨y, hy⟩ : ∃ y, l[j]? = some y := ⟨_, List.getElem?_eq_getElem (by omega)⟩
          refine WPc.region ?_
          refine WP.val rfl rfl rfl (Val.indexAddr (j := j) (q := o0 + j * 3) rfl Ty.sl33 rfl rfl (by omega) (by omega) (by omega)) ?_
          refine WP.val rfl rfl rfl (Val.loadAgg (cs := (QOp.cells y)) rfl Ty.ag36 rfl (by rfl) (fun w h => hr w (h.at 1 rfl) j y hy)) ?_
          refine WP.eff rfl rfl rfl (Eff.alloc rfl Ty.z36) ?_
          rintro _ _ ⟨b2, rfl, rfl⟩
          refine WP.eff0 rfl rfl (Eff.storeAgg (cs := [.int .i64 (y.k), .int .i64 (y.id), .int .i64 (y.at_)]) (C' := [.int .i64 (y.k), .int .i64 (y.id), .int .i64 (y.at_)]) rfl Ty.ag36 rfl rfl rfl rfl (by simp) rfl) ?_
          rintro _ _ rfl
          refine WP.nil ?_
          refine Out.next ?_
          refine WPc.seq ?_
          refine WPc.region ?_
          refine WP.val rfl rfl rfl (Val.fieldAddr (j := 0) rfl Ty.fo36_0 rfl rfl) ?_
          refine WP.val rfl rfl rfl (Val.load rfl Ty.sc3 rfl (fun w h => h.cell 1 rfl rfl)) ?_
          refine WP.val rfl rfl rfl (Val.eql rfl rfl rfl) ?_
          refine WP.val rfl rfl rfl (Val.move rfl rfl) ?_
          refine WP.split 35 rfl (fun h5 => ?_) (fun h5 => ?_)
          · skip
            have h5 : (x.k = (1 : Int)) := h5
            refine WP.valG rfl rfl rfl rfl rfl rfl rfl (Val.fieldAddr (j := 0) rfl Ty.fo36_0 rfl rfl) ?_
            refine WP.valG rfl rfl rfl rfl rfl rfl rfl (Val.load rfl Ty.sc3 rfl (fun w h => h.cell 0 rfl rfl)) ?_
            refine WP.valG rfl rfl rfl rfl rfl rfl rfl (Val.eql rfl rfl rfl) ?_
            refine WP.val rfl rfl rfl (Val.pickT rfl rfl rfl) ?_
            refine WP.val rfl rfl rfl (Val.move rfl rfl) ?_
            refine WP.split 40 rfl (fun h6 => ?_) (fun h6 => ?_)
            · skip
              have h6 : (y.k = (1 : Int)) := h6
              refine WP.valG rfl rfl rfl rfl rfl rfl rfl (Val.fieldAddr (j := 2) rfl Ty.fo36_2 rfl rfl) ?_
              refine WP.valG rfl rfl rfl rfl rfl rfl rfl (Val.load rfl Ty.sc2 rfl (fun w h => h.cell 1 rfl rfl)) ?_
              refine WP.valG rfl rfl rfl rfl rfl rfl rfl (Val.fieldAddr (j := 2) rfl Ty.fo36_2 rfl rfl) ?_
              refine WP.valG rfl rfl rfl rfl rfl rfl rfl (Val.load rfl Ty.sc2 rfl (fun w h => h.cell 0 rfl rfl)) ?_
              refine WP.valG rfl rfl rfl rfl rfl rfl rfl (Val.eql rfl rfl rfl) ?_
              refine WP.val rfl rfl rfl (Val.pickT rfl rfl rfl) ?_
              refine WP.val rfl rfl rfl (Val.move rfl rfl) ?_
              refine WP.split 47 rfl (fun h7 => ?_) (fun h7 => ?_)
              · skip
                have h7 : (x.at_ = y.at_) := h7
                refine WP.valG rfl rfl rfl rfl rfl rfl rfl (Val.fieldAddr (j := 1) rfl Ty.fo36_1 rfl rfl) ?_
                refine WP.valG rfl rfl rfl rfl rfl rfl rfl (Val.load rfl Ty.sc2 rfl (fun w h => h.cell 1 rfl rfl)) ?_
                refine WP.valG rfl rfl rfl rfl rfl rfl rfl (Val.fieldAddr (j := 1) rfl Ty.fo36_1 rfl rfl) ?_
                refine WP.valG rfl rfl rfl rfl rfl rfl rfl (Val.load rfl Ty.sc2 rfl (fun w h => h.cell 0 rfl rfl)) ?_
                refine WP.valG rfl rfl rfl rfl rfl rfl rfl (Val.neq rfl rfl rfl) ?_
                refine WP.val rfl rfl rfl (Val.pickT rfl rfl rfl) ?_
                refine WP.nil ?_
                refine Out.next ?_
                refine WPc.ifP rfl (fun h8 => ?_) (fun h8 => ?_)
                · skip
                  have h8 : (x.id ≠ y.id) := h8
                  refine WPc.seq ?_
                  refine WPc.region ?_
                  refine WP.val rfl rfl rfl (Val.assign rfl rfl) ?_
                  refine WP.nil ?_
                  refine Out.next ?_
                  refine WPc.ret ?_
                  refine Out.block_ret ?_
                  refine Out.then_ret ?_
                  refine Out.then_ret ?_
                  refine Out.block_ret ?_
                  refine Out.block_ret ?_
                  refine Out.then_ret ?_
                  refine Out.then_ret ?_
                  refine Out.block_ret ?_
                  refine Out.then_ret ?_
                  refine Out.drop ?_
                  refine Out.drop ?_
                  exact Out.ret1 (L' := _) Try.results4 rfl ⟨rfl, rfl⟩ (fun _ h => h)
                · skip
                  have h8 : ¬ (x.id ≠ y.id) := h8
                  refine WPc.skip ?_
                  refine Out.block ?_
                  refine Out.next ?_
                  refine WPc.region ?_
                  refine WP.val rfl rfl rfl (Val.add (z := ((j + 1 : Nat) : Int)) rfl rfl rfl ((w64 (by omega) (by omega)).trans (by omega))) ?_
                  refine WP.val rfl rfl rfl (Val.move rfl rfl) ?_
                  refine WP.nil ?_
                  refine Out.drop ?_
                  refine Out.again (j + 1) ?_ ?_ ?_ ?_
                  · exact ⟨by omega, pq_more hQ (pq_of hx hy (by omega))⟩
                  · first | omega | (dsimp only; omega)
                  · exact (Sub.cons rfl (Sub.cons rfl (Sub.cons rfl (Sub.cons rfl (Sub.cons rfl (Sub.cons rfl (Sub.cons rfl (Sub.cons rfl Sub.nil))))))))
                  · exact (fun _ h => h)
              · skip
                have h7 : ¬ (x.at_ = y.at_) := h7
                refine WP.skip rfl rfl rfl rfl rfl rfl rfl ?_
                refine WP.skip rfl rfl rfl rfl rfl rfl rfl ?_
                refine WP.skip rfl rfl rfl rfl rfl rfl rfl ?_
                refine WP.skip rfl rfl rfl rfl rfl rfl rfl ?_
                refine WP.skip rfl rfl rfl rfl rfl rfl rfl ?_
                refine WP.val rfl rfl rfl (Val.pickF rfl rfl rfl) ?_
                refine WP.nil ?_
                refine Out.next ?_
                refine WPc.condF rfl rfl ?_
                refine WPc.skip ?_
                refine Out.block ?_
                refine Out.next ?_
                refine WPc.region ?_
                refine WP.val rfl rfl rfl (Val.add (z := ((j + 1 : Nat) : Int)) rfl rfl rfl ((w64 (by omega) (by omega)).trans (by omega))) ?_
                refine WP.val rfl rfl rfl (Val.move rfl rfl) ?_
                refine WP.nil ?_
                refine Out.drop ?_
                refine Out.again (j + 1) ?_ ?_ ?_ ?_
                · exact ⟨by omega, pq_more hQ (pq_of hx hy (by omega))⟩
                · first | omega | (dsimp only; omega)
                · exact (Sub.cons rfl (Sub.cons rfl (Sub.cons rfl (Sub.cons rfl (Sub.cons rfl (Sub.cons rfl (Sub.cons rfl (Sub.cons rfl Sub.nil))))))))
                · exact (fun _ h => h)
            · skip
              have h6 : ¬ (y.k = (1 : Int)) := h6
              refine WP.skip rfl rfl rfl rfl rfl rfl rfl ?_
              refine WP.skip rfl rfl rfl rfl rfl rfl rfl ?_
              refine WP.skip rfl rfl rfl rfl rfl rfl rfl ?_
              refine WP.skip rfl rfl rfl rfl rfl rfl rfl ?_
              refine WP.skip rfl rfl rfl rfl rfl rfl rfl ?_
              refine WP.val rfl rfl rfl (Val.pickF rfl rfl rfl) ?_
              refine WP.val rfl rfl rfl (Val.move rfl rfl) ?_
              refine WP.skip rfl rfl rfl rfl rfl rfl rfl ?_
              refine WP.skip rfl rfl rfl rfl rfl rfl rfl ?_
              refine WP.skip rfl rfl rfl rfl rfl rfl rfl ?_
              refine WP.skip rfl rfl rfl rfl rfl rfl rfl ?_
              refine WP.skip rfl rfl rfl rfl rfl rfl rfl ?_
              refine WP.val rfl rfl rfl (Val.pickF rfl rfl rfl) ?_
              refine WP.nil ?_
              refine Out.next ?_
              refine WPc.condF rfl rfl ?_
              refine WPc.skip ?_
              refine Out.block ?_
              refine Out.next ?_
              refine WPc.region ?_
              refine WP.val rfl rfl rfl (Val.add (z := ((j + 1 : Nat) : Int)) rfl rfl rfl ((w64 (by omega) (by omega)).trans (by omega))) ?_
              refine WP.val rfl rfl rfl (Val.move rfl rfl) ?_
              refine WP.nil ?_
              refine Out.drop ?_
              refine Out.again (j + 1) ?_ ?_ ?_ ?_
              · exact ⟨by omega, pq_more hQ (pq_of hx hy (by omega))⟩
              · first | omega | (dsimp only; omega)
              · exact (Sub.cons rfl (Sub.cons rfl (Sub.cons rfl (Sub.cons rfl (Sub.cons rfl (Sub.cons rfl (Sub.cons rfl (Sub.cons rfl Sub.nil))))))))
              · exact (fun _ h => h)
          · skip
            have h5 : ¬ (x.k = (1 : Int)) := h5
            refine WP.skip rfl rfl rfl rfl rfl rfl rfl ?_
            refine WP.skip rfl rfl rfl rfl rfl rfl rfl ?_
            refine WP.skip rfl rfl rfl rfl rfl rfl rfl ?_
            refine WP.val rfl rfl rfl (Val.pickF rfl rfl rfl) ?_
            refine WP.val rfl rfl rfl (Val.move rfl rfl) ?_
            refine WP.skip rfl rfl rfl rfl rfl rfl rfl ?_
            refine WP.skip rfl rfl rfl rfl rfl rfl rfl ?_
            refine WP.skip rfl rfl rfl rfl rfl rfl rfl ?_
            refine WP.skip rfl rfl rfl rfl rfl rfl rfl ?_
            refine WP.skip rfl rfl rfl rfl rfl rfl rfl ?_
            refine WP.val rfl rfl rfl (Val.pickF rfl rfl rfl) ?_
            refine WP.val rfl rfl rfl (Val.move rfl rfl) ?_
            refine WP.skip rfl rfl rfl rfl rfl rfl rfl ?_
            refine WP.skip rfl rfl rfl rfl rfl rfl rfl ?_
            refine WP.skip rfl rfl rfl rfl rfl rfl rfl ?_
            refine WP.skip rfl rfl rfl rfl rfl rfl rfl ?_
            refine WP.skip rfl rfl rfl rfl rfl rfl rfl ?_
            refine WP.val rfl rfl rfl (Val.pickF rfl rfl rfl) ?_
            refine WP.nil ?_
            refine Out.next ?_
            refine WPc.condF rfl rfl ?_
            refine WPc.skip ?_
            refine Out.block ?_
            refine Out.next ?_
            refine WPc.region ?_
            refine WP.val rfl rfl rfl (Val.add (z := ((j + 1 : Nat) : Int)) rfl rfl rfl ((w64 (by omega) (by omega)).trans (by omega))) ?_
            refine WP.val rfl rfl rfl (Val.move rfl rfl) ?_
            refine WP.nil ?_
            refine Out.drop ?_
            refine Out.again (j + 1) ?_ ?_ ?_ ?_
            · exact ⟨by omega, pq_more hQ (pq_of hx hy (by omega))⟩
            · first | omega | (dsimp only; omega)
            · exact (Sub.cons rfl (Sub.cons rfl (Sub.cons rfl (Sub.cons rfl (Sub.cons rfl (Sub.cons rfl (Sub.cons rfl (Sub.cons rfl Sub.nil))))))))
            · exact (fun _ h => h)
        · skip
          have h4 : ¬ (((j : Nat) : Int) < ((i : Nat) : Int)) := h4
          refine WPc.exit ?_
          refine Out.then_exit ?_
          refine Out.then_exit ?_
          refine Out.block_exit ?_
          refine Out.block ?_
          refine Out.next ?_
          refine WPc.region ?_
          refine WP.val rfl rfl rfl (Val.add (z := ((i + 1 : Nat) : Int)) rfl rfl rfl ((w64 (by omega) (by omega)).trans (by omega))) ?_
          refine WP.val rfl rfl rfl (Val.move rfl rfl) ?_
          refine WP.nil ?_
          refine Out.drop ?_
          refine Out.again (i + 1) ?_ ?_ ?_ ?_
          · exact ⟨by omega, pq_next hP (fun b hb => hQ b (by omega))⟩
          · first | omega | (dsimp only; omega)
          · exact (Sub.cons rfl (Sub.cons rfl (Sub.cons rfl (Sub.cons rfl Sub.nil))))
          · exact (fun _ h => h)
      · skip
        have h3 : ¬ (((i : Nat) : Int) < ((l.length : Nat) : Int)) := h3
        refine WPc.exit ?_
        refine Out.then_exit ?_
        refine Out.then_exit ?_
        refine Out.block_exit ?_
        refine Out.next ?_
        refine WPc.seq ?_
        obtain ⟨g1, g2⟩ := hG (by simpa using h2)
        have hil : i = (l).length := by first | omega | (simp at *; omega)
        have hti : NoTie l := notie_of (fun a b ha hb => hP a b (by rw [hil]; exact ha) hb)
        refine WPc.region ?_
        refine WP.val rfl rfl rfl (Val.move rfl rfl) ?_
        refine WP.eff rfl rfl rfl (Eff.call rfl rfl Try.call14 (impl_spec (Old W0) l g1 (fun x hx => ⟨(g2 x hx).2.2.1, (g2 x hx).2.2.2⟩) hti (.slice (some ⟨b0, o0, none⟩) l.length c0) (.inl ⟨b0, o0, c0, rfl, hr⟩))) ?_
        rintro uimpl _ ⟨_, rfl, rfl⟩
        show WP _ _ _ _ _ _ _ (Own 40 4 uimpl ((l).length) (flatOf QA.cells (answers ansI [] (l))) :: Old W0 :: F)
        refine WP.val rfl rfl rfl (Val.move rfl rfl) ?_
        refine WP.perm pl1 ?_
        refine WP.eff rfl rfl rfl (Eff.call rfl rfl Try.call15 (spec_spec (Old W0) l g1 (fun x hx => ⟨(g2 x hx).2.2.1, (g2 x hx).2.2.2⟩) hti (.slice (some ⟨b0, o0, none⟩) l.length c0) (.inl ⟨b0, o0, c0, rfl, hr⟩))) ?_
        rintro uspec _ ⟨_, rfl, rfl⟩
        show WP _ _ _ _ _ _ _ (Own 40 4 uspec ((l).length) (flatOf QA.cells (answers ansS [] (l))) :: Old W0 :: Own 40 4 uimpl ((l).length) (flatOf QA.cells (answers ansI [] (l))) :: F)
        refine WP.val rfl rfl rfl (Val.assign rfl rfl) ?_
        refine WP.val rfl rfl rfl (Val.assign rfl rfl) ?_
        refine WP.nil ?_
        refine Out.next ?_
        refine WPc.seq ?_
        refine WPc.seq ?_
        refine WPc.perm pl2 ?_
        refine WPc.conv (fun w h => h.seqMk) ?_
        show WPc _ _ _ _ _ _ (Seq uimpl ((l).length) (flatOf QA.cells (answers ansI [] (l))) :: Own 40 4 uspec ((l).length) (flatOf QA.cells (answers ansS [] (l))) :: Old W0 :: F)
        refine WPc.perm pl1 ?_
        refine WPc.conv (fun w h => h.seqMk) ?_
        show WPc _ _ _ _ _ _ (Seq uspec ((l).length) (flatOf QA.cells (answers ansS [] (l))) :: Seq uimpl ((l).length) (flatOf QA.cells (answers ansI [] (l))) :: Old W0 :: F)
        refine WPc.region ?_
        refine WP.val rfl rfl rfl (Val.move rfl rfl) ?_
        refine WP.val rfl rfl rfl (Val.lenSeq rfl Ty.sl37 rfl (fun w h => h.at 1 rfl)) ?_
        refine WP.val rfl rfl rfl (Val.move rfl rfl) ?_
        refine WP.val rfl rfl rfl (Val.len rfl Ty.sl33 rfl) ?_
        refine WP.val rfl rfl rfl (Val.neq rfl rfl rfl) ?_
        refine WP.nil ?_
        refine Out.next ?_
        refine WPc.ifP rfl (fun h9 => ?_) (fun h9 => ?_)
        · skip
          have h9 : ((((l).length : Nat) : Int) ≠ ((l.length : Nat) : Int)) := h9
          exfalso; first | omega | (simp at *; done) | (simp at *; omega)
        · skip
          have h9 : ¬ ((((l).length : Nat) : Int) ≠ ((l.length : Nat) : Int)) := h9
          refine WPc.skip ?_
          refine Out.next ?_
          refine WPc.seq ?_
          refine WPc.seq ?_
          refine WPc.region ?_
          refine WP.val rfl rfl rfl (Val.move rfl rfl) ?_
          refine WP.val rfl rfl rfl (Val.len rfl Ty.sl33 rfl) ?_
          refine WP.val rfl rfl rfl (Val.move rfl rfl) ?_
          refine WP.nil ?_
          refine Out.next ?_
          refine WPc.block ?_
          refine WPc.perm pl2 ?_
          refine WPc.perm pl1 ?_
          refine WPc.perm pl2 ?_
          refine WPc.loop (ι := Nat) (fun i => i ≤ (l).length) (fun i => [(7, uimpl), (8, uspec), (65, .slice (some ⟨b0, o0, none⟩) l.length c0), (66, .int .i64 (((l.length : Nat) : Int))), (67, .int .i64 (((i : Nat) : Int)))]) (fun i => Seq uimpl ((l).length) (flatOf QA.cells (answers ansI [] (l))) :: Seq uspec ((l).length) (flatOf QA.cells (answers ansS [] (l))) :: Old W0 :: F) (fun i => (l).length - i) 0 (Nat.zero_le _) ((Sub.cons rfl (Sub.cons rfl (Sub.cons rfl (Sub.cons rfl (Sub.cons rfl Sub.nil)))))) (fun _ h => h) ?_
          rintro i hi
          show WPc _ _ _ _ _ [(7, uimpl), (8, uspec), (65, .slice (some ⟨b0, o0, none⟩) l.length c0), (66, .int .i64 (((l.length : Nat) : Int))), (67, .int .i64 (((i : Nat) : Int)))] (Seq uimpl ((l).length) (flatOf QA.cells (answers ansI [] (l))) :: Seq uspec ((l).length) (flatOf QA.cells (answers ansS [] (l))) :: Old W0 :: F)
          replace hi : i ≤ (l).length := hi
          refine WPc.seq ?_
          refine WPc.region ?_
          refine WP.val rfl rfl rfl (Val.lss rfl rfl rfl) ?_
          refine WP.nil ?_
          refine Out.next ?_
          refine WPc.seq ?_
          refine WPc.ifP rfl (fun h10 => ?_) (fun h10 => ?_)
          · skip
            have h10 : (((i : Nat) : Int) < ((l.length : Nat) : Int)) := h10
            refine WPc.skip ?_
            refine Out.next ?_
            refine WPc.seq ?_
            refine WPc.block ?_
            refine WPc.seq ?_
            have hlt : i < l.length := by omega
            obtain ⟨x, hx⟩ : ∃ x, l[i]? = some x := ⟨_, List.getElem?_eq_getElem hlt⟩
            have ha := answers_at ansI [] l i x hx
            have hb := answers_at ansS [] l i x hx
            generalize hmd : List.foldl qstep [] (l.take i) = m at ha hb
            have heq : x.k = 2 ∨ x.k = 3 → (ansS m x).ok = (ansI m x).ok ∧ (ansS m x).id = (ansI m x).id ∧ (ansS m x).at_ = (ansI m x).at_ := ans_same
            have heq4 : x.k = 4 → (ansS m x).n = (ansI m x).n := ans_n
            generalize ansI m x = a at *
            generalize ansS m x = b at *
            refine WPc.open (fun w h => h.seqOpen (by omega)) ?_
            rintro ⟨g3, cg3, spg3, Tg3⟩
            refine WPc.pure (fun hvg3 => ?_)
            refine WPc.know 7 (.slice (some ⟨g3, 0, none⟩) ((l).length) cg3) rfl hvg3.1 ?_
            show WPc _ _ _ _ _ _ (Ro (Blk g3 (flatOf QA.cells (answers ansI [] (l)) ++ spg3) Tg3) :: Seq uimpl ((l).length) (flatOf QA.cells (answers ansI [] (l))) :: Seq uspec ((l).length) (flatOf QA.cells (answers ansS [] (l))) :: Old W0 :: F)
            refine WPc.perm pl2 ?_
            refine WPc.open (fun w h => h.seqOpen (by omega)) ?_
            rintro ⟨g4, cg4, spg4, Tg4⟩
            refine WPc.pure (fun hvg4 => ?_)
            refine WPc.know 8 (.slice (some ⟨g4, 0, none⟩) ((l).length) cg4) rfl hvg4.1 ?_
            show WPc _ _ _ _ _ _ (Ro (Blk g4 (flatOf QA.cells (answers ansS [] (l)) ++ spg4) Tg4) :: Seq uspec ((l).length) (flatOf QA.cells (answers ansS [] (l))) :: Ro (Blk g3 (flatOf QA.cells (answers ansI [] (l)) ++ spg3) Tg3) :: Seq uimpl ((l).length) (flatOf QA.cells (answers ansI [] (l))) :: Old W0 :: F)
            refine WPc.region ?_
            refine WP.val rfl rfl rfl (Val.move rfl rfl) ?_
            refine WP.val rfl rfl rfl (Val.indexAddr (j := i) (q := o0 + i * 3) rfl Ty.sl33 rfl rfl (by omega) (by omega) (by omega)) ?_
            refine WP.val rfl rfl rfl (Val.loadAgg (cs := (QOp.cells x)) rfl Ty.ag36 rfl (by rfl) (fun w h => hr w (h.at 4 rfl) i x hx)) ?_
            refine WP.eff rfl rfl rfl (Eff.alloc rfl Ty.z36) ?_
            rintro _ _ ⟨b5, rfl, rfl⟩
            refine WP.val rfl rfl rfl (Val.assign rfl rfl) ?_
            refine WP.eff0 rfl rfl (Eff.storeAgg (cs := [.int .i64 (x.k), .int .i64 (x.id), .int .i64 (x.at_)]) (C' := [.int .i64 (x.k), .int .i64 (x.id), .int .i64 (x.at_)]) rfl Ty.ag36 rfl rfl rfl rfl (by simp) rfl) ?_
            rintro _ _ rfl
            refine WP.nil ?_
            refine Out.next ?_
            refine WPc.seq ?_
            refine WPc.seq ?_
            refine WPD.start (Sat W (Blk b5 [.int .i64 (x.k), .int .i64 (x.id), .int .i64 (x.at_)] 36 :: Ro (Blk g4 (flatOf QA.cells (answers ansS [] (l)) ++ spg4) Tg4) :: Seq uspec ((l).length) (flatOf QA.cells (answers ansS [] (l))) :: Ro (Blk g3 (flatOf QA.cells (answers ansI [] (l)) ++ spg3) Tg3) :: Seq uimpl ((l).length) (flatOf QA.cells (answers ansI [] (l))) :: Old W0 :: F)) Ty.mixed ?_
            refine WPD.takeM 0 rfl rfl rfl rfl (by kernel_rfl) (by kernel_rfl) (by kernel_rfl) (by kernel_rfl) (fun _ _ _ h => h) (fun _ h => h) (Val.fieldAddr (j := 0) rfl Ty.fo36_0 rfl rfl) ?_
            refine WPD.take 1 rfl rfl rfl rfl (by kernel_rfl) (by kernel_rfl) (by kernel_rfl) (by kernel_rfl) (fun _ _ _ h => h) (by kernel_rfl) (fun _ h => h) (Val.load rfl Ty.sc3 rfl (fun w h => h.cell 0 rfl rfl)) ?_
            refine WPD.take 2 rfl rfl rfl rfl (by kernel_rfl) (by kernel_rfl) (by kernel_rfl) (by kernel_rfl) (fun _ _ _ h => h) (by kernel_rfl) (fun _ h => h) (Val.eql rfl rfl rfl) ?_
            refine WPD.takeM 3 rfl rfl rfl rfl (by kernel_rfl) (by kernel_rfl) (by kernel_rfl) (by kernel_rfl) (fun _ _ _ h => h) (fun _ h => h) (Val.move rfl rfl) ?_
            refine WPD.split 75 rfl (fun h11 => ?_) (fun h11 => ?_)
            · skip
              have h11 : (x.k = (2 : Int)) := h11
              refine WPD.skip 4 rfl rfl rfl rfl rfl rfl rfl rfl (by kernel_rfl) (by kernel_rfl) (by kernel_rfl) (by kernel_rfl) (fun _ _ _ h => h) (fun _ h => h) ?_
              refine WPD.skip 5 rfl rfl rfl rfl rfl rfl rfl rfl (by kernel_rfl) (by kernel_rfl) (by kernel_rfl) (by kernel_rfl) (fun _ _ _ h => h) (fun _ h => h) ?_
              refine WPD.skip 6 rfl rfl rfl rfl rfl rfl rfl rfl (by kernel_rfl) (by kernel_rfl) (by kernel_rfl) (by kernel_rfl) (fun _ _ _ h => h) (fun _ h => h) ?_
              refine WPD.takeM 7 rfl rfl rfl rfl (by kernel_rfl) (by kernel_rfl) (by kernel_rfl) (by kernel_rfl) (fun _ _ _ h => h) (fun _ h => h) (Val.pickT rfl rfl rfl) ?_
              refine WPD.takeM 8 rfl rfl rfl rfl (by kernel_rfl) (by kernel_rfl) (by kernel_rfl) (by kernel_rfl) (fun _ _ _ h => h) (fun _ h => h) (Val.move rfl rfl) ?_
              refine WPD.takeGM 9 rfl rfl rfl rfl rfl rfl rfl rfl (by kernel_rfl) (by kernel_rfl) (by kernel_rfl) (by kernel_rfl) (fun _ _ _ h => h) (fun _ h => h) (Val.move rfl rfl) ?_
              refine WPD.takeGM 10 rfl rfl rfl rfl rfl rfl rfl rfl (by kernel_rfl) (by kernel_rfl) (by kernel_rfl) (by kernel_rfl) (fun _ _ _ h => h) (fun _ h => h) (Val.move rfl rfl) ?_
              refine WPD.takeGM 11 rfl rfl rfl rfl rfl rfl rfl rfl (by kernel_rfl) (by kernel_rfl) (by kernel_rfl) (by kernel_rfl) (fun _ _ _ h => h) (fun _ h => h) (Val.indexAddr (j := i) (q := i * 4) rfl Ty.sl37 rfl rfl (by omega) (by omega) (by omega)) ?_
              refine WPD.takeG 12 rfl rfl rfl rfl rfl rfl rfl rfl (by kernel_rfl) (by kernel_rfl) (by kernel_rfl) (by kernel_rfl) (fun _ _ _ h => h) (by kernel_rfl) (fun _ h => h) (Val.loadAgg (cs := [.bool (a.ok), .int .i64 (a.id), .int .i64 (a.at_), .int .i64 (a.n)]) rfl Ty.ag40 rfl (by rfl) (fun w h => (by exact (h.at 3 rfl).ro.cell_range (flatOf_range QA.len ha)))) ?_
              refine WPD.takeGM 13 rfl rfl rfl rfl rfl rfl rfl rfl (by kernel_rfl) (by kernel_rfl) (by kernel_rfl) (by kernel_rfl) (fun _ _ _ h => h) (fun _ h => h) (Val.move rfl rfl) ?_
              refine WPD.takeGM 14 rfl rfl rfl rfl rfl rfl rfl rfl (by kernel_rfl) (by kernel_rfl) (by kernel_rfl) (by kernel_rfl) (fun _ _ _ h => h) (fun _ h => h) (Val.move rfl rfl) ?_
              refine WPD.takeGM 15 rfl rfl rfl rfl rfl rfl rfl rfl (by kernel_rfl) (by kernel_rfl) (by kernel_rfl) (by kernel_rfl) (fun _ _ _ h => h) (fun _ h => h) (Val.indexAddr (j := i) (q := i * 4) rfl Ty.sl37 rfl rfl (by omega) (by omega) (by omega)) ?_
              refine WPD.takeG 16 rfl rfl rfl rfl rfl rfl rfl rfl (by kernel_rfl) (by kernel_rfl) (by kernel_rfl) (by kernel_rfl) (fun _ _ _ h => h) (by kernel_rfl) (fun _ h => h) (Val.loadAgg (cs := [.bool (a.ok), .int .i64 (a.id), .int .i64 (a.at_), .int .i64 (b.n)]) rfl Ty.ag40 rfl (by rfl) (fun w h => (by rw [← (heq (by omega)).1, ← (heq (by omega)).2.1, ← (heq (by omega)).2.2]; exact (h.at 1 rfl).ro.cell_range (flatOf_range QA.len hb)))) ?_
              refine WPD.takeG 17 rfl rfl rfl rfl rfl rfl rfl rfl (by kernel_rfl) (by kernel_rfl) (by kernel_rfl) (by kernel_rfl) (fun _ _ _ h => h) (by kernel_rfl) (fun _ h => h) (Val.neqQA rfl rfl rfl) ?_
              refine WPD.takeM 18 rfl rfl rfl rfl (by kernel_rfl) (by kernel_rfl) (by kernel_rfl) (by kernel_rfl) (fun _ _ _ h => h) (fun _ h => h) (Val.pickT rfl rfl rfl) ?_
              refine WPD.takeM 19 rfl rfl rfl rfl (by kernel_rfl) (by kernel_rfl) (by kernel_rfl) (by kernel_rfl) (fun _ _ _ h => h) (fun _ h => h) (Val.move rfl rfl) ?_
              refine WPD.splitB 91 rfl (fun h12 => ?_) (fun h12 => ?_)
              · skip
                refine WPD.takeGM 20 rfl rfl rfl rfl rfl rfl rfl rfl (by kernel_rfl) (by kernel_rfl) (by kernel_rfl) (by kernel_rfl) (fun _ _ _ h => h) (fun _ h => h) (Val.move rfl rfl) ?_
                refine WPD.takeGM 21 rfl rfl rfl rfl rfl rfl rfl rfl (by kernel_rfl) (by kernel_rfl) (by kernel_rfl) (by kernel_rfl) (fun _ _ _ h => h) (fun _ h => h) (Val.move rfl rfl) ?_
                refine WPD.takeGM 22 rfl rfl rfl rfl rfl rfl rfl rfl (by kernel_rfl) (by kernel_rfl) (by kernel_rfl) (by kernel_rfl) (fun _ _ _ h => h) (fun _ h => h) (Val.indexAddr (j := i) (q := i * 4) rfl Ty.sl37 rfl rfl (by omega) (by omega) (by omega)) ?_
                refine WPD.takeGM 23 rfl rfl rfl rfl rfl rfl rfl rfl (by kernel_rfl) (by kernel_rfl) (by kernel_rfl) (by kernel_rfl) (fun _ _ _ h => h) (fun _ h => h) (Val.fieldAddr (j := i * 4) rfl Ty.fo40_0 rfl rfl) ?_
                refine WPD.takeG 24 rfl rfl rfl rfl rfl rfl rfl rfl (by kernel_rfl) (by kernel_rfl) (by kernel_rfl) (by kernel_rfl) (fun _ _ _ h => h) (by kernel_rfl) (fun _ h => h) (Val.load (v := .bool (a.ok)) rfl Ty.sc4 rfl (fun w h => (by exact ((h.at 3 rfl).ro.cell_range (flatOf_range QA.len ha)) 0 _ rfl))) ?_
                refine WPD.takeGM 25 rfl rfl rfl rfl rfl rfl rfl rfl (by kernel_rfl) (by kernel_rfl) (by kernel_rfl) (by kernel_rfl) (fun _ _ _ h => h) (fun _ h => h) (Val.move rfl rfl) ?_
                refine WPD.splitB 97 rfl (fun h13 => ?_) (fun h13 => ?_)
                · skip
                  refine WPD.skip 26 rfl rfl rfl rfl rfl rfl rfl rfl (by kernel_rfl) (by kernel_rfl) (by kernel_rfl) (by kernel_rfl) (fun _ _ _ h => h) (fun _ h => h) ?_
                  refine WPD.skip 27 rfl rfl rfl rfl rfl rfl rfl rfl (by kernel_rfl) (by kernel_rfl) (by kernel_rfl) (by kernel_rfl) (fun _ _ _ h => h) (fun _ h => h) ?_
                  refine WPD.skip 28 rfl rfl rfl rfl rfl rfl rfl rfl (by kernel_rfl) (by kernel_rfl) (by kernel_rfl) (by kernel_rfl) (fun _ _ _ h => h) (fun _ h => h) ?_
                  refine WPD.skip 29 rfl rfl rfl rfl rfl rfl rfl rfl (by kernel_rfl) (by kernel_rfl) (by kernel_rfl) (by kernel_rfl) (fun _ _ _ h => h) (fun _ h => h) ?_
                  refine WPD.skip 30 rfl rfl rfl rfl rfl rfl rfl rfl (by kernel_rfl) (by kernel_rfl) (by kernel_rfl) (by kernel_rfl) (fun _ _ _ h => h) (fun _ h => h) ?_
                  refine WPD.takeGM 31 rfl rfl rfl rfl rfl rfl rfl rfl (by kernel_rfl) (by kernel_rfl) (by kernel_rfl) (by kernel_rfl) (fun _ _ _ h => h) (fun _ h => h) (Val.pickT rfl rfl rfl) ?_
                  refine WPD.takeM 32 rfl rfl rfl rfl (by kernel_rfl) (by kernel_rfl) (by kernel_rfl) (by kernel_rfl) (fun _ _ _ h => h) (fun _ h => h) (Val.pickT rfl rfl rfl) ?_
                  refine WPD.takeM 33 rfl rfl rfl rfl (by kernel_rfl) (by kernel_rfl) (by kernel_rfl) (by kernel_rfl) (fun _ _ _ h => h) (fun _ h => h) (Val.move rfl rfl) ?_
                  refine WPD.takeGM 34 rfl rfl rfl rfl rfl rfl rfl rfl (by kernel_rfl) (by kernel_rfl) (by kernel_rfl) (by kernel_rfl) (fun _ _ _ h => h) (fun _ h => h) (Val.move rfl rfl) ?_
                  refine WPD.takeGM 35 rfl rfl rfl rfl rfl rfl rfl rfl (by kernel_rfl) (by kernel_rfl) (by kernel_rfl) (by kernel_rfl) (fun _ _ _ h => h) (fun _ h => h) (Val.move rfl rfl) ?_
                  refine WPD.takeGM 36 rfl rfl rfl rfl rfl rfl rfl rfl (by kernel_rfl) (by kernel_rfl) (by kernel_rfl) (by kernel_rfl) (fun _ _ _ h => h) (fun _ h => h) (Val.indexAddr (j := i) (q := i * 4) rfl Ty.sl37 rfl rfl (by omega) (by omega) (by omega)) ?_
                  refine WPD.takeGM 37 rfl rfl rfl rfl rfl rfl rfl rfl (by kernel_rfl) (by kernel_rfl) (by kernel_rfl) (by kernel_rfl) (fun _ _ _ h => h) (fun _ h => h) (Val.fieldAddr (j := i * 4) rfl Ty.fo40_0 rfl rfl) ?_
                  refine WPD.takeG 38 rfl rfl rfl rfl rfl rfl rfl rfl (by kernel_rfl) (by kernel_rfl) (by kernel_rfl) (by kernel_rfl) (fun _ _ _ h => h) (by kernel_rfl) (fun _ h => h) (Val.load (v := .bool (a.ok)) rfl Ty.sc4 rfl (fun w h => (by exact ((h.at 3 rfl).ro.cell_range (flatOf_range QA.len ha)) 0 _ rfl))) ?_
                  refine WPD.takeGM 39 rfl rfl rfl rfl rfl rfl rfl rfl (by kernel_rfl) (by kernel_rfl) (by kernel_rfl) (by kernel_rfl) (fun _ _ _ h => h) (fun _ h => h) (Val.move rfl rfl) ?_
                  refine WPD.takeGM 40 rfl rfl rfl rfl rfl rfl rfl rfl (by kernel_rfl) (by kernel_rfl) (by kernel_rfl) (by kernel_rfl) (fun _ _ _ h => h) (fun _ h => h) (Val.move rfl rfl) ?_
                  refine WPD.takeGM 41 rfl rfl rfl rfl rfl rfl rfl rfl (by kernel_rfl) (by kernel_rfl) (by kernel_rfl) (by kernel_rfl) (fun _ _ _ h => h) (fun _ h => h) (Val.indexAddr (j := i) (q := i * 4) rfl Ty.sl37 rfl rfl (by omega) (by omega) (by omega)) ?_
                  refine WPD.takeGM 42 rfl rfl rfl rfl rfl rfl rfl rfl (by kernel_rfl) (by kernel_rfl) (by kernel_rfl) (by kernel_rfl) (fun _ _ _ h => h) (fun _ h => h) (Val.fieldAddr (j := i * 4) rfl Ty.fo40_0 rfl rfl) ?_
                  refine WPD.takeG 43 rfl rfl rfl rfl rfl rfl rfl rfl (by kernel_rfl) (by kernel_rfl) (by kernel_rfl) (by kernel_rfl) (fun _ _ _ h => h) (by kernel_rfl) (fun _ h => h) (Val.load (v := .bool (a.ok)) rfl Ty.sc4 rfl (fun w h => (by rw [← (heq (by omega)).1]; exact ((h.at 1 rfl).ro.cell_range (flatOf_range QA.len hb)) 0 _ rfl))) ?_
                  refine WPD.takeG 44 rfl rfl rfl rfl rfl rfl rfl rfl (by kernel_rfl) (by kernel_rfl) (by kernel_rfl) (by kernel_rfl) (fun _ _ _ h => h) (by kernel_rfl) (fun _ h => h) (Val.neqSame rfl Ty2.bo4 rfl rfl) ?_
                  refine WPD.takeGM 45 rfl rfl rfl rfl rfl rfl rfl rfl (by kernel_rfl) (by kernel_rfl) (by kernel_rfl) (by kernel_rfl) (fun _ _ _ h => h) (fun _ h => h) (Val.move rfl rfl) ?_
                  refine WPD.takeGM 46 rfl rfl rfl rfl rfl rfl rfl rfl (by kernel_rfl) (by kernel_rfl) (by kernel_rfl) (by kernel_rfl) (fun _ _ _ h => h) (fun _ h => h) (Val.move rfl rfl) ?_
                  refine WPD.takeGM 47 rfl rfl rfl rfl rfl rfl rfl rfl (by kernel_rfl) (by kernel_rfl) (by kernel_rfl) (by kernel_rfl) (fun _ _ _ h => h) (fun _ h => h) (Val.move rfl rfl) ?_
                  refine WPD.takeGM 48 rfl rfl rfl rfl rfl rfl rfl rfl (by kernel_rfl) (by kernel_rfl) (by kernel_rfl) (by kernel_rfl) (fun _ _ _ h => h) (fun _ h => h) (Val.indexAddr (j := i) (q := i * 4) rfl Ty.sl37 rfl rfl (by omega) (by omega) (by omega)) ?_
                  refine WPD.takeGM 49 rfl rfl rfl rfl rfl rfl rfl rfl (by kernel_rfl) (by kernel_rfl) (by kernel_rfl) (by kernel_rfl) (fun _ _ _ h => h) (fun _ h => h) (Val.fieldAddr (j := i * 4 + 1) rfl Ty.fo40_1 rfl rfl) ?_
                  refine WPD.takeG 50 rfl rfl rfl rfl rfl rfl rfl rfl (by kernel_rfl) (by kernel_rfl) (by kernel_rfl) (by kernel_rfl) (fun _ _ _ h => h) (by kernel_rfl) (fun _ h => h) (Val.load (v := .int .i64 (a.id)) rfl Ty.sc2 rfl (fun w h => (by exact ((h.at 3 rfl).ro.cell_range (flatOf_range QA.len ha)) 1 _ rfl))) ?_
                  refine WPD.takeGM 51 rfl rfl rfl rfl rfl rfl rfl rfl (by kernel_rfl) (by kernel_rfl) (by kernel_rfl) (by kernel_rfl) (fun _ _ _ h => h) (fun _ h => h) (Val.move rfl rfl) ?_
                  refine WPD.takeGM 52 rfl rfl rfl rfl rfl rfl rfl rfl (by kernel_rfl) (by kernel_rfl) (by kernel_rfl) (by kernel_rfl) (fun _ _ _ h => h) (fun _ h => h) (Val.move rfl rfl) ?_
                  refine WPD.takeGM 53 rfl rfl rfl rfl rfl rfl rfl rfl (by kernel_rfl) (by kernel_rfl) (by kernel_rfl) (by kernel_rfl) (fun _ _ _ h => h) (fun _ h => h) (Val.indexAddr (j := i) (q := i * 4) rfl Ty.sl37 rfl rfl (by omega) (by omega) (by omega)) ?_
                  refine WPD.takeGM 54 rfl rfl rfl rfl rfl rfl rfl rfl (by kernel_rfl) (by kernel_rfl) (by kernel_rfl) (by kernel_rfl) (fun _ _ _ h => h) (fun _ h => h) (Val.fieldAddr (j := i * 4 + 1) rfl Ty.fo40_1 rfl rfl) ?_
                  refine WPD.takeG 55 rfl rfl rfl rfl rfl rfl rfl rfl (by kernel_rfl) (by kernel_rfl) (by kernel_rfl) (by kernel_rfl) (fun _ _ _ h => h) (by kernel_rfl) (fun _ h => h) (Val.load (v := .int .i64 (a.id)) rfl Ty.sc2 rfl (fun w h => (by rw [← (heq (by omega)).2.1]; exact ((h.at 1 rfl).ro.cell_range (flatOf_range QA.len hb)) 1 _ rfl))) ?_
                  refine WPD.takeG 56 rfl rfl rfl rfl rfl rfl rfl rfl (by kernel_rfl) (by kernel_rfl) (by kernel_rfl) (by kernel_rfl) (fun _ _ _ h => h) (by kernel_rfl) (fun _ h => h) (Val.neq rfl rfl rfl) ?_
                  refine WPD.takeGM 57 rfl rfl rfl rfl rfl rfl rfl rfl (by kernel_rfl) (by kernel_rfl) (by kernel_rfl) (by kernel_rfl) (fun _ _ _ h => h) (fun _ h => h) (Val.pickF rfl rfl rfl) ?_
                  refine WPD.takeGM 58 rfl rfl rfl rfl rfl rfl rfl rfl (by kernel_rfl) (by kernel_rfl) (by kernel_rfl) (by kernel_rfl) (fun _ _ _ h => h) (fun _ h => h) (Val.move rfl rfl) ?_
                  refine WPD.split 130 rfl (fun h14 => ?_) (fun h14 => ?_)
                  · skip
                    have h14 : (a.id ≠ a.id) := h14
                    exact absurd rfl h14
                  · skip
                    have h14 : ¬ (a.id ≠ a.id) := h14
                    refine WPD.takeGM 59 rfl rfl rfl rfl rfl rfl rfl rfl (by kernel_rfl) (by kernel_rfl) (by kernel_rfl) (by kernel_rfl) (fun _ _ _ h => h) (fun _ h => h) (Val.move rfl rfl) ?_
                    refine WPD.takeGM 60 rfl rfl rfl rfl rfl rfl rfl rfl (by kernel_rfl) (by kernel_rfl) (by kernel_rfl) (by kernel_rfl) (fun _ _ _ h => h) (fun _ h => h) (Val.move rfl rfl) ?_
                    refine WPD.takeGM 61 rfl rfl rfl rfl rfl rfl rfl rfl (by kernel_rfl) (by kernel_rfl) (by kernel_rfl) (by kernel_rfl) (fun _ _ _ h => h) (fun _ h => h) (Val.indexAddr (j := i) (q := i * 4) rfl Ty.sl37 rfl rfl (by omega) (by omega) (by omega)) ?_
                    refine WPD.takeGM 62 rfl rfl rfl rfl rfl rfl rfl rfl (by kernel_rfl) (by kernel_rfl) (by kernel_rfl) (by kernel_rfl) (fun _ _ _ h => h) (fun _ h => h) (Val.fieldAddr (j := i * 4 + 2) rfl Ty.fo40_2 rfl rfl) ?_
                    refine WPD.takeG 63 rfl rfl rfl rfl rfl rfl rfl rfl (by kernel_rfl) (by kernel_rfl) (by kernel_rfl) (by kernel_rfl) (fun _ _ _ h => h) (by kernel_rfl) (fun _ h => h) (Val.load (v := .int .i64 (a.at_)) rfl Ty.sc2 rfl (fun w h => (by exact ((h.at 3 rfl).ro.cell_range (flatOf_range QA.len ha)) 2 _ rfl))) ?_
                    refine WPD.takeGM 64 rfl rfl rfl rfl rfl rfl rfl rfl (by kernel_rfl) (by kernel_rfl) (by kernel_rfl) (by kernel_rfl) (fun _ _ _ h => h) (fun _ h => h) (Val.move rfl rfl) ?_
                    refine WPD.takeGM 65 rfl rfl rfl rfl rfl rfl rfl rfl (by kernel_rfl) (by kernel_rfl) (by kernel_rfl) (by kernel_rfl) (fun _ _ _ h => h) (fun _ h => h) (Val.move rfl rfl) ?_
                    refine WPD.takeGM 66 rfl rfl rfl rfl rfl rfl rfl rfl (by kernel_rfl) (by kernel_rfl) (by kernel_rfl) (by kernel_rfl) (fun _ _ _ h => h) (fun _ h => h) (Val.indexAddr (j := i) (q := i * 4) rfl Ty.sl37 rfl rfl (by omega) (by omega) (by omega)) ?_
                    refine WPD.takeGM 67 rfl rfl rfl rfl rfl rfl rfl rfl (by kernel_rfl) (by kernel_rfl) (by kernel_rfl) (by kernel_rfl) (fun _ _ _ h => h) (fun _ h => h) (Val.fieldAddr (j := i * 4 + 2) rfl Ty.fo40_2 rfl rfl) ?_
                    refine WPD.takeG 68 rfl rfl rfl rfl rfl rfl rfl rfl (by kernel_rfl) (by kernel_rfl) (by kernel_rfl) (by kernel_rfl) (fun _ _ _ h => h) (by kernel_rfl) (fun _ h => h) (Val.load (v := .int .i64 (a.at_)) rfl Ty.sc2 rfl (fun w h => (by rw [← (heq (by omega)).2.2]; exact ((h.at 1 rfl).ro.cell_range (flatOf_range QA.len hb)) 2 _ rfl))) ?_
                    refine WPD.takeG 69 rfl rfl rfl rfl rfl rfl rfl rfl (by kernel_rfl) (by kernel_rfl) (by kernel_rfl) (by kernel_rfl) (fun _ _ _ h => h) (by kernel_rfl) (fun _ h => h) (Val.neq rfl rfl rfl) ?_
                    refine WPD.takeGM 70 rfl rfl rfl rfl rfl rfl rfl rfl (by kernel_rfl) (by kernel_rfl) (by kernel_rfl) (by kernel_rfl) (fun _ _ _ h => h) (fun _ h => h) (Val.pickF rfl rfl rfl) ?_
                    refine WPD.takeM 71 rfl rfl rfl rfl (by kernel_rfl) (by kernel_rfl) (by kernel_rfl) (by kernel_rfl) (fun _ _ _ h => h) (fun _ h => h) (Val.pickT rfl rfl rfl) ?_
                    refine WPD.done (by kernel_rfl) ?_
                    refine Out.next ?_
                    refine WPc.ifP rfl (fun h15 => ?_) (fun h15 => ?_)
                    · skip
                      have h15 : (a.at_ ≠ a.at_) := h15
                      exact absurd rfl h15
                    · skip
                      have h15 : ¬ (a.at_ ≠ a.at_) := h15
                      refine WPc.skip ?_
                      refine Out.next ?_
                      refine WPc.seq ?_
                      refine WPD.start (Sat W (Blk b5 [.int .i64 (x.k), .int .i64 (x.id), .int .i64 (x.at_)] 36 :: Ro (Blk g4 (flatOf QA.cells (answers ansS [] (l)) ++ spg4) Tg4) :: Seq uspec ((l).length) (flatOf QA.cells (answers ansS [] (l))) :: Ro (Blk g3 (flatOf QA.cells (answers ansI [] (l)) ++ spg3) Tg3) :: Seq uimpl ((l).length) (flatOf QA.cells (answers ansI [] (l))) :: Old W0 :: F)) Ty.mixed ?_
                      refine WPD.takeM 0 rfl rfl rfl rfl (by kernel_rfl) (by kernel_rfl) (by kernel_rfl) (by kernel_rfl) (fun _ _ _ h => h) (fun _ h => h) (Val.fieldAddr (j := 0) rfl Ty.fo36_0 rfl rfl) ?_
                      refine WPD.take 1 rfl rfl rfl rfl (by kernel_rfl) (by kernel_rfl) (by kernel_rfl) (by kernel_rfl) (fun _ _ _ h => h) (by kernel_rfl) (fun _ h => h) (Val.load rfl Ty.sc3 rfl (fun w h => h.cell 0 rfl rfl)) ?_
                      refine WPD.take 2 rfl rfl rfl rfl (by kernel_rfl) (by kernel_rfl) (by kernel_rfl) (by kernel_rfl) (fun _ _ _ h => h) (by kernel_rfl) (fun _ h => h) (Val.eql rfl rfl rfl) ?_
                      refine WPD.takeM 3 rfl rfl rfl rfl (by kernel_rfl) (by kernel_rfl) (by kernel_rfl) (by kernel_rfl) (fun _ _ _ h => h) (fun _ h => h) (Val.move rfl rfl) ?_
                      refine WPD.split 147 rfl (fun h16 => ?_) (fun h16 => ?_)
                      · skip
                        have h16 : (x.k = (4 : Int)) := h16
                        refine WPD.takeGM 4 rfl rfl rfl rfl rfl rfl rfl rfl (by kernel_rfl) (by kernel_rfl) (by kernel_rfl) (by kernel_rfl) (fun _ _ _ h => h) (fun _ h => h) (Val.move rfl rfl) ?_
                        refine WPD.takeGM 5 rfl rfl rfl rfl rfl rfl rfl rfl (by kernel_rfl) (by kernel_rfl) (by kernel_rfl) (by kernel_rfl) (fun _ _ _ h => h) (fun _ h => h) (Val.move rfl rfl) ?_
                        refine WPD.takeGM 6 rfl rfl rfl rfl rfl rfl rfl rfl (by kernel_rfl) (by kernel_rfl) (by kernel_rfl) (by kernel_rfl) (fun _ _ _ h => h) (fun _ h => h) (Val.indexAddr (j := i) (q := i * 4) rfl Ty.sl37 rfl rfl (by omega) (by omega) (by omega)) ?_
                        refine WPD.takeGM 7 rfl rfl rfl rfl rfl rfl rfl rfl (by kernel_rfl) (by kernel_rfl) (by kernel_rfl) (by kernel_rfl) (fun _ _ _ h => h) (fun _ h => h) (Val.fieldAddr (j := i * 4 + 3) rfl Ty.fo40_3 rfl rfl) ?_
                        refine WPD.takeG 8 rfl rfl rfl rfl rfl rfl rfl rfl (by kernel_rfl) (by kernel_rfl) (by kernel_rfl) (by kernel_rfl) (fun _ _ _ h => h) (by kernel_rfl) (fun _ h => h) (Val.load (v := .int .i64 (a.n)) rfl Ty.sc3 rfl (fun w h => (by exact ((h.at 3 rfl).ro.cell_range (flatOf_range QA.len ha)) 3 _ rfl))) ?_
                        refine WPD.takeGM 9 rfl rfl rfl rfl rfl rfl rfl rfl (by kernel_rfl) (by kernel_rfl) (by kernel_rfl) (by kernel_rfl) (fun _ _ _ h => h) (fun _ h => h) (Val.move rfl rfl) ?_
                        refine WPD.takeGM 10 rfl rfl rfl rfl rfl rfl rfl rfl (by kernel_rfl) (by kernel_rfl) (by kernel_rfl) (by kernel_rfl) (fun _ _ _ h => h) (fun _ h => h) (Val.move rfl rfl) ?_
                        refine WPD.takeGM 11 rfl rfl rfl rfl rfl rfl rfl rfl (by kernel_rfl) (by kernel_rfl) (by kernel_rfl) (by kernel_rfl) (fun _ _ _ h => h) (fun _ h => h) (Val.indexAddr (j := i) (q := i * 4) rfl Ty.sl37 rfl rfl (by omega) (by omega) (by omega)) ?_
                        refine WPD.takeGM 12 rfl rfl rfl rfl rfl rfl rfl rfl (by kernel_rfl) (by kernel_rfl) (by kernel_rfl) (by kernel_rfl) (fun _ _ _ h => h) (fun _ h => h) (Val.fieldAddr (j := i * 4 + 3) rfl Ty.fo40_3 rfl rfl) ?_
                        refine WPD.takeG 13 rfl rfl rfl rfl rfl rfl rfl rfl (by kernel_rfl) (by kernel_rfl) (by kernel_rfl) (by kernel_rfl) (fun _ _ _ h => h) (by kernel_rfl) (fun _ h => h) (Val.load (v := .int .i64 (a.n)) rfl Ty.sc3 rfl (fun w h => (by rw [← heq4 (by omega)]; exact ((h.at 1 rfl).ro.cell_range (flatOf_range QA.len hb)) 3 _ rfl))) ?_
                        refine WPD.takeG 14 rfl rfl rfl rfl rfl rfl rfl rfl (by kernel_rfl) (by kernel_rfl) (by kernel_rfl) (by kernel_rfl) (fun _ _ _ h => h) (by kernel_rfl) (fun _ h => h) (Val.neq rfl rfl rfl) ?_
                        refine WPD.takeM 15 rfl rfl rfl rfl (by kernel_rfl) (by kernel_rfl) (by kernel_rfl) (by kernel_rfl) (fun _ _ _ h => h) (fun _ h => h) (Val.pickT rfl rfl rfl) ?_
                        refine WPD.done (by kernel_rfl) ?_
                        refine Out.next ?_
                        refine WPc.ifP rfl (fun h17 => ?_) (fun h17 => ?_)
                        · skip
                          have h17 : (a.n ≠ a.n) := h17
                          exact absurd rfl h17
                        · skip
                          have h17 : ¬ (a.n ≠ a.n) := h17
                          refine WPc.skip ?_
                          refine Out.block ?_
                          refine Out.next ?_
                          refine WPc.region ?_
                          refine WP.val rfl rfl rfl (Val.add (z := ((i + 1 : Nat) : Int)) rfl rfl rfl ((w64 (by omega) (by omega)).trans (by omega))) ?_
                          refine WP.val rfl rfl rfl (Val.move rfl rfl) ?_
                          refine WP.nil ?_
                          refine Out.drop ?_
                          refine Out.drop ?_
                          refine Out.perm pl1 ?_
                          refine Out.drop ?_
                          refine Out.perm pl2 ?_
                          refine Out.perm pl1 ?_
                          refine Out.perm pl2 ?_
                          refine Out.again (i + 1) ?_ ?_ ?_ ?_
                          · exact (by first | omega | (dsimp only; omega))
                          · first | omega | (dsimp only; omega)
                          · exact (Sub.cons (congrArg some (hvg3.1).symm) (Sub.cons (congrArg some (hvg4.1).symm) (Sub.cons rfl (Sub.cons rfl (Sub.cons rfl Sub.nil)))))
                          · exact (fun _ h => h)
                      · skip
                        have h16 : ¬ (x.k = (4 : Int)) := h16
                        refine WPD.skip 4 rfl rfl rfl rfl rfl rfl rfl rfl (by kernel_rfl) (by kernel_rfl) (by kernel_rfl) (by kernel_rfl) (fun _ _ _ h => h) (fun _ h => h) ?_
                        refine WPD.skip 5 rfl rfl rfl rfl rfl rfl rfl rfl (by kernel_rfl) (by kernel_rfl) (by kernel_rfl) (by kernel_rfl) (fun _ _ _ h => h) (fun _ h => h) ?_
                        refine WPD.skip 6 rfl rfl rfl rfl rfl rfl rfl rfl (by kernel_rfl) (by kernel_rfl) (by kernel_rfl) (by kernel_rfl) (fun _ _ _ h => h) (fun _ h => h) ?_
                        refine WPD.skip 7 rfl rfl rfl rfl rfl rfl rfl rfl (by kernel_rfl) (by kernel_rfl) (by kernel_rfl) (by kernel_rfl) (fun _ _ _ h => h) (fun _ h => h) ?_
                        refine WPD.skip 8 rfl rfl rfl rfl rfl rfl rfl rfl (by kernel_rfl) (by kernel_rfl) (by kernel_rfl) (by kernel_rfl) (fun _ _ _ h => h) (fun _ h => h) ?_
                        refine WPD.skip 9 rfl rfl rfl rfl rfl rfl rfl rfl (by kernel_rfl) (by kernel_rfl) (by kernel_rfl) (by kernel_rfl) (fun _ _ _ h => h) (fun _ h => h) ?_
                        refine WPD.skip 10 rfl rfl rfl rfl rfl rfl rfl rfl (by kernel_rfl) (by kernel_rfl) (by kernel_rfl) (by kernel_rfl) (fun _ _ _ h => h) (fun _ h => h) ?_
                        refine WPD.skip 11 rfl rfl rfl rfl rfl rfl rfl rfl (by kernel_rfl) (by kernel_rfl) (by kernel_rfl) (by kernel_rfl) (fun _ _ _ h => h) (fun _ h => h) ?_
                        refine WPD.skip 12 rfl rfl rfl rfl rfl rfl rfl rfl (by kernel_rfl) (by kernel_rfl) (by kernel_rfl) (by kernel_rfl) (fun _ _ _ h => h) (fun _ h => h) ?_
                        refine WPD.skip 13 rfl rfl rfl rfl rfl rfl rfl rfl (by kernel_rfl) (by kernel_rfl) (by kernel_rfl) (by kernel_rfl) (fun _ _ _ h => h) (fun _ h => h) ?_
                        refine WPD.skip 14 rfl rfl rfl rfl rfl rfl rfl rfl (by kernel_rfl) (by kernel_rfl) (by kernel_rfl) (by kernel_rfl) (fun _ _ _ h => h) (fun _ h => h) ?_
                        refine WPD.takeM 15 rfl rfl rfl rfl (by kernel_rfl) (by kernel_rfl) (by kernel_rfl) (by kernel_rfl) (fun _ _ _ h => h) (fun _ h => h) (Val.pickF rfl rfl rfl) ?_
                        refine WPD.done (by kernel_rfl) ?_
                        refine Out.next ?_
                        refine WPc.condF rfl rfl ?_
                        refine WPc.skip ?_
                        refine Out.block ?_
                        refine Out.next ?_
                        refine WPc.region ?_
                        refine WP.val rfl rfl rfl (Val.add (z := ((i + 1 : Nat) : Int)) rfl rfl rfl ((w64 (by omega) (by omega)).trans (by omega))) ?_
                        refine WP.val rfl rfl rfl (Val.move rfl rfl) ?_
                        refine WP.nil ?_
                        refine Out.drop ?_
                        refine Out.drop ?_
                        refine Out.perm pl1 ?_
                        refine Out.drop ?_
                        refine Out.perm pl2 ?_
                        refine Out.perm pl1 ?_
                        refine Out.perm pl2 ?_
                        refine Out.again (i + 1) ?_ ?_ ?_ ?_
                        · exact (by first | omega | (dsimp only; omega))
                        · first | omega | (dsimp only; omega)
                        · exact (Sub.cons (congrArg some (hvg3.1).symm) (Sub.cons (congrArg some (hvg4.1).symm) (Sub.cons rfl (Sub.cons rfl (Sub.cons rfl Sub.nil)))))
                        · exact (fun _ h => h)
                · skip
                  refine WPD.takeGM 26 rfl rfl rfl rfl rfl rfl rfl rfl (by kernel_rfl) (by kernel_rfl) (by kernel_rfl) (by kernel_rfl) (fun _ _ _ h => h) (fun _ h => h) (Val.move rfl rfl) ?_
                  refine WPD.takeGM 27 rfl rfl rfl rfl rfl rfl rfl rfl (by kernel_rfl) (by kernel_rfl) (by kernel_rfl) (by kernel_rfl) (fun _ _ _ h => h) (fun _ h => h) (Val.move rfl rfl) ?_
                  refine WPD.takeGM 28 rfl rfl rfl rfl rfl rfl rfl rfl (by kernel_rfl) (by kernel_rfl) (by kernel_rfl) (by kernel_rfl) (fun _ _ _ h => h) (fun _ h => h) (Val.indexAddr (j := i) (q := i * 4) rfl Ty.sl37 rfl rfl (by omega) (by omega) (by omega)) ?_
                  refine WPD.takeGM 29 rfl rfl rfl rfl rfl rfl rfl rfl (by kernel_rfl) (by kernel_rfl) (by kernel_rfl) (by kernel_rfl) (fun _ _ _ h => h) (fun _ h => h) (Val.fieldAddr (j := i * 4) rfl Ty.fo40_0 rfl rfl) ?_
                  refine WPD.takeG 30 rfl rfl rfl rfl rfl rfl rfl rfl (by kernel_rfl) (by kernel_rfl) (by kernel_rfl) (by kernel_rfl) (fun _ _ _ h => h) (by kernel_rfl) (fun _ h => h) (Val.load (v := .bool (a.ok)) rfl Ty.sc4 rfl (fun w h => (by rw [← (heq (by omega)).1]; exact ((h.at 1 rfl).ro.cell_range (flatOf_range QA.len hb)) 0 _ rfl))) ?_
                  refine WPD.takeGM 31 rfl rfl rfl rfl rfl rfl rfl rfl (by kernel_rfl) (by kernel_rfl) (by kernel_rfl) (by kernel_rfl) (fun _ _ _ h => h) (fun _ h => h) (Val.pickF rfl rfl rfl) ?_
                  refine WPD.takeM 32 rfl rfl rfl rfl (by kernel_rfl) (by kernel_rfl) (by kernel_rfl) (by kernel_rfl) (fun _ _ _ h => h) (fun _ h => h) (Val.pickT rfl rfl rfl) ?_
                  refine WPD.takeM 33 rfl rfl rfl rfl (by kernel_rfl) (by kernel_rfl) (by kernel_rfl) (by kernel_rfl) (fun _ _ _ h => h) (fun _ h => h) (Val.move rfl rfl) ?_
                  refine WPD.splitB 105 rfl (fun h18 => ?_) (fun h18 => ?_)
                  · skip
                    refine WPD.takeGM 34 rfl rfl rfl rfl rfl rfl rfl rfl (by kernel_rfl) (by kernel_rfl) (by kernel_rfl) (by kernel_rfl) (fun _ _ _ h => h) (fun _ h => h) (Val.move rfl rfl) ?_
                    refine WPD.takeGM 35 rfl rfl rfl rfl rfl rfl rfl rfl (by kernel_rfl) (by kernel_rfl) (by kernel_rfl) (by kernel_rfl) (fun _ _ _ h => h) (fun _ h => h) (Val.move rfl rfl) ?_
                    refine WPD.takeGM 36 rfl rfl rfl rfl rfl rfl rfl rfl (by kernel_rfl) (by kernel_rfl) (by kernel_rfl) (by kernel_rfl) (fun _ _ _ h => h) (fun _ h => h) (Val.indexAddr (j := i) (q := i * 4) rfl Ty.sl37 rfl rfl (by omega) (by omega) (by omega)) ?_
                    refine WPD.takeGM 37 rfl rfl rfl rfl rfl rfl rfl rfl (by kernel_rfl) (by kernel_rfl) (by kernel_rfl) (by kernel_rfl) (fun _ _ _ h => h) (fun _ h => h) (Val.fieldAddr (j := i * 4) rfl Ty.fo40_0 rfl rfl) ?_
                    refine WPD.takeG 38 rfl rfl rfl rfl rfl rfl rfl rfl (by kernel_rfl) (by kernel_rfl) (by kernel_rfl) (by kernel_rfl) (fun _ _ _ h => h) (by kernel_rfl) (fun _ h => h) (Val.load (v := .bool (a.ok)) rfl Ty.sc4 rfl (fun w h => (by exact ((h.at 3 rfl).ro.cell_range (flatOf_range QA.len ha)) 0 _ rfl))) ?_
                    refine WPD.takeGM 39 rfl rfl rfl rfl rfl rfl rfl rfl (by kernel_rfl) (by kernel_rfl) (by kernel_rfl) (by kernel_rfl) (fun _ _ _ h => h) (fun _ h => h) (Val.move rfl rfl) ?_
                    refine WPD.takeGM 40 rfl rfl rfl rfl rfl rfl rfl rfl (by kernel_rfl) (by kernel_rfl) (by kernel_rfl) (by kernel_rfl) (fun _ _ _ h => h) (fun _ h => h) (Val.move rfl rfl) ?_
                    refine WPD.takeGM 41 rfl rfl rfl rfl rfl rfl rfl rfl (by kernel_rfl) (by kernel_rfl) (by kernel_rfl) (by kernel_rfl) (fun _ _ _ h => h) (fun _ h => h) (Val.indexAddr (j := i) (q := i * 4) rfl Ty.sl37 rfl rfl (by omega) (by omega) (by omega)) ?_
                    refine WPD.takeGM 42 rfl rfl rfl rfl rfl rfl rfl rfl (by kernel_rfl) (by kernel_rfl) (by kernel_rfl) (by kernel_rfl) (fun _ _ _ h => h) (fun _ h => h) (Val.fieldAddr (j := i * 4) rfl Ty.fo40_0 rfl rfl) ?_
                    refine WPD.takeG 43 rfl rfl rfl rfl rfl rfl rfl rfl (by kernel_rfl) (by kernel_rfl) (by kernel_rfl) (by kernel_rfl) (fun _ _ _ h => h) (by kernel_rfl) (fun _ h => h) (Val.load (v := .bool (a.ok)) rfl Ty.sc4 rfl (fun w h => (by rw [← (heq (by omega)).1]; exact ((h.at 1 rfl).ro.cell_range (flatOf_range QA.len hb)) 0 _ rfl))) ?_
                    refine WPD.takeG 44 rfl rfl rfl rfl rfl rfl rfl rfl (by kernel_rfl) (by kernel_rfl) (by kernel_rfl) (by kernel_rfl) (fun _ _ _ h => h) (by kernel_rfl) (fun _ h => h) (Val.neqSame rfl Ty2.bo4 rfl rfl) ?_
                    refine WPD.takeGM 45 rfl rfl rfl rfl rfl rfl rfl rfl (by kernel_rfl) (by kernel_rfl) (by kernel_rfl) (by kernel_rfl) (fun _ _ _ h => h) (fun _ h => h) (Val.move rfl rfl) ?_
                    refine WPD.takeGM 46 rfl rfl rfl rfl rfl rfl rfl rfl (by kernel_rfl) (by kernel_rfl) (by kernel_rfl) (by kernel_rfl) (fun _ _ _ h => h) (fun _ h => h) (Val.move rfl rfl) ?_
                    refine WPD.takeGM 47 rfl rfl rfl rfl rfl rfl rfl rfl (by kernel_rfl) (by kernel_rfl) (by kernel_rfl) (by kernel_rfl) (fun _ _ _ h => h) (fun _ h => h) (Val.move rfl rfl) ?_
                    refine WPD.takeGM 48 rfl rfl rfl rfl rfl rfl rfl rfl (by kernel_rfl) (by kernel_rfl) (by kernel_rfl) (by kernel_rfl) (fun _ _ _ h => h) (fun _ h => h) (Val.indexAddr (j := i) (q := i * 4) rfl Ty.sl37 rfl rfl (by omega) (by omega) (by omega)) ?_
                    refine WPD.takeGM 49 rfl rfl rfl rfl rfl rfl rfl rfl (by kernel_rfl) (by kernel_rfl) (by kernel_rfl) (by kernel_rfl) (fun _ _ _ h => h) (fun _ h => h) (Val.fieldAddr (j := i * 4 + 1) rfl Ty.fo40_1 rfl rfl) ?_
                    refine WPD.takeG 50 rfl rfl rfl rfl rfl rfl rfl rfl (by kernel_rfl) (by kernel_rfl) (by kernel_rfl) (by kernel_rfl) (fun _ _ _ h => h) (by kernel_rfl) (fun _ h => h) (Val.load (v := .int .i64 (a.id)) rfl Ty.sc2 rfl (fun w h => (by exact ((h.at 3 rfl).ro.cell_range (flatOf_range QA.len ha)) 1 _ rfl))) ?_
                    refine WPD.takeGM 51 rfl rfl rfl rfl rfl rfl rfl rfl (by kernel_rfl) (by kernel_rfl) (by kernel_rfl) (by kernel_rfl) (fun _ _ _ h => h) (fun _ h => h) (Val.move rfl rfl) ?_
                    refine WPD.takeGM 52 rfl rfl rfl rfl rfl rfl rfl rfl (by kernel_rfl) (by kernel_rfl) (by kernel_rfl) (by kernel_rfl) (fun _ _ _ h => h) (fun _ h => h) (Val.move rfl rfl) ?_
                    refine WPD.takeGM 53 rfl rfl rfl rfl rfl rfl rfl rfl (by kernel_rfl) (by kernel_rfl) (by kernel_rfl) (by kernel_rfl) (fun _ _ _ h => h) (fun _ h => h) (Val.indexAddr (j := i) (q := i * 4) rfl Ty.sl37 rfl rfl (by omega) (by omega) (by omega)) ?_
                    refine WPD.takeGM 54 rfl rfl rfl rfl rfl rfl rfl rfl (by kernel_rfl) (by kernel_rfl) (by kernel_rfl) (by kernel_rfl) (fun _ _ _ h => h) (fun _ h => h) (Val.fieldAddr (j := i * 4 + 1) rfl Ty.fo40_1 rfl rfl) ?_
                    refine WPD.takeG 55 rfl rfl rfl rfl rfl rfl rfl rfl (by kernel_rfl) (by kernel_rfl) (by kernel_rfl) (by kernel_rfl) (fun _ _ _ h => h) (by kernel_rfl) (fun _ h => h) (Val.load (v := .int .i64 (a.id)) rfl Ty.sc2 rfl (fun w h => (by rw [← (heq (by omega)).2.1]; exact ((h.at 1 rfl).ro.cell_range (flatOf_range QA.len hb)) 1 _ rfl))) ?_
                    refine WPD.takeG 56 rfl rfl rfl rfl rfl rfl rfl rfl (by kernel_rfl) (by kernel_rfl) (by kernel_rfl) (by kernel_rfl) (fun _ _ _ h => h) (by kernel_rfl) (fun _ h => h) (Val.neq rfl rfl rfl) ?_
                    refine WPD.takeGM 57 rfl rfl rfl rfl rfl rfl rfl rfl (by kernel_rfl) (by kernel_rfl) (by kernel_rfl) (by kernel_rfl) (fun _ _ _ h => h) (fun _ h => h) (Val.pickF rfl rfl rfl) ?_
                    refine WPD.takeGM 58 rfl rfl rfl rfl rfl rfl rfl rfl (by kernel_rfl) (by kernel_rfl) (by kernel_rfl) (by kernel_rfl) (fun _ _ _ h => h) (fun _ h => h) (Val.move rfl rfl) ?_
                    refine WPD.split 130 rfl (fun h19 => ?_) (fun h19 => ?_)
                    · skip
                      have h19 : (a.id ≠ a.id) := h19
                      exact absurd rfl h19
                    · skip
                      have h19 : ¬ (a.id ≠ a.id) := h19
                      refine WPD.takeGM 59 rfl rfl rfl rfl rfl rfl rfl rfl (by kernel_rfl) (by kernel_rfl) (by kernel_rfl) (by kernel_rfl) (fun _ _ _ h => h) (fun _ h => h) (Val.move rfl rfl) ?_
                      refine WPD.takeGM 60 rfl rfl rfl rfl rfl rfl rfl rfl (by kernel_rfl) (by kernel_rfl) (by kernel_rfl) (by kernel_rfl) (fun _ _ _ h => h) (fun _ h => h) (Val.move rfl rfl) ?_
                      refine WPD.takeGM 61 rfl rfl rfl rfl rfl rfl rfl rfl (by kernel_rfl) (by kernel_rfl) (by kernel_rfl) (by kernel_rfl) (fun _ _ _ h => h) (fun _ h => h) (Val.indexAddr (j := i) (q := i * 4) rfl Ty.sl37 rfl rfl (by omega) (by omega) (by omega)) ?_
                      refine WPD.takeGM 62 rfl rfl rfl rfl rfl rfl rfl rfl (by kernel_rfl) (by kernel_rfl) (by kernel_rfl) (by kernel_rfl) (fun _ _ _ h => h) (fun _ h => h) (Val.fieldAddr (j := i * 4 + 2) rfl Ty.fo40_2 rfl rfl) ?_
                      refine WPD.takeG 63 rfl rfl rfl rfl rfl rfl rfl rfl (by kernel_rfl) (by kernel_rfl) (by kernel_rfl) (by kernel_rfl) (fun _ _ _ h => h) (by kernel_rfl) (fun _ h => h) (Val.load (v := .int .i64 (a.at_)) rfl Ty.sc2 rfl (fun w h => (by exact ((h.at 3 rfl).ro.cell_range (flatOf_range QA.len ha)) 2 _ rfl))) ?_
                      refine WPD.takeGM 64 rfl rfl rfl rfl rfl rfl rfl rfl (by kernel_rfl) (by kernel_rfl) (by kernel_rfl) (by kernel_rfl) (fun _ _ _ h => h) (fun _ h => h) (Val.move rfl rfl) ?_
                      refine WPD.takeGM 65 rfl rfl rfl rfl rfl rfl rfl rfl (by kernel_rfl) (by kernel_rfl) (by kernel_rfl) (by kernel_rfl) (fun _ _ _ h => h) (fun _ h => h) (Val.move rfl rfl) ?_
                      refine WPD.takeGM 66 rfl rfl rfl rfl rfl rfl rfl rfl (by kernel_rfl) (by kernel_rfl) (by kernel_rfl) (by kernel_rfl) (fun _ _ _ h => h) (fun _ h => h) (Val.indexAddr (j := i) (q := i * 4) rfl Ty.sl37 rfl rfl (by omega) (by omega) (by omega)) ?_
                      refine WPD.takeGM 67 rfl rfl rfl rfl rfl rfl rfl rfl (by kernel_rfl) (by kernel_rfl) (by kernel_rfl) (by kernel_rfl) (fun _ _ _ h => h) (fun _ h => h) (Val.fieldAddr (j := i * 4 + 2) rfl Ty.fo40_2 rfl rfl) ?_
                      refine WPD.takeG 68 rfl rfl rfl rfl rfl rfl rfl rfl (by kernel_rfl) (by kernel_rfl) (by kernel_rfl) (by kernel_rfl) (fun _ _ _ h => h) (by kernel_rfl) (fun _ h => h) (Val.load (v := .int .i64 (a.at_)) rfl Ty.sc2 rfl (fun w h => (by rw [← (heq (by omega)).2.2]; exact ((h.at 1 rfl).ro.cell_range (flatOf_range QA.len hb)) 2 _ rfl))) ?_
                      refine WPD.takeG 69 rfl rfl rfl rfl rfl rfl rfl rfl (by kernel_rfl) (by kernel_rfl) (by kernel_rfl) (by kernel_rfl) (fun _ _ _ h => h) (by kernel_rfl) (fun _ h => h) (Val.neq rfl rfl rfl) ?_
                      refine WPD.takeGM 70 rfl rfl rfl rfl rfl rfl rfl rfl (by kernel_rfl) (by kernel_rfl) (by kernel_rfl) (by kernel_rfl) (fun _ _ _ h => h) (fun _ h => h) (Val.pickF rfl rfl rfl) ?_
                      refine WPD.takeM 71 rfl rfl rfl rfl (by kernel_rfl) (by kernel_rfl) (by kernel_rfl) (by kernel_rfl) (fun _ _ _ h => h) (fun _ h => h) (Val.pickT rfl rfl rfl) ?_
                      refine WPD.done (by kernel_rfl) ?_
                      refine Out.next ?_
                      refine WPc.ifP rfl (fun h20 => ?_) (fun h20 => ?_)
                      · skip
                        have h20 : (a.at_ ≠ a.at_) := h20
                        exact absurd rfl h20
                      · skip
                        have h20 : ¬ (a.at_ ≠ a.at_) := h20
                        refine WPc.skip ?_
                        refine Out.next ?_
                        refine WPc.seq ?_
                        refine WPD.start (Sat W (Blk b5 [.int .i64 (x.k), .int .i64 (x.id), .int .i64 (x.at_)] 36 :: Ro (Blk g4 (flatOf QA.cells (answers ansS [] (l)) ++ spg4) Tg4) :: Seq uspec ((l).length) (flatOf QA.cells (answers ansS [] (l))) :: Ro (Blk g3 (flatOf QA.cells (answers ansI [] (l)) ++ spg3) Tg3) :: Seq uimpl ((l).length) (flatOf QA.cells (answers ansI [] (l))) :: Old W0 :: F)) Ty.mixed ?_
                        refine WPD.takeM 0 rfl rfl rfl rfl (by kernel_rfl) (by kernel_rfl) (by kernel_rfl) (by kernel_rfl) (fun _ _ _ h => h) (fun _ h => h) (Val.fieldAddr (j := 0) rfl Ty.fo36_0 rfl rfl) ?_
                        refine WPD.take 1 rfl rfl rfl rfl (by kernel_rfl) (by kernel_rfl) (by kernel_rfl) (by kernel_rfl) (fun _ _ _ h => h) (by kernel_rfl) (fun _ h => h) (Val.load rfl Ty.sc3 rfl (fun w h => h.cell 0 rfl rfl)) ?_
                        refine WPD.take 2 rfl rfl rfl rfl (by kernel_rfl) (by kernel_rfl) (by kernel_rfl) (by kernel_rfl) (fun _ _ _ h => h) (by kernel_rfl) (fun _ h => h) (Val.eql rfl rfl rfl) ?_
                        refine WPD.takeM 3 rfl rfl rfl rfl (by kernel_rfl) (by kernel_rfl) (by kernel_rfl) (by kernel_rfl) (fun _ _ _ h => h) (fun _ h => h) (Val.move rfl rfl) ?_
                        refine WPD.split 147 rfl (fun h21 => ?_) (fun h21 => ?_)
                        · skip
                          have h21 : (x.k = (4 : Int)) := h21
                          refine WPD.takeGM 4 rfl rfl rfl rfl rfl rfl rfl rfl (by kernel_rfl) (by kernel_rfl) (by kernel_rfl) (by kernel_rfl) (fun _ _ _ h => h) (fun _ h => h) (Val.move rfl rfl) ?_
                          refine WPD.takeGM 5 rfl rfl rfl rfl rfl rfl rfl rfl (by kernel_rfl) (by kernel_rfl) (by kernel_rfl) (by kernel_rfl) (fun _ _ _ h => h) (fun _ h => h) (Val.move rfl rfl) ?_
                          refine WPD.takeGM 6 rfl rfl rfl rfl rfl rfl rfl rfl (by kernel_rfl) (by kernel_rfl) (by kernel_rfl) (by kernel_rfl) (fun _ _ _ h => h) (fun _ h => h) (Val.indexAddr (j := i) (q := i * 4) rfl Ty.sl37 rfl rfl (by omega) (by omega) (by omega)) ?_
                          refine WPD.takeGM 7 rfl rfl rfl rfl rfl rfl rfl rfl (by kernel_rfl) (by kernel_rfl) (by kernel_rfl) (by kernel_rfl) (fun _ _ _ h => h) (fun _ h => h) (Val.fieldAddr (j := i * 4 + 3) rfl Ty.fo40_3 rfl rfl) ?_
                          refine WPD.takeG 8 rfl rfl rfl rfl rfl rfl rfl rfl (by kernel_rfl) (by kernel_rfl) (by kernel_rfl) (by kernel_rfl) (fun _ _ _ h => h) (by kernel_rfl) (fun _ h => h) (Val.load (v := .int .i64 (a.n)) rfl Ty.sc3 rfl (fun w h => (by exact ((h.at 3 rfl).ro.cell_range (flatOf_range QA.len ha)) 3 _ rfl))) ?_
                          refine WPD.takeGM 9 rfl rfl rfl rfl rfl rfl rfl rfl (by kernel_rfl) (by kernel_rfl) (by kernel_rfl) (by kernel_rfl) (fun _ _ _ h => h) (fun _ h => h) (Val.move rfl rfl) ?_
                          refine WPD.takeGM 10 rfl rfl rfl rfl rfl rfl rfl rfl (by kernel_rfl) (by kernel_rfl) (by kernel_rfl) (by kernel_rfl) (fun _ _ _ h => h) (fun _ h => h) (Val.move rfl rfl) ?_
                          refine WPD.takeGM 11 rfl rfl rfl rfl rfl rfl rfl rfl (by kernel_rfl) (by kernel_rfl) (by kernel_rfl) (by kernel_rfl) (fun _ _ _ h => h) (fun _ h => h) (Val.indexAddr (j := i) (q := i * 4) rfl Ty.sl37 rfl rfl (by omega) (by omega) (by omega)) ?_
                          refine WPD.takeGM 12 rfl rfl rfl rfl rfl rfl rfl rfl (by kernel_rfl) (by kernel_rfl) (by kernel_rfl) (by kernel_rfl) (fun _ _ _ h => h) (fun _ h => h) (Val.fieldAddr (j := i * 4 + 3) rfl Ty.fo40_3 rfl rfl) ?_
                          refine WPD.takeG 13 rfl rfl rfl rfl rfl rfl rfl rfl (by kernel_rfl) (by kernel_rfl) (by kernel_rfl) (by kernel_rfl) (fun _ _ _ h => h) (by kernel_rfl) (fun _ h => h) (Val.load (v := .int .i64 (a.n)) rfl Ty.sc3 rfl (fun w h => (by rw [← heq4 (by omega)]; exact ((h.at 1 rfl).ro.cell_range (flatOf_range QA.len hb)) 3 _ rfl))) ?_
                          refine WPD.takeG 14 rfl rfl rfl rfl rfl rfl rfl rfl (by kernel_rfl) (by kernel_rfl) (by kernel_rfl) (by kernel_rfl) (fun _ _ _ h => h) (by kernel_rfl) (fun _ h => h) (Val.neq rfl rfl rfl) ?_
                          refine WPD.takeM 15 rfl rfl rfl rfl (by kernel_rfl) (by kernel_rfl) (by kernel_rfl) (by kernel_rfl) (fun _ _ _ h => h) (fun _ h => h) (Val.pickT rfl rfl rfl) ?_
                          refine WPD.done (by kernel_rfl) ?_
                          refine Out.next ?_
                          refine WPc.ifP rfl (fun h22 => ?_) (fun h22 => ?_)
                          · skip
                            have h22 : (a.n ≠ a.n) := h22
                            exact absurd rfl h22
                          · skip
                            have h22 : ¬ (a.n ≠ a.n) := h22
                            refine WPc.skip ?_
                            refine Out.block ?_
                            refine Out.next ?_
                            refine WPc.region ?_
                            refine WP.val rfl rfl rfl (Val.add (z := ((i + 1 : Nat) : Int)) rfl rfl rfl ((w64 (by omega) (by omega)).trans (by omega))) ?_
                            refine WP.val rfl rfl rfl (Val.move rfl rfl) ?_
                            refine WP.nil ?_
                            refine Out.drop ?_
                            refine Out.drop ?_
                            refine Out.perm pl1 ?_
                            refine Out.drop ?_
                            refine Out.perm pl2 ?_
                            refine Out.perm pl1 ?_
                            refine Out.perm pl2 ?_
                            refine Out.again (i + 1) ?_ ?_ ?_ ?_
                            · exact (by first | omega | (dsimp only; omega))
                            · first | omega | (dsimp only; omega)
                            · exact (Sub.cons (congrArg some (hvg3.1).symm) (Sub.cons (congrArg some (hvg4.1).symm) (Sub.cons rfl (Sub.cons rfl (Sub.cons rfl Sub.nil)))))
                            · exact (fun _ h => h)
                        · skip
                          have h21 : ¬ (x.k = (4 : Int)) := h21
                          refine WPD.skip 4 rfl rfl rfl rfl rfl rfl rfl rfl (by kernel_rfl) (by kernel_rfl) (by kernel_rfl) (by kernel_rfl) (fun _ _ _ h => h) (fun _ h => h) ?_
                          refine WPD.skip 5 rfl rfl rfl rfl rfl rfl rfl rfl (by kernel_rfl) (by kernel_rfl) (by kernel_rfl) (by kernel_rfl) (fun _ _ _ h => h) (fun _ h => h) ?_
                          refine WPD.skip 6 rfl rfl rfl rfl rfl rfl rfl rfl (by kernel_rfl) (by kernel_rfl) (by kernel_rfl) (by kernel_rfl) (fun _ _ _ h => h) (fun _ h => h) ?_
                          refine WPD.skip 7 rfl rfl rfl rfl rfl rfl rfl rfl (by kernel_rfl) (by kernel_rfl) (by kernel_rfl) (by kernel_rfl) (fun _ _ _ h => h) (fun _ h => h) ?_
                          refine WPD.skip 8 rfl rfl rfl rfl rfl rfl rfl rfl (by kernel_rfl) (by kernel_rfl) (by kernel_rfl) (by kernel_rfl) (fun _ _ _ h => h) (fun _ h => h) ?_
                          refine WPD.skip 9 rfl rfl rfl rfl rfl rfl rfl rfl (by kernel_rfl) (by kernel_rfl) (by kernel_rfl) (by kernel_rfl) (fun _ _ _ h => h) (fun _ h => h) ?_
                          refine WPD.skip 10 rfl rfl rfl rfl rfl rfl rfl rfl (by kernel_rfl) (by kernel_rfl) (by kernel_rfl) (by kernel_rfl) (fun _ _ _ h => h) (fun _ h => h) ?_
                          refine WPD.skip 11 rfl rfl rfl rfl rfl rfl rfl rfl (by kernel_rfl) (by kernel_rfl) (by kernel_rfl) (by kernel_rfl) (fun _ _ _ h => h) (fun _ h => h) ?_
                          refine WPD.skip 12 rfl rfl rfl rfl rfl rfl rfl rfl (by kernel_rfl) (by kernel_rfl) (by kernel_rfl) (by kernel_rfl) (fun _ _ _ h => h) (fun _ h => h) ?_
                          refine WPD.skip 13 rfl rfl rfl rfl rfl rfl rfl rfl (by kernel_rfl) (by kernel_rfl) (by kernel_rfl) (by kernel_rfl) (fun _ _ _ h => h) (fun _ h => h) ?_
                          refine WPD.skip 14 rfl rfl rfl rfl rfl rfl rfl rfl (by kernel_rfl) (by kernel_rfl) (by kernel_rfl) (by kernel_rfl) (fun _ _ _ h => h) (fun _ h => h) ?_
                          refine WPD.takeM 15 rfl rfl rfl rfl (by kernel_rfl) (by kernel_rfl) (by kernel_rfl) (by kernel_rfl) (fun _ _ _ h => h) (fun _ h => h) (Val.pickF rfl rfl rfl) ?_
                          refine WPD.done (by kernel_rfl) ?_
                          refine Out.next ?_
                          refine WPc.condF rfl rfl ?_
                          refine WPc.skip ?_
                          refine Out.block ?_
                          refine Out.next ?_
                          refine WPc.region ?_
                          refine WP.val rfl rfl rfl (Val.add (z := ((i + 1 : Nat) : Int)) rfl rfl rfl ((w64 (by omega) (by omega)).trans (by omega))) ?_
                          refine WP.val rfl rfl rfl (Val.move rfl rfl) ?_
                          refine WP.nil ?_
                          refine Out.drop ?_
                          refine Out.drop ?_
                          refine Out.perm pl1 ?_
                          refine Out.drop ?_
                          refine Out.perm pl2 ?_
                          refine Out.perm pl1 ?_
                          refine Out.perm pl2 ?_
                          refine Out.again (i + 1) ?_ ?_ ?_ ?_
                          · exact (by first | omega | (dsimp only; omega))
                          · first | omega | (dsimp only; omega)
                          · exact (Sub.cons (congrArg some (hvg3.1).symm) (Sub.cons (congrArg some (hvg4.1).symm) (Sub.cons rfl (Sub.cons rfl (Sub.cons rfl Sub.nil)))))
                          · exact (fun _ h => h)
                  · skip
                    refine WPD.skip 34 rfl rfl rfl rfl rfl rfl rfl rfl (by kernel_rfl) (by kernel_rfl) (by kernel_rfl) (by kernel_rfl) (fun _ _ _ h => h) (fun _ h => h) ?_
                    refine WPD.skip 35 rfl rfl rfl rfl rfl rfl rfl rfl (by kernel_rfl) (by kernel_rfl) (by kernel_rfl) (by kernel_rfl) (fun _ _ _ h => h) (fun _ h => h) ?_
                    refine WPD.skip 36 rfl rfl rfl rfl rfl rfl rfl rfl (by kernel_rfl) (by kernel_rfl) (by kernel_rfl) (by kernel_rfl) (fun _ _ _ h => h) (fun _ h => h) ?_
                    refine WPD.skip 37 rfl rfl rfl rfl rfl rfl rfl rfl (by kernel_rfl) (by kernel_rfl) (by kernel_rfl) (by kernel_rfl) (fun _ _ _ h => h) (fun _ h => h) ?_
                    refine WPD.skip 38 rfl rfl rfl rfl rfl rfl rfl rfl (by kernel_rfl) (by kernel_rfl) (by kernel_rfl) (by kernel_rfl) (fun _ _ _ h => h) (fun _ h => h) ?_
                    refine WPD.skip 39 rfl rfl rfl rfl rfl rfl rfl rfl (by kernel_rfl) (by kernel_rfl) (by kernel_rfl) (by kernel_rfl) (fun _ _ _ h => h) (fun _ h => h) ?_
                    refine WPD.skip 40 rfl rfl rfl rfl rfl rfl rfl rfl (by kernel_rfl) (by kernel_rfl) (by kernel_rfl) (by kernel_rfl) (fun _ _ _ h => h) (fun _ h => h) ?_
                    refine WPD.skip 41 rfl rfl rfl rfl rfl rfl rfl rfl (by kernel_rfl) (by kernel_rfl) (by kernel_rfl) (by kernel_rfl) (fun _ _ _ h => h) (fun _ h => h) ?_
                    refine WPD.skip 42 rfl rfl rfl rfl rfl rfl rfl rfl (by kernel_rfl) (by kernel_rfl) (by kernel_rfl) (by kernel_rfl) (fun _ _ _ h => h) (fun _ h => h) ?_
                    refine WPD.skip 43 rfl rfl rfl rfl rfl rfl rfl rfl (by kernel_rfl) (by kernel_rfl) (by kernel_rfl) (by kernel_rfl) (fun _ _ _ h => h) (fun _ h => h) ?_
                    refine WPD.skip 44 rfl rfl rfl rfl rfl rfl rfl rfl (by kernel_rfl) (by kernel_rfl) (by kernel_rfl) (by kernel_rfl) (fun _ _ _ h => h) (fun _ h => h) ?_
                    refine WPD.skip 45 rfl rfl rfl rfl rfl rfl rfl rfl (by kernel_rfl) (by kernel_rfl) (by kernel_rfl) (by kernel_rfl) (fun _ _ _ h => h) (fun _ h => h) ?_
                    refine WPD.skipU 46 rfl rfl rfl rfl rfl rfl rfl (by kernel_rfl) (by kernel_rfl) (by kernel_rfl) (by kernel_rfl) (fun _ _ _ h => h) (fun _ h => h) ?_
                    refine WPD.skipU 47 rfl rfl rfl rfl rfl rfl rfl (by kernel_rfl) (by kernel_rfl) (by kernel_rfl) (by kernel_rfl) (fun _ _ _ h => h) (fun _ h => h) ?_
                    refine WPD.skipU 48 rfl rfl rfl rfl rfl rfl rfl (by kernel_rfl) (by kernel_rfl) (by kernel_rfl) (by kernel_rfl) (fun _ _ _ h => h) (fun _ h => h) ?_
                    refine WPD.skipU 49 rfl rfl rfl rfl rfl rfl rfl (by kernel_rfl) (by kernel_rfl) (by kernel_rfl) (by kernel_rfl) (fun _ _ _ h => h) (fun _ h => h) ?_
                    refine WPD.skipU 50 rfl rfl rfl rfl rfl rfl rfl (by kernel_rfl) (by kernel_rfl) (by kernel_rfl) (by kernel_rfl) (fun _ _ _ h => h) (fun _ h => h) ?_
                    refine WPD.skipU 51 rfl rfl rfl rfl rfl rfl rfl (by kernel_rfl) (by kernel_rfl) (by kernel_rfl) (by kernel_rfl) (fun _ _ _ h => h) (fun _ h => h) ?_
                    refine WPD.skipU 52 rfl rfl rfl rfl rfl rfl rfl (by kernel_rfl) (by kernel_rfl) (by kernel_rfl) (by kernel_rfl) (fun _ _ _ h => h) (fun _ h => h) ?_
                    refine WPD.skipU 53 rfl rfl rfl rfl rfl rfl rfl (by kernel_rfl) (by kernel_rfl) (by kernel_rfl) (by kernel_rfl) (fun _ _ _ h => h) (fun _ h => h) ?_
                    refine WPD.skipU 54 rfl rfl rfl rfl rfl rfl rfl (by kernel_rfl) (by kernel_rfl) (by kernel_rfl) (by kernel_rfl) (fun _ _ _ h => h) (fun _ h => h) ?_
                    refine WPD.skipU 55 rfl rfl rfl rfl rfl rfl rfl (by kernel_rfl) (by kernel_rfl) (by kernel_rfl) (by kernel_rfl) (fun _ _ _ h => h) (fun _ h => h) ?_
                    refine WPD.skipU 56 rfl rfl rfl rfl rfl rfl rfl (by kernel_rfl) (by kernel_rfl) (by kernel_rfl) (by kernel_rfl) (fun _ _ _ h => h) (fun _ h => h) ?_
                    refine WPD.skip 57 rfl rfl rfl rfl rfl rfl rfl rfl (by kernel_rfl) (by kernel_rfl) (by kernel_rfl) (by kernel_rfl) (fun _ _ _ h => h) (fun _ h => h) ?_
                    refine WPD.skip 58 rfl rfl rfl rfl rfl rfl rfl rfl (by kernel_rfl) (by kernel_rfl) (by kernel_rfl) (by kernel_rfl) (fun _ _ _ h => h) (fun _ h => h) ?_
                    refine WPD.skipU 59 rfl rfl rfl rfl rfl rfl rfl (by kernel_rfl) (by kernel_rfl) (by kernel_rfl) (by kernel_rfl) (fun _ _ _ h => h) (fun _ h => h) ?_
                    refine WPD.skipU 60 rfl rfl rfl rfl rfl rfl rfl (by kernel_rfl) (by kernel_rfl) (by kernel_rfl) (by kernel_rfl) (fun _ _ _ h => h) (fun _ h => h) ?_
                    refine WPD.skipU 61 rfl rfl rfl rfl rfl rfl rfl (by kernel_rfl) (by kernel_rfl) (by kernel_rfl) (by kernel_rfl) (fun _ _ _ h => h) (fun _ h => h) ?_
                    refine WPD.skipU 62 rfl rfl rfl rfl rfl rfl rfl (by kernel_rfl) (by kernel_rfl) (by kernel_rfl) (by kernel_rfl) (fun _ _ _ h => h) (fun _ h => h) ?_
                    refine WPD.skipU 63 rfl rfl rfl rfl rfl rfl rfl (by kernel_rfl) (by kernel_rfl) (by kernel_rfl) (by kernel_rfl) (fun _ _ _ h => h) (fun _ h => h) ?_
                    refine WPD.skipU 64 rfl rfl rfl rfl rfl rfl rfl (by kernel_rfl) (by kernel_rfl) (by kernel_rfl) (by kernel_rfl) (fun _ _ _ h => h) (fun _ h => h) ?_
                    refine WPD.skipU 65 rfl rfl rfl rfl rfl rfl rfl (by kernel_rfl) (by kernel_rfl) (by kernel_rfl) (by kernel_rfl) (fun _ _ _ h => h) (fun _ h => h) ?_
                    refine WPD.skipU 66 rfl rfl rfl rfl rfl rfl rfl (by kernel_rfl) (by kernel_rfl) (by kernel_rfl) (by kernel_rfl) (fun _ _ _ h => h) (fun _ h => h) ?_
                    refine WPD.skipU 67 rfl rfl rfl rfl rfl rfl rfl (by kernel_rfl) (by kernel_rfl) (by kernel_rfl) (by kernel_rfl) (fun _ _ _ h => h) (fun _ h => h) ?_
                    refine WPD.skipU 68 rfl rfl rfl rfl rfl rfl rfl (by kernel_rfl) (by kernel_rfl) (by kernel_rfl) (by kernel_rfl) (fun _ _ _ h => h) (fun _ h => h) ?_
                    refine WPD.skipU 69 rfl rfl rfl rfl rfl rfl rfl (by kernel_rfl) (by kernel_rfl) (by kernel_rfl) (by kernel_rfl) (fun _ _ _ h => h) (fun _ h => h) ?_
                    refine WPD.skip 70 rfl rfl rfl rfl rfl rfl rfl rfl (by kernel_rfl) (by kernel_rfl) (by kernel_rfl) (by kernel_rfl) (fun _ _ _ h => h) (fun _ h => h) ?_
                    refine WPD.takeM 71 rfl rfl rfl rfl (by kernel_rfl) (by kernel_rfl) (by kernel_rfl) (by kernel_rfl) (fun _ _ _ h => h) (fun _ h => h) (Val.pickF rfl rfl rfl) ?_
                    refine WPD.done (by kernel_rfl) ?_
                    refine Out.next ?_
                    refine WPc.condF rfl rfl ?_
                    refine WPc.skip ?_
                    refine Out.next ?_
                    refine WPc.seq ?_
                    refine WPD.start (Sat W (Blk b5 [.int .i64 (x.k), .int .i64 (x.id), .int .i64 (x.at_)] 36 :: Ro (Blk g4 (flatOf QA.cells (answers ansS [] (l)) ++ spg4) Tg4) :: Seq uspec ((l).length) (flatOf QA.cells (answers ansS [] (l))) :: Ro (Blk g3 (flatOf QA.cells (answers ansI [] (l)) ++ spg3) Tg3) :: Seq uimpl ((l).length) (flatOf QA.cells (answers ansI [] (l))) :: Old W0 :: F)) Ty.mixed ?_
                    refine WPD.takeM 0 rfl rfl rfl rfl (by kernel_rfl) (by kernel_rfl) (by kernel_rfl) (by kernel_rfl) (fun _ _ _ h => h) (fun _ h => h) (Val.fieldAddr (j := 0) rfl Ty.fo36_0 rfl rfl) ?_
                    refine WPD.take 1 rfl rfl rfl rfl (by kernel_rfl) (by kernel_rfl) (by kernel_rfl) (by kernel_rfl) (fun _ _ _ h => h) (by kernel_rfl) (fun _ h => h) (Val.load rfl Ty.sc3 rfl (fun w h => h.cell 0 rfl rfl)) ?_
                    refine WPD.take 2 rfl rfl rfl rfl (by kernel_rfl) (by kernel_rfl) (by kernel_rfl) (by kernel_rfl) (fun _ _ _ h => h) (by kernel_rfl) (fun _ h => h) (Val.eql rfl rfl rfl) ?_
                    refine WPD.takeM 3 rfl rfl rfl rfl (by kernel_rfl) (by kernel_rfl) (by kernel_rfl) (by kernel_rfl) (fun _ _ _ h => h) (fun _ h => h) (Val.move rfl rfl) ?_
                    refine WPD.split 147 rfl (fun h23 => ?_) (fun h23 => ?_)
                    · skip
                      have h23 : (x.k = (4 : Int)) := h23
                      refine WPD.takeGM 4 rfl rfl rfl rfl rfl rfl rfl rfl (by kernel_rfl) (by kernel_rfl) (by kernel_rfl) (by kernel_rfl) (fun _ _ _ h => h) (fun _ h => h) (Val.move rfl rfl) ?_
                      refine WPD.takeGM 5 rfl rfl rfl rfl rfl rfl rfl rfl (by kernel_rfl) (by kernel_rfl) (by kernel_rfl) (by kernel_rfl) (fun _ _ _ h => h) (fun _ h => h) (Val.move rfl rfl) ?_
                      refine WPD.takeGM 6 rfl rfl rfl rfl rfl rfl rfl rfl (by kernel_rfl) (by kernel_rfl) (by kernel_rfl) (by kernel_rfl) (fun _ _ _ h => h) (fun _ h => h) (Val.indexAddr (j := i) (q := i * 4) rfl Ty.sl37 rfl rfl (by omega) (by omega) (by omega)) ?_
                      refine WPD.takeGM 7 rfl rfl rfl rfl rfl rfl rfl rfl (by kernel_rfl) (by kernel_rfl) (by kernel_rfl) (by kernel_rfl) (fun _ _ _ h => h) (fun _ h => h) (Val.fieldAddr (j := i * 4 + 3) rfl Ty.fo40_3 rfl rfl) ?_
                      refine WPD.takeG 8 rfl rfl rfl rfl rfl rfl rfl rfl (by kernel_rfl) (by kernel_rfl) (by kernel_rfl) (by kernel_rfl) (fun _ _ _ h => h) (by kernel_rfl) (fun _ h => h) (Val.load (v := .int .i64 (a.n)) rfl Ty.sc3 rfl (fun w h => (by exact ((h.at 3 rfl).ro.cell_range (flatOf_range QA.len ha)) 3 _ rfl))) ?_
                      refine WPD.takeGM 9 rfl rfl rfl rfl rfl rfl rfl rfl (by kernel_rfl) (by kernel_rfl) (by kernel_rfl) (by kernel_rfl) (fun _ _ _ h => h) (fun _ h => h) (Val.move rfl rfl) ?_
                      refine WPD.takeGM 10 rfl rfl rfl rfl rfl rfl rfl rfl (by kernel_rfl) (by kernel_rfl) (by kernel_rfl) (by kernel_rfl) (fun _ _ _ h => h) (fun _ h => h) (Val.move rfl rfl) ?_
                      refine WPD.takeGM 11 rfl rfl rfl rfl rfl rfl rfl rfl (by kernel_rfl) (by kernel_rfl) (by kernel_rfl) (by kernel_rfl) (fun _ _ _ h => h) (fun _ h => h) (Val.indexAddr (j := i) (q := i * 4) rfl Ty.sl37 rfl rfl (by omega) (by omega) (by omega)) ?_
                      refine WPD.takeGM 12 rfl rfl rfl rfl rfl rfl rfl rfl (by kernel_rfl) (by kernel_rfl) (by kernel_rfl) (by kernel_rfl) (fun _ _ _ h => h) (fun _ h => h) (Val.fieldAddr (j := i * 4 + 3) rfl Ty.fo40_3 rfl rfl) ?_
                      refine WPD.takeG 13 rfl rfl rfl rfl rfl rfl rfl rfl (by kernel_rfl) (by kernel_rfl) (by kernel_rfl) (by kernel_rfl) (fun _ _ _ h => h) (by kernel_rfl) (fun _ h => h) (Val.load (v := .int .i64 (a.n)) rfl Ty.sc3 rfl (fun w h => (by rw [← heq4 (by omega)]; exact ((h.at 1 rfl).ro.cell_range (flatOf_range QA.len hb)) 3 _ rfl))) ?_
                      refine WPD.takeG 14 rfl rfl rfl rfl rfl rfl rfl rfl (by kernel_rfl) (by kernel_rfl) (by kernel_rfl) (by kernel_rfl) (fun _ _ _ h => h) (by kernel_rfl) (fun _ h => h) (Val.neq rfl rfl rfl) ?_
                      refine WPD.takeM 15 rfl rfl rfl rfl (by kernel_rfl) (by kernel_rfl) (by kernel_rfl) (by kernel_rfl) (fun _ _ _ h => h) (fun _ h => h) (Val.pickT rfl rfl rfl) ?_
                      refine WPD.done (by kernel_rfl) ?_
                      refine Out.next ?_
                      refine WPc.ifP rfl (fun h24 => ?_) (fun h24 => ?_)
                      · skip
                        have h24 : (a.n ≠ a.n) := h24
                        exact absurd rfl h24
                      · skip
                        have h24 : ¬ (a.n ≠ a.n) := h24
                        refine WPc.skip ?_
                        refine Out.block ?_
                        refine Out.next ?_
                        refine WPc.region ?_
                        refine WP.val rfl rfl rfl (Val.add (z := ((i + 1 : Nat) : Int)) rfl rfl rfl ((w64 (by omega) (by omega)).trans (by omega))) ?_
                        refine WP.val rfl rfl rfl (Val.move rfl rfl) ?_
                        refine WP.nil ?_
                        refine Out.drop ?_
                        refine Out.drop ?_
                        refine Out.perm pl1 ?_
                        refine Out.drop ?_
                        refine Out.perm pl2 ?_
                        refine Out.perm pl1 ?_
                        refine Out.perm pl2 ?_
                        refine Out.again (i + 1) ?_ ?_ ?_ ?_
                        · exact (by first | omega | (dsimp only; omega))
                        · first | omega | (dsimp only; omega)
                        · exact (Sub.cons (congrArg some (hvg3.1).symm) (Sub.cons (congrArg some (hvg4.1).symm) (Sub.cons rfl (Sub.cons rfl (Sub.cons rfl Sub.nil)))))
                        · exact (fun _ h => h)
                    · skip
                      have h23 : ¬ (x.k = (4 : Int)) := h23
                      refine WPD.skip 4 rfl rfl rfl rfl rfl rfl rfl rfl (by kernel_rfl) (by kernel_rfl) (by kernel_rfl) (by kernel_rfl) (fun _ _ _ h => h) (fun _ h => h) ?_
                      refine WPD.skip 5 rfl rfl rfl rfl rfl rfl rfl rfl (by kernel_rfl) (by kernel_rfl) (by kernel_rfl) (by kernel_rfl) (fun _ _ _ h => h) (fun _ h => h) ?_
                      refine WPD.skip 6 rfl rfl rfl rfl rfl rfl rfl rfl (by kernel_rfl) (by kernel_rfl) (by kernel_rfl) (by kernel_rfl) (fun _ _ _ h => h) (fun _ h => h) ?_
                      refine WPD.skip 7 rfl rfl rfl rfl rfl rfl rfl rfl (by kernel_rfl) (by kernel_rfl) (by kernel_rfl) (by kernel_rfl) (fun _ _ _ h => h) (fun _ h => h) ?_
                      refine WPD.skip 8 rfl rfl rfl rfl rfl rfl rfl rfl (by kernel_rfl) (by kernel_rfl) (by kernel_rfl) (by kernel_rfl) (fun _ _ _ h => h) (fun _ h => h) ?_
                      refine WPD.skip 9 rfl rfl rfl rfl rfl rfl rfl rfl (by kernel_rfl) (by kernel_rfl) (by kernel_rfl) (by kernel_rfl) (fun _ _ _ h => h) (fun _ h => h) ?_
                      refine WPD.skip 10 rfl rfl rfl rfl rfl rfl rfl rfl (by kernel_rfl) (by kernel_rfl) (by kernel_rfl) (by kernel_rfl) (fun _ _ _ h => h) (fun _ h => h) ?_
                      refine WPD.skip 11 rfl rfl rfl rfl rfl rfl rfl rfl (by kernel_rfl) (by kernel_rfl) (by kernel_rfl) (by kernel_rfl) (fun _ _ _ h => h) (fun _ h => h) ?_
                      refine WPD.skip 12 rfl rfl rfl rfl rfl rfl rfl rfl (by kernel_rfl) (by kernel_rfl) (by kernel_rfl) (by kernel_rfl) (fun _ _ _ h => h) (fun _ h => h) ?_
                      refine WPD.skip 13 rfl rfl rfl rfl rfl rfl rfl rfl (by kernel_rfl) (by kernel_rfl) (by kernel_rfl) (by kernel_rfl) (fun _ _ _ h => h) (fun _ h => h) ?_
                      refine WPD.skip 14 rfl rfl rfl rfl rfl rfl rfl rfl (by kernel_rfl) (by kernel_rfl) (by kernel_rfl) (by kernel_rfl) (fun _ _ _ h => h) (fun _ h => h) ?_
                      refine WPD.takeM 15 rfl rfl rfl rfl (by kernel_rfl) (by kernel_rfl) (by kernel_rfl) (by kernel_rfl) (fun _ _ _ h => h) (fun _ h => h) (Val.pickF rfl rfl rfl) ?_
                      refine WPD.done (by kernel_rfl) ?_
                      refine Out.next ?_
                      refine WPc.condF rfl rfl ?_
                      refine WPc.skip ?_
                      refine Out.block ?_
                      refine Out.next ?_
                      refine WPc.region ?_
                      refine WP.val rfl rfl rfl (Val.add (z := ((i + 1 : Nat) : Int)) rfl rfl rfl ((w64 (by omega) (by omega)).trans (by omega))) ?_
                      refine WP.val rfl rfl rfl (Val.move rfl rfl) ?_
                      refine WP.nil ?_
                      refine Out.drop ?_
                      refine Out.drop ?_
                      refine Out.perm pl1 ?_
                      refine Out.drop ?_
                      refine Out.perm pl2 ?_
                      refine Out.perm pl1 ?_
                      refine Out.perm pl2 ?_
                      refine Out.again (i + 1) ?_ ?_ ?_ ?_
                      · exact (by first | omega | (dsimp only; omega))
                      · first | omega | (dsimp only; omega)
                      · exact (Sub.cons (congrArg some (hvg3.1).symm) (Sub.cons (congrArg some (hvg4.1).symm) (Sub.cons rfl (Sub.cons rfl (Sub.cons rfl Sub.nil)))))
                      · exact (fun _ h => h)
              · skip
                refine WPD.skip 20 rfl rfl rfl rfl rfl rfl rfl rfl (by kernel_rfl) (by kernel_rfl) (by kernel_rfl) (by kernel_rfl) (fun _ _ _ h => h) (fun _ h => h) ?_
                refine WPD.skip 21 rfl rfl rfl rfl rfl rfl rfl rfl (by kernel_rfl) (by kernel_rfl) (by kernel_rfl) (by kernel_rfl) (fun _ _ _ h => h) (fun _ h => h) ?_
                refine WPD.skip 22 rfl rfl rfl rfl rfl rfl rfl rfl (by kernel_rfl) (by kernel_rfl) (by kernel_rfl) (by kernel_rfl) (fun _ _ _ h => h) (fun _ h => h) ?_
                refine WPD.skip 23 rfl rfl rfl rfl rfl rfl rfl rfl (by kernel_rfl) (by kernel_rfl) (by kernel_rfl) (by kernel_rfl) (fun _ _ _ h => h) (fun _ h => h) ?_
                refine WPD.skip 24 rfl rfl rfl rfl rfl rfl rfl rfl (by kernel_rfl) (by kernel_rfl) (by kernel_rfl) (by kernel_rfl) (fun _ _ _ h => h) (fun _ h => h) ?_
                refine WPD.skip 25 rfl rfl rfl rfl rfl rfl rfl rfl (by kernel_rfl) (by kernel_rfl) (by kernel_rfl) (by kernel_rfl) (fun _ _ _ h => h) (fun _ h => h) ?_
                refine WPD.skipU 26 rfl rfl rfl rfl rfl rfl rfl (by kernel_rfl) (by kernel_rfl) (by kernel_rfl) (by kernel_rfl) (fun _ _ _ h => h) (fun _ h => h) ?_
                refine WPD.skipU 27 rfl rfl rfl rfl rfl rfl rfl (by kernel_rfl) (by kernel_rfl) (by kernel_rfl) (by kernel_rfl) (fun _ _ _ h => h) (fun _ h => h) ?_
                refine WPD.skipU 28 rfl rfl rfl rfl rfl rfl rfl (by kernel_rfl) (by kernel_rfl) (by kernel_rfl) (by kernel_rfl) (fun _ _ _ h => h) (fun _ h => h) ?_
                refine WPD.skipU 29 rfl rfl rfl rfl rfl rfl rfl (by kernel_rfl) (by kernel_rfl) (by kernel_rfl) (by kernel_rfl) (fun _ _ _ h => h) (fun _ h => h) ?_
                refine WPD.skipU 30 rfl rfl rfl rfl rfl rfl rfl (by kernel_rfl) (by kernel_rfl) (by kernel_rfl) (by kernel_rfl) (fun _ _ _ h => h) (fun _ h => h) ?_
                refine WPD.skip 31 rfl rfl rfl rfl rfl rfl rfl rfl (by kernel_rfl) (by kernel_rfl) (by kernel_rfl) (by kernel_rfl) (fun _ _ _ h => h) (fun _ h => h) ?_
                refine WPD.takeM 32 rfl rfl rfl rfl (by kernel_rfl) (by kernel_rfl) (by kernel_rfl) (by kernel_rfl) (fun _ _ _ h => h) (fun _ h => h) (Val.pickF rfl rfl rfl) ?_
                refine WPD.takeM 33 rfl rfl rfl rfl (by kernel_rfl) (by kernel_rfl) (by kernel_rfl) (by kernel_rfl) (fun _ _ _ h => h) (fun _ h => h) (Val.move rfl rfl) ?_
                refine WPD.skip 34 rfl rfl rfl rfl rfl rfl rfl rfl (by kernel_rfl) (by kernel_rfl) (by kernel_rfl) (by kernel_rfl) (fun _ _ _ h => h) (fun _ h => h) ?_
                refine WPD.skip 35 rfl rfl rfl rfl rfl rfl rfl rfl (by kernel_rfl) (by kernel_rfl) (by kernel_rfl) (by kernel_rfl) (fun _ _ _ h => h) (fun _ h => h) ?_
                refine WPD.skip 36 rfl rfl rfl rfl rfl rfl rfl rfl (by kernel_rfl) (by kernel_rfl) (by kernel_rfl) (by kernel_rfl) (fun _ _ _ h => h) (fun _ h => h) ?_
                refine WPD.skip 37 rfl rfl rfl rfl rfl rfl rfl rfl (by kernel_rfl) (by kernel_rfl) (by kernel_rfl) (by kernel_rfl) (fun _ _ _ h => h) (fun _ h => h) ?_
                refine WPD.skip 38 rfl rfl rfl rfl rfl rfl rfl rfl (by kernel_rfl) (by kernel_rfl) (by kernel_rfl) (by kernel_rfl) (fun _ _ _ h => h) (fun _ h => h) ?_
                refine WPD.skip 39 rfl rfl rfl rfl rfl rfl rfl rfl (by kernel_rfl) (by kernel_rfl) (by kernel_rfl) (by kernel_rfl) (fun _ _ _ h => h) (fun _ h => h) ?_
                refine WPD.skip 40 rfl rfl rfl rfl rfl rfl rfl rfl (by kernel_rfl) (by kernel_rfl) (by kernel_rfl) (by kernel_rfl) (fun _ _ _ h => h) (fun _ h => h) ?_
                refine WPD.skip 41 rfl rfl rfl rfl rfl rfl rfl rfl (by kernel_rfl) (by kernel_rfl) (by kernel_rfl) (by kernel_rfl) (fun _ _ _ h => h) (fun _ h => h) ?_
                refine WPD.skip 42 rfl rfl rfl rfl rfl rfl rfl rfl (by kernel_rfl) (by kernel_rfl) (by kernel_rfl) (by kernel_rfl) (fun _ _ _ h => h) (fun _ h => h) ?_
                refine WPD.skip 43 rfl rfl rfl rfl rfl rfl rfl rfl (by kernel_rfl) (by kernel_rfl) (by kernel_rfl) (by kernel_rfl) (fun _ _ _ h => h) (fun _ h => h) ?_
                refine WPD.skip 44 rfl rfl rfl rfl rfl rfl rfl rfl (by kernel_rfl) (by kernel_rfl) (by kernel_rfl) (by kernel_rfl) (fun _ _ _ h => h) (fun _ h => h) ?_
                refine WPD.skip 45 rfl rfl rfl rfl rfl rfl rfl rfl (by kernel_rfl) (by kernel_rfl) (by kernel_rfl) (by kernel_rfl) (fun _ _ _ h => h) (fun _ h => h) ?_
                refine WPD.skipU 46 rfl rfl rfl rfl rfl rfl rfl (by kernel_rfl) (by kernel_rfl) (by kernel_rfl) (by kernel_rfl) (fun _ _ _ h => h) (fun _ h => h) ?_
                refine WPD.skipU 47 rfl rfl rfl rfl rfl rfl rfl (by kernel_rfl) (by kernel_rfl) (by kernel_rfl) (by kernel_rfl) (fun _ _ _ h => h) (fun _ h => h) ?_
                refine WPD.skipU 48 rfl rfl rfl rfl rfl rfl rfl (by kernel_rfl) (by kernel_rfl) (by kernel_rfl) (by kernel_rfl) (fun _ _ _ h => h) (fun _ h => h) ?_
                refine WPD.skipU 49 rfl rfl rfl rfl rfl rfl rfl (by kernel_rfl) (by kernel_rfl) (by kernel_rfl) (by kernel_rfl) (fun _ _ _ h => h) (fun _ h => h) ?_
                refine WPD.skipU 50 rfl rfl rfl rfl rfl rfl rfl (by kernel_rfl) (by kernel_rfl) (by kernel_rfl) (by kernel_rfl) (fun _ _ _ h => h) (fun _ h => h) ?_
                refine WPD.skipU 51 rfl rfl rfl rfl rfl rfl rfl (by kernel_rfl) (by kernel_rfl) (by kernel_rfl) (by kernel_rfl) (fun _ _ _ h => h) (fun _ h => h) ?_
                refine WPD.skipU 52 rfl rfl rfl rfl rfl rfl rfl (by kernel_rfl) (by kernel_rfl) (by kernel_rfl) (by kernel_rfl) (fun _ _ _ h => h) (fun _ h => h) ?_
                refine WPD.skipU 53 rfl rfl rfl rfl rfl rfl rfl (by kernel_rfl) (by kernel_rfl) (by kernel_rfl) (by kernel_rfl) (fun _ _ _ h => h) (fun _ h => h) ?_
                refine WPD.skipU 54 rfl rfl rfl rfl rfl rfl rfl (by kernel_rfl) (by kernel_rfl) (by kernel_rfl) (by kernel_rfl) (fun _ _ _ h => h) (fun _ h => h) ?_
                refine WPD.skipU 55 rfl rfl rfl rfl rfl rfl rfl (by kernel_rfl) (by kernel_rfl) (by kernel_rfl) (by kernel_rfl) (fun _ _ _ h => h) (fun _ h => h) ?_
                refine WPD.skipU 56 rfl rfl rfl rfl rfl rfl rfl (by kernel_rfl) (by kernel_rfl) (by kernel_rfl) (by kernel_rfl) (fun _ _ _ h => h) (fun _ h => h) ?_
                refine WPD.skip 57 rfl rfl rfl rfl rfl rfl rfl rfl (by kernel_rfl) (by kernel_rfl) (by kernel_rfl) (by kernel_rfl) (fun _ _ _ h => h) (fun _ h => h) ?_
                refine WPD.skip 58 rfl rfl rfl rfl rfl rfl rfl rfl (by kernel_rfl) (by kernel_rfl) (by kernel_rfl) (by kernel_rfl) (fun _ _ _ h => h) (fun _ h => h) ?_
                refine WPD.skipU 59 rfl rfl rfl rfl rfl rfl rfl (by kernel_rfl) (by kernel_rfl) (by kernel_rfl) (by kernel_rfl) (fun _ _ _ h => h) (fun _ h => h) ?_
                refine WPD.skipU 60 rfl rfl rfl rfl rfl rfl rfl (by kernel_rfl) (by kernel_rfl) (by kernel_rfl) (by kernel_rfl) (fun _ _ _ h => h) (fun _ h => h) ?_
                refine WPD.skipU 61 rfl rfl rfl rfl rfl rfl rfl (by kernel_rfl) (by kernel_rfl) (by kernel_rfl) (by kernel_rfl) (fun _ _ _ h => h) (fun _ h => h) ?_
                refine WPD.skipU 62 rfl rfl rfl rfl rfl rfl rfl (by kernel_rfl) (by kernel_rfl) (by kernel_rfl) (by kernel_rfl) (fun _ _ _ h => h) (fun _ h => h) ?_
                refine WPD.skipU 63 rfl rfl rfl rfl rfl rfl rfl (by kernel_rfl) (by kernel_rfl) (by kernel_rfl) (by kernel_rfl) (fun _ _ _ h => h) (fun _ h => h) ?_
                refine WPD.skipU 64 rfl rfl rfl rfl rfl rfl rfl (by kernel_rfl) (by kernel_rfl) (by kernel_rfl) (by kernel_rfl) (fun _ _ _ h => h) (fun _ h => h) ?_
                refine WPD.skipU 65 rfl rfl rfl rfl rfl rfl rfl (by kernel_rfl) (by kernel_rfl) (by kernel_rfl) (by kernel_rfl) (fun _ _ _ h => h) (fun _ h => h) ?_
                refine WPD.skipU 66 rfl rfl rfl rfl rfl rfl rfl (by kernel_rfl) (by kernel_rfl) (by kernel_rfl) (by kernel_rfl) (fun _ _ _ h => h) (fun _ h => h) ?_
                refine WPD.skipU 67 rfl rfl rfl rfl rfl rfl rfl (by kernel_rfl) (by kernel_rfl) (by kernel_rfl) (by kernel_rfl) (fun _ _ _ h => h) (fun _ h => h) ?_
                refine WPD.skipU 68 rfl rfl rfl rfl rfl rfl rfl (by kernel_rfl) (by kernel_rfl) (by kernel_rfl) (by kernel_rfl) (fun _ _ _ h => h) (fun _ h => h) ?_
                refine WPD.skipU 69 rfl rfl rfl rfl rfl rfl rfl (by kernel_rfl) (by kernel_rfl) (by kernel_rfl) (by kernel_rfl) (fun _ _ _ h => h) (fun _ h => h) ?_
                refine WPD.skip 70 rfl rfl rfl rfl rfl rfl rfl rfl (by kernel_rfl) (by kernel_rfl) (by kernel_rfl) (by kernel_rfl) (fun _ _ _ h => h) (fun _ h => h) ?_
                refine WPD.takeM 71 rfl rfl rfl rfl (by kernel_rfl) (by kernel_rfl) (by kernel_rfl) (by kernel_rfl) (fun _ _ _ h => h) (fun _ h => h) (Val.pickF rfl rfl rfl) ?_
                refine WPD.done (by kernel_rfl) ?_
                refine Out.next ?_
                refine WPc.condF rfl rfl ?_
                refine WPc.skip ?_
                refine Out.next ?_
                refine WPc.seq ?_
                refine WPD.start (Sat W (Blk b5 [.int .i64 (x.k), .int .i64 (x.id), .int .i64 (x.at_)] 36 :: Ro (Blk g4 (flatOf QA.cells (answers ansS [] (l)) ++ spg4) Tg4) :: Seq uspec ((l).length) (flatOf QA.cells (answers ansS [] (l))) :: Ro (Blk g3 (flatOf QA.cells (answers ansI [] (l)) ++ spg3) Tg3) :: Seq uimpl ((l).length) (flatOf QA.cells (answers ansI [] (l))) :: Old W0 :: F)) Ty.mixed ?_
                refine WPD.takeM 0 rfl rfl rfl rfl (by kernel_rfl) (by kernel_rfl) (by kernel_rfl) (by kernel_rfl) (fun _ _ _ h => h) (fun _ h => h) (Val.fieldAddr (j := 0) rfl Ty.fo36_0 rfl rfl) ?_
                refine WPD.take 1 rfl rfl rfl rfl (by kernel_rfl) (by kernel_rfl) (by kernel_rfl) (by kernel_rfl) (fun _ _ _ h => h) (by kernel_rfl) (fun _ h => h) (Val.load rfl Ty.sc3 rfl (fun w h => h.cell 0 rfl rfl)) ?_
                refine WPD.take 2 rfl rfl rfl rfl (by kernel_rfl) (by kernel_rfl) (by kernel_rfl) (by kernel_rfl) (fun _ _ _ h => h) (by kernel_rfl) (fun _ h => h) (Val.eql rfl rfl rfl) ?_
                refine WPD.takeM 3 rfl rfl rfl rfl (by kernel_rfl) (by kernel_rfl) (by kernel_rfl) (by kernel_rfl) (fun _ _ _ h => h) (fun _ h => h) (Val.move rfl rfl) ?_
                refine WPD.split 147 rfl (fun h25 => ?_) (fun h25 => ?_)
                · skip
                  have h25 : (x.k = (4 : Int)) := h25
                  refine WPD.takeGM 4 rfl rfl rfl rfl rfl rfl rfl rfl (by kernel_rfl) (by kernel_rfl) (by kernel_rfl) (by kernel_rfl) (fun _ _ _ h => h) (fun _ h => h) (Val.move rfl rfl) ?_
                  refine WPD.takeGM 5 rfl rfl rfl rfl rfl rfl rfl rfl (by kernel_rfl) (by kernel_rfl) (by kernel_rfl) (by kernel_rfl) (fun _ _ _ h => h) (fun _ h => h) (Val.move rfl rfl) ?_
                  refine WPD.takeGM 6 rfl rfl rfl rfl rfl rfl rfl rfl (by kernel_rfl) (by kernel_rfl) (by kernel_rfl) (by kernel_rfl) (fun _ _ _ h => h) (fun _ h => h) (Val.indexAddr (j := i) (q := i * 4) rfl Ty.sl37 rfl rfl (by omega) (by omega) (by omega)) ?_
                  refine WPD.takeGM 7 rfl rfl rfl rfl rfl rfl rfl rfl (by kernel_rfl) (by kernel_rfl) (by kernel_rfl) (by kernel_rfl) (fun _ _ _ h => h) (fun _ h => h) (Val.fieldAddr (j := i * 4 + 3) rfl Ty.fo40_3 rfl rfl) ?_
                  refine WPD.takeG 8 rfl rfl rfl rfl rfl rfl rfl rfl (by kernel_rfl) (by kernel_rfl) (by kernel_rfl) (by kernel_rfl) (fun _ _ _ h => h) (by kernel_rfl) (fun _ h => h) (Val.load (v := .int .i64 (a.n)) rfl Ty.sc3 rfl (fun w h => (by exact ((h.at 3 rfl).ro.cell_range (flatOf_range QA.len ha)) 3 _ rfl))) ?_
                  refine WPD.takeGM 9 rfl rfl rfl rfl rfl rfl rfl rfl (by kernel_rfl) (by kernel_rfl) (by kernel_rfl) (by kernel_rfl) (fun _ _ _ h => h) (fun _ h => h) (Val.move rfl rfl) ?_
                  refine WPD.takeGM 10 rfl rfl rfl rfl rfl rfl rfl rfl (by kernel_rfl) (by kernel_rfl) (by kernel_rfl) (by kernel_rfl) (fun _ _ _ h => h) (fun _ h => h) (Val.move rfl rfl) ?_
                  refine WPD.takeGM 11 rfl rfl rfl rfl rfl rfl rfl rfl (by kernel_rfl) (by kernel_rfl) (by kernel_rfl) (by kernel_rfl) (fun _ _ _ h => h) (fun _ h => h) (Val.indexAddr (j := i) (q := i * 4) rfl Ty.sl37 rfl rfl (by omega) (by omega) (by omega)) ?_
                  refine WPD.takeGM 12 rfl rfl rfl rfl rfl rfl rfl rfl (by kernel_rfl) (by kernel_rfl) (by kernel_rfl) (by kernel_rfl) (fun _ _ _ h => h) (fun _ h => h) (Val.fieldAddr (j := i * 4 + 3) rfl Ty.fo40_3 rfl rfl) ?_
                  refine WPD.takeG 13 rfl rfl rfl rfl rfl rfl rfl rfl (by kernel_rfl) (by kernel_rfl) (by kernel_rfl) (by kernel_rfl) (fun _ _ _ h => h) (by kernel_rfl) (fun _ h => h) (Val.load (v := .int .i64 (a.n)) rfl Ty.sc3 rfl (fun w h => (by rw [← heq4 (by omega)]; exact ((h.at 1 rfl).ro.cell_range (flatOf_range QA.len hb)) 3 _ rfl))) ?_
                  refine WPD.takeG 14 rfl rfl rfl rfl rfl rfl rfl rfl (by kernel_rfl) (by kernel_rfl) (by kernel_rfl) (by kernel_rfl) (fun _ _ _ h => h) (by kernel_rfl) (fun _ h => h) (Val.neq rfl rfl rfl) ?_
                  refine WPD.takeM 15 rfl rfl rfl rfl (by kernel_rfl) (by kernel_rfl) (by kernel_rfl) (by kernel_rfl) (fun _ _ _ h => h) (fun _ h => h) (Val.pickT rfl rfl rfl) ?_
                  refine WPD.done (by kernel_rfl) ?_
                  refine Out.next ?_
                  refine WPc.ifP rfl (fun h26 => ?_) (fun h26 => ?_)
                  · skip
                    have h26 : (a.n ≠ a.n) := h26
                    exact absurd rfl h26
                  · skip
                    have h26 : ¬ (a.n ≠ a.n) := h26
                    refine WPc.skip ?_
                    refine Out.block ?_
                    refine Out.next ?_
                    refine WPc.region ?_
                    refine WP.val rfl rfl rfl (Val.add (z := ((i + 1 : Nat) : Int)) rfl rfl rfl ((w64 (by omega) (by omega)).trans (by omega))) ?_
                    refine WP.val rfl rfl rfl (Val.move rfl rfl) ?_
                    refine WP.nil ?_
                    refine Out.drop ?_
                    refine Out.drop ?_
                    refine Out.perm pl1 ?_
                    refine Out.drop ?_
                    refine Out.perm pl2 ?_
                    refine Out.perm pl1 ?_
                    refine Out.perm pl2 ?_
                    refine Out.again (i + 1) ?_ ?_ ?_ ?_
                    · exact (by first | omega | (dsimp only; omega))
                    · first | omega | (dsimp only; omega)
                    · exact (Sub.cons (congrArg some (hvg3.1).symm) (Sub.cons (congrArg some (hvg4.1).symm) (Sub.cons rfl (Sub.cons rfl (Sub.cons rfl Sub.nil)))))
                    · exact (fun _ h => h)
                · skip
                  have h25 : ¬ (x.k = (4 : Int)) := h25
                  refine WPD.skip 4 rfl rfl rfl rfl rfl rfl rfl rfl (by kernel_rfl) (by kernel_rfl) (by kernel_rfl) (by kernel_rfl) (fun _ _ _ h => h) (fun _ h => h) ?_
                  refine WPD.skip 5 rfl rfl rfl rfl rfl rfl rfl rfl (by kernel_rfl) (by kernel_rfl) (by kernel_rfl) (by kernel_rfl) (fun _ _ _ h => h) (fun _ h => h) ?_
                  refine WPD.skip 6 rfl rfl rfl rfl rfl rfl rfl rfl (by kernel_rfl) (by kernel_rfl) (by kernel_rfl) (by kernel_rfl) (fun _ _ _ h => h) (fun _ h => h) ?_
                  refine WPD.skip 7 rfl rfl rfl rfl rfl rfl rfl rfl (by kernel_rfl) (by kernel_rfl) (by kernel_rfl) (by kernel_rfl) (fun _ _ _ h => h) (fun _ h => h) ?_
                  refine WPD.skip 8 rfl rfl rfl rfl rfl rfl rfl rfl (by kernel_rfl) (by kernel_rfl) (by kernel_rfl) (by kernel_rfl) (fun _ _ _ h => h) (fun _ h => h) ?_
                  refine WPD.skip 9 rfl rfl rfl rfl rfl rfl rfl rfl (by kernel_rfl) (by kernel_rfl) (by kernel_rfl) (by kernel_rfl) (fun _ _ _ h => h) (fun _ h => h) ?_
                  refine WPD.skip 10 rfl rfl rfl rfl rfl rfl rfl rfl (by kernel_rfl) (by kernel_rfl) (by kernel_rfl) (by kernel_rfl) (fun _ _ _ h => h) (fun _ h => h) ?_
                  refine WPD.skip 11 rfl rfl rfl rfl rfl rfl rfl rfl (by kernel_rfl) (by kernel_rfl) (by kernel_rfl) (by kernel_rfl) (fun _ _ _ h => h) (fun _ h => h) ?_
                  refine WPD.skip 12 rfl rfl rfl rfl rfl rfl rfl rfl (by kernel_rfl) (by kernel_rfl) (by kernel_rfl) (by kernel_rfl) (fun _ _ _ h => h) (fun _ h => h) ?_
                  refine WPD.skip 13 rfl rfl rfl rfl rfl rfl rfl rfl (by kernel_rfl) (by kernel_rfl) (by kernel_rfl) (by kernel_rfl) (fun _ _ _ h => h) (fun _ h => h) ?_
                  refine WPD.skip 14 rfl rfl rfl rfl rfl rfl rfl rfl (by kernel_rfl) (by kernel_rfl) (by kernel_rfl) (by kernel_rfl) (fun _ _ _ h => h) (fun _ h => h) ?_
                  refine WPD.takeM 15 rfl rfl rfl rfl (by kernel_rfl) (by kernel_rfl) (by kernel_rfl) (by kernel_rfl) (fun _ _ _ h => h) (fun _ h => h) (Val.pickF rfl rfl rfl) ?_
                  refine WPD.done (by kernel_rfl) ?_
                  refine Out.next ?_
                  refine WPc.condF rfl rfl ?_
                  refine WPc.skip ?_
                  refine Out.block ?_
                  refine Out.next ?_
                  refine WPc.region ?_
                  refine WP.val rfl rfl rfl (Val.add (z := ((i + 1 : Nat) : Int)) rfl rfl rfl ((w64 (by omega) (by omega)).trans (by omega))) ?_
                  refine WP.val rfl rfl rfl (Val.move rfl rfl) ?_
                  refine WP.nil ?_
                  refine Out.drop ?_
                  refine Out.drop ?_
                  refine Out.perm pl1 ?_
                  refine Out.drop ?_
                  refine Out.perm pl2 ?_
                  refine Out.perm pl1 ?_
                  refine Out.perm pl2 ?_
                  refine Out.again (i + 1) ?_ ?_ ?_ ?_
                  · exact (by first | omega | (dsimp only; omega))
                  · first | omega | (dsimp only; omega)
                  · exact (Sub.cons (congrArg some (hvg3.1).symm) (Sub.cons (congrArg some (hvg4.1).symm) (Sub.cons rfl (Sub.cons rfl (Sub.cons rfl Sub.nil)))))
                  · exact (fun _ h => h)
            · skip
              have h11 : ¬ (x.k = (2 : Int)) := h11
              refine WPD.takeGM 4 rfl rfl rfl rfl rfl rfl rfl rfl (by kernel_rfl) (by kernel_rfl) (by kernel_rfl) (by kernel_rfl) (fun _ _ _ h => h) (fun _ h => h) (Val.fieldAddr (j := 0) rfl Ty.fo36_0 rfl rfl) ?_
              refine WPD.takeG 5 rfl rfl rfl rfl rfl rfl rfl rfl (by kernel_rfl) (by kernel_rfl) (by kernel_rfl) (by kernel_rfl) (fun _ _ _ h => h) (by kernel_rfl) (fun _ h => h) (Val.load rfl Ty.sc3 rfl (fun w h => h.cell 0 rfl rfl)) ?_
              refine WPD.takeG 6 rfl rfl rfl rfl rfl rfl rfl rfl (by kernel_rfl) (by kernel_rfl) (by kernel_rfl) (by kernel_rfl) (fun _ _ _ h => h) (by kernel_rfl) (fun _ h => h) (Val.eql rfl rfl rfl) ?_
              refine WPD.takeM 7 rfl rfl rfl rfl (by kernel_rfl) (by kernel_rfl) (by kernel_rfl) (by kernel_rfl) (fun _ _ _ h => h) (fun _ h => h) (Val.pickF rfl rfl rfl) ?_
              refine WPD.takeM 8 rfl rfl rfl rfl (by kernel_rfl) (by kernel_rfl) (by kernel_rfl) (by kernel_rfl) (fun _ _ _ h => h) (fun _ h => h) (Val.move rfl rfl) ?_
              refine WPD.split 80 rfl (fun h27 => ?_) (fun h27 => ?_)
              · skip
                have h27 : (x.k = (3 : Int)) := h27
                refine WPD.takeGM 9 rfl rfl rfl rfl rfl rfl rfl rfl (by kernel_rfl) (by kernel_rfl) (by kernel_rfl) (by kernel_rfl) (fun _ _ _ h => h) (fun _ h => h) (Val.move rfl rfl) ?_
                refine WPD.takeGM 10 rfl rfl rfl rfl rfl rfl rfl rfl (by kernel_rfl) (by kernel_rfl) (by kernel_rfl) (by kernel_rfl) (fun _ _ _ h => h) (fun _ h => h) (Val.move rfl rfl) ?_
                refine WPD.takeGM 11 rfl rfl rfl rfl rfl rfl rfl rfl (by kernel_rfl) (by kernel_rfl) (by kernel_rfl) (by kernel_rfl) (fun _ _ _ h => h) (fun _ h => h) (Val.indexAddr (j := i) (q := i * 4) rfl Ty.sl37 rfl rfl (by omega) (by omega) (by omega)) ?_
                refine WPD.takeG 12 rfl rfl rfl rfl rfl rfl rfl rfl (by kernel_rfl) (by kernel_rfl) (by kernel_rfl) (by kernel_rfl) (fun _ _ _ h => h) (by kernel_rfl) (fun _ h => h) (Val.loadAgg (cs := [.bool (a.ok), .int .i64 (a.id), .int .i64 (a.at_), .int .i64 (a.n)]) rfl Ty.ag40 rfl (by rfl) (fun w h => (by exact (h.at 3 rfl).ro.cell_range (flatOf_range QA.len ha)))) ?_
                refine WPD.takeGM 13 rfl rfl rfl rfl rfl rfl rfl rfl (by kernel_rfl) (by kernel_rfl) (by kernel_rfl) (by kernel_rfl) (fun _ _ _ h => h) (fun _ h => h) (Val.move rfl rfl) ?_
                refine WPD.takeGM 14 rfl rfl rfl rfl rfl rfl rfl rfl (by kernel_rfl) (by kernel_rfl) (by kernel_rfl) (by kernel_rfl) (fun _ _ _ h => h) (fun _ h => h) (Val.move rfl rfl) ?_
                refine WPD.takeGM 15 rfl rfl rfl rfl rfl rfl rfl rfl (by kernel_rfl) (by kernel_rfl) (by kernel_rfl) (by kernel_rfl) (fun _ _ _ h => h) (fun _ h => h) (Val.indexAddr (j := i) (q := i * 4) rfl Ty.sl37 rfl rfl (by omega) (by omega) (by omega)) ?_
                refine WPD.takeG 16 rfl rfl rfl rfl rfl rfl rfl rfl (by kernel_rfl) (by kernel_rfl) (by kernel_rfl) (by kernel_rfl) (fun _ _ _ h => h) (by kernel_rfl) (fun _ h => h) (Val.loadAgg (cs := [.bool (a.ok), .int .i64 (a.id), .int .i64 (a.at_), .int .i64 (b.n)]) rfl Ty.ag40 rfl (by rfl) (fun w h => (by rw [← (heq (by omega)).1, ← (heq (by omega)).2.1, ← (heq (by omega)).2.2]; exact (h.at 1 rfl).ro.cell_range (flatOf_range QA.len hb)))) ?_
                refine WPD.takeG 17 rfl rfl rfl rfl rfl rfl rfl rfl (by kernel_rfl) (by kernel_rfl) (by kernel_rfl) (by kernel_rfl) (fun _ _ _ h => h) (by kernel_rfl) (fun _ h => h) (Val.neqQA rfl rfl rfl) ?_
                refine WPD.takeM 18 rfl rfl rfl rfl (by kernel_rfl) (by kernel_rfl) (by kernel_rfl) (by kernel_rfl) (fun _ _ _ h => h) (fun _ h => h) (Val.pickT rfl rfl rfl) ?_
                refine WPD.takeM 19 rfl rfl rfl rfl (by kernel_rfl) (by kernel_rfl) (by kernel_rfl) (by kernel_rfl) (fun _ _ _ h => h) (fun _ h => h) (Val.move rfl rfl) ?_
                refine WPD.splitB 91 rfl (fun h28 => ?_) (fun h28 => ?_)
                · skip
                  refine WPD.takeGM 20 rfl rfl rfl rfl rfl rfl rfl rfl (by kernel_rfl) (by kernel_rfl) (by kernel_rfl) (by kernel_rfl) (fun _ _ _ h => h) (fun _ h => h) (Val.move rfl rfl) ?_
                  refine WPD.takeGM 21 rfl rfl rfl rfl rfl rfl rfl rfl (by kernel_rfl) (by kernel_rfl) (by kernel_rfl) (by kernel_rfl) (fun _ _ _ h => h) (fun _ h => h) (Val.move rfl rfl) ?_
                  refine WPD.takeGM 22 rfl rfl rfl rfl rfl rfl rfl rfl (by kernel_rfl) (by kernel_rfl) (by kernel_rfl) (by kernel_rfl) (fun _ _ _ h => h) (fun _ h => h) (Val.indexAddr (j := i) (q := i * 4) rfl Ty.sl37 rfl rfl (by omega) (by omega) (by omega)) ?_
                  refine WPD.takeGM 23 rfl rfl rfl rfl rfl rfl rfl rfl (by kernel_rfl) (by kernel_rfl) (by kernel_rfl) (by kernel_rfl) (fun _ _ _ h => h) (fun _ h => h) (Val.fieldAddr (j := i * 4) rfl Ty.fo40_0 rfl rfl) ?_
                  refine WPD.takeG 24 rfl rfl rfl rfl rfl rfl rfl rfl (by kernel_rfl) (by kernel_rfl) (by kernel_rfl) (by kernel_rfl) (fun _ _ _ h => h) (by kernel_rfl) (fun _ h => h) (Val.load (v := .bool (a.ok)) rfl Ty.sc4 rfl (fun w h => (by exact ((h.at 3 rfl).ro.cell_range (flatOf_range QA.len ha)) 0 _ rfl))) ?_
                  refine WPD.takeGM 25 rfl rfl rfl rfl rfl rfl rfl rfl (by kernel_rfl) (by kernel_rfl) (by kernel_rfl) (by kernel_rfl) (fun _ _ _ h => h) (fun _ h => h) (Val.move rfl rfl) ?_
                  refine WPD.splitB 97 rfl (fun h29 => ?_) (fun h29 => ?_)
                  · skip
                    refine WPD.skip 26 rfl rfl rfl rfl rfl rfl rfl rfl (by kernel_rfl) (by kernel_rfl) (by kernel_rfl) (by kernel_rfl) (fun _ _ _ h => h) (fun _ h => h) ?_
                    refine WPD.skip 27 rfl rfl rfl rfl rfl rfl rfl rfl (by kernel_rfl) (by kernel_rfl) (by kernel_rfl) (by kernel_rfl) (fun _ _ _ h => h) (fun _ h => h) ?_
                    refine WPD.skip 28 rfl rfl rfl rfl rfl rfl rfl rfl (by kernel_rfl) (by kernel_rfl) (by kernel_rfl) (by kernel_rfl) (fun _ _ _ h => h) (fun _ h => h) ?_
                    refine WPD.skip 29 rfl rfl rfl rfl rfl rfl rfl rfl (by kernel_rfl) (by kernel_rfl) (by kernel_rfl) (by kernel_rfl) (fun _ _ _ h => h) (fun _ h => h) ?_
                    refine WPD.skip 30 rfl rfl rfl rfl rfl rfl rfl rfl (by kernel_rfl) (by kernel_rfl) (by kernel_rfl) (by kernel_rfl) (fun _ _ _ h => h) (fun _ h => h) ?_
                    refine WPD.takeGM 31 rfl rfl rfl rfl rfl rfl rfl rfl (by kernel_rfl) (by kernel_rfl) (by kernel_rfl) (by kernel_rfl) (fun _ _ _ h => h) (fun _ h => h) (Val.pickT rfl rfl rfl) ?_
                    refine WPD.takeM 32 rfl rfl rfl rfl (by kernel_rfl) (by kernel_rfl) (by kernel_rfl) (by kernel_rfl) (fun _ _ _ h => h) (fun _ h => h) (Val.pickT rfl rfl rfl) ?_
                    refine WPD.takeM 33 rfl rfl rfl rfl (by kernel_rfl) (by kernel_rfl) (by kernel_rfl) (by kernel_rfl) (fun _ _ _ h => h) (fun _ h => h) (Val.move rfl rfl) ?_
                    refine WPD.takeGM 34 rfl rfl rfl rfl rfl rfl rfl rfl (by kernel_rfl) (by kernel_rfl) (by kernel_rfl) (by kernel_rfl) (fun _ _ _ h => h) (fun _ h => h) (Val.move rfl rfl) ?_
                    refine WPD.takeGM 35 rfl rfl rfl rfl rfl rfl rfl rfl (by kernel_rfl) (by kernel_rfl) (by kernel_rfl) (by kernel_rfl) (fun _ _ _ h => h) (fun _ h => h) (Val.move rfl rfl) ?_
                    refine WPD.takeGM 36 rfl rfl rfl rfl rfl rfl rfl rfl (by kernel_rfl) (by kernel_rfl) (by kernel_rfl) (by kernel_rfl) (fun _ _ _ h => h) (fun _ h => h) (Val.indexAddr (j := i) (q := i * 4) rfl Ty.sl37 rfl rfl (by omega) (by omega) (by omega)) ?_
                    refine WPD.takeGM 37 rfl rfl rfl rfl rfl rfl rfl rfl (by kernel_rfl) (by kernel_rfl) (by kernel_rfl) (by kernel_rfl) (fun _ _ _ h => h) (fun _ h => h) (Val.fieldAddr (j := i * 4) rfl Ty.fo40_0 rfl rfl) ?_
                    refine WPD.takeG 38 rfl rfl rfl rfl rfl rfl rfl rfl (by kernel_rfl) (by kernel_rfl) (by kernel_rfl) (by kernel_rfl) (fun _ _ _ h => h) (by kernel_rfl) (fun _ h => h) (Val.load (v := .bool (a.ok)) rfl Ty.sc4 rfl (fun w h => (by exact ((h.at 3 rfl).ro.cell_range (flatOf_range QA.len ha)) 0 _ rfl))) ?_
                    refine WPD.takeGM 39 rfl rfl rfl rfl rfl rfl rfl rfl (by kernel_rfl) (by kernel_rfl) (by kernel_rfl) (by kernel_rfl) (fun _ _ _ h => h) (fun _ h => h) (Val.move rfl rfl) ?_
                    refine WPD.takeGM 40 rfl rfl rfl rfl rfl rfl rfl rfl (by kernel_rfl) (by kernel_rfl) (by kernel_rfl) (by kernel_rfl) (fun _ _ _ h => h) (fun _ h => h) (Val.move rfl rfl) ?_
                    refine WPD.takeGM 41 rfl rfl rfl rfl rfl rfl rfl rfl (by kernel_rfl) (by kernel_rfl) (by kernel_rfl) (by kernel_rfl) (fun _ _ _ h => h) (fun _ h => h) (Val.indexAddr (j := i) (q := i * 4) rfl Ty.sl37 rfl rfl (by omega) (by omega) (by omega)) ?_
                    refine WPD.takeGM 42 rfl rfl rfl rfl rfl rfl rfl rfl (by kernel_rfl) (by kernel_rfl) (by kernel_rfl) (by kernel_rfl) (fun _ _ _ h => h) (fun _ h => h) (Val.fieldAddr (j := i * 4) rfl Ty.fo40_0 rfl rfl) ?_
                    refine WPD.takeG 43 rfl rfl rfl rfl rfl rfl rfl rfl (by kernel_rfl) (by kernel_rfl) (by kernel_rfl) (by kernel_rfl) (fun _ _ _ h => h) (by kernel_rfl) (fun _ h => h) (Val.load (v := .bool (a.ok)) rfl Ty.sc4 rfl (fun w h => (by rw [← (heq (by omega)).1]; exact ((h.at 1 rfl).ro.cell_range (flatOf_range QA.len hb)) 0 _ rfl))) ?_
                    refine WPD.takeG 44 rfl rfl rfl rfl rfl rfl rfl rfl (by kernel_rfl) (by kernel_rfl) (by kernel_rfl) (by kernel_rfl) (fun _ _ _ h => h) (by kernel_rfl) (fun _ h => h) (Val.neqSame rfl Ty2.bo4 rfl rfl) ?_
                    refine WPD.takeGM 45 rfl rfl rfl rfl rfl rfl rfl rfl (by kernel_rfl) (by kernel_rfl) (by kernel_rfl) (by kernel_rfl) (fun _ _ _ h => h) (fun _ h => h) (Val.move rfl rfl) ?_
                    refine WPD.takeGM 46 rfl rfl rfl rfl rfl rfl rfl rfl (by kernel_rfl) (by kernel_rfl) (by kernel_rfl) (by kernel_rfl) (fun _ _ _ h => h) (fun _ h => h) (Val.move rfl rfl) ?_
                    refine WPD.takeGM 47 rfl rfl rfl rfl rfl rfl rfl rfl (by kernel_rfl) (by kernel_rfl) (by kernel_rfl) (by kernel_rfl) (fun _ _ _ h => h) (fun _ h => h) (Val.move rfl rfl) ?_
                    refine WPD.takeGM 48 rfl rfl rfl rfl rfl rfl rfl rfl (by kernel_rfl) (by kernel_rfl) (by kernel_rfl) (by kernel_rfl) (fun _ _ _ h => h) (fun _ h => h) (Val.indexAddr (j := i) (q := i * 4) rfl Ty.sl37 rfl rfl (by omega) (by omega) (by omega)) ?_
                    refine WPD.takeGM 49 rfl rfl rfl rfl rfl rfl rfl rfl (by kernel_rfl) (by kernel_rfl) (by kernel_rfl) (by kernel_rfl) (fun _ _ _ h => h) (fun _ h => h) (Val.fieldAddr (j := i * 4 + 1) rfl Ty.fo40_1 rfl rfl) ?_
                    refine WPD.takeG 50 rfl rfl rfl rfl rfl rfl rfl rfl (by kernel_rfl) (by kernel_rfl) (by kernel_rfl) (by kernel_rfl) (fun _ _ _ h => h) (by kernel_rfl) (fun _ h => h) (Val.load (v := .int .i64 (a.id)) rfl Ty.sc2 rfl (fun w h => (by exact ((h.at 3 rfl).ro.cell_range (flatOf_range QA.len ha)) 1 _ rfl))) ?_
                    refine WPD.takeGM 51 rfl rfl rfl rfl rfl rfl rfl rfl (by kernel_rfl) (by kernel_rfl) (by kernel_rfl) (by kernel_rfl) (fun _ _ _ h => h) (fun _ h => h) (Val.move rfl rfl) ?_
                    refine WPD.takeGM 52 rfl rfl rfl rfl rfl rfl rfl rfl (by kernel_rfl) (by kernel_rfl) (by kernel_rfl) (by kernel_rfl) (fun _ _ _ h => h) (fun _ h => h) (Val.move rfl rfl) ?_
                    refine WPD.takeGM 53 rfl rfl rfl rfl rfl rfl rfl rfl (by kernel_rfl) (by kernel_rfl) (by kernel_rfl) (by kernel_rfl) (fun _ _ _ h => h) (fun _ h => h) (Val.indexAddr (j := i) (q := i * 4) rfl Ty.sl37 rfl rfl (by omega) (by omega) (by omega)) ?_
                    refine WPD.takeGM 54 rfl rfl rfl rfl rfl rfl rfl rfl (by kernel_rfl) (by kernel_rfl) (by kernel_rfl) (by kernel_rfl) (fun _ _ _ h => h) (fun _ h => h) (Val.fieldAddr (j := i * 4 + 1) rfl Ty.fo40_1 rfl rfl) ?_
                    refine WPD.takeG 55 rfl rfl rfl rfl rfl rfl rfl rfl (by kernel_rfl) (by kernel_rfl) (by kernel_rfl) (by kernel_rfl) (fun _ _ _ h => h) (by kernel_rfl) (fun _ h => h) (Val.load (v := .int .i64 (a.id)) rfl Ty.sc2 rfl (fun w h => (by rw [← (heq (by omega)).2.1]; exact ((h.at 1 rfl).ro.cell_range (flatOf_range QA.len hb)) 1 _ rfl))) ?_
                    refine WPD.takeG 56 rfl rfl rfl rfl rfl rfl rfl rfl (by kernel_rfl) (by kernel_rfl) (by kernel_rfl) (by kernel_rfl) (fun _ _ _ h => h) (by kernel_rfl) (fun _ h => h) (Val.neq rfl rfl rfl) ?_
                    refine WPD.takeGM 57 rfl rfl rfl rfl rfl rfl rfl rfl (by kernel_rfl) (by kernel_rfl) (by kernel_rfl) (by kernel_rfl) (fun _ _ _ h => h) (fun _ h => h) (Val.pickF rfl rfl rfl) ?_
                    refine WPD.takeGM 58 rfl rfl rfl rfl rfl rfl rfl rfl (by kernel_rfl) (by kernel_rfl) (by kernel_rfl) (by kernel_rfl) (fun _ _ _ h => h) (fun _ h => h) (Val.move rfl rfl) ?_
                    refine WPD.split 130 rfl (fun h30 => ?_) (fun h30 => ?_)
                    · skip
                      have h30 : (a.id ≠ a.id) := h30
                      exact absurd rfl h30
                    · skip
                      have h30 : ¬ (a.id ≠ a.id) := h30
                      refine WPD.takeGM 59 rfl rfl rfl rfl rfl rfl rfl rfl (by kernel_rfl) (by kernel_rfl) (by kernel_rfl) (by kernel_rfl) (fun _ _ _ h => h) (fun _ h => h) (Val.move rfl rfl) ?_
                      refine WPD.takeGM 60 rfl rfl rfl rfl rfl rfl rfl rfl (by kernel_rfl) (by kernel_rfl) (by kernel_rfl) (by kernel_rfl) (fun _ _ _ h => h) (fun _ h => h) (Val.move rfl rfl) ?_
                      refine WPD.takeGM 61 rfl rfl rfl rfl rfl rfl rfl rfl (by kernel_rfl) (by kernel_rfl) (by kernel_rfl) (by kernel_rfl) (fun _ _ _ h => h) (fun _ h => h) (Val.indexAddr (j := i) (q := i * 4) rfl Ty.sl37 rfl rfl (by omega) (by omega) (by omega)) ?_
                      refine WPD.takeGM 62 rfl rfl rfl rfl rfl rfl rfl rfl (by kernel_rfl) (by kernel_rfl) (by kernel_rfl) (by kernel_rfl) (fun _ _ _ h => h) (fun _ h => h) (Val.fieldAddr (j := i * 4 + 2) rfl Ty.fo40_2 rfl rfl) ?_
                      refine WPD.takeG 63 rfl rfl rfl rfl rfl rfl rfl rfl (by kernel_rfl) (by kernel_rfl) (by kernel_rfl) (by kernel_rfl) (fun _ _ _ h => h) (by kernel_rfl) (fun _ h => h) (Val.load (v := .int .i64 (a.at_)) rfl Ty.sc2 rfl (fun w h => (by exact ((h.at 3 rfl).ro.cell_range (flatOf_range QA.len ha)) 2 _ rfl))) ?_
                      refine WPD.takeGM 64 rfl rfl rfl rfl rfl rfl rfl rfl (by kernel_rfl) (by kernel_rfl) (by kernel_rfl) (by kernel_rfl) (fun _ _ _ h => h) (fun _ h => h) (Val.move rfl rfl) ?_
                      refine WPD.takeGM 65 rfl rfl rfl rfl rfl rfl rfl rfl (by kernel_rfl) (by kernel_rfl) (by kernel_rfl) (by kernel_rfl) (fun _ _ _ h => h) (fun _ h => h) (Val.move rfl rfl) ?_
                      refine WPD.takeGM 66 rfl rfl rfl rfl rfl rfl rfl rfl (by kernel_rfl) (by kernel_rfl) (by kernel_rfl) (by kernel_rfl) (fun _ _ _ h => h) (fun _ h => h) (Val.indexAddr (j := i) (q := i * 4) rfl Ty.sl37 rfl rfl (by omega) (by omega) (by omega)) ?_
                      refine WPD.takeGM 67 rfl rfl rfl rfl rfl rfl rfl rfl (by kernel_rfl) (by kernel_rfl) (by kernel_rfl) (by kernel_rfl) (fun _ _ _ h => h) (fun _ h => h) (Val.fieldAddr (j := i * 4 + 2) rfl Ty.fo40_2 rfl rfl) ?_
                      refine WPD.takeG 68 rfl rfl rfl rfl rfl rfl rfl rfl (by kernel_rfl) (by kernel_rfl) (by kernel_rfl) (by kernel_rfl) (fun _ _ _ h => h) (by kernel_rfl) (fun _ h => h) (Val.load (v := .int .i64 (a.at_)) rfl Ty.sc2 rfl (fun w h => (by rw [← (heq (by omega)).2.2]; exact ((h.at 1 rfl).ro.cell_range (flatOf_range QA.len hb)) 2 _ rfl))) ?_
                      refine WPD.takeG 69 rfl rfl rfl rfl rfl rfl rfl rfl (by kernel_rfl) (by kernel_rfl) (by kernel_rfl) (by kernel_rfl) (fun _ _ _ h => h) (by kernel_rfl) (fun _ h => h) (Val.neq rfl rfl rfl) ?_
                      refine WPD.takeGM 70 rfl rfl rfl rfl rfl rfl rfl rfl (by kernel_rfl) (by kernel_rfl) (by kernel_rfl) (by kernel_rfl) (fun _ _ _ h => h) (fun _ h => h) (Val.pickF rfl rfl rfl) ?_
                      refine WPD.takeM 71 rfl rfl rfl rfl (by kernel_rfl) (by kernel_rfl) (by kernel_rfl) (by kernel_rfl) (fun _ _ _ h => h) (fun _ h => h) (Val.pickT rfl rfl rfl) ?_
                      refine WPD.done (by kernel_rfl) ?_
                      refine Out.next ?_
                      refine WPc.ifP rfl (fun h31 => ?_) (fun h31 => ?_)
                      · skip
                        have h31 : (a.at_ ≠ a.at_) := h31
                        exact absurd rfl h31
                      · skip
                        have h31 : ¬ (a.at_ ≠ a.at_) := h31
                        refine WPc.skip ?_
                        refine Out.next ?_
                        refine WPc.seq ?_
                        refine WPD.start (Sat W (Blk b5 [.int .i64 (x.k), .int .i64 (x.id), .int .i64 (x.at_)] 36 :: Ro (Blk g4 (flatOf QA.cells (answers ansS [] (l)) ++ spg4) Tg4) :: Seq uspec ((l).length) (flatOf QA.cells (answers ansS [] (l))) :: Ro (Blk g3 (flatOf QA.cells (answers ansI [] (l)) ++ spg3) Tg3) :: Seq uimpl ((l).length) (flatOf QA.cells (answers ansI [] (l))) :: Old W0 :: F)) Ty.mixed ?_
                        refine WPD.takeM 0 rfl rfl rfl rfl (by kernel_rfl) (by kernel_rfl) (by kernel_rfl) (by kernel_rfl) (fun _ _ _ h => h) (fun _ h => h) (Val.fieldAddr (j := 0) rfl Ty.fo36_0 rfl rfl) ?_
                        refine WPD.take 1 rfl rfl rfl rfl (by kernel_rfl) (by kernel_rfl) (by kernel_rfl) (by kernel_rfl) (fun _ _ _ h => h) (by kernel_rfl) (fun _ h => h) (Val.load rfl Ty.sc3 rfl (fun w h => h.cell 0 rfl rfl)) ?_
                        refine WPD.take 2 rfl rfl rfl rfl (by kernel_rfl) (by kernel_rfl) (by kernel_rfl) (by kernel_rfl) (fun _ _ _ h => h) (by kernel_rfl) (fun _ h => h) (Val.eql rfl rfl rfl) ?_
                        refine WPD.takeM 3 rfl rfl rfl rfl (by kernel_rfl) (by kernel_rfl) (by kernel_rfl) (by kernel_rfl) (fun _ _ _ h => h) (fun _ h => h) (Val.move rfl rfl) ?_
                        refine WPD.split 147 rfl (fun h32 => ?_) (fun h32 => ?_)
                        · skip
                          have h32 : (x.k = (4 : Int)) := h32
                          refine WPD.takeGM 4 rfl rfl rfl rfl rfl rfl rfl rfl (by kernel_rfl) (by kernel_rfl) (by kernel_rfl) (by kernel_rfl) (fun _ _ _ h => h) (fun _ h => h) (Val.move rfl rfl) ?_
                          refine WPD.takeGM 5 rfl rfl rfl rfl rfl rfl rfl rfl (by kernel_rfl) (by kernel_rfl) (by kernel_rfl) (by kernel_rfl) (fun _ _ _ h => h) (fun _ h => h) (Val.move rfl rfl) ?_
                          refine WPD.takeGM 6 rfl rfl rfl rfl rfl rfl rfl rfl (by kernel_rfl) (by kernel_rfl) (by kernel_rfl) (by kernel_rfl) (fun _ _ _ h => h) (fun _ h => h) (Val.indexAddr (j := i) (q := i * 4) rfl Ty.sl37 rfl rfl (by omega) (by omega) (by omega)) ?_
                          refine WPD.takeGM 7 rfl rfl rfl rfl rfl rfl rfl rfl (by kernel_rfl) (by kernel_rfl) (by kernel_rfl) (by kernel_rfl) (fun _ _ _ h => h) (fun _ h => h) (Val.fieldAddr (j := i * 4 + 3) rfl Ty.fo40_3 rfl rfl) ?_
                          refine WPD.takeG 8 rfl rfl rfl rfl rfl rfl rfl rfl (by kernel_rfl) (by kernel_rfl) (by kernel_rfl) (by kernel_rfl) (fun _ _ _ h => h) (by kernel_rfl) (fun _ h => h) (Val.load (v := .int .i64 (a.n)) rfl Ty.sc3 rfl (fun w h => (by exact ((h.at 3 rfl).ro.cell_range (flatOf_range QA.len ha)) 3 _ rfl))) ?_
                          refine WPD.takeGM 9 rfl rfl rfl rfl rfl rfl rfl rfl (by kernel_rfl) (by kernel_rfl) (by kernel_rfl) (by kernel_rfl) (fun _ _ _ h => h) (fun _ h => h) (Val.move rfl rfl) ?_
                          refine WPD.takeGM 10 rfl rfl rfl rfl rfl rfl rfl rfl (by kernel_rfl) (by kernel_rfl) (by kernel_rfl) (by kernel_rfl) (fun _ _ _ h => h) (fun _ h => h) (Val.move rfl rfl) ?_
                          refine WPD.takeGM 11 rfl rfl rfl rfl rfl rfl rfl rfl (by kernel_rfl) (by kernel_rfl) (by kernel_rfl) (by kernel_rfl) (fun _ _ _ h => h) (fun _ h => h) (Val.indexAddr (j := i) (q := i * 4) rfl Ty.sl37 rfl rfl (by omega) (by omega) (by omega)) ?_
                          refine WPD.takeGM 12 rfl rfl rfl rfl rfl rfl rfl rfl (by kernel_rfl) (by kernel_rfl) (by kernel_rfl) (by kernel_rfl) (fun _ _ _ h => h) (fun _ h => h) (Val.fieldAddr (j := i * 4 + 3) rfl Ty.fo40_3 rfl rfl) ?_
                          refine WPD.takeG 13 rfl rfl rfl rfl rfl rfl rfl rfl (by kernel_rfl) (by kernel_rfl) (by kernel_rfl) (by kernel_rfl) (fun _ _ _ h => h) (by kernel_rfl) (fun _ h => h) (Val.load (v := .int .i64 (a.n)) rfl Ty.sc3 rfl (fun w h => (by rw [← heq4 (by omega)]; exact ((h.at 1 rfl).ro.cell_range (flatOf_range QA.len hb)) 3 _ rfl))) ?_
                          refine WPD.takeG 14 rfl rfl rfl rfl rfl rfl rfl rfl (by kernel_rfl) (by kernel_rfl) (by kernel_rfl) (by kernel_rfl) (fun _ _ _ h => h) (by kernel_rfl) (fun _ h => h) (Val.neq rfl rfl rfl) ?_
                          refine WPD.takeM 15 rfl rfl rfl rfl (by kernel_rfl) (by kernel_rfl) (by kernel_rfl) (by kernel_rfl) (fun _ _ _ h => h) (fun _ h => h) (Val.pickT rfl rfl rfl) ?_
                          refine WPD.done (by kernel_rfl) ?_
                          refine Out.next ?_
                          refine WPc.ifP rfl (fun h33 => ?_) (fun h33 => ?_)
                          · skip
                            have h33 : (a.n ≠ a.n) := h33
                            exact absurd rfl h33
                          · skip
                            have h33 : ¬ (a.n ≠ a.n) := h33
                            refine WPc.skip ?_
                            refine Out.block ?_
                            refine Out.next ?_
                            refine WPc.region ?_
                            refine WP.val rfl rfl rfl (Val.add (z := ((i + 1 : Nat) : Int)) rfl rfl rfl ((w64 (by omega) (by omega)).trans (by omega))) ?_
                            refine WP.val rfl rfl rfl (Val.move rfl rfl) ?_
                            refine WP.nil ?_
                            refine Out.drop ?_
                            refine Out.drop ?_
                            refine Out.perm pl1 ?_
                            refine Out.drop ?_
                            refine Out.perm pl2 ?_
                            refine Out.perm pl1 ?_
                            refine Out.perm pl2 ?_
                            refine Out.again (i + 1) ?_ ?_ ?_ ?_
                            · exact (by first | omega | (dsimp only; omega))
                            · first | omega | (dsimp only; omega)
                            · exact (Sub.cons (congrArg some (hvg3.1).symm) (Sub.cons (congrArg some (hvg4.1).symm) (Sub.cons rfl (Sub.cons rfl (Sub.cons rfl Sub.nil)))))
                            · exact (fun _ h => h)
                        · skip
                          have h32 : ¬ (x.k = (4 : Int)) := h32
                          refine WPD.skip 4 rfl rfl rfl rfl rfl rfl rfl rfl (by kernel_rfl) (by kernel_rfl) (by kernel_rfl) (by kernel_rfl) (fun _ _ _ h => h) (fun _ h => h) ?_
                          refine WPD.skip 5 rfl rfl rfl rfl rfl rfl rfl rfl (by kernel_rfl) (by kernel_rfl) (by kernel_rfl) (by kernel_rfl) (fun _ _ _ h => h) (fun _ h => h) ?_
                          refine WPD.skip 6 rfl rfl rfl rfl rfl rfl rfl rfl (by kernel_rfl) (by kernel_rfl) (by kernel_rfl) (by kernel_rfl) (fun _ _ _ h => h) (fun _ h => h) ?_
                          refine WPD.skip 7 rfl rfl rfl rfl rfl rfl rfl rfl (by kernel_rfl) (by kernel_rfl) (by kernel_rfl) (by kernel_rfl) (fun _ _ _ h => h) (fun _ h => h) ?_
                          refine WPD.skip 8 rfl rfl rfl rfl rfl rfl rfl rfl (by kernel_rfl) (by kernel_rfl) (by kernel_rfl) (by kernel_rfl) (fun _ _ _ h => h) (fun _ h => h) ?_
                          refine WPD.skip 9 rfl rfl rfl rfl rfl rfl rfl rfl (by kernel_rfl) (by kernel_rfl) (by kernel_rfl) (by kernel_rfl) (fun _ _ _ h => h) (fun _ h => h) ?_
                          refine WPD.skip 10 rfl rfl rfl rfl rfl rfl rfl rfl (by kernel_rfl) (by kernel_rfl) (by kernel_rfl) (by kernel_rfl) (fun _ _ _ h => h) (fun _ h => h) ?_
                          refine WPD.skip 11 rfl rfl rfl rfl rfl rfl rfl rfl (by kernel_rfl) (by kernel_rfl) (by kernel_rfl) (by kernel_rfl) (fun _ _ _ h => h) (fun _ h => h) ?_
                          refine WPD.skip 12 rfl rfl rfl rfl rfl rfl rfl rfl (by kernel_rfl) (by kernel_rfl) (by kernel_rfl) (by kernel_rfl) (fun _ _ _ h => h) (fun _ h => h) ?_
                          refine WPD.skip 13 rfl rfl rfl rfl rfl rfl rfl rfl (by kernel_rfl) (by kernel_rfl) (by kernel_rfl) (by kernel_rfl) (fun _ _ _ h => h) (fun _ h => h) ?_
                          refine WPD.skip 14 rfl rfl rfl rfl rfl rfl rfl rfl (by kernel_rfl) (by kernel_rfl) (by kernel_rfl) (by kernel_rfl) (fun _ _ _ h => h) (fun _ h => h) ?_
                          refine WPD.takeM 15 rfl rfl rfl rfl (by kernel_rfl) (by kernel_rfl) (by kernel_rfl) (by kernel_rfl) (fun _ _ _ h => h) (fun _ h => h) (Val.pickF rfl rfl rfl) ?_
                          refine WPD.done (by kernel_rfl) ?_
                          refine Out.next ?_
                          refine WPc.condF rfl rfl ?_
                          refine WPc.skip ?_
                          refine Out.block ?_
                          refine Out.next ?_
                          refine WPc.region ?_
                          refine WP.val rfl rfl rfl (Val.add (z := ((i + 1 : Nat) : Int)) rfl rfl rfl ((w64 (by omega) (by omega)).trans (by omega))) ?_
                          refine WP.val rfl rfl rfl (Val.move rfl rfl) ?_
                          refine WP.nil ?_
                          refine Out.drop ?_
                          refine Out.drop ?_
                          refine Out.perm pl1 ?_
                          refine Out.drop ?_
                          refine Out.perm pl2 ?_
                          refine Out.perm pl1 ?_
                          refine Out.perm pl2 ?_
                          refine Out.again (i + 1) ?_ ?_ ?_ ?_
                          · exact (by first | omega | (dsimp only; omega))
                          · first | omega | (dsimp only; omega)
                          · exact (Sub.cons (congrArg some (hvg3.1).symm) (Sub.cons (congrArg some (hvg4.1).symm) (Sub.cons rfl (Sub.cons rfl (Sub.cons rfl Sub.nil)))))
                          · exact (fun _ h => h)
                  · skip
                    refine WPD.takeGM 26 rfl rfl rfl rfl rfl rfl rfl rfl (by kernel_rfl) (by kernel_rfl) (by kernel_rfl) (by kernel_rfl) (fun _ _ _ h => h) (fun _ h => h) (Val.move rfl rfl) ?_
                    refine WPD.takeGM 27 rfl rfl rfl rfl rfl rfl rfl rfl (by kernel_rfl) (by kernel_rfl) (by kernel_rfl) (by kernel_rfl) (fun _ _ _ h => h) (fun _ h => h) (Val.move rfl rfl) ?_
                    refine WPD.takeGM 28 rfl rfl rfl rfl rfl rfl rfl rfl (by kernel_rfl) (by kernel_rfl) (by kernel_rfl) (by kernel_rfl) (fun _ _ _ h => h) (fun _ h => h) (Val.indexAddr (j := i) (q := i * 4) rfl Ty.sl37 rfl rfl (by omega) (by omega) (by omega)) ?_
                    refine WPD.takeGM 29 rfl rfl rfl rfl rfl rfl rfl rfl (by kernel_rfl) (by kernel_rfl) (by kernel_rfl) (by kernel_rfl) (fun _ _ _ h => h) (fun _ h => h) (Val.fieldAddr (j := i * 4) rfl Ty.fo40_0 rfl rfl) ?_
                    refine WPD.takeG 30 rfl rfl rfl rfl rfl rfl rfl rfl (by kernel_rfl) (by kernel_rfl) (by kernel_rfl) (by kernel_rfl) (fun _ _ _ h => h) (by kernel_rfl) (fun _ h => h) (Val.load (v := .bool (a.ok)) rfl Ty.sc4 rfl (fun w h => (by rw [← (heq (by omega)).1]; exact ((h.at 1 rfl).ro.cell_range (flatOf_range QA.len hb)) 0 _ rfl))) ?_
                    refine WPD.takeGM 31 rfl rfl rfl rfl rfl rfl rfl rfl (by kernel_rfl) (by kernel_rfl) (by kernel_rfl) (by kernel_rfl) (fun _ _ _ h => h) (fun _ h => h) (Val.pickF rfl rfl rfl) ?_
                    refine WPD.takeM 32 rfl rfl rfl rfl (by kernel_rfl) (by kernel_rfl) (by kernel_rfl) (by kernel_rfl) (fun _ _ _ h => h) (fun _ h => h) (Val.pickT rfl rfl rfl) ?_
                    refine WPD.takeM 33 rfl rfl rfl rfl (by kernel_rfl) (by kernel_rfl) (by kernel_rfl) (by kernel_rfl) (fun _ _ _ h => h) (fun _ h => h) (Val.move rfl rfl) ?_
                    refine WPD.splitB 105 rfl (fun h34 => ?_) (fun h34 => ?_)
                    · skip
                      refine WPD.takeGM 34 rfl rfl rfl rfl rfl rfl rfl rfl (by kernel_rfl) (by kernel_rfl) (by kernel_rfl) (by kernel_rfl) (fun _ _ _ h => h) (fun _ h => h) (Val.move rfl rfl) ?_
                      refine WPD.takeGM 35 rfl rfl rfl rfl rfl rfl rfl rfl (by kernel_rfl) (by kernel_rfl) (by kernel_rfl) (by kernel_rfl) (fun _ _ _ h => h) (fun _ h => h) (Val.move rfl rfl) ?_
                      refine WPD.takeGM 36 rfl rfl rfl rfl rfl rfl rfl rfl (by kernel_rfl) (by kernel_rfl) (by kernel_rfl) (by kernel_rfl) (fun _ _ _ h => h) (fun _ h => h) (Val.indexAddr (j := i) (q := i * 4) rfl Ty.sl37 rfl rfl (by omega) (by omega) (by omega)) ?_
                      refine WPD.takeGM 37 rfl rfl rfl rfl rfl rfl rfl rfl (by kernel_rfl) (by kernel_rfl) (by kernel_rfl) (by kernel_rfl) (fun _ _ _ h => h) (fun _ h => h) (Val.fieldAddr (j := i * 4) rfl Ty.fo40_0 rfl rfl) ?_
                      refine WPD.takeG 38 rfl rfl rfl rfl rfl rfl rfl rfl (by kernel_rfl) (by kernel_rfl) (by kernel_rfl) (by kernel_rfl) (fun _ _ _ h => h) (by kernel_rfl) (fun _ h => h) (Val.load (v := .bool (a.ok)) rfl Ty.sc4 rfl (fun w h => (by exact ((h.at 3 rfl).ro.cell_range (flatOf_range QA.len ha)) 0 _ rfl))) ?_
                      refine WPD.takeGM 39 rfl rfl rfl rfl rfl rfl rfl rfl (by kernel_rfl) (by kernel_rfl) (by kernel_rfl) (by kernel_rfl) (fun _ _ _ h => h) (fun _ h => h) (Val.move rfl rfl) ?_
                      refine WPD.takeGM 40 rfl rfl rfl rfl rfl rfl rfl rfl (by kernel_rfl) (by kernel_rfl) (by kernel_rfl) (by kernel_rfl) (fun _ _ _ h => h) (fun _ h => h) (Val.move rfl rfl) ?_
                      refine WPD.takeGM 41 rfl rfl rfl rfl rfl rfl rfl rfl (by kernel_rfl) (by kernel_rfl) (by kernel_rfl) (by kernel_rfl) (fun _ _ _ h => h) (fun _ h => h) (Val.indexAddr (j := i) (q := i * 4) rfl Ty.sl37 rfl rfl (by omega) (by omega) (by omega)) ?_
                      refine WPD.takeGM 42 rfl rfl rfl rfl rfl rfl rfl rfl (by kernel_rfl) (by kernel_rfl) (by kernel_rfl) (by kernel_rfl) (fun _ _ _ h => h) (fun _ h => h) (Val.fieldAddr (j := i * 4) rfl Ty.fo40_0 rfl rfl) ?_
                      refine WPD.takeG 43 rfl rfl rfl rfl rfl rfl rfl rfl (by kernel_rfl) (by kernel_rfl) (by kernel_rfl) (by kernel_rfl) (fun _ _ _ h => h) (by kernel_rfl) (fun _ h => h) (Val.load (v := .bool (a.ok)) rfl Ty.sc4 rfl (fun w h => (by rw [← (heq (by omega)).1]; exact ((h.at 1 rfl).ro.cell_range (flatOf_range QA.len hb)) 0 _ rfl))) ?_
                      refine WPD.takeG 44 rfl rfl rfl rfl rfl rfl rfl rfl (by kernel_rfl) (by kernel_rfl) (by kernel_rfl) (by kernel_rfl) (fun _ _ _ h => h) (by kernel_rfl) (fun _ h => h) (Val.neqSame rfl Ty2.bo4 rfl rfl) ?_
                      refine WPD.takeGM 45 rfl rfl rfl rfl rfl rfl rfl rfl (by kernel_rfl) (by kernel_rfl) (by kernel_rfl) (by kernel_rfl) (fun _ _ _ h => h) (fun _ h => h) (Val.move rfl rfl) ?_
                      refine WPD.takeGM 46 rfl rfl rfl rfl rfl rfl rfl rfl (by kernel_rfl) (by kernel_rfl) (by kernel_rfl) (by kernel_rfl) (fun _ _ _ h => h) (fun _ h => h) (Val.move rfl rfl) ?_
                      refine WPD.takeGM 47 rfl rfl rfl rfl rfl rfl rfl rfl (by kernel_rfl) (by kernel_rfl) (by kernel_rfl) (by kernel_rfl) (fun _ _ _ h => h) (fun _ h => h) (Val.move rfl rfl) ?_
                      refine WPD.takeGM 48 rfl rfl rfl rfl rfl rfl rfl rfl (by kernel_rfl) (by kernel_rfl) (by kernel_rfl) (by kernel_rfl) (fun _ _ _ h => h) (fun _ h => h) (Val.indexAddr (j := i) (q := i * 4) rfl Ty.sl37 rfl rfl (by omega) (by omega) (by omega)) ?_
                      refine WPD.takeGM 49 rfl rfl rfl rfl rfl rfl rfl rfl (by kernel_rfl) (by kernel_rfl) (by kernel_rfl) (by kernel_rfl) (fun _ _ _ h => h) (fun _ h => h) (Val.fieldAddr (j := i * 4 + 1) rfl Ty.fo40_1 rfl rfl) ?_
                      refine WPD.takeG 50 rfl rfl rfl rfl rfl rfl rfl rfl (by kernel_rfl) (by kernel_rfl) (by kernel_rfl) (by kernel_rfl) (fun _ _ _ h => h) (by kernel_rfl) (fun _ h => h) (Val.load (v := .int .i64 (a.id)) rfl Ty.sc2 rfl (fun w h => (by exact ((h.at 3 rfl).ro.cell_range (flatOf_range QA.len ha)) 1 _ rfl))) ?_
                      refine WPD.takeGM 51 rfl rfl rfl rfl rfl rfl rfl rfl (by kernel_rfl) (by kernel_rfl) (by kernel_rfl) (by kernel_rfl) (fun _ _ _ h => h) (fun _ h => h) (Val.move rfl rfl) ?_
                      refine WPD.takeGM 52 rfl rfl rfl rfl rfl rfl rfl rfl (by kernel_rfl) (by kernel_rfl) (by kernel_rfl) (by kernel_rfl) (fun _ _ _ h => h) (fun _ h => h) (Val.move rfl rfl) ?_
                      refine WPD.takeGM 53 rfl rfl rfl rfl rfl rfl rfl rfl (by kernel_rfl) (by kernel_rfl) (by kernel_rfl) (by kernel_rfl) (fun _ _ _ h => h) (fun _ h => h) (Val.indexAddr (j := i) (q := i * 4) rfl Ty.sl37 rfl rfl (by omega) (by omega) (by omega)) ?_
                      refine WPD.takeGM 54 rfl rfl rfl rfl rfl rfl rfl rfl (by kernel_rfl) (by kernel_rfl) (by kernel_rfl) (by kernel_rfl) (fun _ _ _ h => h) (fun _ h => h) (Val.fieldAddr (j := i * 4 + 1) rfl Ty.fo40_1 rfl rfl) ?_
                      refine WPD.takeG 55 rfl rfl rfl rfl rfl rfl rfl rfl (by kernel_rfl) (by kernel_rfl) (by kernel_rfl) (by kernel_rfl) (fun _ _ _ h => h) (by kernel_rfl) (fun _ h => h) (Val.load (v := .int .i64 (a.id)) rfl Ty.sc2 rfl (fun w h => (by rw [← (heq (by omega)).2.1]; exact ((h.at 1 rfl).ro.cell_range (flatOf_range QA.len hb)) 1 _ rfl))) ?_
                      refine WPD.takeG 56 rfl rfl rfl rfl rfl rfl rfl rfl (by kernel_rfl) (by kernel_rfl) (by kernel_rfl) (by kernel_rfl) (fun _ _ _ h => h) (by kernel_rfl) (fun _ h => h) (Val.neq rfl rfl rfl) ?_
                      refine WPD.takeGM 57 rfl rfl rfl rfl rfl rfl rfl rfl (by kernel_rfl) (by kernel_rfl) (by kernel_rfl) (by kernel_rfl) (fun _ _ _ h => h) (fun _ h => h) (Val.pickF rfl rfl rfl) ?_
                      refine WPD.takeGM 58 rfl rfl rfl rfl rfl rfl rfl rfl (by kernel_rfl) (by kernel_rfl) (by kernel_rfl) (by kernel_rfl) (fun _ _ _ h => h) (fun _ h => h) (Val.move rfl rfl) ?_
                      refine WPD.split 130 rfl (fun h35 => ?_) (fun h35 => ?_)
                      · skip
                        have h35 : (a.id ≠ a.id) := h35
                        exact absurd rfl h35
                      · skip
                        have h35 : ¬ (a.id ≠ a.id) := h35
                        refine WPD.takeGM 59 rfl rfl rfl rfl rfl rfl rfl rfl (by kernel_rfl) (by kernel_rfl) (by kernel_rfl) (by kernel_rfl) (fun _ _ _ h => h) (fun _ h => h) (Val.move rfl rfl) ?_
                        refine WPD.takeGM 60 rfl rfl rfl rfl rfl rfl rfl rfl (by kernel_rfl) (by kernel_rfl) (by kernel_rfl) (by kernel_rfl) (fun _ _ _ h => h) (fun _ h => h) (Val.move rfl rfl) ?_
                        refine WPD.takeGM 61 rfl rfl rfl rfl rfl rfl rfl rfl (by kernel_rfl) (by kernel_rfl) (by kernel_rfl) (by kernel_rfl) (fun _ _ _ h => h) (fun _ h => h) (Val.indexAddr (j := i) (q := i * 4) rfl Ty.sl37 rfl rfl (by omega) (by omega) (by omega)) ?_
                        refine WPD.takeGM 62 rfl rfl rfl rfl rfl rfl rfl rfl (by kernel_rfl) (by kernel_rfl) (by kernel_rfl) (by kernel_rfl) (fun _ _ _ h => h) (fun _ h => h) (Val.fieldAddr (j := i * 4 + 2) rfl Ty.fo40_2 rfl rfl) ?_
                        refine WPD.takeG 63 rfl rfl rfl rfl rfl rfl rfl rfl (by kernel_rfl) (by kernel_rfl) (by kernel_rfl) (by kernel_rfl) (fun _ _ _ h => h) (by kernel_rfl) (fun _ h => h) (Val.load (v := .int .i64 (a.at_)) rfl Ty.sc2 rfl (fun w h => (by exact ((h.at 3 rfl).ro.cell_range (flatOf_range QA.len ha)) 2 _ rfl))) ?_
                        refine WPD.takeGM 64 rfl rfl rfl rfl rfl rfl rfl rfl (by kernel_rfl) (by kernel_rfl) (by kernel_rfl) (by kernel_rfl) (fun _ _ _ h => h) (fun _ h => h) (Val.move rfl rfl) ?_
                        refine WPD.takeGM 65 rfl rfl rfl rfl rfl rfl rfl rfl (by kernel_rfl) (by kernel_rfl) (by kernel_rfl) (by kernel_rfl) (fun _ _ _ h => h) (fun _ h => h) (Val.move rfl rfl) ?_
                        refine WPD.takeGM 66 rfl rfl rfl rfl rfl rfl rfl rfl (by kernel_rfl) (by kernel_rfl) (by kernel_rfl) (by kernel_rfl) (fun _ _ _ h => h) (fun _ h => h) (Val.indexAddr (j := i) (q := i * 4) rfl Ty.sl37 rfl rfl (by omega) (by omega) (by omega)) ?_
                        refine WPD.takeGM 67 rfl rfl rfl rfl rfl rfl rfl rfl (by kernel_rfl) (by kernel_rfl) (by kernel_rfl) (by kernel_rfl) (fun _ _ _ h => h) (fun _ h => h) (Val.fieldAddr (j := i * 4 + 2) rfl Ty.fo40_2 rfl rfl) ?_
                        refine WPD.takeG 68 rfl rfl rfl rfl rfl rfl rfl rfl (by kernel_rfl) (by kernel_rfl) (by kernel_rfl) (by kernel_rfl) (fun _ _ _ h => h) (by kernel_rfl) (fun _ h => h) (Val.load (v := .int .i64 (a.at_)) rfl Ty.sc2 rfl (fun w h => (by rw [← (heq (by omega)).2.2]; exact ((h.at 1 rfl).ro.cell_range (flatOf_range QA.len hb)) 2 _ rfl))) ?_
                        refine WPD.takeG 69 rfl rfl rfl rfl rfl rfl rfl rfl (by kernel_rfl) (by kernel_rfl) (by kernel_rfl) (by kernel_rfl) (fun _ _ _ h => h) (by kernel_rfl) (fun _ h => h) (Val.neq rfl rfl rfl) ?_
                        refine WPD.takeGM 70 rfl rfl rfl rfl rfl rfl rfl rfl (by kernel_rfl) (by kernel_rfl) (by kernel_rfl) (by kernel_rfl) (fun _ _ _ h => h) (fun _ h => h) (Val.pickF rfl rfl rfl) ?_
                        refine WPD.takeM 71 rfl rfl rfl rfl (by kernel_rfl) (by kernel_rfl) (by kernel_rfl) (by kernel_rfl) (fun _ _ _ h => h) (fun _ h => h) (Val.pickT rfl rfl rfl) ?_
                        refine WPD.done (by kernel_rfl) ?_
                        refine Out.next ?_
                        refine WPc.ifP rfl (fun h36 => ?_) (fun h36 => ?_)
                        · skip
                          have h36 : (a.at_ ≠ a.at_) := h36
                          exact absurd rfl h36
                        · skip
                          have h36 : ¬ (a.at_ ≠ a.at_) := h36
                          refine WPc.skip ?_
                          refine Out.next ?_
                          refine WPc.seq ?_
                          refine WPD.start (Sat W (Blk b5 [.int .i64 (x.k), .int .i64 (x.id), .int .i64 (x.at_)] 36 :: Ro (Blk g4 (flatOf QA.cells (answers ansS [] (l)) ++ spg4) Tg4) :: Seq uspec ((l).length) (flatOf QA.cells (answers ansS [] (l))) :: Ro (Blk g3 (flatOf QA.cells (answers ansI [] (l)) ++ spg3) Tg3) :: Seq uimpl ((l).length) (flatOf QA.cells (answers ansI [] (l))) :: Old W0 :: F)) Ty.mixed ?_
                          refine WPD.takeM 0 rfl rfl rfl rfl (by kernel_rfl) (by kernel_rfl) (by kernel_rfl) (by kernel_rfl) (fun _ _ _ h => h) (fun _ h => h) (Val.fieldAddr (j := 0) rfl Ty.fo36_0 rfl rfl) ?_
                          refine WPD.take 1 rfl rfl rfl rfl (by kernel_rfl) (by kernel_rfl) (by kernel_rfl) (by kernel_rfl) (fun _ _ _ h => h) (by kernel_rfl) (fun _ h => h) (Val.load rfl Ty.sc3 rfl (fun w h => h.cell 0 rfl rfl)) ?_
                          refine WPD.take 2 rfl rfl rfl rfl (by kernel_rfl) (by kernel_rfl) (by kernel_rfl) (by kernel_rfl) (fun _ _ _ h => h) (by kernel_rfl) (fun _ h => h) (Val.eql rfl rfl rfl) ?_
                          refine WPD.takeM 3 rfl rfl rfl rfl (by kernel_rfl) (by kernel_rfl) (by kernel_rfl) (by kernel_rfl) (fun _ _ _ h => h) (fun _ h => h) (Val.move rfl rfl) ?_
                          refine WPD.split 147 rfl (fun h37 => ?_) (fun h37 => ?_)
                          · skip
                            have h37 : (x.k = (4 : Int)) := h37
                            refine WPD.takeGM 4 rfl rfl rfl rfl rfl rfl rfl rfl (by kernel_rfl) (by kernel_rfl) (by kernel_rfl) (by kernel_rfl) (fun _ _ _ h => h) (fun _ h => h) (Val.move rfl rfl) ?_
                            refine WPD.takeGM 5 rfl rfl rfl rfl rfl rfl rfl rfl (by kernel_rfl) (by kernel_rfl) (by kernel_rfl) (by kernel_rfl) (fun _ _ _ h => h) (fun _ h => h) (Val.move rfl rfl) ?_
                            refine WPD.takeGM 6 rfl rfl rfl rfl rfl rfl rfl rfl (by kernel_rfl) (by kernel_rfl) (by kernel_rfl) (by kernel_rfl) (fun _ _ _ h => h) (fun _ h => h) (Val.indexAddr (j := i) (q := i * 4) rfl Ty.sl37 rfl rfl (by omega) (by omega) (by omega)) ?_
                            refine WPD.takeGM 7 rfl rfl rfl rfl rfl rfl rfl rfl (by kernel_rfl) (by kernel_rfl) (by kernel_rfl) (by kernel_rfl) (fun _ _ _ h => h) (fun _ h => h) (Val.fieldAddr (j := i * 4 + 3) rfl Ty.fo40_3 rfl rfl) ?_
                            refine WPD.takeG 8 rfl rfl rfl rfl rfl rfl rfl rfl (by kernel_rfl) (by kernel_rfl) (by kernel_rfl) (by kernel_rfl) (fun _ _ _ h => h) (by kernel_rfl) (fun _ h => h) (Val.load (v := .int .i64 (a.n)) rfl Ty.sc3 rfl (fun w h => (by exact ((h.at 3 rfl).ro.cell_range (flatOf_range QA.len ha)) 3 _ rfl))) ?_
                            refine WPD.takeGM 9 rfl rfl rfl rfl rfl rfl rfl rfl (by kernel_rfl) (by kernel_rfl) (by kernel_rfl) (by kernel_rfl) (fun _ _ _ h => h) (fun _ h => h) (Val.move rfl rfl) ?_
                            refine WPD.takeGM 10 rfl rfl rfl rfl rfl rfl rfl rfl (by kernel_rfl) (by kernel_rfl) (by kernel_rfl) (by kernel_rfl) (fun _ _ _ h => h) (fun _ h => h) (Val.move rfl rfl) ?_
                            refine WPD.takeGM 11 rfl rfl rfl rfl rfl rfl rfl rfl (by kernel_rfl) (by kernel_rfl) (by kernel_rfl) (by kernel_rfl) (fun _ _ _ h => h) (fun _ h => h) (Val.indexAddr (j := i) (q := i * 4) rfl Ty.sl37 rfl rfl (by omega) (by omega) (by omega)) ?_
                            refine WPD.takeGM 12 rfl rfl rfl rfl rfl rfl rfl rfl (by kernel_rfl) (by kernel_rfl) (by kernel_rfl) (by kernel_rfl) (fun _ _ _ h => h) (fun _ h => h) (Val.fieldAddr (j := i * 4 + 3) rfl Ty.fo40_3 rfl rfl) ?_
                            refine WPD.takeG 13 rfl rfl rfl rfl rfl rfl rfl rfl (by kernel_rfl) (by kernel_rfl) (by kernel_rfl) (by kernel_rfl) (fun _ _ _ h => h) (by kernel_rfl) (fun _ h => h) (Val.load (v := .int .i64 (a.n)) rfl Ty.sc3 rfl (fun w h => (by rw [← heq4 (by omega)]; exact ((h.at 1 rfl).ro.cell_range (flatOf_range QA.len hb)) 3 _ rfl))) ?_
                            refine WPD.takeG 14 rfl rfl rfl rfl rfl rfl rfl rfl (by kernel_rfl) (by kernel_rfl) (by kernel_rfl) (by kernel_rfl) (fun _ _ _ h => h) (by kernel_rfl) (fun _ h => h) (Val.neq rfl rfl rfl) ?_
                            refine WPD.takeM 15 rfl rfl rfl rfl (by kernel_rfl) (by kernel_rfl) (by kernel_rfl) (by kernel_rfl) (fun _ _ _ h => h) (fun _ h => h) (Val.pickT rfl rfl rfl) ?_
                            refine WPD.done (by kernel_rfl) ?_
                            refine Out.next ?_
                            refine WPc.ifP rfl (fun h38 => ?_) (fun h38 => ?_)
                            · skip
                              have h38 : (a.n ≠ a.n) := h38
                              exact absurd rfl h38
                            · skip
                              have h38 : ¬ (a.n ≠ a.n) := h38
                              refine WPc.skip ?_
                              refine Out.block ?_
                              refine Out.next ?_
                              refine WPc.region ?_
                              refine WP.val rfl rfl rfl (Val.add (z := ((i + 1 : Nat) : Int)) rfl rfl rfl ((w64 (by omega) (by omega)).trans (by omega))) ?_
                              refine WP.val rfl rfl rfl (Val.move rfl rfl) ?_
                              refine WP.nil ?_
                              refine Out.drop ?_
                              refine Out.drop ?_
                              refine Out.perm pl1 ?_
                              refine Out.drop ?_
                              refine Out.perm pl2 ?_
                              refine Out.perm pl1 ?_
                              refine Out.perm pl2 ?_
                              refine Out.again (i + 1) ?_ ?_ ?_ ?_
                              · exact (by first | omega | (dsimp only; omega))
                              · first | omega | (dsimp only; omega)
                              · exact (Sub.cons (congrArg some (hvg3.1).symm) (Sub.cons (congrArg some (hvg4.1).symm) (Sub.cons rfl (Sub.cons rfl (Sub.cons rfl Sub.nil)))))
                              · exact (fun _ h => h)
                          · skip
                            have h37 : ¬ (x.k = (4 : Int)) := h37
                            refine WPD.skip 4 rfl rfl rfl rfl rfl rfl rfl rfl (by kernel_rfl) (by kernel_rfl) (by kernel_rfl) (by kernel_rfl) (fun _ _ _ h => h) (fun _ h => h) ?_
                            refine WPD.skip 5 rfl rfl rfl rfl rfl rfl rfl rfl (by kernel_rfl) (by kernel_rfl) (by kernel_rfl) (by kernel_rfl) (fun _ _ _ h => h) (fun _ h => h) ?_
                            refine WPD.skip 6 rfl rfl rfl rfl rfl rfl rfl rfl (by kernel_rfl) (by kernel_rfl) (by kernel_rfl) (by kernel_rfl) (fun _ _ _ h => h) (fun _ h => h) ?_
                            refine WPD.skip 7 rfl rfl rfl rfl rfl rfl rfl rfl (by kernel_rfl) (by kernel_rfl) (by kernel_rfl) (by kernel_rfl) (fun _ _ _ h => h) (fun _ h => h) ?_
                            refine WPD.skip 8 rfl rfl rfl rfl rfl rfl rfl rfl (by kernel_rfl) (by kernel_rfl) (by kernel_rfl) (by kernel_rfl) (fun _ _ _ h => h) (fun _ h => h) ?_
                            refine WPD.skip 9 rfl rfl rfl rfl rfl rfl rfl rfl (by kernel_rfl) (by kernel_rfl) (by kernel_rfl) (by kernel_rfl) (fun _ _ _ h => h) (fun _ h => h) ?_
                            refine WPD.skip 10 rfl rfl rfl rfl rfl rfl rfl rfl (by kernel_rfl) (by kernel_rfl) (by kernel_rfl) (by kernel_rfl) (fun _ _ _ h => h) (fun _ h => h) ?_
                            refine WPD.skip 11 rfl rfl rfl rfl rfl rfl rfl rfl (by kernel_rfl) (by kernel_rfl) (by kernel_rfl) (by kernel_rfl) (fun _ _ _ h => h) (fun _ h => h) ?_
                            refine WPD.skip 12 rfl rfl rfl rfl rfl rfl rfl rfl (by kernel_rfl) (by kernel_rfl) (by kernel_rfl) (by kernel_rfl) (fun _ _ _ h => h) (fun _ h => h) ?_
                            refine WPD.skip 13 rfl rfl rfl rfl rfl rfl rfl rfl (by kernel_rfl) (by kernel_rfl) (by kernel_rfl) (by kernel_rfl) (fun _ _ _ h => h) (fun _ h => h) ?_
                            refine WPD.skip 14 rfl rfl rfl rfl rfl rfl rfl rfl (by kernel_rfl) (by kernel_rfl) (by kernel_rfl) (by kernel_rfl) (fun _ _ _ h => h) (fun _ h => h) ?_
                            refine WPD.takeM 15 rfl rfl rfl rfl (by kernel_rfl) (by kernel_rfl) (by kernel_rfl) (by kernel_rfl) (fun _ _ _ h => h) (fun _ h => h) (Val.pickF rfl rfl rfl) ?_
                            refine WPD.done (by kernel_rfl) ?_
                            refine Out.next ?_
                            refine WPc.condF rfl rfl ?_
                            refine WPc.skip ?_
                            refine Out.block ?_
                            refine Out.next ?_
                            refine WPc.region ?_
                            refine WP.val rfl rfl rfl (Val.add (z := ((i + 1 : Nat) : Int)) rfl rfl rfl ((w64 (by omega) (by omega)).trans (by omega))) ?_
                            refine WP.val rfl rfl rfl (Val.move rfl rfl) ?_
                            refine WP.nil ?_
                            refine Out.drop ?_
                            refine Out.drop ?_
                            refine Out.perm pl1 ?_
                            refine Out.drop ?_
                            refine Out.perm pl2 ?_
                            refine Out.perm pl1 ?_
                            refine Out.perm pl2 ?_
                            refine Out.again (i + 1) ?_ ?_ ?_ ?_
                            · exact (by first | omega | (dsimp only; omega))
                            · first | omega | (dsimp only; omega)
                            · exact (Sub.cons (congrArg some (hvg3.1).symm) (Sub.cons (congrArg some (hvg4.1).symm) (Sub.cons rfl (Sub.cons rfl (Sub.cons rfl Sub.nil)))))
                            · exact (fun _ h => h)
                    · skip
                      refine WPD.skip 34 rfl rfl rfl rfl rfl rfl rfl rfl (by kernel_rfl) (by kernel_rfl) (by kernel_rfl) (by kernel_rfl) (fun _ _ _ h => h) (fun _ h => h) ?_
                      refine WPD.skip 35 rfl rfl rfl rfl rfl rfl rfl rfl (by kernel_rfl) (by kernel_rfl) (by kernel_rfl) (by kernel_rfl) (fun _ _ _ h => h) (fun _ h => h) ?_
                      refine WPD.skip 36 rfl rfl rfl rfl rfl rfl rfl rfl (by kernel_rfl) (by kernel_rfl) (by kernel_rfl) (by kernel_rfl) (fun _ _ _ h => h) (fun _ h => h) ?_
                      refine WPD.skip 37 rfl rfl rfl rfl rfl rfl rfl rfl (by kernel_rfl) (by kernel_rfl) (by kernel_rfl) (by kernel_rfl) (fun _ _ _ h => h) (fun _ h => h) ?_
                      refine WPD.skip 38 rfl rfl rfl rfl rfl rfl rfl rfl (by kernel_rfl) (by kernel_rfl) (by kernel_rfl) (by kernel_rfl) (fun _ _ _ h => h) (fun _ h => h) ?_
                      refine WPD.skip 39 rfl rfl rfl rfl rfl rfl rfl rfl (by kernel_rfl) (by kernel_rfl) (by kernel_rfl) (by kernel_rfl) (fun _ _ _ h => h) (fun _ h => h) ?_
                      refine WPD.skip 40 rfl rfl rfl rfl rfl rfl rfl rfl (by kernel_rfl) (by kernel_rfl) (by kernel_rfl) (by kernel_rfl) (fun _ _ _ h => h) (fun _ h => h) ?_
                      refine WPD.skip 41 rfl rfl rfl rfl rfl rfl rfl rfl (by kernel_rfl) (by kernel_rfl) (by kernel_rfl) (by kernel_rfl) (fun _ _ _ h => h) (fun _ h => h) ?_
                      refine WPD.skip 42 rfl rfl rfl rfl rfl rfl rfl rfl (by kernel_rfl) (by kernel_rfl) (by kernel_rfl) (by kernel_rfl) (fun _ _ _ h => h) (fun _ h => h) ?_
                      refine WPD.skip 43 rfl rfl rfl rfl rfl rfl rfl rfl (by kernel_rfl) (by kernel_rfl) (by kernel_rfl) (by kernel_rfl) (fun _ _ _ h => h) (fun _ h => h) ?_
                      refine WPD.skip 44 rfl rfl rfl rfl rfl rfl rfl rfl (by kernel_rfl) (by kernel_rfl) (by kernel_rfl) (by kernel_rfl) (fun _ _ _ h => h) (fun _ h => h) ?_
                      refine WPD.skip 45 rfl rfl rfl rfl rfl rfl rfl rfl (by kernel_rfl) (by kernel_rfl) (by kernel_rfl) (by kernel_rfl) (fun _ _ _ h => h) (fun _ h => h) ?_
                      refine WPD.skipU 46 rfl rfl rfl rfl rfl rfl rfl (by kernel_rfl) (by kernel_rfl) (by kernel_rfl) (by kernel_rfl) (fun _ _ _ h => h) (fun _ h => h) ?_
                      refine WPD.skipU 47 rfl rfl rfl rfl rfl rfl rfl (by kernel_rfl) (by kernel_rfl) (by kernel_rfl) (by kernel_rfl) (fun _ _ _ h => h) (fun _ h => h) ?_
                      refine WPD.skipU 48 rfl rfl rfl rfl rfl rfl rfl (by kernel_rfl) (by kernel_rfl) (by kernel_rfl) (by kernel_rfl) (fun _ _ _ h => h) (fun _ h => h) ?_
                      refine WPD.skipU 49 rfl rfl rfl rfl rfl rfl rfl (by kernel_rfl) (by kernel_rfl) (by kernel_rfl) (by kernel_rfl) (fun _ _ _ h => h) (fun _ h => h) ?_
                      refine WPD.skipU 50 rfl rfl rfl rfl rfl rfl rfl (by kernel_rfl) (by kernel_rfl) (by kernel_rfl) (by kernel_rfl) (fun _ _ _ h => h) (fun _ h => h) ?_
                      refine WPD.skipU 51 rfl rfl rfl rfl rfl rfl rfl (by kernel_rfl) (by kernel_rfl) (by kernel_rfl) (by kernel_rfl) (fun _ _ _ h => h) (fun _ h => h) ?_
                      refine WPD.skipU 52 rfl rfl rfl rfl rfl rfl rfl (by kernel_rfl) (by kernel_rfl) (by kernel_rfl) (by kernel_rfl) (fun _ _ _ h => h) (fun _ h => h) ?_
                      refine WPD.skipU 53 rfl rfl rfl rfl rfl rfl rfl (by kernel_rfl) (by kernel_rfl) (by kernel_rfl) (by kernel_rfl) (fun _ _ _ h => h) (fun _ h => h) ?_
                      refine WPD.skipU 54 rfl rfl rfl rfl rfl rfl rfl (by kernel_rfl) (by kernel_rfl) (by kernel_rfl) (by kernel_rfl) (fun _ _ _ h => h) (fun _ h => h) ?_
                      refine WPD.skipU 55 rfl rfl rfl rfl rfl rfl rfl (by kernel_rfl) (by kernel_rfl) (by kernel_rfl) (by kernel_rfl) (fun _ _ _ h => h) (fun _ h => h) ?_
                      refine WPD.skipU 56 rfl rfl rfl rfl rfl rfl rfl (by kernel_rfl) (by kernel_rfl) (by kernel_rfl) (by kernel_rfl) (fun _ _ _ h => h) (fun _ h => h) ?_
                      refine WPD.skip 57 rfl rfl rfl rfl rfl rfl rfl rfl (by kernel_rfl) (by kernel_rfl) (by kernel_rfl) (by kernel_rfl) (fun _ _ _ h => h) (fun _ h => h) ?_
                      refine WPD.skip 58 rfl rfl rfl rfl rfl rfl rfl rfl (by kernel_rfl) (by kernel_rfl) (by kernel_rfl) (by kernel_rfl) (fun _ _ _ h => h) (fun _ h => h) ?_
                      refine WPD.skipU 59 rfl rfl rfl rfl rfl rfl rfl (by kernel_rfl) (by kernel_rfl) (by kernel_rfl) (by kernel_rfl) (fun _ _ _ h => h) (fun _ h => h) ?_
                      refine WPD.skipU 60 rfl rfl rfl rfl rfl rfl rfl (by kernel_rfl) (by kernel_rfl) (by kernel_rfl) (by kernel_rfl) (fun _ _ _ h => h) (fun _ h => h) ?_
                      refine WPD.skipU 61 rfl rfl rfl rfl rfl rfl rfl (by kernel_rfl) (by kernel_rfl) (by kernel_rfl) (by kernel_rfl) (fun _ _ _ h => h) (fun _ h => h) ?_
                      refine WPD.skipU 62 rfl rfl rfl rfl rfl rfl rfl (by kernel_rfl) (by kernel_rfl) (by kernel_rfl) (by kernel_rfl) (fun _ _ _ h => h) (fun _ h => h) ?_
                      refine WPD.skipU 63 rfl rfl rfl rfl rfl rfl rfl (by kernel_rfl) (by kernel_rfl) (by kernel_rfl) (by kernel_rfl) (fun _ _ _ h => h) (fun _ h => h) ?_
                      refine WPD.skipU 64 rfl rfl rfl rfl rfl rfl rfl (by kernel_rfl) (by kernel_rfl) (by kernel_rfl) (by kernel_rfl) (fun _ _ _ h => h) (fun _ h => h) ?_
                      refine WPD.skipU 65 rfl rfl rfl rfl rfl rfl rfl (by kernel_rfl) (by kernel_rfl) (by kernel_rfl) (by kernel_rfl) (fun _ _ _ h => h) (fun _ h => h) ?_
                      refine WPD.skipU 66 rfl rfl rfl rfl rfl rfl rfl (by kernel_rfl) (by kernel_rfl) (by kernel_rfl) (by kernel_rfl) (fun _ _ _ h => h) (fun _ h => h) ?_
                      refine WPD.skipU 67 rfl rfl rfl rfl rfl rfl rfl (by kernel_rfl) (by kernel_rfl) (by kernel_rfl) (by kernel_rfl) (fun _ _ _ h => h) (fun _ h => h) ?_
                      refine WPD.skipU 68 rfl rfl rfl rfl rfl rfl rfl (by kernel_rfl) (by kernel_rfl) (by kernel_rfl) (by kernel_rfl) (fun _ _ _ h => h) (fun _ h => h) ?_
                      refine WPD.skipU 69 rfl rfl rfl rfl rfl rfl rfl (by kernel_rfl) (by kernel_rfl) (by kernel_rfl) (by kernel_rfl) (fun _ _ _ h => h) (fun _ h => h) ?_
                      refine WPD.skip 70 rfl rfl rfl rfl rfl rfl rfl rfl (by kernel_rfl) (by kernel_rfl) (by kernel_rfl) (by kernel_rfl) (fun _ _ _ h => h) (fun _ h => h) ?_
                      refine WPD.takeM 71 rfl rfl rfl rfl (by kernel_rfl) (by kernel_rfl) (by kernel_rfl) (by kernel_rfl) (fun _ _ _ h => h) (fun _ h => h) (Val.pickF rfl rfl rfl) ?_
                      refine WPD.done (by kernel_rfl) ?_
                      refine Out.next ?_
                      refine WPc.condF rfl rfl ?_
                      refine WPc.skip ?_
                      refine Out.next ?_
                      refine WPc.seq ?_
                      refine WPD.start (Sat W (Blk b5 [.int .i64 (x.k), .int .i64 (x.id), .int .i64 (x.at_)] 36 :: Ro (Blk g4 (flatOf QA.cells (answers ansS [] (l)) ++ spg4) Tg4) :: Seq uspec ((l).length) (flatOf QA.cells (answers ansS [] (l))) :: Ro (Blk g3 (flatOf QA.cells (answers ansI [] (l)) ++ spg3) Tg3) :: Seq uimpl ((l).length) (flatOf QA.cells (answers ansI [] (l))) :: Old W0 :: F)) Ty.mixed ?_
                      refine WPD.takeM 0 rfl rfl rfl rfl (by kernel_rfl) (by kernel_rfl) (by kernel_rfl) (by kernel_rfl) (fun _ _ _ h => h) (fun _ h => h) (Val.fieldAddr (j := 0) rfl Ty.fo36_0 rfl rfl) ?_
                      refine WPD.take 1 rfl rfl rfl rfl (by kernel_rfl) (by kernel_rfl) (by kernel_rfl) (by kernel_rfl) (fun _ _ _ h => h) (by kernel_rfl) (fun _ h => h) (Val.load rfl Ty.sc3 rfl (fun w h => h.cell 0 rfl rfl)) ?_
                      refine WPD.take 2 rfl rfl rfl rfl (by kernel_rfl) (by kernel_rfl) (by kernel_rfl) (by kernel_rfl) (fun _ _ _ h => h) (by kernel_rfl) (fun _ h => h) (Val.eql rfl rfl rfl) ?_
                      refine WPD.takeM 3 rfl rfl rfl rfl (by kernel_rfl) (by kernel_rfl) (by kernel_rfl) (by kernel_rfl) (fun _ _ _ h => h) (fun _ h => h) (Val.move rfl rfl) ?_
                      refine WPD.split 147 rfl (fun h39 => ?_) (fun h39 => ?_)
                      · skip
                        have h39 : (x.k = (4 : Int)) := h39
                        refine WPD.takeGM 4 rfl rfl rfl rfl rfl rfl rfl rfl (by kernel_rfl) (by kernel_rfl) (by kernel_rfl) (by kernel_rfl) (fun _ _ _ h => h) (fun _ h => h) (Val.move rfl rfl) ?_
                        refine WPD.takeGM 5 rfl rfl rfl rfl rfl rfl rfl rfl (by kernel_rfl) (by kernel_rfl) (by kernel_rfl) (by kernel_rfl) (fun _ _ _ h => h) (fun _ h => h) (Val.move rfl rfl) ?_
                        refine WPD.takeGM 6 rfl rfl rfl rfl rfl rfl rfl rfl (by kernel_rfl) (by kernel_rfl) (by kernel_rfl) (by kernel_rfl) (fun _ _ _ h => h) (fun _ h => h) (Val.indexAddr (j := i) (q := i * 4) rfl Ty.sl37 rfl rfl (by omega) (by omega) (by omega)) ?_
                        refine WPD.takeGM 7 rfl rfl rfl rfl rfl rfl rfl rfl (by kernel_rfl) (by kernel_rfl) (by kernel_rfl) (by kernel_rfl) (fun _ _ _ h => h) (fun _ h => h) (Val.fieldAddr (j := i * 4 + 3) rfl Ty.fo40_3 rfl rfl) ?_
                        refine WPD.takeG 8 rfl rfl rfl rfl rfl rfl rfl rfl (by kernel_rfl) (by kernel_rfl) (by kernel_rfl) (by kernel_rfl) (fun _ _ _ h => h) (by kernel_rfl) (fun _ h => h) (Val.load (v := .int .i64 (a.n)) rfl Ty.sc3 rfl (fun w h => (by exact ((h.at 3 rfl).ro.cell_range (flatOf_range QA.len ha)) 3 _ rfl))) ?_
                        refine WPD.takeGM 9 rfl rfl rfl rfl rfl rfl rfl rfl (by kernel_rfl) (by kernel_rfl) (by kernel_rfl) (by kernel_rfl) (fun _ _ _ h => h) (fun _ h => h) (Val.move rfl rfl) ?_
                        refine WPD.takeGM 10 rfl rfl rfl rfl rfl rfl rfl rfl (by kernel_rfl) (by kernel_rfl) (by kernel_rfl) (by kernel_rfl) (fun _ _ _ h => h) (fun _ h => h) (Val.move rfl rfl) ?_
                        refine WPD.takeGM 11 rfl rfl rfl rfl rfl rfl rfl rfl (by kernel_rfl) (by kernel_rfl) (by kernel_rfl) (by kernel_rfl) (fun _ _ _ h => h) (fun _ h => h) (Val.indexAddr (j := i) (q := i * 4) rfl Ty.sl37 rfl rfl (by omega) (by omega) (by omega)) ?_
                        refine WPD.takeGM 12 rfl rfl rfl rfl rfl rfl rfl rfl (by kernel_rfl) (by kernel_rfl) (by kernel_rfl) (by kernel_rfl) (fun _ _ _ h => h) (fun _ h => h) (Val.fieldAddr (j := i * 4 + 3) rfl Ty.fo40_3 rfl rfl) ?_
                        refine WPD.takeG 13 rfl rfl rfl rfl rfl rfl rfl rfl (by kernel_rfl) (by kernel_rfl) (by kernel_rfl) (by kernel_rfl) (fun _ _ _ h => h) (by kernel_rfl) (fun _ h => h) (Val.load (v := .int .i64 (a.n)) rfl Ty.sc3 rfl (fun w h => (by rw [← heq4 (by omega)]; exact ((h.at 1 rfl).ro.cell_range (flatOf_range QA.len hb)) 3 _ rfl))) ?_
                        refine WPD.takeG 14 rfl rfl rfl rfl rfl rfl rfl rfl (by kernel_rfl) (by kernel_rfl) (by kernel_rfl) (by kernel_rfl) (fun _ _ _ h => h) (by kernel_rfl) (fun _ h => h) (Val.neq rfl rfl rfl) ?_
                        refine WPD.takeM 15 rfl rfl rfl rfl (by kernel_rfl) (by kernel_rfl) (by kernel_rfl) (by kernel_rfl) (fun _ _ _ h => h) (fun _ h => h) (Val.pickT rfl rfl rfl) ?_
                        refine WPD.done (by kernel_rfl) ?_
                        refine Out.next ?_
                        refine WPc.ifP rfl (fun h40 => ?_) (fun h40 => ?_)
                        · skip
                          have h40 : (a.n ≠ a.n) := h40
                          exact absurd rfl h40
                        · skip
                          have h40 : ¬ (a.n ≠ a.n) := h40
                          refine WPc.skip ?_
                          refine Out.block ?_
                          refine Out.next ?_
                          refine WPc.region ?_
                          refine WP.val rfl rfl rfl (Val.add (z := ((i + 1 : Nat) : Int)) rfl rfl rfl ((w64 (by omega) (by omega)).trans (by omega))) ?_
                          refine WP.val rfl rfl rfl (Val.move rfl rfl) ?_
                          refine WP.nil ?_
                          refine Out.drop ?_
                          refine Out.drop ?_
                          refine Out.perm pl1 ?_
                          refine Out.drop ?_
                          refine Out.perm pl2 ?_
                          refine Out.perm pl1 ?_
                          refine Out.perm pl2 ?_
                          refine Out.again (i + 1) ?_ ?_ ?_ ?_
                          · exact (by first | omega | (dsimp only; omega))
                          · first | omega | (dsimp only; omega)
                          · exact (Sub.cons (congrArg some (hvg3.1).symm) (Sub.cons (congrArg some (hvg4.1).symm) (Sub.cons rfl (Sub.cons rfl (Sub.cons rfl Sub.nil)))))
                          · exact (fun _ h => h)
                      · skip
                        have h39 : ¬ (x.k = (4 : Int)) := h39
                        refine WPD.skip 4 rfl rfl rfl rfl rfl rfl rfl rfl (by kernel_rfl) (by kernel_rfl) (by kernel_rfl) (by kernel_rfl) (fun _ _ _ h => h) (fun _ h => h) ?_
                        refine WPD.skip 5 rfl rfl rfl rfl rfl rfl rfl rfl (by kernel_rfl) (by kernel_rfl) (by kernel_rfl) (by kernel_rfl) (fun _ _ _ h => h) (fun _ h => h) ?_
                        refine WPD.skip 6 rfl rfl rfl rfl rfl rfl rfl rfl (by kernel_rfl) (by kernel_rfl) (by kernel_rfl) (by kernel_rfl) (fun _ _ _ h => h) (fun _ h => h) ?_
                        refine WPD.skip 7 rfl rfl rfl rfl rfl rfl rfl rfl (by kernel_rfl) (by kernel_rfl) (by kernel_rfl) (by kernel_rfl) (fun _ _ _ h => h) (fun _ h => h) ?_
                        refine WPD.skip 8 rfl rfl rfl rfl rfl rfl rfl rfl (by kernel_rfl) (by kernel_rfl) (by kernel_rfl) (by kernel_rfl) (fun _ _ _ h => h) (fun _ h => h) ?_
                        refine WPD.skip 9 rfl rfl rfl rfl rfl rfl rfl rfl (by kernel_rfl) (by kernel_rfl) (by kernel_rfl) (by kernel_rfl) (fun _ _ _ h => h) (fun _ h => h) ?_
                        refine WPD.skip 10 rfl rfl rfl rfl rfl rfl rfl rfl (by kernel_rfl) (by kernel_rfl) (by kernel_rfl) (by kernel_rfl) (fun _ _ _ h => h) (fun _ h => h) ?_
                        refine WPD.skip 11 rfl rfl rfl rfl rfl rfl rfl rfl (by kernel_rfl) (by kernel_rfl) (by kernel_rfl) (by kernel_rfl) (fun _ _ _ h => h) (fun _ h => h) ?_
                        refine WPD.skip 12 rfl rfl rfl rfl rfl rfl rfl rfl (by kernel_rfl) (by kernel_rfl) (by kernel_rfl) (by kernel_rfl) (fun _ _ _ h => h) (fun _ h => h) ?_
                        refine WPD.skip 13 rfl rfl rfl rfl rfl rfl rfl rfl (by kernel_rfl) (by kernel_rfl) (by kernel_rfl) (by kernel_rfl) (fun _ _ _ h => h) (fun _ h => h) ?_
                        refine WPD.skip 14 rfl rfl rfl rfl rfl rfl rfl rfl (by kernel_rfl) (by kernel_rfl) (by kernel_rfl) (by kernel_rfl) (fun _ _ _ h => h) (fun _ h => h) ?_
                        refine WPD.takeM 15 rfl rfl rfl rfl (by kernel_rfl) (by kernel_rfl) (by kernel_rfl) (by kernel_rfl) (fun _ _ _ h => h) (fun _ h => h) (Val.pickF rfl rfl rfl) ?_
                        refine WPD.done (by kernel_rfl) ?_
                        refine Out.next ?_
                        refine WPc.condF rfl rfl ?_
                        refine WPc.skip ?_
                        refine Out.block ?_
                        refine Out.next ?_
                        refine WPc.region ?_
                        refine WP.val rfl rfl rfl (Val.add (z := ((i + 1 : Nat) : Int)) rfl rfl rfl ((w64 (by omega) (by omega)).trans (by omega))) ?_
                        refine WP.val rfl rfl rfl (Val.move rfl rfl) ?_
                        refine WP.nil ?_
                        refine Out.drop ?_
                        refine Out.drop ?_
                        refine Out.perm pl1 ?_
                        refine Out.drop ?_
                        refine Out.perm pl2 ?_
                        refine Out.perm pl1 ?_
                        refine Out.perm pl2 ?_
                        refine Out.again (i + 1) ?_ ?_ ?_ ?_
                        · exact (by first | omega | (dsimp only; omega))
                        · first | omega | (dsimp only; omega)
                        · exact (Sub.cons (congrArg some (hvg3.1).symm) (Sub.cons (congrArg some (hvg4.1).symm) (Sub.cons rfl (Sub.cons rfl (Sub.cons rfl Sub.nil)))))
                        · exact (fun _ h => h)
                · skip
                  refine WPD.skip 20 rfl rfl rfl rfl rfl rfl rfl rfl (by kernel_rfl) (by kernel_rfl) (by kernel_rfl) (by kernel_rfl) (fun _ _ _ h => h) (fun _ h => h) ?_
                  refine WPD.skip 21 rfl rfl rfl rfl rfl rfl rfl rfl (by kernel_rfl) (by kernel_rfl) (by kernel_rfl) (by kernel_rfl) (fun _ _ _ h => h) (fun _ h => h) ?_
                  refine WPD.skip 22 rfl rfl rfl rfl rfl rfl rfl rfl (by kernel_rfl) (by kernel_rfl) (by kernel_rfl) (by kernel_rfl) (fun _ _ _ h => h) (fun _ h => h) ?_
                  refine WPD.skip 23 rfl rfl rfl rfl rfl rfl rfl rfl (by kernel_rfl) (by kernel_rfl) (by kernel_rfl) (by kernel_rfl) (fun _ _ _ h => h) (fun _ h => h) ?_
                  refine WPD.skip 24 rfl rfl rfl rfl rfl rfl rfl rfl (by kernel_rfl) (by kernel_rfl) (by kernel_rfl) (by kernel_rfl) (fun _ _ _ h => h) (fun _ h => h) ?_
                  refine WPD.skip 25 rfl rfl rfl rfl rfl rfl rfl rfl (by kernel_rfl) (by kernel_rfl) (by kernel_rfl) (by kernel_rfl) (fun _ _ _ h => h) (fun _ h => h) ?_
                  refine WPD.skipU 26 rfl rfl rfl rfl rfl rfl rfl (by kernel_rfl) (by kernel_rfl) (by kernel_rfl) (by kernel_rfl) (fun _ _ _ h => h) (fun _ h => h) ?_
                  refine WPD.skipU 27 rfl rfl rfl rfl rfl rfl rfl (by kernel_rfl) (by kernel_rfl) (by kernel_rfl) (by kernel_rfl) (fun _ _ _ h => h) (fun _ h => h) ?_
                  refine WPD.skipU 28 rfl rfl rfl rfl rfl rfl rfl (by kernel_rfl) (by kernel_rfl) (by kernel_rfl) (by kernel_rfl) (fun _ _ _ h => h) (fun _ h => h) ?_
                  refine WPD.skipU 29 rfl rfl rfl rfl rfl rfl rfl (by kernel_rfl) (by kernel_rfl) (by kernel_rfl) (by kernel_rfl) (fun _ _ _ h => h) (fun _ h => h) ?_
                  refine WPD.skipU 30 rfl rfl rfl rfl rfl rfl rfl (by kernel_rfl) (by kernel_rfl) (by kernel_rfl) (by kernel_rfl) (fun _ _ _ h => h) (fun _ h => h) ?_
                  refine WPD.skip 31 rfl rfl rfl rfl rfl rfl rfl rfl (by kernel_rfl) (by kernel_rfl) (by kernel_rfl) (by kernel_rfl) (fun _ _ _ h => h) (fun _ h => h) ?_
                  refine WPD.takeM 32 rfl rfl rfl rfl (by kernel_rfl) (by kernel_rfl) (by kernel_rfl) (by kernel_rfl) (fun _ _ _ h => h) (fun _ h => h) (Val.pickF rfl rfl rfl) ?_
                  refine WPD.takeM 33 rfl rfl rfl rfl (by kernel_rfl) (by kernel_rfl) (by kernel_rfl) (by kernel_rfl) (fun _ _ _ h => h) (fun _ h => h) (Val.move rfl rfl) ?_
                  refine WPD.skip 34 rfl rfl rfl rfl rfl rfl rfl rfl (by kernel_rfl) (by kernel_rfl) (by kernel_rfl) (by kernel_rfl) (fun _ _ _ h => h) (fun _ h => h) ?_
                  refine WPD.skip 35 rfl rfl rfl rfl rfl rfl rfl rfl (by kernel_rfl) (by kernel_rfl) (by kernel_rfl) (by kernel_rfl) (fun _ _ _ h => h) (fun _ h => h) ?_
                  refine WPD.skip 36 rfl rfl rfl rfl rfl rfl rfl rfl (by kernel_rfl) (by kernel_rfl) (by kernel_rfl) (by kernel_rfl) (fun _ _ _ h => h) (fun _ h => h) ?_
                  refine WPD.skip 37 rfl rfl rfl rfl rfl rfl rfl rfl (by kernel_rfl) (by kernel_rfl) (by kernel_rfl) (by kernel_rfl) (fun _ _ _ h => h) (fun _ h => h) ?_
                  refine WPD.skip 38 rfl rfl rfl rfl rfl rfl rfl rfl (by kernel_rfl) (by kernel_rfl) (by kernel_rfl) (by kernel_rfl) (fun _ _ _ h => h) (fun _ h => h) ?_
                  refine WPD.skip 39 rfl rfl rfl rfl rfl rfl rfl rfl (by kernel_rfl) (by kernel_rfl) (by kernel_rfl) (by kernel_rfl) (fun _ _ _ h => h) (fun _ h => h) ?_
                  refine WPD.skip 40 rfl rfl rfl rfl rfl rfl rfl rfl (by kernel_rfl) (by kernel_rfl) (by kernel_rfl) (by kernel_rfl) (fun _ _ _ h => h) (fun _ h => h) ?_
                  refine WPD.skip 41 rfl rfl rfl rfl rfl rfl rfl rfl (by kernel_rfl) (by kernel_rfl) (by kernel_rfl) (by kernel_rfl) (fun _ _ _ h => h) (fun _ h => h) ?_
                  refine WPD.skip 42 rfl rfl rfl rfl rfl rfl rfl rfl (by kernel_rfl) (by kernel_rfl) (by kernel_rfl) (by kernel_rfl) (fun _ _ _ h => h) (fun _ h => h) ?_
                  refine WPD.skip 43 rfl rfl rfl rfl rfl rfl rfl rfl (by kernel_rfl) (by kernel_rfl) (by kernel_rfl) (by kernel_rfl) (fun _ _ _ h => h) (fun _ h => h) ?_
                  refine WPD.skip 44 rfl rfl rfl rfl rfl rfl rfl rfl (by kernel_rfl) (by kernel_rfl) (by kernel_rfl) (by kernel_rfl) (fun _ _ _ h => h) (fun _ h => h) ?_
                  refine WPD.skip 45 rfl rfl rfl rfl rfl rfl rfl rfl (by kernel_rfl) (by kernel_rfl) (by kernel_rfl) (by kernel_rfl) (fun _ _ _ h => h) (fun _ h => h) ?_
                  refine WPD.skipU 46 rfl rfl rfl rfl rfl rfl rfl (by kernel_rfl) (by kernel_rfl) (by kernel_rfl) (by kernel_rfl) (fun _ _ _ h => h) (fun _ h => h) ?_
                  refine WPD.skipU 47 rfl rfl rfl rfl rfl rfl rfl (by kernel_rfl) (by kernel_rfl) (by kernel_rfl) (by kernel_rfl) (fun _ _ _ h => h) (fun _ h => h) ?_
                  refine WPD.skipU 48 rfl rfl rfl rfl rfl rfl rfl (by kernel_rfl) (by kernel_rfl) (by kernel_rfl) (by kernel_rfl) (fun _ _ _ h => h) (fun _ h => h) ?_
                  refine WPD.skipU 49 rfl rfl rfl rfl rfl rfl rfl (by kernel_rfl) (by kernel_rfl) (by kernel_rfl) (by kernel_rfl) (fun _ _ _ h => h) (fun _ h => h) ?_
                  refine WPD.skipU 50 rfl rfl rfl rfl rfl rfl rfl (by kernel_rfl) (by kernel_rfl) (by kernel_rfl) (by kernel_rfl) (fun _ _ _ h => h) (fun _ h => h) ?_
                  refine WPD.skipU 51 rfl rfl rfl rfl rfl rfl rfl (by kernel_rfl) (by kernel_rfl) (by kernel_rfl) (by kernel_rfl) (fun _ _ _ h => h) (fun _ h => h) ?_
                  refine WPD.skipU 52 rfl rfl rfl rfl rfl rfl rfl (by kernel_rfl) (by kernel_rfl) (by kernel_rfl) (by kernel_rfl) (fun _ _ _ h => h) (fun _ h => h) ?_
                  refine WPD.skipU 53 rfl rfl rfl rfl rfl rfl rfl (by kernel_rfl) (by kernel_rfl) (by kernel_rfl) (by kernel_rfl) (fun _ _ _ h => h) (fun _ h => h) ?_
                  refine WPD.skipU 54 rfl rfl rfl rfl rfl rfl rfl (by kernel_rfl) (by kernel_rfl) (by kernel_rfl) (by kernel_rfl) (fun _ _ _ h => h) (fun _ h => h) ?_
                  refine WPD.skipU 55 rfl rfl rfl rfl rfl rfl rfl (by kernel_rfl) (by kernel_rfl) (by kernel_rfl) (by kernel_rfl) (fun _ _ _ h => h) (fun _ h => h) ?_
                  refine WPD.skipU 56 rfl rfl rfl rfl rfl rfl rfl (by kernel_rfl) (by kernel_rfl) (by kernel_rfl) (by kernel_rfl) (fun _ _ _ h => h) (fun _ h => h) ?_
                  refine WPD.skip 57 rfl rfl rfl rfl rfl rfl rfl rfl (by kernel_rfl) (by kernel_rfl) (by kernel_rfl) (by kernel_rfl) (fun _ _ _ h => h) (fun _ h => h) ?_
                  refine WPD.skip 58 rfl rfl rfl rfl rfl rfl rfl rfl (by kernel_rfl) (by kernel_rfl) (by kernel_rfl) (by kernel_rfl) (fun _ _ _ h => h) (fun _ h => h) ?_
                  refine WPD.skipU 59 rfl rfl rfl rfl rfl rfl rfl (by kernel_rfl) (by kernel_rfl) (by kernel_rfl) (by kernel_rfl) (fun _ _ _ h => h) (fun _ h => h) ?_
                  refine WPD.skipU 60 rfl rfl rfl rfl rfl rfl rfl (by kernel_rfl) (by kernel_rfl) (by kernel_rfl) (by kernel_rfl) (fun _ _ _ h => h) (fun _ h => h) ?_
                  refine WPD.skipU 61 rfl rfl rfl rfl rfl rfl rfl (by kernel_rfl) (by kernel_rfl) (by kernel_rfl) (by kernel_rfl) (fun _ _ _ h => h) (fun _ h => h) ?_
                  refine WPD.skipU 62 rfl rfl rfl rfl rfl rfl rfl (by kernel_rfl) (by kernel_rfl) (by kernel_rfl) (by kernel_rfl) (fun _ _ _ h => h) (fun _ h => h) ?_
                  refine WPD.skipU 63 rfl rfl rfl rfl rfl rfl rfl (by kernel_rfl) (by kernel_rfl) (by kernel_rfl) (by kernel_rfl) (fun _ _ _ h => h) (fun _ h => h) ?_
                  refine WPD.skipU 64 rfl rfl rfl rfl rfl rfl rfl (by kernel_rfl) (by kernel_rfl) (by kernel_rfl) (by kernel_rfl) (fun _ _ _ h => h) (fun _ h => h) ?_
                  refine WPD.skipU 65 rfl rfl rfl rfl rfl rfl rfl (by kernel_rfl) (by kernel_rfl) (by kernel_rfl) (by kernel_rfl) (fun _ _ _ h => h) (fun _ h => h) ?_
                  refine WPD.skipU 66 rfl rfl rfl rfl rfl rfl rfl (by kernel_rfl) (by kernel_rfl) (by kernel_rfl) (by kernel_rfl) (fun _ _ _ h => h) (fun _ h => h) ?_
                  refine WPD.skipU 67 rfl rfl rfl rfl rfl rfl rfl (by kernel_rfl) (by kernel_rfl) (by kernel_rfl) (by kernel_rfl) (fun _ _ _ h => h) (fun _ h => h) ?_
                  refine WPD.skipU 68 rfl rfl rfl rfl rfl rfl rfl (by kernel_rfl) (by kernel_rfl) (by kernel_rfl) (by kernel_rfl) (fun _ _ _ h => h) (fun _ h => h) ?_
                  refine WPD.skipU 69 rfl rfl rfl rfl rfl rfl rfl (by kernel_rfl) (by kernel_rfl) (by kernel_rfl) (by kernel_rfl) (fun _ _ _ h => h) (fun _ h => h) ?_
                  refine WPD.skip 70 rfl rfl rfl rfl rfl rfl rfl rfl (by kernel_rfl) (by kernel_rfl) (by kernel_rfl) (by kernel_rfl) (fun _ _ _ h => h) (fun _ h => h) ?_
                  refine WPD.takeM 71 rfl rfl rfl rfl (by kernel_rfl) (by kernel_rfl) (by kernel_rfl) (by kernel_rfl) (fun _ _ _ h => h) (fun _ h => h) (Val.pickF rfl rfl rfl) ?_
                  refine WPD.done (by kernel_rfl) ?_
                  refine Out.next ?_
                  refine WPc.condF rfl rfl ?_
                  refine WPc.skip ?_
                  refine Out.next ?_
                  refine WPc.seq ?_
                  refine WPD.start (Sat W (Blk b5 [.int .i64 (x.k), .int .i64 (x.id), .int .i64 (x.at_)] 36 :: Ro (Blk g4 (flatOf QA.cells (answers ansS [] (l)) ++ spg4) Tg4) :: Seq uspec ((l).length) (flatOf QA.cells (answers ansS [] (l))) :: Ro (Blk g3 (flatOf QA.cells (answers ansI [] (l)) ++ spg3) Tg3) :: Seq uimpl ((l).length) (flatOf QA.cells (answers ansI [] (l))) :: Old W0 :: F)) Ty.mixed ?_
                  refine WPD.takeM 0 rfl rfl rfl rfl (by kernel_rfl) (by kernel_rfl) (by kernel_rfl) (by kernel_rfl) (fun _ _ _ h => h) (fun _ h => h) (Val.fieldAddr (j := 0) rfl Ty.fo36_0 rfl rfl) ?_
                  refine WPD.take 1 rfl rfl rfl rfl (by kernel_rfl) (by kernel_rfl) (by kernel_rfl) (by kernel_rfl) (fun _ _ _ h => h) (by kernel_rfl) (fun _ h => h) (Val.load rfl Ty.sc3 rfl (fun w h => h.cell 0 rfl rfl)) ?_
                  refine WPD.take 2 rfl rfl rfl rfl (by kernel_rfl) (by kernel_rfl) (by kernel_rfl) (by kernel_rfl) (fun _ _ _ h => h) (by kernel_rfl) (fun _ h => h) (Val.eql rfl rfl rfl) ?_
                  refine WPD.takeM 3 rfl rfl rfl rfl (by kernel_rfl) (by kernel_rfl) (by kernel_rfl) (by kernel_rfl) (fun _ _ _ h => h) (fun _ h => h) (Val.move rfl rfl) ?_
                  refine WPD.split 147 rfl (fun h41 => ?_) (fun h41 => ?_)
                  · skip
                    have h41 : (x.k = (4 : Int)) := h41
                    refine WPD.takeGM 4 rfl rfl rfl rfl rfl rfl rfl rfl (by kernel_rfl) (by kernel_rfl) (by kernel_rfl) (by kernel_rfl) (fun _ _ _ h => h) (fun _ h => h) (Val.move rfl rfl) ?_
                    refine WPD.takeGM 5 rfl rfl rfl rfl rfl rfl rfl rfl (by kernel_rfl) (by kernel_rfl) (by kernel_rfl) (by kernel_rfl) (fun _ _ _ h => h) (fun _ h => h) (Val.move rfl rfl) ?_
                    refine WPD.takeGM 6 rfl rfl rfl rfl rfl rfl rfl rfl (by kernel_rfl) (by kernel_rfl) (by kernel_rfl) (by kernel_rfl) (fun _ _ _ h => h) (fun _ h => h) (Val.indexAddr (j := i) (q := i * 4) rfl Ty.sl37 rfl rfl (by omega) (by omega) (by omega)) ?_
                    refine WPD.takeGM 7 rfl rfl rfl rfl rfl rfl rfl rfl (by kernel_rfl) (by kernel_rfl) (by kernel_rfl) (by kernel_rfl) (fun _ _ _ h => h) (fun _ h => h) (Val.fieldAddr (j := i * 4 + 3) rfl Ty.fo40_3 rfl rfl) ?_
                    refine WPD.takeG 8 rfl rfl rfl rfl rfl rfl rfl rfl (by kernel_rfl) (by kernel_rfl) (by kernel_rfl) (by kernel_rfl) (fun _ _ _ h => h) (by kernel_rfl) (fun _ h => h) (Val.load (v := .int .i64 (a.n)) rfl Ty.sc3 rfl (fun w h => (by exact ((h.at 3 rfl).ro.cell_range (flatOf_range QA.len ha)) 3 _ rfl))) ?_
                    refine WPD.takeGM 9 rfl rfl rfl rfl rfl rfl rfl rfl (by kernel_rfl) (by kernel_rfl) (by kernel_rfl) (by kernel_rfl) (fun _ _ _ h => h) (fun _ h => h) (Val.move rfl rfl) ?_
                    refine WPD.takeGM 10 rfl rfl rfl rfl rfl rfl rfl rfl (by kernel_rfl) (by kernel_rfl) (by kernel_rfl) (by kernel_rfl) (fun _ _ _ h => h) (fun _ h => h) (Val.move rfl rfl) ?_
                    refine WPD.takeGM 11 rfl rfl rfl rfl rfl rfl rfl rfl (by kernel_rfl) (by kernel_rfl) (by kernel_rfl) (by kernel_rfl) (fun _ _ _ h => h) (fun _ h => h) (Val.indexAddr (j := i) (q := i * 4) rfl Ty.sl37 rfl rfl (by omega) (by omega) (by omega)) ?_
                    refine WPD.takeGM 12 rfl rfl rfl rfl rfl rfl rfl rfl (by kernel_rfl) (by kernel_rfl) (by kernel_rfl) (by kernel_rfl) (fun _ _ _ h => h) (fun _ h => h) (Val.fieldAddr (j := i * 4 + 3) rfl Ty.fo40_3 rfl rfl) ?_
                    refine WPD.takeG 13 rfl rfl rfl rfl rfl rfl rfl rfl (by kernel_rfl) (by kernel_rfl) (by kernel_rfl) (by kernel_rfl) (fun _ _ _ h => h) (by kernel_rfl) (fun _ h => h) (Val.load (v := .int .i64 (a.n)) rfl Ty.sc3 rfl (fun w h => (by rw [← heq4 (by omega)]; exact ((h.at 1 rfl).ro.cell_range (flatOf_range QA.len hb)) 3 _ rfl))) ?_
                    refine WPD.takeG 14 rfl rfl rfl rfl rfl rfl rfl rfl (by kernel_rfl) (by kernel_rfl) (by kernel_rfl) (by kernel_rfl) (fun _ _ _ h => h) (by kernel_rfl) (fun _ h => h) (Val.neq rfl rfl rfl) ?_
                    refine WPD.takeM 15 rfl rfl rfl rfl (by kernel_rfl) (by kernel_rfl) (by kernel_rfl) (by kernel_rfl) (fun _ _ _ h => h) (fun _ h => h) (Val.pickT rfl rfl rfl) ?_
                    refine WPD.done (by kernel_rfl) ?_
                    refine Out.next ?_
                    refine WPc.ifP rfl (fun h42 => ?_) (fun h42 => ?_)
                    · skip
                      have h42 : (a.n ≠ a.n) := h42
                      exact absurd rfl h42
                    · skip
                      have h42 : ¬ (a.n ≠ a.n) := h42
                      refine WPc.skip ?_
                      refine Out.block ?_
                      refine Out.next ?_
                      refine WPc.region ?_
                      refine WP.val rfl rfl rfl (Val.add (z := ((i + 1 : Nat) : Int)) rfl rfl rfl ((w64 (by omega) (by omega)).trans (by omega))) ?_
                      refine WP.val rfl rfl rfl (Val.move rfl rfl) ?_
                      refine WP.nil ?_
                      refine Out.drop ?_
                      refine Out.drop ?_
                      refine Out.perm pl1 ?_
                      refine Out.drop ?_
                      refine Out.perm pl2 ?_
                      refine Out.perm pl1 ?_
                      refine Out.perm pl2 ?_
                      refine Out.again (i + 1) ?_ ?_ ?_ ?_
                      · exact (by first | omega | (dsimp only; omega))
                      · first | omega | (dsimp only; omega)
                      · exact (Sub.cons (congrArg some (hvg3.1).symm) (Sub.cons (congrArg some (hvg4.1).symm) (Sub.cons rfl (Sub.cons rfl (Sub.cons rfl Sub.nil)))))
                      · exact (fun _ h => h)
                  · skip
                    have h41 : ¬ (x.k = (4 : Int)) := h41
                    refine WPD.skip 4 rfl rfl rfl rfl rfl rfl rfl rfl (by kernel_rfl) (by kernel_rfl) (by kernel_rfl) (by kernel_rfl) (fun _ _ _ h => h) (fun _ h => h) ?_
                    refine WPD.skip 5 rfl rfl rfl rfl rfl rfl rfl rfl (by kernel_rfl) (by kernel_rfl) (by kernel_rfl) (by kernel_rfl) (fun _ _ _ h => h) (fun _ h => h) ?_
                    refine WPD.skip 6 rfl rfl rfl rfl rfl rfl rfl rfl (by kernel_rfl) (by kernel_rfl) (by kernel_rfl) (by kernel_rfl) (fun _ _ _ h => h) (fun _ h => h) ?_
                    refine WPD.skip 7 rfl rfl rfl rfl rfl rfl rfl rfl (by kernel_rfl) (by kernel_rfl) (by kernel_rfl) (by kernel_rfl) (fun _ _ _ h => h) (fun _ h => h) ?_
                    refine WPD.skip 8 rfl rfl rfl rfl rfl rfl rfl rfl (by kernel_rfl) (by kernel_rfl) (by kernel_rfl) (by kernel_rfl) (fun _ _ _ h => h) (fun _ h => h) ?_
                    refine WPD.skip 9 rfl rfl rfl rfl rfl rfl rfl rfl (by kernel_rfl) (by kernel_rfl) (by kernel_rfl) (by kernel_rfl) (fun _ _ _ h => h) (fun _ h => h) ?_
                    refine WPD.skip 10 rfl rfl rfl rfl rfl rfl rfl rfl (by kernel_rfl) (by kernel_rfl) (by kernel_rfl) (by kernel_rfl) (fun _ _ _ h => h) (fun _ h => h) ?_
                    refine WPD.skip 11 rfl rfl rfl rfl rfl rfl rfl rfl (by kernel_rfl) (by kernel_rfl) (by kernel_rfl) (by kernel_rfl) (fun _ _ _ h => h) (fun _ h => h) ?_
                    refine WPD.skip 12 rfl rfl rfl rfl rfl rfl rfl rfl (by kernel_rfl) (by kernel_rfl) (by kernel_rfl) (by kernel_rfl) (fun _ _ _ h => h) (fun _ h => h) ?_
                    refine WPD.skip 13 rfl rfl rfl rfl rfl rfl rfl rfl (by kernel_rfl) (by kernel_rfl) (by kernel_rfl) (by kernel_rfl) (fun _ _ _ h => h) (fun _ h => h) ?_
                    refine WPD.skip 14 rfl rfl rfl rfl rfl rfl rfl rfl (by kernel_rfl) (by kernel_rfl) (by kernel_rfl) (by kernel_rfl) (fun _ _ _ h => h) (fun _ h => h) ?_
                    refine WPD.takeM 15 rfl rfl rfl rfl (by kernel_rfl) (by kernel_rfl) (by kernel_rfl) (by kernel_rfl) (fun _ _ _ h => h) (fun _ h => h) (Val.pickF rfl rfl rfl) ?_
                    refine WPD.done (by kernel_rfl) ?_
                    refine Out.next ?_
                    refine WPc.condF rfl rfl ?_
                    refine WPc.skip ?_
                    refine Out.block ?_
                    refine Out.next ?_
                    refine WPc.region ?_
                    refine WP.val rfl rfl rfl (Val.add (z := ((i + 1 : Nat) : Int)) rfl rfl rfl ((w64 (by omega) (by omega)).trans (by omega))) ?_
                    refine WP.val rfl rfl rfl (Val.move rfl rfl) ?_
                    refine WP.nil ?_
                    refine Out.drop ?_
                    refine Out.drop ?_
                    refine Out.perm pl1 ?_
                    refine Out.drop ?_
                    refine Out.perm pl2 ?_
                    refine Out.perm pl1 ?_
                    refine Out.perm pl2 ?_
                    refine Out.again (i + 1) ?_ ?_ ?_ ?_
                    · exact (by first | omega | (dsimp only; omega))
                    · first | omega | (dsimp only; omega)
                    · exact (Sub.cons (congrArg some (hvg3.1).symm) (Sub.cons (congrArg some (hvg4.1).symm) (Sub.cons rfl (Sub.cons rfl (Sub.cons rfl Sub.nil)))))
                    · exact (fun _ h => h)
              · skip
                have h27 : ¬ (x.k = (3 : Int)) := h27
                refine WPD.skip 9 rfl rfl rfl rfl rfl rfl rfl rfl (by kernel_rfl) (by kernel_rfl) (by kernel_rfl) (by kernel_rfl) (fun _ _ _ h => h) (fun _ h => h) ?_
                refine WPD.skip 10 rfl rfl rfl rfl rfl rfl rfl rfl (by kernel_rfl) (by kernel_rfl) (by kernel_rfl) (by kernel_rfl) (fun _ _ _ h => h) (fun _ h => h) ?_
                refine WPD.skip 11 rfl rfl rfl rfl rfl rfl rfl rfl (by kernel_rfl) (by kernel_rfl) (by kernel_rfl) (by kernel_rfl) (fun _ _ _ h => h) (fun _ h => h) ?_
                refine WPD.skip 12 rfl rfl rfl rfl rfl rfl rfl rfl (by kernel_rfl) (by kernel_rfl) (by kernel_rfl) (by kernel_rfl) (fun _ _ _ h => h) (fun _ h => h) ?_
                refine WPD.skip 13 rfl rfl rfl rfl rfl rfl rfl rfl (by kernel_rfl) (by kernel_rfl) (by kernel_rfl) (by kernel_rfl) (fun _ _ _ h => h) (fun _ h => h) ?_
                refine WPD.skip 14 rfl rfl rfl rfl rfl rfl rfl rfl (by kernel_rfl) (by kernel_rfl) (by kernel_rfl) (by kernel_rfl) (fun _ _ _ h => h) (fun _ h => h) ?_
                refine WPD.skip 15 rfl rfl rfl rfl rfl rfl rfl rfl (by kernel_rfl) (by kernel_rfl) (by kernel_rfl) (by kernel_rfl) (fun _ _ _ h => h) (fun _ h => h) ?_
                refine WPD.skip 16 rfl rfl rfl rfl rfl rfl rfl rfl (by kernel_rfl) (by kernel_rfl) (by kernel_rfl) (by kernel_rfl) (fun _ _ _ h => h) (fun _ h => h) ?_
                refine WPD.skip 17 rfl rfl rfl rfl rfl rfl rfl rfl (by kernel_rfl) (by kernel_rfl) (by kernel_rfl) (by kernel_rfl) (fun _ _ _ h => h) (fun _ h => h) ?_
                refine WPD.takeM 18 rfl rfl rfl rfl (by kernel_rfl) (by kernel_rfl) (by kernel_rfl) (by kernel_rfl) (fun _ _ _ h => h) (fun _ h => h) (Val.pickF rfl rfl rfl) ?_
                refine WPD.takeM 19 rfl rfl rfl rfl (by kernel_rfl) (by kernel_rfl) (by kernel_rfl) (by kernel_rfl) (fun _ _ _ h => h) (fun _ h => h) (Val.move rfl rfl) ?_
                refine WPD.skip 20 rfl rfl rfl rfl rfl rfl rfl rfl (by kernel_rfl) (by kernel_rfl) (by kernel_rfl) (by kernel_rfl) (fun _ _ _ h => h) (fun _ h => h) ?_
                refine WPD.skip 21 rfl rfl rfl rfl rfl rfl rfl rfl (by kernel_rfl) (by kernel_rfl) (by kernel_rfl) (by kernel_rfl) (fun _ _ _ h => h) (fun _ h => h) ?_
                refine WPD.skip 22 rfl rfl rfl rfl rfl rfl rfl rfl (by kernel_rfl) (by kernel_rfl) (by kernel_rfl) (by kernel_rfl) (fun _ _ _ h => h) (fun _ h => h) ?_
                refine WPD.skip 23 rfl rfl rfl rfl rfl rfl rfl rfl (by kernel_rfl) (by kernel_rfl) (by kernel_rfl) (by kernel_rfl) (fun _ _ _ h => h) (fun _ h => h) ?_
                refine WPD.skip 24 rfl rfl rfl rfl rfl rfl rfl rfl (by kernel_rfl) (by kernel_rfl) (by kernel_rfl) (by kernel_rfl) (fun _ _ _ h => h) (fun _ h => h) ?_
                refine WPD.skip 25 rfl rfl rfl rfl rfl rfl rfl rfl (by kernel_rfl) (by kernel_rfl) (by kernel_rfl) (by kernel_rfl) (fun _ _ _ h => h) (fun _ h => h) ?_
                refine WPD.skipU 26 rfl rfl rfl rfl rfl rfl rfl (by kernel_rfl) (by kernel_rfl) (by kernel_rfl) (by kernel_rfl) (fun _ _ _ h => h) (fun _ h => h) ?_
                refine WPD.skipU 27 rfl rfl rfl rfl rfl rfl rfl (by kernel_rfl) (by kernel_rfl) (by kernel_rfl) (by kernel_rfl) (fun _ _ _ h => h) (fun _ h => h) ?_
                refine WPD.skipU 28 rfl rfl rfl rfl rfl rfl rfl (by kernel_rfl) (by kernel_rfl) (by kernel_rfl) (by kernel_rfl) (fun _ _ _ h => h) (fun _ h => h) ?_
                refine WPD.skipU 29 rfl rfl rfl rfl rfl rfl rfl (by kernel_rfl) (by kernel_rfl) (by kernel_rfl) (by kernel_rfl) (fun _ _ _ h => h) (fun _ h => h) ?_
                refine WPD.skipU 30 rfl rfl rfl rfl rfl rfl rfl (by kernel_rfl) (by kernel_rfl) (by kernel_rfl) (by kernel_rfl) (fun _ _ _ h => h) (fun _ h => h) ?_
                refine WPD.skip 31 rfl rfl rfl rfl rfl rfl rfl rfl (by kernel_rfl) (by kernel_rfl) (by kernel_rfl) (by kernel_rfl) (fun _ _ _ h => h) (fun _ h => h) ?_
                refine WPD.takeM 32 rfl rfl rfl rfl (by kernel_rfl) (by kernel_rfl) (by kernel_rfl) (by kernel_rfl) (fun _ _ _ h => h) (fun _ h => h) (Val.pickF rfl rfl rfl) ?_
                refine WPD.takeM 33 rfl rfl rfl rfl (by kernel_rfl) (by kernel_rfl) (by kernel_rfl) (by kernel_rfl) (fun _ _ _ h => h) (fun _ h => h) (Val.move rfl rfl) ?_
                refine WPD.skip 34 rfl rfl rfl rfl rfl rfl rfl rfl (by kernel_rfl) (by kernel_rfl) (by kernel_rfl) (by kernel_rfl) (fun _ _ _ h => h) (fun _ h => h) ?_
                refine WPD.skip 35 rfl rfl rfl rfl rfl rfl rfl rfl (by kernel_rfl) (by kernel_rfl) (by kernel_rfl) (by kernel_rfl) (fun _ _ _ h => h) (fun _ h => h) ?_
                refine WPD.skip 36 rfl rfl rfl rfl rfl rfl rfl rfl (by kernel_rfl) (by kernel_rfl) (by kernel_rfl) (by kernel_rfl) (fun _ _ _ h => h) (fun _ h => h) ?_
                refine WPD.skip 37 rfl rfl rfl rfl rfl rfl rfl rfl (by kernel_rfl) (by kernel_rfl) (by kernel_rfl) (by kernel_rfl) (fun _ _ _ h => h) (fun _ h => h) ?_
                refine WPD.skip 38 rfl rfl rfl rfl rfl rfl rfl rfl (by kernel_rfl) (by kernel_rfl) (by kernel_rfl) (by kernel_rfl) (fun _ _ _ h => h) (fun _ h => h) ?_
                refine WPD.skip 39 rfl rfl rfl rfl rfl rfl rfl rfl (by kernel_rfl) (by kernel_rfl) (by kernel_rfl) (by kernel_rfl) (fun _ _ _ h => h) (fun _ h => h) ?_
                refine WPD.skip 40 rfl rfl rfl rfl rfl rfl rfl rfl (by kernel_rfl) (by kernel_rfl) (by kernel_rfl) (by kernel_rfl) (fun _ _ _ h => h) (fun _ h => h) ?_
                refine WPD.skip 41 rfl rfl rfl rfl rfl rfl rfl rfl (by kernel_rfl) (by kernel_rfl) (by kernel_rfl) (by kernel_rfl) (fun _ _ _ h => h) (fun _ h => h) ?_
                refine WPD.skip 42 rfl rfl rfl rfl rfl rfl rfl rfl (by kernel_rfl) (by kernel_rfl) (by kernel_rfl) (by kernel_rfl) (fun _ _ _ h => h) (fun _ h => h) ?_
                refine WPD.skip 43 rfl rfl rfl rfl rfl rfl rfl rfl (by kernel_rfl) (by kernel_rfl) (by kernel_rfl) (by kernel_rfl) (fun _ _ _ h => h) (fun _ h => h) ?_
                refine WPD.skip 44 rfl rfl rfl rfl rfl rfl rfl rfl (by kernel_rfl) (by kernel_rfl) (by kernel_rfl) (by kernel_rfl) (fun _ _ _ h => h) (fun _ h => h) ?_
                refine WPD.skip 45 rfl rfl rfl rfl rfl rfl rfl rfl (by kernel_rfl) (by kernel_rfl) (by kernel_rfl) (by kernel_rfl) (fun _ _ _ h => h) (fun _ h => h) ?_
                refine WPD.skipU 46 rfl rfl rfl rfl rfl rfl rfl (by kernel_rfl) (by kernel_rfl) (by kernel_rfl) (by kernel_rfl) (fun _ _ _ h => h) (fun _ h => h) ?_
                refine WPD.skipU 47 rfl rfl rfl rfl rfl rfl rfl (by kernel_rfl) (by kernel_rfl) (by kernel_rfl) (by kernel_rfl) (fun _ _ _ h => h) (fun _ h => h) ?_
                refine WPD.skipU 48 rfl rfl rfl rfl rfl rfl rfl (by kernel_rfl) (by kernel_rfl) (by kernel_rfl) (by kernel_rfl) (fun _ _ _ h => h) (fun _ h => h) ?_
                refine WPD.skipU 49 rfl rfl rfl rfl rfl rfl rfl (by kernel_rfl) (by kernel_rfl) (by kernel_rfl) (by kernel_rfl) (fun _ _ _ h => h) (fun _ h => h) ?_
                refine WPD.skipU 50 rfl rfl rfl rfl rfl rfl rfl (by kernel_rfl) (by kernel_rfl) (by kernel_rfl) (by kernel_rfl) (fun _ _ _ h => h) (fun _ h => h) ?_
                refine WPD.skipU 51 rfl rfl rfl rfl rfl rfl rfl (by kernel_rfl) (by kernel_rfl) (by kernel_rfl) (by kernel_rfl) (fun _ _ _ h => h) (fun _ h => h) ?_
                refine WPD.skipU 52 rfl rfl rfl rfl rfl rfl rfl (by kernel_rfl) (by kernel_rfl) (by kernel_rfl) (by kernel_rfl) (fun _ _ _ h => h) (fun _ h => h) ?_
                refine WPD.skipU 53 rfl rfl rfl rfl rfl rfl rfl (by kernel_rfl) (by kernel_rfl) (by kernel_rfl) (by kernel_rfl) (fun _ _ _ h => h) (fun _ h => h) ?_
                refine WPD.skipU 54 rfl rfl rfl rfl rfl rfl rfl (by kernel_rfl) (by kernel_rfl) (by kernel_rfl) (by kernel_rfl) (fun _ _ _ h => h) (fun _ h => h) ?_
                refine WPD.skipU 55 rfl rfl rfl rfl rfl rfl rfl (by kernel_rfl) (by kernel_rfl) (by kernel_rfl) (by kernel_rfl) (fun _ _ _ h => h) (fun _ h => h) ?_
                refine WPD.skipU 56 rfl rfl rfl rfl rfl rfl rfl (by kernel_rfl) (by kernel_rfl) (by kernel_rfl) (by kernel_rfl) (fun _ _ _ h => h) (fun _ h => h) ?_
                refine WPD.skip 57 rfl rfl rfl rfl rfl rfl rfl rfl (by kernel_rfl) (by kernel_rfl) (by kernel_rfl) (by kernel_rfl) (fun _ _ _ h => h) (fun _ h => h) ?_
                refine WPD.skip 58 rfl rfl rfl rfl rfl rfl rfl rfl (by kernel_rfl) (by kernel_rfl) (by kernel_rfl) (by kernel_rfl) (fun _ _ _ h => h) (fun _ h => h) ?_
                refine WPD.skipU 59 rfl rfl rfl rfl rfl rfl rfl (by kernel_rfl) (by kernel_rfl) (by kernel_rfl) (by kernel_rfl) (fun _ _ _ h => h) (fun _ h => h) ?_
                refine WPD.skipU 60 rfl rfl rfl rfl rfl rfl rfl (by kernel_rfl) (by kernel_rfl) (by kernel_rfl) (by kernel_rfl) (fun _ _ _ h => h) (fun _ h => h) ?_
                refine WPD.skipU 61 rfl rfl rfl rfl rfl rfl rfl (by kernel_rfl) (by kernel_rfl) (by kernel_rfl) (by kernel_rfl) (fun _ _ _ h => h) (fun _ h => h) ?_
                refine WPD.skipU 62 rfl rfl rfl rfl rfl rfl rfl (by kernel_rfl) (by kernel_rfl) (by kernel_rfl) (by kernel_rfl) (fun _ _ _ h => h) (fun _ h => h) ?_
                refine WPD.skipU 63 rfl rfl rfl rfl rfl rfl rfl (by kernel_rfl) (by kernel_rfl) (by kernel_rfl) (by kernel_rfl) (fun _ _ _ h => h) (fun _ h => h) ?_
                refine WPD.skipU 64 rfl rfl rfl rfl rfl rfl rfl (by kernel_rfl) (by kernel_rfl) (by kernel_rfl) (by kernel_rfl) (fun _ _ _ h => h) (fun _ h => h) ?_
                refine WPD.skipU 65 rfl rfl rfl rfl rfl rfl rfl (by kernel_rfl) (by kernel_rfl) (by kernel_rfl) (by kernel_rfl) (fun _ _ _ h => h) (fun _ h => h) ?_
                refine WPD.skipU 66 rfl rfl rfl rfl rfl rfl rfl (by kernel_rfl) (by kernel_rfl) (by kernel_rfl) (by kernel_rfl) (fun _ _ _ h => h) (fun _ h => h) ?_
                refine WPD.skipU 67 rfl rfl rfl rfl rfl rfl rfl (by kernel_rfl) (by kernel_rfl) (by kernel_rfl) (by kernel_rfl) (fun _ _ _ h => h) (fun _ h => h) ?_
                refine WPD.skipU 68 rfl rfl rfl rfl rfl rfl rfl (by kernel_rfl) (by kernel_rfl) (by kernel_rfl) (by kernel_rfl) (fun _ _ _ h => h) (fun _ h => h) ?_
                refine WPD.skipU 69 rfl rfl rfl rfl rfl rfl rfl (by kernel_rfl) (by kernel_rfl) (by kernel_rfl) (by kernel_rfl) (fun _ _ _ h => h) (fun _ h => h) ?_
                refine WPD.skip 70 rfl rfl rfl rfl rfl rfl rfl rfl (by kernel_rfl) (by kernel_rfl) (by kernel_rfl) (by kernel_rfl) (fun _ _ _ h => h) (fun _ h => h) ?_
                refine WPD.takeM 71 rfl rfl rfl rfl (by kernel_rfl) (by kernel_rfl) (by kernel_rfl) (by kernel_rfl) (fun _ _ _ h => h) (fun _ h => h) (Val.pickF rfl rfl rfl) ?_
                refine WPD.done (by kernel_rfl) ?_
                refine Out.next ?_
                refine WPc.condF rfl rfl ?_
                refine WPc.skip ?_
                refine Out.next ?_
                refine WPc.seq ?_
                refine WPD.start (Sat W (Blk b5 [.int .i64 (x.k), .int .i64 (x.id), .int .i64 (x.at_)] 36 :: Ro (Blk g4 (flatOf QA.cells (answers ansS [] (l)) ++ spg4) Tg4) :: Seq uspec ((l).length) (flatOf QA.cells (answers ansS [] (l))) :: Ro (Blk g3 (flatOf QA.cells (answers ansI [] (l)) ++ spg3) Tg3) :: Seq uimpl ((l).length) (flatOf QA.cells (answers ansI [] (l))) :: Old W0 :: F)) Ty.mixed ?_
                refine WPD.takeM 0 rfl rfl rfl rfl (by kernel_rfl) (by kernel_rfl) (by kernel_rfl) (by kernel_rfl) (fun _ _ _ h => h) (fun _ h => h) (Val.fieldAddr (j := 0) rfl Ty.fo36_0 rfl rfl) ?_
                refine WPD.take 1 rfl rfl rfl rfl (by kernel_rfl) (by kernel_rfl) (by kernel_rfl) (by kernel_rfl) (fun _ _ _ h => h) (by kernel_rfl) (fun _ h => h) (Val.load rfl Ty.sc3 rfl (fun w h => h.cell 0 rfl rfl)) ?_
                refine WPD.take 2 rfl rfl rfl rfl (by kernel_rfl) (by kernel_rfl) (by kernel_rfl) (by kernel_rfl) (fun _ _ _ h => h) (by kernel_rfl) (fun _ h => h) (Val.eql rfl rfl rfl) ?_
                refine WPD.takeM 3 rfl rfl rfl rfl (by kernel_rfl) (by kernel_rfl) (by kernel_rfl) (by kernel_rfl) (fun _ _ _ h => h) (fun _ h => h) (Val.move rfl rfl) ?_
                refine WPD.split 147 rfl (fun h43 => ?_) (fun h43 => ?_)
                · skip
                  have h43 : (x.k = (4 : Int)) := h43
                  refine WPD.takeGM 4 rfl rfl rfl rfl rfl rfl rfl rfl (by kernel_rfl) (by kernel_rfl) (by kernel_rfl) (by kernel_rfl) (fun _ _ _ h => h) (fun _ h => h) (Val.move rfl rfl) ?_
                  refine WPD.takeGM 5 rfl rfl rfl rfl rfl rfl rfl rfl (by kernel_rfl) (by kernel_rfl) (by kernel_rfl) (by kernel_rfl) (fun _ _ _ h => h) (fun _ h => h) (Val.move rfl rfl) ?_
                  refine WPD.takeGM 6 rfl rfl rfl rfl rfl rfl rfl rfl (by kernel_rfl) (by kernel_rfl) (by kernel_rfl) (by kernel_rfl) (fun _ _ _ h => h) (fun _ h => h) (Val.indexAddr (j := i) (q := i * 4) rfl Ty.sl37 rfl rfl (by omega) (by omega) (by omega)) ?_
                  refine WPD.takeGM 7 rfl rfl rfl rfl rfl rfl rfl rfl (by kernel_rfl) (by kernel_rfl) (by kernel_rfl) (by kernel_rfl) (fun _ _ _ h => h) (fun _ h => h) (Val.fieldAddr (j := i * 4 + 3) rfl Ty.fo40_3 rfl rfl) ?_
                  refine WPD.takeG 8 rfl rfl rfl rfl rfl rfl rfl rfl (by kernel_rfl) (by kernel_rfl) (by kernel_rfl) (by kernel_rfl) (fun _ _ _ h => h) (by kernel_rfl) (fun _ h => h) (Val.load (v := .int .i64 (a.n)) rfl Ty.sc3 rfl (fun w h => (by exact ((h.at 3 rfl).ro.cell_range (flatOf_range QA.len ha)) 3 _ rfl))) ?_
                  refine WPD.takeGM 9 rfl rfl rfl rfl rfl rfl rfl rfl (by kernel_rfl) (by kernel_rfl) (by kernel_rfl) (by kernel_rfl) (fun _ _ _ h => h) (fun _ h => h) (Val.move rfl rfl) ?_
                  refine WPD.takeGM 10 rfl rfl rfl rfl rfl rfl rfl rfl (by kernel_rfl) (by kernel_rfl) (by kernel_rfl) (by kernel_rfl) (fun _ _ _ h => h) (fun _ h => h) (Val.move rfl rfl) ?_
                  refine WPD.takeGM 11 rfl rfl rfl rfl rfl rfl rfl rfl (by kernel_rfl) (by kernel_rfl) (by kernel_rfl) (by kernel_rfl) (fun _ _ _ h => h) (fun _ h => h) (Val.indexAddr (j := i) (q := i * 4) rfl Ty.sl37 rfl rfl (by omega) (by omega) (by omega)) ?_
                  refine WPD.takeGM 12 rfl rfl rfl rfl rfl rfl rfl rfl (by kernel_rfl) (by kernel_rfl) (by kernel_rfl) (by kernel_rfl) (fun _ _ _ h => h) (fun _ h => h) (Val.fieldAddr (j := i * 4 + 3) rfl Ty.fo40_3 rfl rfl) ?_
                  refine WPD.takeG 13 rfl rfl rfl rfl rfl rfl rfl rfl (by kernel_rfl) (by kernel_rfl) (by kernel_rfl) (by kernel_rfl) (fun _ _ _ h => h) (by kernel_rfl) (fun _ h => h) (Val.load (v := .int .i64 (a.n)) rfl Ty.sc3 rfl (fun w h => (by rw [← heq4 (by omega)]; exact ((h.at 1 rfl).ro.cell_range (flatOf_range QA.len hb)) 3 _ rfl))) ?_
                  refine WPD.takeG 14 rfl rfl rfl rfl rfl rfl rfl rfl (by kernel_rfl) (by kernel_rfl) (by kernel_rfl) (by kernel_rfl) (fun _ _ _ h => h) (by kernel_rfl) (fun _ h => h) (Val.neq rfl rfl rfl) ?_
                  refine WPD.takeM 15 rfl rfl rfl rfl (by kernel_rfl) (by kernel_rfl) (by kernel_rfl) (by kernel_rfl) (fun _ _ _ h => h) (fun _ h => h) (Val.pickT rfl rfl rfl) ?_
                  refine WPD.done (by kernel_rfl) ?_
                  refine Out.next ?_
                  refine WPc.ifP rfl (fun h44 => ?_) (fun h44 => ?_)
                  · skip
                    have h44 : (a.n ≠ a.n) := h44
                    exact absurd rfl h44
                  · skip
                    have h44 : ¬ (a.n ≠ a.n) := h44
                    refine WPc.skip ?_
                    refine Out.block ?_
                    refine Out.next ?_
                    refine WPc.region ?_
                    refine WP.val rfl rfl rfl (Val.add (z := ((i + 1 : Nat) : Int)) rfl rfl rfl ((w64 (by omega) (by omega)).trans (by omega))) ?_
                    refine WP.val rfl rfl rfl (Val.move rfl rfl) ?_
                    refine WP.nil ?_
                    refine Out.drop ?_
                    refine Out.drop ?_
                    refine Out.perm pl1 ?_
                    refine Out.drop ?_
                    refine Out.perm pl2 ?_
                    refine Out.perm pl1 ?_
                    refine Out.perm pl2 ?_
                    refine Out.again (i + 1) ?_ ?_ ?_ ?_
                    · exact (by first | omega | (dsimp only; omega))
                    · first | omega | (dsimp only; omega)
                    · exact (Sub.cons (congrArg some (hvg3.1).symm) (Sub.cons (congrArg some (hvg4.1).symm) (Sub.cons rfl (Sub.cons rfl (Sub.cons rfl Sub.nil)))))
                    · exact (fun _ h => h)
                · skip
                  have h43 : ¬ (x.k = (4 : Int)) := h43
                  refine WPD.skip 4 rfl rfl rfl rfl rfl rfl rfl rfl (by kernel_rfl) (by kernel_rfl) (by kernel_rfl) (by kernel_rfl) (fun _ _ _ h => h) (fun _ h => h) ?_
                  refine WPD.skip 5 rfl rfl rfl rfl rfl rfl rfl rfl (by kernel_rfl) (by kernel_rfl) (by kernel_rfl) (by kernel_rfl) (fun _ _ _ h => h) (fun _ h => h) ?_
                  refine WPD.skip 6 rfl rfl rfl rfl rfl rfl rfl rfl (by kernel_rfl) (by kernel_rfl) (by kernel_rfl) (by kernel_rfl) (fun _ _ _ h => h) (fun _ h => h) ?_
                  refine WPD.skip 7 rfl rfl rfl rfl rfl rfl rfl rfl (by kernel_rfl) (by kernel_rfl) (by kernel_rfl) (by kernel_rfl) (fun _ _ _ h => h) (fun _ h => h) ?_
                  refine WPD.skip 8 rfl rfl rfl rfl rfl rfl rfl rfl (by kernel_rfl) (by kernel_rfl) (by kernel_rfl) (by kernel_rfl) (fun _ _ _ h => h) (fun _ h => h) ?_
                  refine WPD.skip 9 rfl rfl rfl rfl rfl rfl rfl rfl (by kernel_rfl) (by kernel_rfl) (by kernel_rfl) (by kernel_rfl) (fun _ _ _ h => h) (fun _ h => h) ?_
                  refine WPD.skip 10 rfl rfl rfl rfl rfl rfl rfl rfl (by kernel_rfl) (by kernel_rfl) (by kernel_rfl) (by kernel_rfl) (fun _ _ _ h => h) (fun _ h => h) ?_
                  refine WPD.skip 11 rfl rfl rfl rfl rfl rfl rfl rfl (by kernel_rfl) (by kernel_rfl) (by kernel_rfl) (by kernel_rfl) (fun _ _ _ h => h) (fun _ h => h) ?_
                  refine WPD.skip 12 rfl rfl rfl rfl rfl rfl rfl rfl (by kernel_rfl) (by kernel_rfl) (by kernel_rfl) (by kernel_rfl) (fun _ _ _ h => h) (fun _ h => h) ?_
                  refine WPD.skip 13 rfl rfl rfl rfl rfl rfl rfl rfl (by kernel_rfl) (by kernel_rfl) (by kernel_rfl) (by kernel_rfl) (fun _ _ _ h => h) (fun _ h => h) ?_
                  refine WPD.skip 14 rfl rfl rfl rfl rfl rfl rfl rfl (by kernel_rfl) (by kernel_rfl) (by kernel_rfl) (by kernel_rfl) (fun _ _ _ h => h) (fun _ h => h) ?_
                  refine WPD.takeM 15 rfl rfl rfl rfl (by kernel_rfl) (by kernel_rfl) (by kernel_rfl) (by kernel_rfl) (fun _ _ _ h => h) (fun _ h => h) (Val.pickF rfl rfl rfl) ?_
                  refine WPD.done (by kernel_rfl) ?_
                  refine Out.next ?_
                  refine WPc.condF rfl rfl ?_
                  refine WPc.skip ?_
                  refine Out.block ?_
                  refine Out.next ?_
                  refine WPc.region ?_
                  refine WP.val rfl rfl rfl (Val.add (z := ((i + 1 : Nat) : Int)) rfl rfl rfl ((w64 (by omega) (by omega)).trans (by omega))) ?_
                  refine WP.val rfl rfl rfl (Val.move rfl rfl) ?_
                  refine WP.nil ?_
                  refine Out.drop ?_
                  refine Out.drop ?_
                  refine Out.perm pl1 ?_
                  refine Out.drop ?_
                  refine Out.perm pl2 ?_
                  refine Out.perm pl1 ?_
                  refine Out.perm pl2 ?_
                  refine Out.again (i + 1) ?_ ?_ ?_ ?_
                  · exact (by first | omega | (dsimp only; omega))
                  · first | omega | (dsimp only; omega)
                  · exact (Sub.cons (congrArg some (hvg3.1).symm) (Sub.cons (congrArg some (hvg4.1).symm) (Sub.cons rfl (Sub.cons rfl (Sub.cons rfl Sub.nil)))))
                  · exact (fun _ h => h)
          · skip
            have h10 : ¬ (((i : Nat) : Int) < ((l.length : Nat) : Int)) := h10
            refine WPc.exit ?_
            refine Out.then_exit ?_
            refine Out.then_exit ?_
            refine Out.block_exit ?_
            refine Out.next ?_
            refine WPc.seq ?_
            refine WPc.region ?_
            refine WP.eff rfl rfl rfl (Eff.call rfl rfl Try.call16 (live_spec)) ?_
            rintro _ _ ⟨_, ⟨rfl, rfl⟩, rfl⟩
            show WP _ _ _ _ _ _ _ (Seq uimpl ((l).length) (flatOf QA.cells (answers ansI [] (l))) :: Seq uspec ((l).length) (flatOf QA.cells (answers ansS [] (l))) :: Old W0 :: F)
            refine WP.val rfl rfl rfl (Val.assign rfl rfl) ?_
            refine WP.nil ?_
            refine Out.next ?_
            refine WPc.ret ?_
            refine Out.drop ?_
            refine Out.drop ?_
            exact Out.ret1 (L' := _) Try.results4 rfl ⟨rfl, rfl⟩ (fun _ h => h)


end Go.Proofs.Ythmkdioafjmclaa.Qu
