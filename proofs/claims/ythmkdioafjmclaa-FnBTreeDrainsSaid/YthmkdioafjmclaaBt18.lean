import Derived.Test.YthmkdioafjmclaaSlTerse
import Derived.Test.YthmkdioafjmclaaBt17
namespace Go.Proofs.Ythmkdioafjmclaa.Bt18
open Go.RowKit Go.Proofs.Ythmkdioafjmclaa Go.Proofs.Ythmkdioafjmclaa.Sl Go.Proofs.Ythmkdioafjmclaa.Bt Go.Proofs.Ythmkdioafjmclaa.Bt2 Go.Proofs.Ythmkdioafjmclaa.Bt3 Go.Proofs.Ythmkdioafjmclaa.Bt4 Go.Proofs.Ythmkdioafjmclaa.Bt5 Go.Proofs.Ythmkdioafjmclaa.Bt6 Go.Proofs.Ythmkdioafjmclaa.Bt7 Go.Proofs.Ythmkdioafjmclaa.Bt8 Go.Proofs.Ythmkdioafjmclaa.Bt9 Go.Proofs.Ythmkdioafjmclaa.Bt10 Go.Proofs.Ythmkdioafjmclaa.Bt11 Go.Proofs.Ythmkdioafjmclaa.Bt12 Go.Proofs.Ythmkdioafjmclaa.Bt13 Go.Proofs.Ythmkdioafjmclaa.Bt14 Go.Proofs.Ythmkdioafjmclaa.BtP Go.Proofs.Ythmkdioafjmclaa.Bt15 Go.Proofs.Ythmkdioafjmclaa.Bt16 Go.Proofs.Ythmkdioafjmclaa.Bt17
set_option linter.unusedVariables false
set_option linter.unusedSimpArgs false
set_option linter.unusedSectionVars false


def putB (x : El) : Bop := ⟨1, 0, x, 0, 0, 0, false⟩
theorem bop_one (l : List Bop) : (flatOf Bop.cells l).all (·.oneCell') = true := by
 rw [List.all_eq_true]; intro v hv
 obtain ⟨x, -, hx⟩ := List.mem_flatMap.1 hv
 simp only [Bop.cells, List.mem_cons, List.not_mem_nil, or_false] at hx
 rcases hx with rfl | rfl | rfl | rfl | rfl | rfl | rfl | rfl <;> rfl
theorem own_rdG {α : Type} {W w : World} {e : TypeId} {k : Nat} {v : Value} {cf : α → List Value} {l : List α} {L : List HProp} (hk : ∀ x, (cf x).length = k) (h : Sat W (Own e k v l.length (flatOf cf l) :: L) w) : ∃ A : HProp, Sat W (Pure (Rd A k cf v l) :: A :: L) w := by
 rcases h.own with ⟨rfl, h0, h1, h2⟩ | ⟨b, cap, sp, rfl, h1, h2, h3, h4, h5⟩
 ·
  exact ⟨Pure True, Sat.pure_mk (.inr ⟨List.eq_nil_of_length_eq_zero h0, none, 0, rfl⟩) (Sat.pure_mk trivial h2)⟩
 ·
  refine ⟨Blk b (flatOf cf l ++ sp) e, Sat.pure_mk (.inl ⟨b, 0, cap, rfl, fun w hw i x hx => ?_⟩) h5⟩
  rw [Nat.zero_add]
  exact hw.cell_range (flatOf_range hk hx)
theorem own_nil8 {W w : World} {L : List HProp} (h : Sat W L w) : Sat W (Own 57 8 (.slice none 0 0) 0 [] :: L) w := h.ownNil
theorem own_ops {W w : World} {L : List HProp} {b : Nat} {o : Bop} (h : Sat W (Blk b o.cells 57 :: L) w) : Sat W (Own 57 8 (.slice (some ⟨b, 0, none⟩) 1 1) [o].length (flatOf Bop.cells [o]) :: L) w :=
 Sat.ownMk (xs := flatOf Bop.cells [o]) (sp := []) (by simpa [flatOf] using h) (Nat.le_refl _) rfl rfl (by unfold maxLen; omega)
theorem equal_el (d : Nat) (a b p q : Int) (w : World) : (Op.equalIn (d + 2) 55 (.agg #[.int .i64 a, .int .i64 b]) (.agg #[.int .i64 p, .int .i64 q])).run Try.prog w = .ok (a == p && b == q) w := by
 have hi : ∀ (a b : Int) (w : World), (Op.equalIn (d + 1) 3 (.int .i64 a) (.int .i64 b)).run Try.prog w = .ok (a == b) w := fun a b w => by
  unfold Op.equalIn
  simp
 unfold Op.equalIn
 simp [Try.stoodInHeld55, part, forIn, hi]
 by_cases h1 : a = p <;> by_cases h2 : b = q <;> simp [h1, h2, hi]
theorem Val.eqEl {bo : Bool} {n : Nat} {l : List (Nat × Value)} {G : World → Prop} {o : Oper} {u : TypeId} {x y : Operand} {a b p q : Int} (ho : o.op = .binOp (if bo then .eql else .neq) 55 x y u) (hx : ev l x = some (.agg #[.int .i64 a, .int .i64 b])) (hy : ev l y = some (.agg #[.int .i64 p, .int .i64 q])) (hp : a = p ∧ b = q) :
  Val Try.prog n l G o (.bool bo) := fun z w hf hs => by
 obtain ⟨rfl, rfl⟩ := hp
 have h2 : (Op.equal 55 (.agg #[.int .i64 a, .int .i64 b]) (.agg #[.int .i64 a, .int .i64 b])).run Try.prog w = .ok (a == a && b == b) w := equal_el 9998 a b a b w
 simp only [beq_self_eq_true, Bool.and_self] at h2
 cases bo with
 | true =>
  have he : (eqGuard .eql 55 x y (.agg #[.int .i64 a, .int .i64 b]) (.agg #[.int .i64 a, .int .i64 b])).run Try.prog w = .ok () w := by simp [eqGuard, Try.eqGuardType55]
  simp only [execOp, ho, if_true, hf.ev hx, hf.ev hy, Sem.run_bind, he, Result.andThen_ok, binOp, h2, Sem.run_pure]
 | false =>
  have he : (eqGuard .neq 55 x y (.agg #[.int .i64 a, .int .i64 b]) (.agg #[.int .i64 a, .int .i64 b])).run Try.prog w = .ok () w := by simp [eqGuard, Try.eqGuardType55]
  simp only [execOp, ho, Bool.false_eq_true, if_false, hf.ev hx, hf.ev hy, Sem.run_bind, he, Result.andThen_ok, binOp, h2, Sem.run_pure]
  rfl
theorem Val.neqSameB {n : Nat} {l : List (Nat × Value)} {G : World → Prop} {o : Oper} {t u : TypeId} {x y : Operand} {p q : Bool} (ho : o.op = .binOp .neq t x y u) (ht : isBool Try.prog t = true) (hx : ev l x = some (.bool p)) (hy : ev l y = some (.bool q)) (hpq : p = q) : Val Try.prog n l G o (.bool false) := fun a w hf hs => by
 subst hpq
 have := Val.neqB (G := G) ho ht hx hy a w hf hs
 rwa [beq_self_eq_true, Bool.not_true] at this
/-! the plain law -/
def runF (d : Nat) (s : St) (ol : List Bop) : St × List BAns := ol.foldl (fun p o => ((stepB d p.1 o).1, p.2 ++ [(stepB d p.1 o).2])) (s, [])
theorem runF_from {d : Nat} : ∀ (ol : List Bop) (s : St) (aa : List BAns), ol.foldl (fun p o => ((stepB d p.1 o).1, p.2 ++ [(stepB d p.1 o).2])) (s, aa) = ((runF d s ol).1, aa ++ (runF d s ol).2)
 | [], s, aa => by simp [runF]
 | o :: ol, s, aa => by
  have h1 := runF_from (d := d) ol (stepB d s o).1 (aa ++ [(stepB d s o).2])
  have h2 := runF_from (d := d) ol (stepB d s o).1 [(stepB d s o).2]
  unfold runF at h1 h2 ⊢
  simp only [List.foldl_cons, List.nil_append]
  rw [h1, h2]; simp
theorem runF_cons {d : Nat} {s : St} {o : Bop} {ol : List Bop} : runF d s (o :: ol) = ((runF d (stepB d s o).1 ol).1, (stepB d s o).2 :: (runF d (stepB d s o).1 ol).2) := by
 have := runF_from (d := d) ol (stepB d s o).1 [(stepB d s o).2]
 unfold runF at this ⊢
 simpa using this
theorem runF_app {d : Nat} {s : St} (a b : List Bop) : runF d s (a ++ b) = ((runF d (runF d s a).1 b).1, (runF d s a).2 ++ (runF d (runF d s a).1 b).2) := by
 have := runF_from (d := d) b (runF d s a).1 (runF d s a).2
 unfold runF at this ⊢
 rw [List.foldl_append]
 exact this
theorem runF_len {d : Nat} : ∀ (ol : List Bop) (s : St), (runF d s ol).2.length = ol.length
 | [], s => rfl
 | o :: ol, s => by rw [runF_cons, List.length_cons, List.length_cons, runF_len ol]
theorem run_drop {d : Nat} (a b : List Bop) : (runS d (a ++ b)).2.drop a.length = (runF d (runS d a).1 b).2 := by
 have : runS d (a ++ b) = _ := runF_app (d := d) (s := ⟨0, none⟩) a b
 rw [this]
 show List.drop a.length ((runF d ⟨0, none⟩ a).2 ++ _) = _
 rw [List.drop_append_of_le_length (by rw [runF_len]; exact Nat.le_refl _), List.drop_eq_nil_of_le (by rw [runF_len]; exact Nat.le_refl _)]
 rfl
def bop (k : Int) : Bop := ⟨k, 0, El0, 0, 0, 0, false⟩
theorem vis_all : ∀ (L out : List El), vis 0 out L = (out ++ L, true)
 | [], out => by simp [vis]
 | x :: L, out => by simp [vis, vis_all L]
theorem asc_ans (d : Nat) (s : St) : (runF d s [bop 10]).2 = [⟨0, false, 0, El0, elems s⟩] := by
 rw [runF_cons]
 show [(stepB d s (bop 10)).2] = _
 have : stepB d s (bop 10) = (s, ⟨0, false, 0, El0, (vis 0 [] (elems s)).1⟩) := by simp [stepB, bop]
 rw [this, vis_all]; rfl
theorem drain_min {d : Nat} : ∀ (k : Nat) (s : St), Wf d s → (∀ i, i < k → ∃ a, (runF d s (List.replicate k (bop 7) ++ [bop 9])).2[i]? = some a ∧ a.ok = decide (i < (elems s).length) ∧ ∀ e, (elems s)[i]? = some e → a.el = e) ∧
  ∃ a, (runF d s (List.replicate k (bop 7) ++ [bop 9])).2[k]? = some a ∧ a.n = ((elems s).length - k : Nat)
 | 0, s, h => by
  refine ⟨fun i hi => by omega, ?_⟩
  rw [List.replicate_zero, List.nil_append, runF_cons]
  refine ⟨_, rfl, ?_⟩
  have : stepB d s (bop 9) = (s, ⟨0, false, s.n, El0, []⟩) := by simp [stepB, bop]
  rw [this]; exact h.len
 | k + 1, s, h => by
  have e : stepB d s (bop 7) = ((stepMin d s).1, ⟨0, (stepMin d s).2.isSome, 0, (stepMin d s).2.getD El0, []⟩) := by simp [stepB, bop]
  obtain ⟨w2, hc⟩ := min_wf h
  obtain ⟨i1, i2⟩ := drain_min k (stepMin d s).1 w2
  rw [List.replicate_succ, List.cons_append, runF_cons, e]
  refine ⟨fun i hi => ?_, ?_⟩
  ·
   cases i with
   | zero =>
    refine ⟨_, rfl, ?_, ?_⟩
    ·
     rcases hc with ⟨e1, -, e3⟩ | ⟨x, e1, e3⟩ <;> simp [e1, e3]
    ·
     rcases hc with ⟨e1, -, e3⟩ | ⟨x, e1, e3⟩ <;> simp [e1, e3]
   | succ i =>
    obtain ⟨a, a1, a2, a3⟩ := i1 i (by omega)
    refine ⟨a, by simpa using a1, ?_, ?_⟩
    ·
     rcases hc with ⟨e1, e2, -⟩ | ⟨x, e1, -⟩
     ·
      rw [a2, e1, e2]; simp
     ·
      rw [a2, e1]; simp
    ·
     rcases hc with ⟨e1, e2, -⟩ | ⟨x, e1, -⟩
     ·
      rw [e1]; simp
     ·
      rw [e1]; simpa using a3
  ·
   obtain ⟨a, a1, a2⟩ := i2
   refine ⟨a, by simpa using a1, ?_⟩
   rcases hc with ⟨e1, e2, -⟩ | ⟨x, e1, -⟩
   ·
    rw [a2, e1, e2]; simp
   ·
    rw [a2, e1]; simp
theorem drain_max {d : Nat} : ∀ (k : Nat) (s : St), Wf d s → (∀ i, i < k → ∃ a, (runF d s (List.replicate k (bop 8) ++ [bop 9])).2[i]? = some a ∧ a.ok = decide (i < (elems s).length) ∧ ∀ e, i < (elems s).length → (elems s)[(elems s).length - 1 - i]? = some e → a.el = e) ∧
  ∃ a, (runF d s (List.replicate k (bop 8) ++ [bop 9])).2[k]? = some a ∧ a.n = ((elems s).length - k : Nat)
 | 0, s, h => by
  refine ⟨fun i hi => by omega, ?_⟩
  rw [List.replicate_zero, List.nil_append, runF_cons]
  refine ⟨_, rfl, ?_⟩
  have : stepB d s (bop 9) = (s, ⟨0, false, s.n, El0, []⟩) := by simp [stepB, bop]
  rw [this]; exact h.len
 | k + 1, s, h => by
  have e : stepB d s (bop 8) = ((stepMax d s).1, ⟨0, (stepMax d s).2.isSome, 0, (stepMax d s).2.getD El0, []⟩) := by simp [stepB, bop]
  obtain ⟨w2, hc⟩ := max_wf h
  obtain ⟨i1, i2⟩ := drain_max k (stepMax d s).1 w2
  rw [List.replicate_succ, List.cons_append, runF_cons, e]
  refine ⟨fun i hi => ?_, ?_⟩
  ·
   cases i with
   | zero =>
    refine ⟨_, rfl, ?_, ?_⟩
    ·
     rcases hc with ⟨e1, -, e3⟩ | ⟨x, e1, e3⟩ <;> simp [e1, e3]
    ·
     rcases hc with ⟨e1, -, e3⟩ | ⟨x, e1, e3⟩
     ·
      simp [e1]
     ·
      intro q h1 h2; rw [e1] at h2; simp at h2; simp [e3, h2]
   | succ i =>
    obtain ⟨a, a1, a2, a3⟩ := i1 i (by omega)
    refine ⟨a, by simpa using a1, ?_, ?_⟩
    ·
     rcases hc with ⟨e1, e2, -⟩ | ⟨x, e1, -⟩
     ·
      rw [a2, e1, e2]; simp
     ·
      rw [a2, e1, List.length_append, List.length_singleton]; simp
    ·
     rcases hc with ⟨e1, e2, -⟩ | ⟨x, e1, -⟩
     ·
      rw [e1]; simp
     ·
      intro q h1 h2
      rw [e1, List.length_append, List.length_singleton] at h1 h2
      refine a3 q (by omega) ?_
      rw [List.getElem?_append_left (by omega)] at h2
      rw [← h2]; congr 1; omega
  ·
   obtain ⟨a, a1, a2⟩ := i2
   refine ⟨a, by simpa using a1, ?_⟩
   rcases hc with ⟨e1, e2, -⟩ | ⟨x, e1, -⟩
   ·
    rw [a2, e1, e2]; simp
   ·
    rw [a2, e1, List.length_append, List.length_singleton]; congr 1; omega
set_option maxRecDepth 100000 in
set_option maxHeartbeats 1000000 in
theorem put_nil (A : HProp) (a : Option Addr) (c : Nat) : Does Try.prog 29 [.slice a 0 c] [A] (fun v L => L = [Own 57 8 v (([] : List El).map putB).length (flatOf Bop.cells (([] : List El).map putB)), A]) := by
 refine Does.enter 19 Try.func29 rfl rfl rfl fun W F => ?_
 show WPc _ _ _ _ _ [(0, .slice a 0 c)] (A :: F)
 refine WPc.sr ?_
 refine WP.val rfl rfl rfl (Val.assign rfl rfl) ?_
 refine WP.nx ?_
 refine WPc.sr ?_
 refine WP.val rfl rfl rfl (Val.assign rfl rfl) ?_
 refine WP.nx ?_
 refine WPc.seq ?_
 refine WPc.seq ?_
 refine WPc.conv (fun w h => own_nil8 h) ?_
 show WPc _ _ _ _ _ _ (Own 57 8 (.slice none 0 0) 0 ([]) :: _)
 refine WPc.region ?_
 refine WP.val rfl rfl rfl (Val.move rfl rfl) ?_
 refine WP.val rfl rfl rfl (Val.len rfl Ty.sl52 rfl) ?_
 refine WP.val rfl rfl rfl (Val.move rfl rfl) ?_
 refine WP.nx ?_
 refine WPc.block ?_
 refine WPc.perm pl1 ?_
 refine WPc.loop (ι := Nat × Value) (fun ⟨i, v⟩ => i ≤ (([] : List El)).length) (fun ⟨i, v⟩ => [(3, v), (6, .slice a 0 c), (7, .int .i64 ((((([] : List El)).length : Nat) : Int))), (8, .int .i64 (((i : Nat) : Int)))]) (fun ⟨i, v⟩ => A :: Own 57 8 v i (flatOf Bop.cells (((([] : List El)).take i).map putB)) :: F) (fun ⟨i, v⟩ => (([] : List El)).length - i) (0, .slice none 0 0) (Nat.zero_le _) ((Sub.cons rfl (Sub.cons rfl (Sub.cons rfl (Sub.cons rfl Sub.nil))))) (fun _ h => h) ?_
 rintro ⟨i, v⟩ hi
 show WPc _ _ _ _ _ [(3, v), (6, .slice a 0 c), (7, .int .i64 ((((([] : List El)).length : Nat) : Int))), (8, .int .i64 (((i : Nat) : Int)))] (_ :: Own 57 8 v i (flatOf Bop.cells (((([] : List El)).take i).map putB)) :: _)
 replace hi : i ≤ (([] : List El)).length := hi
 refine WPc.sr ?_
 refine WP.val rfl rfl rfl (Val.lss rfl rfl rfl) ?_
 refine WP.nx ?_
 refine WPc.seq ?_
 refine WPc.ifP rfl (fun h1 => ?_) (fun h1 => ?_)
 ·
  have h1 : (((i : Nat) : Int) < (((([] : List El)).length : Nat) : Int)) := h1
  exfalso; simp at *; omega
 ·
  have h1 : ¬ (((i : Nat) : Int) < (((([] : List El)).length : Nat) : Int)) := h1
  refine WPc.exit ?_
  refine Out.then_exit ?_
  refine Out.then_exit ?_
  refine Out.block_exit ?_
  refine Out.next ?_
  refine WPc.sr ?_
  refine WP.val rfl rfl rfl (Val.move rfl rfl) ?_
  refine WP.val rfl rfl rfl (Val.assign rfl rfl) ?_
  refine WP.nx ?_
  refine WPc.ret ?_
  have hti2 : (([] : List El)).take i = ([] : List El) := List.take_of_length_le (by first | omega | (simp at *; try omega))
  have hil : i = ((([] : List El)).map putB).length := by rw [List.length_map]; first | omega | (simp at *; omega)
  refine Out.perm pl1 ?_
  exact Out.ret1 (L' := _) Try.results29 rfl rfl (fun w h => by rw [hti2] at h; rw [← hil]; exact h)

set_option maxRecDepth 100000 in
set_option maxHeartbeats 1000000 in
theorem put_row (A : HProp) (l : List El) (hl : l.length ≤ 100000) (b0 o0 c0 : Nat) (hr : ∀ w, Holds A w → ∀ i x, l[i]? = some x → w.rangeAt b0 (o0 + i * 2) (El.cells x)) : Does Try.prog 29 [.slice (some ⟨b0, o0, none⟩) l.length c0] [A] (fun v L => L = [Own 57 8 v (l.map putB).length (flatOf Bop.cells (l.map putB)), A]) := by
 refine Does.enter 19 Try.func29 rfl rfl rfl fun W F => ?_
 show WPc _ _ _ _ _ [(0, .slice (some ⟨b0, o0, none⟩) l.length c0)] (A :: F)
 refine WPc.sr ?_
 refine WP.val rfl rfl rfl (Val.assign rfl rfl) ?_
 refine WP.nx ?_
 refine WPc.sr ?_
 refine WP.val rfl rfl rfl (Val.assign rfl rfl) ?_
 refine WP.nx ?_
 refine WPc.seq ?_
 refine WPc.seq ?_
 refine WPc.conv (fun w h => own_nil8 h) ?_
 show WPc _ _ _ _ _ _ (Own 57 8 (.slice none 0 0) 0 ([]) :: _)
 refine WPc.region ?_
 refine WP.val rfl rfl rfl (Val.move rfl rfl) ?_
 refine WP.val rfl rfl rfl (Val.len rfl Ty.sl52 rfl) ?_
 refine WP.val rfl rfl rfl (Val.move rfl rfl) ?_
 refine WP.nx ?_
 refine WPc.block ?_
 refine WPc.perm pl1 ?_
 refine WPc.loop (ι := Nat × Value) (fun ⟨i, v⟩ => i ≤ (l).length) (fun ⟨i, v⟩ => [(3, v), (6, .slice (some ⟨b0, o0, none⟩) l.length c0), (7, .int .i64 ((((l).length : Nat) : Int))), (8, .int .i64 (((i : Nat) : Int)))]) (fun ⟨i, v⟩ => A :: Own 57 8 v i (flatOf Bop.cells (((l).take i).map putB)) :: F) (fun ⟨i, v⟩ => (l).length - i) (0, .slice none 0 0) (Nat.zero_le _) ((Sub.cons rfl (Sub.cons rfl (Sub.cons rfl (Sub.cons rfl Sub.nil))))) (fun _ h => h) ?_
 rintro ⟨i, v⟩ hi
 show WPc _ _ _ _ _ [(3, v), (6, .slice (some ⟨b0, o0, none⟩) l.length c0), (7, .int .i64 ((((l).length : Nat) : Int))), (8, .int .i64 (((i : Nat) : Int)))] (_ :: Own 57 8 v i (flatOf Bop.cells (((l).take i).map putB)) :: _)
 replace hi : i ≤ (l).length := hi
 refine WPc.sr ?_
 refine WP.val rfl rfl rfl (Val.lss rfl rfl rfl) ?_
 refine WP.nx ?_
 refine WPc.seq ?_
 refine WPc.ifP rfl (fun h1 => ?_) (fun h1 => ?_)
 ·
  have h1 : (((i : Nat) : Int) < (((l).length : Nat) : Int)) := h1
  refine WPc.skip ?_
  refine Out.next ?_
  refine WPc.seq ?_
  refine WPc.block ?_
  refine WPc.seq ?_
  have hlt : i < l.length := by omega
  obtain ⟨x, hx⟩ : ∃ x, l[i]? = some x := ⟨_, List.getElem?_eq_getElem hlt⟩
  refine WPc.region ?_
  refine WP.val rfl rfl rfl (Val.indexAddr (j := i) (q := o0 + i * 2) rfl Ty.sl52 rfl rfl (by omega) (by omega) (by omega)) ?_
  refine WP.val rfl rfl rfl (Val.loadAgg (cs := (El.cells x)) rfl Ty.ag55 rfl (by rfl) (fun w h => hr w (h.at 0 rfl) i x hx)) ?_
  refine WP.eff rfl rfl rfl (Eff.alloc rfl Ty.z55) ?_
  rintro _ _ ⟨b1, rfl, rfl⟩
  refine WP.eff0 rfl rfl (Eff.storeAgg (cs := [.int .i64 (x.k), .int .i64 (x.v)]) (C' := [.int .i64 (x.k), .int .i64 (x.v)]) rfl Ty.ag55 rfl rfl rfl rfl (by simp) rfl) ?_
  rintro _ _ rfl
  refine WP.nx ?_
  refine WPc.region ?_
  refine WP.val rfl rfl rfl (Val.move rfl rfl) ?_
  refine WP.val rfl rfl rfl (Val.loadAgg (cs := [.int .i64 (x.k), .int .i64 (x.v)]) rfl Ty.ag55 rfl rfl (fun w h => h.range 0 rfl rfl)) ?_
  refine WP.val rfl rfl rfl (Val.mk (cs := [.int .i64 1, .int .i64 0, .int .i64 (x.k), .int .i64 (x.v), .int .i64 0, .int .i64 0, .int .i64 0, .bool false]) rfl rfl (fun _ => by kernel_rfl)) ?_
  refine WP.eff rfl rfl rfl (Eff.mkSlice (C := [.int .i64 1, .int .i64 0, .int .i64 (x.k), .int .i64 (x.v), .int .i64 0, .int .i64 0, .int .i64 0, .bool false]) rfl Ty.sl53 rfl (fun _ => by kernel_rfl)) ?_
  rintro _ _ ⟨b2, rfl, rfl⟩
  refine WP.perm pl3 ?_
  refine WP.eff rfl rfl rfl (Eff.append (m := 1) (n0 := i) (news := [.int .i64 1, .int .i64 0, .int .i64 (x.k), .int .i64 (x.v), .int .i64 0, .int .i64 0, .int .i64 0, .bool false]) rfl Ty.sl53 Ty.z57 rfl rfl rfl (.slice Ty.sl53 rfl rfl (fun w h => cells_range (h.range 1 rfl rfl))) (by omega) (by omega)) ?_
  rintro v3 _ ⟨onev3, rfl⟩
  refine WP.val rfl rfl rfl (Val.assign rfl rfl) ?_
  refine WP.nil ?_
  refine Out.block ?_
  refine Out.next ?_
  refine WPc.region ?_
  refine WP.val rfl rfl rfl (Val.add (z := ((i + 1 : Nat) : Int)) rfl rfl rfl ((w64 (by omega) (by omega)).trans (by omega))) ?_
  refine WP.val rfl rfl rfl (Val.move rfl rfl) ?_
  refine WP.nil ?_
  refine Out.perm pl1 ?_
  refine Out.drop ?_
  refine Out.perm pl1 ?_
  refine Out.drop ?_
  refine Out.perm pl1 ?_
  refine Out.again (i + 1, v3) ?_ ?_ ?_ ?_
  ·
   exact (by first | omega | (dsimp only; omega))
  ·
   (first | omega | (dsimp only; omega))
  ·
   exact (Sub.cons rfl (Sub.cons rfl (Sub.cons rfl (Sub.cons rfl Sub.nil))))
  ·
   exact (fun w h => by dsimp only; rw [take_more hx, List.map_append, List.map_singleton, flatOf_append, flatOf_one]; exact h)
 ·
  have h1 : ¬ (((i : Nat) : Int) < (((l).length : Nat) : Int)) := h1
  refine WPc.exit ?_
  refine Out.then_exit ?_
  refine Out.then_exit ?_
  refine Out.block_exit ?_
  refine Out.next ?_
  refine WPc.sr ?_
  refine WP.val rfl rfl rfl (Val.move rfl rfl) ?_
  refine WP.val rfl rfl rfl (Val.assign rfl rfl) ?_
  refine WP.nx ?_
  refine WPc.ret ?_
  have hti2 : (l).take i = l := List.take_of_length_le (by first | omega | (simp at *; try omega))
  have hil : i = ((l).map putB).length := by rw [List.length_map]; first | omega | (simp at *; omega)
  refine Out.perm pl1 ?_
  exact Out.ret1 (L' := _) Try.results29 rfl rfl (fun w h => by rw [hti2] at h; rw [← hil]; exact h)

theorem put_spec (A : HProp) (l : List El) (hl : l.length ≤ 100000) (va : Value) (hva : Rd A 2 El.cells va l) : Does Try.prog 29 [va] [A] (fun v L => L = [Own 57 8 v (l.map putB).length (flatOf Bop.cells (l.map putB)), A]) := by
 rcases hva with ⟨b0, o0, c0, rfl, hr⟩ | ⟨rfl, a, c, rfl⟩
 ·
  exact put_row A l hl b0 o0 c0 hr
 ·
  exact put_nil A a c

end Go.Proofs.Ythmkdioafjmclaa.Bt18
