import Derived.Test.YtbomnihiapjmpaaMsf
namespace Go.Proofs.Ytbomnihiapjmpaa.An
open Go.RowKit Go.Proofs.Ytbomnihiapjmpaa Go.Proofs.Ytbomnihiapjmpaa.Sl Go.Proofs.Ytbomnihiapjmpaa.TrP Go.Proofs.Ytbomnihiapjmpaa.Tb Go.Proofs.Ytbomnihiapjmpaa.Tc Go.Proofs.Ytbomnihiapjmpaa.Td Go.Proofs.Ytbomnihiapjmpaa.Te Go.Proofs.Ytbomnihiapjmpaa.Tk Go.Proofs.Ytbomnihiapjmpaa.Tl Go.Proofs.Ytbomnihiapjmpaa.Tm Go.Proofs.Ytbomnihiapjmpaa.Tj Go.Proofs.Ytbomnihiapjmpaa.Tn Go.Proofs.Ytbomnihiapjmpaa.Tp Go.Proofs.Ytbomnihiapjmpaa.Tq Go.Proofs.Ytbomnihiapjmpaa.Tr Go.Proofs.Ytbomnihiapjmpaa.Tx Go.Proofs.Ytbomnihiapjmpaa.TC Go.Proofs.Ytbomnihiapjmpaa.TD Go.Proofs.Ytbomnihiapjmpaa.TP Go.Proofs.Ytbomnihiapjmpaa.Aa Go.Proofs.Ytbomnihiapjmpaa.Ab Go.Proofs.Ytbomnihiapjmpaa.Ac Go.Proofs.Ytbomnihiapjmpaa.Ad Go.Proofs.Ytbomnihiapjmpaa.Ae Go.Proofs.Ytbomnihiapjmpaa.Af Go.Proofs.Ytbomnihiapjmpaa.Ag Go.Proofs.Ytbomnihiapjmpaa.Ah Go.Proofs.Ytbomnihiapjmpaa.Ai Go.Proofs.Ytbomnihiapjmpaa.Aj
set_option linter.unusedVariables false
set_option linter.unusedSimpArgs false
set_option linter.unusedSectionVars false


section
variable {P : Program} {n : Nat} {l : List (Nat × Value)} {G : World → Prop} {o : Oper}
theorem Val.geqS {t u : TypeId} {x y : Operand} {p q : ByteArray} (ho : o.op = .binOp .geq t x y u) (hx : ev l x = some (.string p)) (hy : ev l y = some (.string q)) : Val P n l G o (.bool (!Op.bytesLess p.toList q.toList)) := fun a w hf hs => by
  simp [execOp, ho, hf.ev hx, hf.ev hy, eqGuard, binOp, Op.stringOp]
theorem leq_less (x y : List UInt8) : (Op.bytesLess x y || x == y) = !Op.bytesLess y x := by
  have := gtr_less x y
  rw [← this]; cases Op.bytesLess x y <;> cases h : (x == y) <;> simp_all
theorem Val.leqS {t u : TypeId} {x y : Operand} {p q : ByteArray} (ho : o.op = .binOp .leq t x y u) (hx : ev l x = some (.string p)) (hy : ev l y = some (.string q)) : Val P n l G o (.bool (!Op.bytesLess q.toList p.toList)) := fun a w hf hs => by
  simp only [execOp, ho, hf.ev hx, hf.ev hy, eqGuard, binOp, Op.stringOp, leq_less]
  rfl
end
theorem klt_ka {x y : ByteArray} (hx : x.size ≠ 0) (hy : y.size ≠ 0) : klt (ka x) (ka y) ↔ Op.bytesLess x.toList y.toList = true := by
  rw [ka_ne hx, ka_ne hy]; unfold klt; simp
theorem seq_e (x : ByteArray) : seq x ⟨#[]⟩ = decide (x.size = 0) := seq_nil x
theorem all_of {α : Type} {l : List α} {i : Nat} {φ : α → Prop} (h : ∀ j y, j < i → l[j]? = some y → φ y) (hi : l.length ≤ i) : ∀ y ∈ l, φ y := fun y hy => by
  obtain ⟨j, hj⟩ := List.getElem?_of_mem hy
  exact h j y (Nat.lt_of_lt_of_le (List.getElem?_eq_some_iff.1 hj).1 hi) hj
theorem all_more {α : Type} {l : List α} {i : Nat} {φ : α → Prop} {x : α} (h : ∀ j y, j < i → l[j]? = some y → φ y) (hx : l[i]? = some x) (hp : φ x) : ∀ j y, j < i + 1 → l[j]? = some y → φ y := fun j y hj hy =>
  (Nat.lt_succ_iff_lt_or_eq.1 hj).elim (fun h' => h j y h' hy) (fun h' => by subst h'; rw [hx] at hy; injection hy with hy; subst hy; exact hp)
theorem pmok_of {x : Pm} {b : Bool} (h0 : ¬ x.k < 0) (h2 : ¬ 2 < x.k) (hk : ((x.key.size : Nat) : Int) ≤ 64) (hf : ((x.fin.size : Nat) : Int) ≤ 64) (hv : VR x.key x.fin) : PmOk x := ⟨by omega, by omega, by omega, hv⟩
set_option maxRecDepth 100000 in
set_option maxHeartbeats 2000000 in
theorem perms_nil (A : HProp) (a : Option Addr) (c : Nat) : Does Try.prog 19 [.slice a 0 c] [A] (fun v L => ∃ b, v = .bool b ∧ (b = true → (∀ p ∈ ([] : List Pm), PmOk p) ∧ 0 ≤ 12) ∧ L = [A]) := by
  refine Does.enter 43 Try.func19 rfl rfl rfl fun W F => ?_
  show WPc _ _ _ _ _ [(0, .slice a 0 c)] (A :: F)
  refine WPc.seq ?_
  refine WPc.region ?_
  refine WP.val rfl rfl rfl (Val.assign rfl rfl) ?_
  refine WP.nil ?_
  refine Out.next ?_
  refine WPc.seq ?_
  refine WPc.seq ?_
  refine WPc.region ?_
  refine WP.val rfl rfl rfl (Val.move rfl rfl) ?_
  refine WP.val rfl rfl rfl (Val.len rfl Ty.sl39 rfl) ?_
  refine WP.val rfl rfl rfl (Val.move rfl rfl) ?_
  refine WP.nil ?_
  refine Out.next ?_
  refine WPc.block ?_
  refine WPc.loop (ι := Nat) (fun i => i ≤ 0 ∧ ∀ j y, j < i → ([] : List Pm)[j]? = some y → PmOk y) (fun i => [(0, .slice a 0 c), (2, .bool false), (5, .slice a 0 c), (6, .int .i64 0), (7, .int .i64 (((i : Nat) : Int)))]) (fun i => A :: F) (fun i => 0 - i) 0 ⟨Nat.zero_le _, fun j y h => absurd h (Nat.not_lt_zero _)⟩ ((Sub.cons rfl (Sub.cons rfl (Sub.cons rfl (Sub.cons rfl (Sub.cons rfl Sub.nil)))))) (fun _ h => h) ?_
  rintro i ⟨hi, hall⟩
  show WPc _ _ _ _ _ [(0, .slice a 0 c), (2, .bool false), (5, .slice a 0 c), (6, .int .i64 0), (7, .int .i64 (((i : Nat) : Int)))] (A :: F)
  replace hi : i ≤ 0 := hi
  replace hall : ∀ j y, j < i → ([] : List Pm)[j]? = some y → PmOk y := hall
  refine WPc.seq ?_
  refine WPc.region ?_
  refine WP.val rfl rfl rfl (Val.lss rfl rfl rfl) ?_
  refine WP.nil ?_
  refine Out.next ?_
  refine WPc.seq ?_
  refine WPc.ifP rfl (fun h1 => ?_) (fun h1 => ?_)
  · skip
    have h1 : (((i : Nat) : Int) < (0 : Int)) := h1
    exfalso; omega
  · skip
    have h1 : ¬ (((i : Nat) : Int) < (0 : Int)) := h1
    refine WPc.exit ?_
    refine Out.then_exit ?_
    refine Out.then_exit ?_
    refine Out.block_exit ?_
    refine Out.next ?_
    refine WPc.seq ?_
    refine WPc.region ?_
    refine WP.val rfl rfl rfl (Val.move rfl rfl) ?_
    refine WP.val rfl rfl rfl (Val.len rfl Ty.sl39 rfl) ?_
    refine WP.val rfl rfl rfl (Val.boolK (q := true) (Val.leq rfl rfl rfl) (by decide)) ?_
    refine WP.val rfl rfl rfl (Val.assign rfl rfl) ?_
    refine WP.nil ?_
    refine Out.next ?_
    refine WPc.ret ?_
    exact Out.ret1 (L' := [A]) Try.results19 rfl ⟨_, rfl, (fun h => ⟨all_of hall (by first | omega | exact Nat.zero_le _), (by first | exact Nat.zero_le _ | (have h := of_decide_eq_true h; omega))⟩), rfl⟩ (fun w h => h)

set_option maxRecDepth 100000 in
set_option maxHeartbeats 2000000 in
theorem perms_row (A : HProp) (l : List Pm) (hl : l.length ≤ 9223372036854775807) (b0 o0 c0 : Nat) (hr : ∀ w, Holds A w → ∀ i x, l[i]? = some x → w.rangeAt b0 (o0 + i * 3) (Pm.cells x)) : Does Try.prog 19 [.slice (some ⟨b0, o0, none⟩) l.length c0] [A] (fun v L => ∃ b, v = .bool b ∧ (b = true → (∀ p ∈ l, PmOk p) ∧ l.length ≤ 12) ∧ L = [A]) := by
  refine Does.enter 43 Try.func19 rfl rfl rfl fun W F => ?_
  show WPc _ _ _ _ _ [(0, .slice (some ⟨b0, o0, none⟩) l.length c0)] (A :: F)
  refine WPc.seq ?_
  refine WPc.region ?_
  refine WP.val rfl rfl rfl (Val.assign rfl rfl) ?_
  refine WP.nil ?_
  refine Out.next ?_
  refine WPc.seq ?_
  refine WPc.seq ?_
  refine WPc.region ?_
  refine WP.val rfl rfl rfl (Val.move rfl rfl) ?_
  refine WP.val rfl rfl rfl (Val.len rfl Ty.sl39 rfl) ?_
  refine WP.val rfl rfl rfl (Val.move rfl rfl) ?_
  refine WP.nil ?_
  refine Out.next ?_
  refine WPc.block ?_
  refine WPc.loop (ι := Nat) (fun i => i ≤ l.length ∧ ∀ j y, j < i → l[j]? = some y → PmOk y) (fun i => [(0, .slice (some ⟨b0, o0, none⟩) l.length c0), (2, .bool false), (5, .slice (some ⟨b0, o0, none⟩) l.length c0), (6, .int .i64 (((l.length : Nat) : Int))), (7, .int .i64 (((i : Nat) : Int)))]) (fun i => A :: F) (fun i => l.length - i) 0 ⟨Nat.zero_le _, fun j y h => absurd h (Nat.not_lt_zero _)⟩ ((Sub.cons rfl (Sub.cons rfl (Sub.cons rfl (Sub.cons rfl (Sub.cons rfl Sub.nil)))))) (fun _ h => h) ?_
  rintro i ⟨hi, hall⟩
  show WPc _ _ _ _ _ [(0, .slice (some ⟨b0, o0, none⟩) l.length c0), (2, .bool false), (5, .slice (some ⟨b0, o0, none⟩) l.length c0), (6, .int .i64 (((l.length : Nat) : Int))), (7, .int .i64 (((i : Nat) : Int)))] (A :: F)
  replace hi : i ≤ l.length := hi
  replace hall : ∀ j y, j < i → l[j]? = some y → PmOk y := hall
  refine WPc.seq ?_
  refine WPc.region ?_
  refine WP.val rfl rfl rfl (Val.lss rfl rfl rfl) ?_
  refine WP.nil ?_
  refine Out.next ?_
  refine WPc.seq ?_
  refine WPc.ifP rfl (fun h1 => ?_) (fun h1 => ?_)
  · skip
    have h1 : (((i : Nat) : Int) < ((l.length : Nat) : Int)) := h1
    refine WPc.skip ?_
    refine Out.next ?_
    refine WPc.seq ?_
    refine WPc.block ?_
    refine WPc.seq ?_
    have hlt : i < l.length := by omega
    obtain ⟨x, hx⟩ : ∃ x, l[i]? = some x := ⟨_, List.getElem?_eq_getElem hlt⟩
    refine WPc.region ?_
    refine WP.val rfl rfl rfl (Val.indexAddr (j := i) (q := o0 + i * 3) rfl Ty.sl39 rfl rfl (by omega) (by omega) (by omega)) ?_
    refine WP.val rfl rfl rfl (Val.loadAgg (cs := (Pm.cells x)) rfl Ty.ag45 rfl (by rfl) (fun w h => hr w (h.at 0 rfl) i x hx)) ?_
    refine WP.eff rfl rfl rfl (Eff.alloc rfl Ty.z45) ?_
    rintro _ _ ⟨b1, rfl, rfl⟩
    refine WP.eff0 rfl rfl (Eff.storeAgg (cs := [.int .i64 (x.k), .string x.key, .string x.fin]) (C' := [.int .i64 (x.k), .string x.key, .string x.fin]) rfl Ty.ag45 rfl rfl rfl rfl (by simp) rfl) ?_
    rintro _ _ rfl
    refine WP.nil ?_
    refine Out.next ?_
    refine WPc.seq ?_
    refine WPc.region ?_
    refine WP.val rfl rfl rfl (Val.fieldAddr (j := 0) rfl Ty.fo45_0 rfl rfl) ?_
    refine WP.val rfl rfl rfl (Val.load rfl Ty.sc3 rfl (fun w h => h.cell 0 rfl rfl)) ?_
    refine WP.val rfl rfl rfl (Val.lss rfl rfl rfl) ?_
    refine WP.val rfl rfl rfl (Val.move rfl rfl) ?_
    refine WP.split 14 rfl (fun h2 => ?_) (fun h2 => ?_)
    · skip
      have h2 : (x.k < (0 : Int)) := h2
      refine WP.skip rfl rfl rfl rfl rfl rfl rfl ?_
      refine WP.skip rfl rfl rfl rfl rfl rfl rfl ?_
      refine WP.skip rfl rfl rfl rfl rfl rfl rfl ?_
      refine WP.val rfl rfl rfl (Val.pickT rfl rfl rfl) ?_
      refine WP.val rfl rfl rfl (Val.move rfl rfl) ?_
      refine WP.skip rfl rfl rfl rfl rfl rfl rfl ?_
      refine WP.skip rfl rfl rfl rfl rfl rfl rfl ?_
      refine WP.skip rfl rfl rfl rfl rfl rfl rfl ?_
      refine WP.skip rfl rfl rfl rfl rfl rfl rfl ?_
      refine WP.val rfl rfl rfl (Val.pickT rfl rfl rfl) ?_
      refine WP.val rfl rfl rfl (Val.move rfl rfl) ?_
      refine WP.skip rfl rfl rfl rfl rfl rfl rfl ?_
      refine WP.skip rfl rfl rfl rfl rfl rfl rfl ?_
      refine WP.skip rfl rfl rfl rfl rfl rfl rfl ?_
      refine WP.skip rfl rfl rfl rfl rfl rfl rfl ?_
      refine WP.val rfl rfl rfl (Val.pickT rfl rfl rfl) ?_
      refine WP.val rfl rfl rfl (Val.move rfl rfl) ?_
      refine WP.skip rfl rfl rfl rfl rfl rfl rfl ?_
      refine WP.skip rfl rfl rfl rfl rfl rfl rfl ?_
      refine WP.skip rfl rfl rfl rfl rfl rfl rfl ?_
      refine WP.skip rfl rfl rfl rfl rfl rfl rfl ?_
      refine WP.skip rfl rfl rfl rfl rfl rfl rfl ?_
      refine WP.skip rfl rfl rfl rfl rfl rfl rfl ?_
      refine WP.val rfl rfl rfl (Val.pickT rfl rfl rfl) ?_
      refine WP.nil ?_
      refine Out.next ?_
      refine WPc.condT rfl rfl ?_
      refine WPc.seq ?_
      refine WPc.region ?_
      refine WP.val rfl rfl rfl (Val.assign rfl rfl) ?_
      refine WP.nil ?_
      refine Out.next ?_
      refine WPc.ret ?_
      refine Out.block_ret ?_
      refine Out.then_ret ?_
      refine Out.then_ret ?_
      refine Out.block_ret ?_
      refine Out.then_ret ?_
      refine Out.drop ?_
      exact Out.ret1 (L' := [A]) Try.results19 rfl ⟨_, rfl, (fun h => by cases h), rfl⟩ (fun w h => h)
    · skip
      have h2 : ¬ (x.k < (0 : Int)) := h2
      refine WP.valG rfl rfl rfl rfl rfl rfl rfl (Val.fieldAddr (j := 0) rfl Ty.fo45_0 rfl rfl) ?_
      refine WP.valG rfl rfl rfl rfl rfl rfl rfl (Val.load rfl Ty.sc3 rfl (fun w h => h.cell 0 rfl rfl)) ?_
      refine WP.valG rfl rfl rfl rfl rfl rfl rfl (Val.gtr rfl rfl rfl) ?_
      refine WP.val rfl rfl rfl (Val.pickF rfl rfl rfl) ?_
      refine WP.val rfl rfl rfl (Val.move rfl rfl) ?_
      refine WP.split 19 rfl (fun h3 => ?_) (fun h3 => ?_)
      · skip
        have h3 : ((2 : Int) < x.k) := h3
        refine WP.skip rfl rfl rfl rfl rfl rfl rfl ?_
        refine WP.skip rfl rfl rfl rfl rfl rfl rfl ?_
        refine WP.skip rfl rfl rfl rfl rfl rfl rfl ?_
        refine WP.skip rfl rfl rfl rfl rfl rfl rfl ?_
        refine WP.val rfl rfl rfl (Val.pickT rfl rfl rfl) ?_
        refine WP.val rfl rfl rfl (Val.move rfl rfl) ?_
        refine WP.skip rfl rfl rfl rfl rfl rfl rfl ?_
        refine WP.skip rfl rfl rfl rfl rfl rfl rfl ?_
        refine WP.skip rfl rfl rfl rfl rfl rfl rfl ?_
        refine WP.skip rfl rfl rfl rfl rfl rfl rfl ?_
        refine WP.val rfl rfl rfl (Val.pickT rfl rfl rfl) ?_
        refine WP.val rfl rfl rfl (Val.move rfl rfl) ?_
        refine WP.skip rfl rfl rfl rfl rfl rfl rfl ?_
        refine WP.skip rfl rfl rfl rfl rfl rfl rfl ?_
        refine WP.skip rfl rfl rfl rfl rfl rfl rfl ?_
        refine WP.skip rfl rfl rfl rfl rfl rfl rfl ?_
        refine WP.skip rfl rfl rfl rfl rfl rfl rfl ?_
        refine WP.skip rfl rfl rfl rfl rfl rfl rfl ?_
        refine WP.val rfl rfl rfl (Val.pickT rfl rfl rfl) ?_
        refine WP.nil ?_
        refine Out.next ?_
        refine WPc.condT rfl rfl ?_
        refine WPc.seq ?_
        refine WPc.region ?_
        refine WP.val rfl rfl rfl (Val.assign rfl rfl) ?_
        refine WP.nil ?_
        refine Out.next ?_
        refine WPc.ret ?_
        refine Out.block_ret ?_
        refine Out.then_ret ?_
        refine Out.then_ret ?_
        refine Out.block_ret ?_
        refine Out.then_ret ?_
        refine Out.drop ?_
        exact Out.ret1 (L' := [A]) Try.results19 rfl ⟨_, rfl, (fun h => by cases h), rfl⟩ (fun w h => h)
      · skip
        have h3 : ¬ ((2 : Int) < x.k) := h3
        refine WP.valG rfl rfl rfl rfl rfl rfl rfl (Val.fieldAddr (j := 1) rfl Ty.fo45_1 rfl rfl) ?_
        refine WP.valG rfl rfl rfl rfl rfl rfl rfl (Val.load rfl Ty.sc9 rfl (fun w h => h.cell 0 rfl rfl)) ?_
        refine WP.effG rfl rfl rfl rfl rfl rfl rfl (Eff.call rfl rfl Try.call20 (key_does x.key)) ?_
        rintro _ _ ⟨_, ⟨rfl, rfl⟩, rfl⟩
        show WP _ _ _ _ _ _ _ (Blk b1 [.int .i64 (x.k), .string x.key, .string x.fin] 45 :: A :: F)
        refine WP.valG rfl rfl rfl rfl rfl rfl rfl (Val.notP rfl rfl) ?_
        refine WP.val rfl rfl rfl (Val.pickF rfl rfl rfl) ?_
        refine WP.val rfl rfl rfl (Val.move rfl rfl) ?_
        refine WP.split 25 rfl (fun h4 => ?_) (fun h4 => ?_)
        · skip
          have h4 : (¬ ((((x.key).size : Nat) : Int) ≤ 64)) := h4
          refine WP.skip rfl rfl rfl rfl rfl rfl rfl ?_
          refine WP.skip rfl rfl rfl rfl rfl rfl rfl ?_
          refine WP.skip rfl rfl rfl rfl rfl rfl rfl ?_
          refine WP.skip rfl rfl rfl rfl rfl rfl rfl ?_
          refine WP.val rfl rfl rfl (Val.pickT rfl rfl rfl) ?_
          refine WP.val rfl rfl rfl (Val.move rfl rfl) ?_
          refine WP.skip rfl rfl rfl rfl rfl rfl rfl ?_
          refine WP.skip rfl rfl rfl rfl rfl rfl rfl ?_
          refine WP.skip rfl rfl rfl rfl rfl rfl rfl ?_
          refine WP.skip rfl rfl rfl rfl rfl rfl rfl ?_
          refine WP.skip rfl rfl rfl rfl rfl rfl rfl ?_
          refine WP.skip rfl rfl rfl rfl rfl rfl rfl ?_
          refine WP.val rfl rfl rfl (Val.pickT rfl rfl rfl) ?_
          refine WP.nil ?_
          refine Out.next ?_
          refine WPc.condT rfl rfl ?_
          refine WPc.seq ?_
          refine WPc.region ?_
          refine WP.val rfl rfl rfl (Val.assign rfl rfl) ?_
          refine WP.nil ?_
          refine Out.next ?_
          refine WPc.ret ?_
          refine Out.block_ret ?_
          refine Out.then_ret ?_
          refine Out.then_ret ?_
          refine Out.block_ret ?_
          refine Out.then_ret ?_
          refine Out.drop ?_
          exact Out.ret1 (L' := [A]) Try.results19 rfl ⟨_, rfl, (fun h => by cases h), rfl⟩ (fun w h => h)
        · skip
          have h4 : ¬ (¬ ((((x.key).size : Nat) : Int) ≤ 64)) := h4
          refine WP.valG rfl rfl rfl rfl rfl rfl rfl (Val.fieldAddr (j := 2) rfl Ty.fo45_2 rfl rfl) ?_
          refine WP.valG rfl rfl rfl rfl rfl rfl rfl (Val.load rfl Ty.sc9 rfl (fun w h => h.cell 0 rfl rfl)) ?_
          refine WP.effG rfl rfl rfl rfl rfl rfl rfl (Eff.call rfl rfl Try.call20 (key_does x.fin)) ?_
          rintro _ _ ⟨_, ⟨rfl, rfl⟩, rfl⟩
          show WP _ _ _ _ _ _ _ (Blk b1 [.int .i64 (x.k), .string x.key, .string x.fin] 45 :: A :: F)
          refine WP.valG rfl rfl rfl rfl rfl rfl rfl (Val.notP rfl rfl) ?_
          refine WP.val rfl rfl rfl (Val.pickF rfl rfl rfl) ?_
          refine WP.val rfl rfl rfl (Val.move rfl rfl) ?_
          refine WP.split 31 rfl (fun h5 => ?_) (fun h5 => ?_)
          · skip
            have h5 : (¬ ((((x.fin).size : Nat) : Int) ≤ 64)) := h5
            refine WP.skip rfl rfl rfl rfl rfl rfl rfl ?_
            refine WP.skip rfl rfl rfl rfl rfl rfl rfl ?_
            refine WP.skip rfl rfl rfl rfl rfl rfl rfl ?_
            refine WP.skip rfl rfl rfl rfl rfl rfl rfl ?_
            refine WP.skip rfl rfl rfl rfl rfl rfl rfl ?_
            refine WP.skip rfl rfl rfl rfl rfl rfl rfl ?_
            refine WP.val rfl rfl rfl (Val.pickT rfl rfl rfl) ?_
            refine WP.nil ?_
            refine Out.next ?_
            refine WPc.condT rfl rfl ?_
            refine WPc.seq ?_
            refine WPc.region ?_
            refine WP.val rfl rfl rfl (Val.assign rfl rfl) ?_
            refine WP.nil ?_
            refine Out.next ?_
            refine WPc.ret ?_
            refine Out.block_ret ?_
            refine Out.then_ret ?_
            refine Out.then_ret ?_
            refine Out.block_ret ?_
            refine Out.then_ret ?_
            refine Out.drop ?_
            exact Out.ret1 (L' := [A]) Try.results19 rfl ⟨_, rfl, (fun h => by cases h), rfl⟩ (fun w h => h)
          · skip
            have h5 : ¬ (¬ ((((x.fin).size : Nat) : Int) ≤ 64)) := h5
            refine WP.valG rfl rfl rfl rfl rfl rfl rfl (Val.fieldAddr (j := 1) rfl Ty.fo45_1 rfl rfl) ?_
            refine WP.valG rfl rfl rfl rfl rfl rfl rfl (Val.load rfl Ty.sc9 rfl (fun w h => h.cell 0 rfl rfl)) ?_
            refine WP.valG rfl rfl rfl rfl rfl rfl rfl (Val.fieldAddr (j := 2) rfl Ty.fo45_2 rfl rfl) ?_
            refine WP.valG rfl rfl rfl rfl rfl rfl rfl (Val.load rfl Ty.sc9 rfl (fun w h => h.cell 0 rfl rfl)) ?_
            refine WP.effG rfl rfl rfl rfl rfl rfl rfl (Eff.call rfl rfl Try.call21 (vr_does x.key x.fin)) ?_
            rintro _ _ ⟨_, ⟨bv, rfl, hbv, rfl⟩, rfl⟩
            show WP _ _ _ _ _ _ _ (Blk b1 [.int .i64 (x.k), .string x.key, .string x.fin] 45 :: A :: F)
            refine WP.valG rfl rfl rfl rfl rfl rfl rfl (Val.not rfl rfl) ?_
            refine WP.val rfl rfl rfl (Val.pickF rfl rfl rfl) ?_
            refine WP.nil ?_
            refine Out.next ?_
            refine WPc.cond rfl (fun h6 => ?_) (fun h6 => ?_)
            · skip
              have h6 : (!bv) = true := h6
              refine WPc.seq ?_
              refine WPc.region ?_
              refine WP.val rfl rfl rfl (Val.assign rfl rfl) ?_
              refine WP.nil ?_
              refine Out.next ?_
              refine WPc.ret ?_
              refine Out.block_ret ?_
              refine Out.then_ret ?_
              refine Out.then_ret ?_
              refine Out.block_ret ?_
              refine Out.then_ret ?_
              refine Out.drop ?_
              exact Out.ret1 (L' := [A]) Try.results19 rfl ⟨_, rfl, (fun h => by cases h), rfl⟩ (fun w h => h)
            · skip
              have h6 : (!bv) = false := h6
              refine WPc.skip ?_
              refine Out.block ?_
              refine Out.next ?_
              refine WPc.region ?_
              refine WP.val rfl rfl rfl (Val.add (z := ((i + 1 : Nat) : Int)) rfl rfl rfl ((w64 (by omega) (by omega)).trans (by omega))) ?_
              refine WP.val rfl rfl rfl (Val.move rfl rfl) ?_
              refine WP.nil ?_
              refine Out.drop ?_
              refine Out.again (i + 1) ?_ ?_ ?_ ?_
              · exact ⟨by show i + 1 ≤ l.length; omega, all_more hall hx (pmok_of (b := true) (by omega) (by omega) (Decidable.byContradiction (by assumption)) (Decidable.byContradiction (by assumption)) (hbv (by simpa using ‹(!bv) = false›)))⟩
              · (first | omega | (dsimp only; omega))
              · exact (Sub.cons rfl (Sub.cons rfl (Sub.cons rfl (Sub.cons rfl (Sub.cons rfl Sub.nil)))))
              · exact (fun _ h => h)
  · skip
    have h1 : ¬ (((i : Nat) : Int) < ((l.length : Nat) : Int)) := h1
    refine WPc.exit ?_
    refine Out.then_exit ?_
    refine Out.then_exit ?_
    refine Out.block_exit ?_
    refine Out.next ?_
    refine WPc.seq ?_
    refine WPc.region ?_
    refine WP.val rfl rfl rfl (Val.move rfl rfl) ?_
    refine WP.val rfl rfl rfl (Val.len rfl Ty.sl39 rfl) ?_
    refine WP.val rfl rfl rfl (Val.leq rfl rfl rfl) ?_
    refine WP.val rfl rfl rfl (Val.assign rfl rfl) ?_
    refine WP.nil ?_
    refine Out.next ?_
    refine WPc.ret ?_
    exact Out.ret1 (L' := [A]) Try.results19 rfl ⟨_, rfl, (fun h => ⟨all_of hall (by first | omega | exact Nat.zero_le _), (by first | exact Nat.zero_le _ | (have h := of_decide_eq_true h; omega))⟩), rfl⟩ (fun w h => h)

theorem perms_spec (A : HProp) (l : List Pm) (hl : l.length ≤ 9223372036854775807) (va : Value) (hva : Rd A 3 Pm.cells va l) : Does Try.prog 19 [va] [A] (fun v L => ∃ b, v = .bool b ∧ (b = true → (∀ p ∈ l, PmOk p) ∧ l.length ≤ 12) ∧ L = [A]) := by
  rcases hva with ⟨b0, o0, c0, rfl, hr⟩ | ⟨rfl, a, c, rfl⟩
  · exact perms_row A l hl b0 o0 c0 hr
  · exact perms_nil A a c

theorem own_zero {W w : World} {L : List HProp} {b : Nat} (h : Sat W (Blk b [] 45 :: L) w) : Sat W (Own 45 3 (.slice (some ⟨b, 0, none⟩) 0 0) 0 [] :: L) w := Sat.ownMk (xs := []) (sp := []) h (Nat.le_refl _) rfl rfl (Nat.zero_le _)
theorem pm_all (l : List Pm) : (flatOf Pm.cells l).all (·.oneCell') = true := by
  rw [List.all_eq_true]
  intro v hv
  obtain ⟨p, hp, hv⟩ := List.mem_flatMap.1 hv
  simp only [Pm.cells, List.mem_cons, List.not_mem_nil, or_false] at hv
  rcases hv with rfl | rfl | rfl <;> rfl
theorem rows_flat {w : World} {b o k : Nat} {α : Type} {cf : α → List Value} (hk : ∀ x, (cf x).length = k) (hk0 : 0 < k) {l : List α} (h : ∀ (i : Nat) (x : α), l[i]? = some x → w.rangeAt b (o + i * k) (cf x)) : w.rangeAt b o (flatOf cf l) := by
  intro j v hj
  have hlt := (List.getElem?_eq_some_iff.1 hj).1
  rw [flatOf_length hk] at hlt
  have hi : j / k < l.length := Nat.div_lt_of_lt_mul (by rw [Nat.mul_comm]; exact hlt)
  have hx : l[j / k]? = some l[j / k] := List.getElem?_eq_getElem hi
  have e : j = j / k * k + j % k := by rw [Nat.mul_comm]; exact (Nat.div_add_mod j k).symm
  have h2 := flatOf_at hk l (j / k) (j % k) _ hx (Nat.mod_lt _ hk0)
  rw [← e, hj] at h2
  have h3 := h (j / k) _ hx (j % k) v h2.symm
  rw [show o + j / k * k + j % k = o + j by omega] at h3
  exact h3
theorem qE_ne {key key' fin : ByteArray} (h : fin.size ≠ 0) : qE key fin = qE key' fin := by unfold qE; rw [if_neg h, if_neg h]
theorem qE_plain {key fin : ByteArray} (h : fin.size ≠ 0) (ho : opn fin = false) : qE key fin = ka fin := by unfold qE; rw [if_neg h, ho]; rfl
/-- a range that a key divides -/
structure Div (fr mid to : ByteArray) : Prop where
  f0 : fr.size ≠ 0
  m0 : mid.size ≠ 0
  t0 : to.size ≠ 0
  fm : Op.bytesLess fr.toList mid.toList = true
  mt : opn to = true ∨ Op.bytesLess mid.toList to.toList = true
  mo : opn mid = false
theorem Div.vr1 {fr mid to : ByteArray} (h : Div fr mid to) : VR fr to := ⟨h.f0, .inr (h.mt.imp id (fun h2 => bl_trans h.fm h2))⟩
theorem Div.vr2 {fr mid to : ByteArray} (h : Div fr mid to) : VR fr mid := ⟨h.f0, .inr (.inr h.fm)⟩
theorem Div.vr3 {fr mid to : ByteArray} (h : Div fr mid to) : VR mid to := ⟨h.m0, .inr h.mt⟩
theorem Div.inI {fr mid to : ByteArray} (h : Div fr mid to) (p : Ky) : inI p (ka fr) (qE fr to) ↔ Ac.inI p (ka fr) (qE fr mid) ∨ Ac.inI p (ka mid) (qE mid to) := by
  rw [qE_plain (key := fr) h.m0 h.mo, qE_ne (key := fr) (key' := mid) h.t0]
  have h1 : klt (ka fr) (ka mid) := (klt_ka h.f0 h.m0).2 h.fm
  have h2 := vr_lt h.vr3
  unfold Ac.inI
  constructor
  · rintro ⟨a, b⟩
    by_cases h3 : klt p (ka mid)
    · exact .inl ⟨a, h3⟩
    · exact .inr ⟨h3, b⟩
  · rintro (⟨a, b⟩ | ⟨a, b⟩)
    · exact ⟨a, klt_trans b h2⟩
    · exact ⟨fun h4 => a (klt_trans h4 h1), b⟩
theorem div_cov {fr mid to : ByteArray} (h : Div fr mid to) {kd : Int} {l : List Pm} {ib ie : Ky} : Cov kd (l ++ [⟨kd, fr, to⟩]) ib ie ↔ Cov kd (l ++ [⟨kd, fr, mid⟩, ⟨kd, mid, to⟩]) ib ie := by
  constructor
  · intro hc p hp hin
    obtain ⟨r, hr, h1, h2⟩ := hc p hp hin
    rcases List.mem_append.1 hr with hr | hr
    · exact ⟨r, List.mem_append_left _ hr, h1, h2⟩
    · obtain rfl := List.mem_singleton.1 hr
      rcases (h.inI p).1 h2 with h3 | h3
      · exact ⟨⟨kd, fr, mid⟩, by simp, .inl rfl, h3⟩
      · exact ⟨⟨kd, mid, to⟩, by simp, .inl rfl, h3⟩
  · intro hc p hp hin
    obtain ⟨r, hr, h1, h2⟩ := hc p hp hin
    rcases List.mem_append.1 hr with hr | hr
    · exact ⟨r, List.mem_append_left _ hr, h1, h2⟩
    · refine ⟨⟨kd, fr, to⟩, by simp, .inl rfl, (h.inI p).2 ?_⟩
      rcases List.mem_cons.1 hr with rfl | hr
      · exact .inl h2
      · obtain rfl := List.mem_singleton.1 hr
        exact .inr h2
theorem div_all {fr mid to : ByteArray} (h : Div fr mid to) {kd : Int} {l : List Pm} : Cov kd (l ++ [⟨kd, fr, mid⟩, ⟨kd, mid, to⟩]) (ka fr) (qE fr to) := (div_cov h).1 (fun p hp hin => ⟨⟨kd, fr, to⟩, by simp, .inl rfl, hin⟩)
theorem ok_app {l m : List Pm} (h1 : ∀ p ∈ l, PmOk p) (h2 : ∀ p ∈ m, PmOk p) : ∀ p ∈ l ++ m, PmOk p := fun p hp => (List.mem_append.1 hp).elim (h1 p) (h2 p)
theorem flat1 (l : List Pm) (x : Pm) : [] ++ flatOf Pm.cells l ++ Pm.cells x = flatOf Pm.cells (l ++ [x]) := by rw [flatOf_append, List.nil_append, flatOf_one]
theorem flat2 (l : List Pm) (x y : Pm) : [] ++ flatOf Pm.cells l ++ (Pm.cells x ++ Pm.cells y) = flatOf Pm.cells (l ++ [x, y]) := by rw [flatOf_append, List.nil_append]; simp [flatOf]

theorem ne_of {x : ByteArray} (h : seq x ⟨#[]⟩ = false) : x.size ≠ 0 := by rw [seq_e] at h; exact of_decide_eq_false h
theorem lt_of {x y : ByteArray} (h : (!Op.bytesLess x.toList y.toList) = false) : Op.bytesLess x.toList y.toList = true := by simpa using h
theorem op_of {x : ByteArray} (h : (!seq x ⟨#[0]⟩) = false) : opn x = true := by rw [← seq0]; simpa using h
theorem op_no {x : ByteArray} (h : seq x ⟨#[0]⟩ = false) : opn x = false := by rw [← seq0]; exact h
theorem srcs_zero {W : World} {L : List HProp} {k c : Nat} {tx e' : TypeId} {k' b' : Nat} {a : Option Addr} (hk : slcE Try.prog tx = some (e', k', b')) : Srcs Try.prog W L k tx (.slice a 0 c) 0 [] := by
  cases a with
  | none => exact .nil hk
  | some p => exact .slice hk (by simp) rfl (fun w h j u hj => by simp at hj)
theorem div_of {fr mid to : ByteArray} (h1 : fr.size ≠ 0) (h2 : Op.bytesLess fr.toList mid.toList = true) (h3 : opn to = true ∨ Op.bytesLess mid.toList to.toList = true) (h4 : opn mid = false) : Div fr mid to := by
  have hne : ∀ {x y : ByteArray}, Op.bytesLess x.toList y.toList = true → y.size ≠ 0 := fun {x y} h e => by
    have : y.toList = [] := List.eq_nil_of_length_eq_zero (by rw [ByteArray.toList_eq, Array.length_toList]; exact e)
    rw [this] at h; cases hx : x.toList <;> simp [hx, Op.bytesLess] at h
  refine ⟨h1, hne h2, ?_, h2, h3, h4⟩
  rcases h3 with h3 | h3
  · intro e
    have h5 : to.toList = [0] := of_decide_eq_true h3
    have h6 := congrArg List.length h5
    rw [ByteArray.toList_eq, Array.length_toList] at h6
    have : to.size = 1 := h6
    omega
  · exact hne h3
set_option maxRecDepth 100000 in
set_option maxHeartbeats 2000000 in
theorem splits_nil (A : HProp) (fr mid to key fin : ByteArray) (kind : Int) (a : Option Addr) (c : Nat) : Does Try.prog 5 [.slice a 0 c, .string fr, .string mid, .string to, .string key, .string fin, .int .i64 (kind)] [A] (fun v L => v = .bool true ∧ L = [A]) := by
  refine Does.enter 152 Try.func5 rfl rfl rfl fun W F => ?_
  show WPc _ _ _ _ _ [(0, .slice a 0 c), (1, .string fr), (2, .string mid), (3, .string to), (4, .string key), (5, .string fin), (6, .int .i64 (kind))] (A :: F)
  refine WPc.seq ?_
  refine WPc.region ?_
  refine WP.val rfl rfl rfl (Val.assign rfl rfl) ?_
  refine WP.nil ?_
  refine Out.next ?_
  refine WPc.seq ?_
  refine WPc.seq ?_
  refine WPc.region ?_
  refine WP.val rfl rfl rfl (Val.move rfl rfl) ?_
  refine WP.eff rfl rfl rfl (Eff.call rfl rfl Try.call18 (fits4_spec A (([] : List Pm)) (Nat.zero_le _) (.slice a 0 c) (.inr ⟨rfl, a, c, rfl⟩))) ?_
  rintro _ _ ⟨_, ⟨q1, rfl, hq1, rfl⟩, rfl⟩
  show WP _ _ _ _ _ _ _ (A :: F)
  refine WP.val rfl rfl rfl (Val.not rfl rfl) ?_
  refine WP.val rfl rfl rfl (Val.move rfl rfl) ?_
  refine WP.splitB 20 rfl (fun h1 => ?_) (fun h1 => ?_)
  · skip
    refine WP.skip rfl rfl rfl rfl rfl rfl rfl ?_
    refine WP.skip rfl rfl rfl rfl rfl rfl rfl ?_
    refine WP.skip rfl rfl rfl rfl rfl rfl rfl ?_
    refine WP.val rfl rfl rfl (Val.pickT rfl rfl rfl) ?_
    refine WP.val rfl rfl rfl (Val.move rfl rfl) ?_
    refine WP.skip rfl rfl rfl rfl rfl rfl rfl ?_
    refine WP.skip rfl rfl rfl rfl rfl rfl rfl ?_
    refine WP.skip rfl rfl rfl rfl rfl rfl rfl ?_
    refine WP.val rfl rfl rfl (Val.pickT rfl rfl rfl) ?_
    refine WP.val rfl rfl rfl (Val.move rfl rfl) ?_
    refine WP.skip rfl rfl rfl rfl rfl rfl rfl ?_
    refine WP.skip rfl rfl rfl rfl rfl rfl rfl ?_
    refine WP.skip rfl rfl rfl rfl rfl rfl rfl ?_
    refine WP.val rfl rfl rfl (Val.pickT rfl rfl rfl) ?_
    refine WP.val rfl rfl rfl (Val.move rfl rfl) ?_
    refine WP.skip rfl rfl rfl rfl rfl rfl rfl ?_
    refine WP.skip rfl rfl rfl rfl rfl rfl rfl ?_
    refine WP.skip rfl rfl rfl rfl rfl rfl rfl ?_
    refine WP.val rfl rfl rfl (Val.pickT rfl rfl rfl) ?_
    refine WP.val rfl rfl rfl (Val.move rfl rfl) ?_
    refine WP.skip rfl rfl rfl rfl rfl rfl rfl ?_
    refine WP.skip rfl rfl rfl rfl rfl rfl rfl ?_
    refine WP.skip rfl rfl rfl rfl rfl rfl rfl ?_
    refine WP.val rfl rfl rfl (Val.pickT rfl rfl rfl) ?_
    refine WP.nil ?_
    refine Out.next ?_
    refine WPc.condT rfl rfl ?_
    refine WPc.seq ?_
    refine WPc.region ?_
    refine WP.val rfl rfl rfl (Val.assign rfl rfl) ?_
    refine WP.nil ?_
    refine Out.next ?_
    refine WPc.ret ?_
    refine Out.then_ret ?_
    exact Out.ret1 (L' := [A]) Try.results5 rfl ⟨rfl, rfl⟩ (fun w h => h)
  · skip
    refine WP.valG rfl rfl rfl rfl rfl rfl rfl (Val.move rfl rfl) ?_
    refine WP.valG rfl rfl rfl rfl rfl rfl rfl (Val.lenS rfl Ty.st9 rfl) ?_
    refine WP.valG rfl rfl rfl rfl rfl rfl rfl (Val.gtr rfl rfl rfl) ?_
    refine WP.val rfl rfl rfl (Val.pickF rfl rfl rfl) ?_
    refine WP.val rfl rfl rfl (Val.move rfl rfl) ?_
    refine WP.split 25 rfl (fun h2 => ?_) (fun h2 => ?_)
    · skip
      have h2 : ((2147483647 : Int) < (((fr).size : Nat) : Int)) := h2
      refine WP.skip rfl rfl rfl rfl rfl rfl rfl ?_
      refine WP.skip rfl rfl rfl rfl rfl rfl rfl ?_
      refine WP.skip rfl rfl rfl rfl rfl rfl rfl ?_
      refine WP.val rfl rfl rfl (Val.pickT rfl rfl rfl) ?_
      refine WP.val rfl rfl rfl (Val.move rfl rfl) ?_
      refine WP.skip rfl rfl rfl rfl rfl rfl rfl ?_
      refine WP.skip rfl rfl rfl rfl rfl rfl rfl ?_
      refine WP.skip rfl rfl rfl rfl rfl rfl rfl ?_
      refine WP.val rfl rfl rfl (Val.pickT rfl rfl rfl) ?_
      refine WP.val rfl rfl rfl (Val.move rfl rfl) ?_
      refine WP.skip rfl rfl rfl rfl rfl rfl rfl ?_
      refine WP.skip rfl rfl rfl rfl rfl rfl rfl ?_
      refine WP.skip rfl rfl rfl rfl rfl rfl rfl ?_
      refine WP.val rfl rfl rfl (Val.pickT rfl rfl rfl) ?_
      refine WP.val rfl rfl rfl (Val.move rfl rfl) ?_
      refine WP.skip rfl rfl rfl rfl rfl rfl rfl ?_
      refine WP.skip rfl rfl rfl rfl rfl rfl rfl ?_
      refine WP.skip rfl rfl rfl rfl rfl rfl rfl ?_
      refine WP.val rfl rfl rfl (Val.pickT rfl rfl rfl) ?_
      refine WP.nil ?_
      refine Out.next ?_
      refine WPc.condT rfl rfl ?_
      refine WPc.seq ?_
      refine WPc.region ?_
      refine WP.val rfl rfl rfl (Val.assign rfl rfl) ?_
      refine WP.nil ?_
      refine Out.next ?_
      refine WPc.ret ?_
      refine Out.then_ret ?_
      exact Out.ret1 (L' := [A]) Try.results5 rfl ⟨rfl, rfl⟩ (fun w h => h)
    · skip
      have h2 : ¬ ((2147483647 : Int) < (((fr).size : Nat) : Int)) := h2
      refine WP.valG rfl rfl rfl rfl rfl rfl rfl (Val.move rfl rfl) ?_
      refine WP.valG rfl rfl rfl rfl rfl rfl rfl (Val.lenS rfl Ty.st9 rfl) ?_
      refine WP.valG rfl rfl rfl rfl rfl rfl rfl (Val.gtr rfl rfl rfl) ?_
      refine WP.val rfl rfl rfl (Val.pickF rfl rfl rfl) ?_
      refine WP.val rfl rfl rfl (Val.move rfl rfl) ?_
      refine WP.split 30 rfl (fun h3 => ?_) (fun h3 => ?_)
      · skip
        have h3 : ((2147483647 : Int) < (((mid).size : Nat) : Int)) := h3
        refine WP.skip rfl rfl rfl rfl rfl rfl rfl ?_
        refine WP.skip rfl rfl rfl rfl rfl rfl rfl ?_
        refine WP.skip rfl rfl rfl rfl rfl rfl rfl ?_
        refine WP.val rfl rfl rfl (Val.pickT rfl rfl rfl) ?_
        refine WP.val rfl rfl rfl (Val.move rfl rfl) ?_
        refine WP.skip rfl rfl rfl rfl rfl rfl rfl ?_
        refine WP.skip rfl rfl rfl rfl rfl rfl rfl ?_
        refine WP.skip rfl rfl rfl rfl rfl rfl rfl ?_
        refine WP.val rfl rfl rfl (Val.pickT rfl rfl rfl) ?_
        refine WP.val rfl rfl rfl (Val.move rfl rfl) ?_
        refine WP.skip rfl rfl rfl rfl rfl rfl rfl ?_
        refine WP.skip rfl rfl rfl rfl rfl rfl rfl ?_
        refine WP.skip rfl rfl rfl rfl rfl rfl rfl ?_
        refine WP.val rfl rfl rfl (Val.pickT rfl rfl rfl) ?_
        refine WP.nil ?_
        refine Out.next ?_
        refine WPc.condT rfl rfl ?_
        refine WPc.seq ?_
        refine WPc.region ?_
        refine WP.val rfl rfl rfl (Val.assign rfl rfl) ?_
        refine WP.nil ?_
        refine Out.next ?_
        refine WPc.ret ?_
        refine Out.then_ret ?_
        exact Out.ret1 (L' := [A]) Try.results5 rfl ⟨rfl, rfl⟩ (fun w h => h)
      · skip
        have h3 : ¬ ((2147483647 : Int) < (((mid).size : Nat) : Int)) := h3
        refine WP.valG rfl rfl rfl rfl rfl rfl rfl (Val.move rfl rfl) ?_
        refine WP.valG rfl rfl rfl rfl rfl rfl rfl (Val.lenS rfl Ty.st9 rfl) ?_
        refine WP.valG rfl rfl rfl rfl rfl rfl rfl (Val.gtr rfl rfl rfl) ?_
        refine WP.val rfl rfl rfl (Val.pickF rfl rfl rfl) ?_
        refine WP.val rfl rfl rfl (Val.move rfl rfl) ?_
        refine WP.split 35 rfl (fun h4 => ?_) (fun h4 => ?_)
        · skip
          have h4 : ((2147483647 : Int) < (((to).size : Nat) : Int)) := h4
          refine WP.skip rfl rfl rfl rfl rfl rfl rfl ?_
          refine WP.skip rfl rfl rfl rfl rfl rfl rfl ?_
          refine WP.skip rfl rfl rfl rfl rfl rfl rfl ?_
          refine WP.val rfl rfl rfl (Val.pickT rfl rfl rfl) ?_
          refine WP.val rfl rfl rfl (Val.move rfl rfl) ?_
          refine WP.skip rfl rfl rfl rfl rfl rfl rfl ?_
          refine WP.skip rfl rfl rfl rfl rfl rfl rfl ?_
          refine WP.skip rfl rfl rfl rfl rfl rfl rfl ?_
          refine WP.val rfl rfl rfl (Val.pickT rfl rfl rfl) ?_
          refine WP.nil ?_
          refine Out.next ?_
          refine WPc.condT rfl rfl ?_
          refine WPc.seq ?_
          refine WPc.region ?_
          refine WP.val rfl rfl rfl (Val.assign rfl rfl) ?_
          refine WP.nil ?_
          refine Out.next ?_
          refine WPc.ret ?_
          refine Out.then_ret ?_
          exact Out.ret1 (L' := [A]) Try.results5 rfl ⟨rfl, rfl⟩ (fun w h => h)
        · skip
          have h4 : ¬ ((2147483647 : Int) < (((to).size : Nat) : Int)) := h4
          refine WP.valG rfl rfl rfl rfl rfl rfl rfl (Val.move rfl rfl) ?_
          refine WP.valG rfl rfl rfl rfl rfl rfl rfl (Val.lenS rfl Ty.st9 rfl) ?_
          refine WP.valG rfl rfl rfl rfl rfl rfl rfl (Val.gtr rfl rfl rfl) ?_
          refine WP.val rfl rfl rfl (Val.pickF rfl rfl rfl) ?_
          refine WP.val rfl rfl rfl (Val.move rfl rfl) ?_
          refine WP.split 40 rfl (fun h5 => ?_) (fun h5 => ?_)
          · skip
            have h5 : ((2147483647 : Int) < (((key).size : Nat) : Int)) := h5
            refine WP.skip rfl rfl rfl rfl rfl rfl rfl ?_
            refine WP.skip rfl rfl rfl rfl rfl rfl rfl ?_
            refine WP.skip rfl rfl rfl rfl rfl rfl rfl ?_
            refine WP.val rfl rfl rfl (Val.pickT rfl rfl rfl) ?_
            refine WP.nil ?_
            refine Out.next ?_
            refine WPc.condT rfl rfl ?_
            refine WPc.seq ?_
            refine WPc.region ?_
            refine WP.val rfl rfl rfl (Val.assign rfl rfl) ?_
            refine WP.nil ?_
            refine Out.next ?_
            refine WPc.ret ?_
            refine Out.then_ret ?_
            exact Out.ret1 (L' := [A]) Try.results5 rfl ⟨rfl, rfl⟩ (fun w h => h)
          · skip
            have h5 : ¬ ((2147483647 : Int) < (((key).size : Nat) : Int)) := h5
            refine WP.valG rfl rfl rfl rfl rfl rfl rfl (Val.move rfl rfl) ?_
            refine WP.valG rfl rfl rfl rfl rfl rfl rfl (Val.lenS rfl Ty.st9 rfl) ?_
            refine WP.valG rfl rfl rfl rfl rfl rfl rfl (Val.gtr rfl rfl rfl) ?_
            refine WP.val rfl rfl rfl (Val.pickF rfl rfl rfl) ?_
            refine WP.nil ?_
            refine Out.next ?_
            refine WPc.ifP rfl (fun h6 => ?_) (fun h6 => ?_)
            · skip
              have h6 : ((2147483647 : Int) < (((fin).size : Nat) : Int)) := h6
              refine WPc.seq ?_
              refine WPc.region ?_
              refine WP.val rfl rfl rfl (Val.assign rfl rfl) ?_
              refine WP.nil ?_
              refine Out.next ?_
              refine WPc.ret ?_
              refine Out.then_ret ?_
              exact Out.ret1 (L' := [A]) Try.results5 rfl ⟨rfl, rfl⟩ (fun w h => h)
            · skip
              have h6 : ¬ ((2147483647 : Int) < (((fin).size : Nat) : Int)) := h6
              refine WPc.skip ?_
              refine Out.next ?_
              refine WPc.seq ?_
              refine WPc.seq ?_
              refine WPc.region ?_
              refine WP.val rfl rfl rfl (Val.move rfl rfl) ?_
              refine WP.eff rfl rfl rfl (Eff.call rfl rfl Try.call19 (perms_spec A (([] : List Pm)) (Nat.zero_le _) (.slice a 0 c) (.inr ⟨rfl, a, c, rfl⟩))) ?_
              rintro _ _ ⟨_, ⟨q2, rfl, hq2, rfl⟩, rfl⟩
              show WP _ _ _ _ _ _ _ (A :: F)
              refine WP.val rfl rfl rfl (Val.not rfl rfl) ?_
              refine WP.val rfl rfl rfl (Val.move rfl rfl) ?_
              refine WP.splitB 48 rfl (fun h7 => ?_) (fun h7 => ?_)
              · skip
                refine WP.skip rfl rfl rfl rfl rfl rfl rfl ?_
                refine WP.skip rfl rfl rfl rfl rfl rfl rfl ?_
                refine WP.skip rfl rfl rfl rfl rfl rfl rfl ?_
                refine WP.val rfl rfl rfl (Val.pickT rfl rfl rfl) ?_
                refine WP.val rfl rfl rfl (Val.move rfl rfl) ?_
                refine WP.skip rfl rfl rfl rfl rfl rfl rfl ?_
                refine WP.skip rfl rfl rfl rfl rfl rfl rfl ?_
                refine WP.val rfl rfl rfl (Val.pickT rfl rfl rfl) ?_
                refine WP.val rfl rfl rfl (Val.move rfl rfl) ?_
                refine WP.skip rfl rfl rfl rfl rfl rfl rfl ?_
                refine WP.skip rfl rfl rfl rfl rfl rfl rfl ?_
                refine WP.val rfl rfl rfl (Val.pickT rfl rfl rfl) ?_
                refine WP.val rfl rfl rfl (Val.move rfl rfl) ?_
                refine WP.skip rfl rfl rfl rfl rfl rfl rfl ?_
                refine WP.skip rfl rfl rfl rfl rfl rfl rfl ?_
                refine WP.skip rfl rfl rfl rfl rfl rfl rfl ?_
                refine WP.val rfl rfl rfl (Val.pickT rfl rfl rfl) ?_
                refine WP.val rfl rfl rfl (Val.move rfl rfl) ?_
                refine WP.skip rfl rfl rfl rfl rfl rfl rfl ?_
                refine WP.skip rfl rfl rfl rfl rfl rfl rfl ?_
                refine WP.skip rfl rfl rfl rfl rfl rfl rfl ?_
                refine WP.val rfl rfl rfl (Val.pickT rfl rfl rfl) ?_
                refine WP.val rfl rfl rfl (Val.move rfl rfl) ?_
                refine WP.skip rfl rfl rfl rfl rfl rfl rfl ?_
                refine WP.skip rfl rfl rfl rfl rfl rfl rfl ?_
                refine WP.skip rfl rfl rfl rfl rfl rfl rfl ?_
                refine WP.skip rfl rfl rfl rfl rfl rfl rfl ?_
                refine WP.val rfl rfl rfl (Val.pickT rfl rfl rfl) ?_
                refine WP.nil ?_
                refine Out.next ?_
                refine WPc.condT rfl rfl ?_
                refine WPc.seq ?_
                refine WPc.region ?_
                refine WP.val rfl rfl rfl (Val.assign rfl rfl) ?_
                refine WP.nil ?_
                refine Out.next ?_
                refine WPc.ret ?_
                refine Out.then_ret ?_
                exact Out.ret1 (L' := [A]) Try.results5 rfl ⟨rfl, rfl⟩ (fun w h => h)
              · skip
                refine WP.valG rfl rfl rfl rfl rfl rfl rfl (Val.move rfl rfl) ?_
                refine WP.valG rfl rfl rfl rfl rfl rfl rfl (Val.len rfl Ty.sl39 rfl) ?_
                refine WP.valG rfl rfl rfl rfl rfl rfl rfl (Val.boolK (q := false) (Val.gtr rfl rfl rfl) (by decide)) ?_
                refine WP.val rfl rfl rfl (Val.pickF rfl rfl rfl) ?_
                refine WP.val rfl rfl rfl (Val.move rfl rfl) ?_
                refine WP.valG rfl rfl rfl rfl rfl rfl rfl (Val.move rfl rfl) ?_
                refine WP.valG rfl rfl rfl rfl rfl rfl rfl (Val.lss rfl rfl rfl) ?_
                refine WP.val rfl rfl rfl (Val.pickF rfl rfl rfl) ?_
                refine WP.val rfl rfl rfl (Val.move rfl rfl) ?_
                refine WP.split 57 rfl (fun h8 => ?_) (fun h8 => ?_)
                · skip
                  have h8 : (kind < (0 : Int)) := h8
                  refine WP.skip rfl rfl rfl rfl rfl rfl rfl ?_
                  refine WP.skip rfl rfl rfl rfl rfl rfl rfl ?_
                  refine WP.val rfl rfl rfl (Val.pickT rfl rfl rfl) ?_
                  refine WP.val rfl rfl rfl (Val.move rfl rfl) ?_
                  refine WP.skip rfl rfl rfl rfl rfl rfl rfl ?_
                  refine WP.skip rfl rfl rfl rfl rfl rfl rfl ?_
                  refine WP.skip rfl rfl rfl rfl rfl rfl rfl ?_
                  refine WP.val rfl rfl rfl (Val.pickT rfl rfl rfl) ?_
                  refine WP.val rfl rfl rfl (Val.move rfl rfl) ?_
                  refine WP.skip rfl rfl rfl rfl rfl rfl rfl ?_
                  refine WP.skip rfl rfl rfl rfl rfl rfl rfl ?_
                  refine WP.skip rfl rfl rfl rfl rfl rfl rfl ?_
                  refine WP.val rfl rfl rfl (Val.pickT rfl rfl rfl) ?_
                  refine WP.val rfl rfl rfl (Val.move rfl rfl) ?_
                  refine WP.skip rfl rfl rfl rfl rfl rfl rfl ?_
                  refine WP.skip rfl rfl rfl rfl rfl rfl rfl ?_
                  refine WP.skip rfl rfl rfl rfl rfl rfl rfl ?_
                  refine WP.skip rfl rfl rfl rfl rfl rfl rfl ?_
                  refine WP.val rfl rfl rfl (Val.pickT rfl rfl rfl) ?_
                  refine WP.nil ?_
                  refine Out.next ?_
                  refine WPc.condT rfl rfl ?_
                  refine WPc.seq ?_
                  refine WPc.region ?_
                  refine WP.val rfl rfl rfl (Val.assign rfl rfl) ?_
                  refine WP.nil ?_
                  refine Out.next ?_
                  refine WPc.ret ?_
                  refine Out.then_ret ?_
                  exact Out.ret1 (L' := [A]) Try.results5 rfl ⟨rfl, rfl⟩ (fun w h => h)
                · skip
                  have h8 : ¬ (kind < (0 : Int)) := h8
                  refine WP.valG rfl rfl rfl rfl rfl rfl rfl (Val.move rfl rfl) ?_
                  refine WP.valG rfl rfl rfl rfl rfl rfl rfl (Val.gtr rfl rfl rfl) ?_
                  refine WP.val rfl rfl rfl (Val.pickF rfl rfl rfl) ?_
                  refine WP.val rfl rfl rfl (Val.move rfl rfl) ?_
                  refine WP.split 61 rfl (fun h9 => ?_) (fun h9 => ?_)
                  · skip
                    have h9 : ((1 : Int) < kind) := h9
                    refine WP.skip rfl rfl rfl rfl rfl rfl rfl ?_
                    refine WP.skip rfl rfl rfl rfl rfl rfl rfl ?_
                    refine WP.skip rfl rfl rfl rfl rfl rfl rfl ?_
                    refine WP.val rfl rfl rfl (Val.pickT rfl rfl rfl) ?_
                    refine WP.val rfl rfl rfl (Val.move rfl rfl) ?_
                    refine WP.skip rfl rfl rfl rfl rfl rfl rfl ?_
                    refine WP.skip rfl rfl rfl rfl rfl rfl rfl ?_
                    refine WP.skip rfl rfl rfl rfl rfl rfl rfl ?_
                    refine WP.val rfl rfl rfl (Val.pickT rfl rfl rfl) ?_
                    refine WP.val rfl rfl rfl (Val.move rfl rfl) ?_
                    refine WP.skip rfl rfl rfl rfl rfl rfl rfl ?_
                    refine WP.skip rfl rfl rfl rfl rfl rfl rfl ?_
                    refine WP.skip rfl rfl rfl rfl rfl rfl rfl ?_
                    refine WP.skip rfl rfl rfl rfl rfl rfl rfl ?_
                    refine WP.val rfl rfl rfl (Val.pickT rfl rfl rfl) ?_
                    refine WP.nil ?_
                    refine Out.next ?_
                    refine WPc.condT rfl rfl ?_
                    refine WPc.seq ?_
                    refine WPc.region ?_
                    refine WP.val rfl rfl rfl (Val.assign rfl rfl) ?_
                    refine WP.nil ?_
                    refine Out.next ?_
                    refine WPc.ret ?_
                    refine Out.then_ret ?_
                    exact Out.ret1 (L' := [A]) Try.results5 rfl ⟨rfl, rfl⟩ (fun w h => h)
                  · skip
                    have h9 : ¬ ((1 : Int) < kind) := h9
                    refine WP.valG rfl rfl rfl rfl rfl rfl rfl (Val.move rfl rfl) ?_
                    refine WP.effG rfl rfl rfl rfl rfl rfl rfl (Eff.call rfl rfl Try.call20 (key_does key)) ?_
                    rintro _ _ ⟨_, ⟨rfl, rfl⟩, rfl⟩
                    show WP _ _ _ _ _ _ _ (A :: F)
                    refine WP.valG rfl rfl rfl rfl rfl rfl rfl (Val.notP rfl rfl) ?_
                    refine WP.val rfl rfl rfl (Val.pickF rfl rfl rfl) ?_
                    refine WP.val rfl rfl rfl (Val.move rfl rfl) ?_
                    refine WP.split 66 rfl (fun h10 => ?_) (fun h10 => ?_)
                    · skip
                      have h10 : (¬ ((((key).size : Nat) : Int) ≤ 64)) := h10
                      refine WP.skip rfl rfl rfl rfl rfl rfl rfl ?_
                      refine WP.skip rfl rfl rfl rfl rfl rfl rfl ?_
                      refine WP.skip rfl rfl rfl rfl rfl rfl rfl ?_
                      refine WP.val rfl rfl rfl (Val.pickT rfl rfl rfl) ?_
                      refine WP.val rfl rfl rfl (Val.move rfl rfl) ?_
                      refine WP.skip rfl rfl rfl rfl rfl rfl rfl ?_
                      refine WP.skip rfl rfl rfl rfl rfl rfl rfl ?_
                      refine WP.skip rfl rfl rfl rfl rfl rfl rfl ?_
                      refine WP.skip rfl rfl rfl rfl rfl rfl rfl ?_
                      refine WP.val rfl rfl rfl (Val.pickT rfl rfl rfl) ?_
                      refine WP.nil ?_
                      refine Out.next ?_
                      refine WPc.condT rfl rfl ?_
                      refine WPc.seq ?_
                      refine WPc.region ?_
                      refine WP.val rfl rfl rfl (Val.assign rfl rfl) ?_
                      refine WP.nil ?_
                      refine Out.next ?_
                      refine WPc.ret ?_
                      refine Out.then_ret ?_
                      exact Out.ret1 (L' := [A]) Try.results5 rfl ⟨rfl, rfl⟩ (fun w h => h)
                    · skip
                      have h10 : ¬ (¬ ((((key).size : Nat) : Int) ≤ 64)) := h10
                      refine WP.valG rfl rfl rfl rfl rfl rfl rfl (Val.move rfl rfl) ?_
                      refine WP.effG rfl rfl rfl rfl rfl rfl rfl (Eff.call rfl rfl Try.call20 (key_does fin)) ?_
                      rintro _ _ ⟨_, ⟨rfl, rfl⟩, rfl⟩
                      show WP _ _ _ _ _ _ _ (A :: F)
                      refine WP.valG rfl rfl rfl rfl rfl rfl rfl (Val.notP rfl rfl) ?_
                      refine WP.val rfl rfl rfl (Val.pickF rfl rfl rfl) ?_
                      refine WP.val rfl rfl rfl (Val.move rfl rfl) ?_
                      refine WP.split 71 rfl (fun h11 => ?_) (fun h11 => ?_)
                      · skip
                        have h11 : (¬ ((((fin).size : Nat) : Int) ≤ 64)) := h11
                        refine WP.skip rfl rfl rfl rfl rfl rfl rfl ?_
                        refine WP.skip rfl rfl rfl rfl rfl rfl rfl ?_
                        refine WP.skip rfl rfl rfl rfl rfl rfl rfl ?_
                        refine WP.skip rfl rfl rfl rfl rfl rfl rfl ?_
                        refine WP.val rfl rfl rfl (Val.pickT rfl rfl rfl) ?_
                        refine WP.nil ?_
                        refine Out.next ?_
                        refine WPc.condT rfl rfl ?_
                        refine WPc.seq ?_
                        refine WPc.region ?_
                        refine WP.val rfl rfl rfl (Val.assign rfl rfl) ?_
                        refine WP.nil ?_
                        refine Out.next ?_
                        refine WPc.ret ?_
                        refine Out.then_ret ?_
                        exact Out.ret1 (L' := [A]) Try.results5 rfl ⟨rfl, rfl⟩ (fun w h => h)
                      · skip
                        have h11 : ¬ (¬ ((((fin).size : Nat) : Int) ≤ 64)) := h11
                        refine WP.valG rfl rfl rfl rfl rfl rfl rfl (Val.move rfl rfl) ?_
                        refine WP.valG rfl rfl rfl rfl rfl rfl rfl (Val.move rfl rfl) ?_
                        refine WP.effG rfl rfl rfl rfl rfl rfl rfl (Eff.call rfl rfl Try.call21 (vr_does key fin)) ?_
                        rintro _ _ ⟨_, ⟨q3, rfl, hq3, rfl⟩, rfl⟩
                        show WP _ _ _ _ _ _ _ (A :: F)
                        refine WP.valG rfl rfl rfl rfl rfl rfl rfl (Val.not rfl rfl) ?_
                        refine WP.val rfl rfl rfl (Val.pickF rfl rfl rfl) ?_
                        refine WP.nil ?_
                        refine Out.next ?_
                        refine WPc.cond rfl (fun h12 => ?_) (fun h12 => ?_)
                        · skip
                          have h12 : (!q3) = true := h12
                          refine WPc.seq ?_
                          refine WPc.region ?_
                          refine WP.val rfl rfl rfl (Val.assign rfl rfl) ?_
                          refine WP.nil ?_
                          refine Out.next ?_
                          refine WPc.ret ?_
                          refine Out.then_ret ?_
                          exact Out.ret1 (L' := [A]) Try.results5 rfl ⟨rfl, rfl⟩ (fun w h => h)
                        · skip
                          have h12 : (!q3) = false := h12
                          refine WPc.skip ?_
                          refine Out.next ?_
                          refine WPc.seq ?_
                          refine WPc.seq ?_
                          refine WPc.region ?_
                          refine WP.val rfl rfl rfl (Val.move rfl rfl) ?_
                          refine WP.val rfl rfl rfl (Val.eqlS rfl rfl rfl) ?_
                          refine WP.val rfl rfl rfl (Val.move rfl rfl) ?_
                          refine WP.splitB 79 rfl (fun h13 => ?_) (fun h13 => ?_)
                          · skip
                            refine WP.skip rfl rfl rfl rfl rfl rfl rfl ?_
                            refine WP.skip rfl rfl rfl rfl rfl rfl rfl ?_
                            refine WP.skip rfl rfl rfl rfl rfl rfl rfl ?_
                            refine WP.val rfl rfl rfl (Val.pickT rfl rfl rfl) ?_
                            refine WP.val rfl rfl rfl (Val.move rfl rfl) ?_
                            refine WP.skip rfl rfl rfl rfl rfl rfl rfl ?_
                            refine WP.skip rfl rfl rfl rfl rfl rfl rfl ?_
                            refine WP.skip rfl rfl rfl rfl rfl rfl rfl ?_
                            refine WP.skipU rfl rfl rfl rfl rfl rfl ?_
                            refine WP.skipU rfl rfl rfl rfl rfl rfl ?_
                            refine WP.skipU rfl rfl rfl rfl rfl rfl ?_
                            refine WP.skip rfl rfl rfl rfl rfl rfl rfl ?_
                            refine WP.val rfl rfl rfl (Val.pickT rfl rfl rfl) ?_
                            refine WP.val rfl rfl rfl (Val.move rfl rfl) ?_
                            refine WP.skip rfl rfl rfl rfl rfl rfl rfl ?_
                            refine WP.skip rfl rfl rfl rfl rfl rfl rfl ?_
                            refine WP.skip rfl rfl rfl rfl rfl rfl rfl ?_
                            refine WP.val rfl rfl rfl (Val.pickT rfl rfl rfl) ?_
                            refine WP.val rfl rfl rfl (Val.move rfl rfl) ?_
                            refine WP.skip rfl rfl rfl rfl rfl rfl rfl ?_
                            refine WP.skip rfl rfl rfl rfl rfl rfl rfl ?_
                            refine WP.skip rfl rfl rfl rfl rfl rfl rfl ?_
                            refine WP.val rfl rfl rfl (Val.pickT rfl rfl rfl) ?_
                            refine WP.val rfl rfl rfl (Val.move rfl rfl) ?_
                            refine WP.skip rfl rfl rfl rfl rfl rfl rfl ?_
                            refine WP.skip rfl rfl rfl rfl rfl rfl rfl ?_
                            refine WP.skip rfl rfl rfl rfl rfl rfl rfl ?_
                            refine WP.val rfl rfl rfl (Val.pickT rfl rfl rfl) ?_
                            refine WP.val rfl rfl rfl (Val.move rfl rfl) ?_
                            refine WP.skip rfl rfl rfl rfl rfl rfl rfl ?_
                            refine WP.skip rfl rfl rfl rfl rfl rfl rfl ?_
                            refine WP.val rfl rfl rfl (Val.pickT rfl rfl rfl) ?_
                            refine WP.nil ?_
                            refine Out.next ?_
                            refine WPc.condT rfl rfl ?_
                            refine WPc.seq ?_
                            refine WPc.region ?_
                            refine WP.val rfl rfl rfl (Val.assign rfl rfl) ?_
                            refine WP.nil ?_
                            refine Out.next ?_
                            refine WPc.ret ?_
                            refine Out.then_ret ?_
                            exact Out.ret1 (L' := [A]) Try.results5 rfl ⟨rfl, rfl⟩ (fun w h => h)
                          · skip
                            refine WP.valG rfl rfl rfl rfl rfl rfl rfl (Val.move rfl rfl) ?_
                            refine WP.valG rfl rfl rfl rfl rfl rfl rfl (Val.move rfl rfl) ?_
                            refine WP.valG rfl rfl rfl rfl rfl rfl rfl (Val.leqS rfl rfl rfl) ?_
                            refine WP.val rfl rfl rfl (Val.pickF rfl rfl rfl) ?_
                            refine WP.val rfl rfl rfl (Val.move rfl rfl) ?_
                            refine WP.splitB 84 rfl (fun h14 => ?_) (fun h14 => ?_)
                            · skip
                              refine WP.skip rfl rfl rfl rfl rfl rfl rfl ?_
                              refine WP.skip rfl rfl rfl rfl rfl rfl rfl ?_
                              refine WP.skip rfl rfl rfl rfl rfl rfl rfl ?_
                              refine WP.skipU rfl rfl rfl rfl rfl rfl ?_
                              refine WP.skipU rfl rfl rfl rfl rfl rfl ?_
                              refine WP.skipU rfl rfl rfl rfl rfl rfl ?_
                              refine WP.skip rfl rfl rfl rfl rfl rfl rfl ?_
                              refine WP.val rfl rfl rfl (Val.pickT rfl rfl rfl) ?_
                              refine WP.val rfl rfl rfl (Val.move rfl rfl) ?_
                              refine WP.skip rfl rfl rfl rfl rfl rfl rfl ?_
                              refine WP.skip rfl rfl rfl rfl rfl rfl rfl ?_
                              refine WP.skip rfl rfl rfl rfl rfl rfl rfl ?_
                              refine WP.val rfl rfl rfl (Val.pickT rfl rfl rfl) ?_
                              refine WP.val rfl rfl rfl (Val.move rfl rfl) ?_
                              refine WP.skip rfl rfl rfl rfl rfl rfl rfl ?_
                              refine WP.skip rfl rfl rfl rfl rfl rfl rfl ?_
                              refine WP.skip rfl rfl rfl rfl rfl rfl rfl ?_
                              refine WP.val rfl rfl rfl (Val.pickT rfl rfl rfl) ?_
                              refine WP.val rfl rfl rfl (Val.move rfl rfl) ?_
                              refine WP.skip rfl rfl rfl rfl rfl rfl rfl ?_
                              refine WP.skip rfl rfl rfl rfl rfl rfl rfl ?_
                              refine WP.skip rfl rfl rfl rfl rfl rfl rfl ?_
                              refine WP.val rfl rfl rfl (Val.pickT rfl rfl rfl) ?_
                              refine WP.val rfl rfl rfl (Val.move rfl rfl) ?_
                              refine WP.skip rfl rfl rfl rfl rfl rfl rfl ?_
                              refine WP.skip rfl rfl rfl rfl rfl rfl rfl ?_
                              refine WP.val rfl rfl rfl (Val.pickT rfl rfl rfl) ?_
                              refine WP.nil ?_
                              refine Out.next ?_
                              refine WPc.condT rfl rfl ?_
                              refine WPc.seq ?_
                              refine WPc.region ?_
                              refine WP.val rfl rfl rfl (Val.assign rfl rfl) ?_
                              refine WP.nil ?_
                              refine Out.next ?_
                              refine WPc.ret ?_
                              refine Out.then_ret ?_
                              exact Out.ret1 (L' := [A]) Try.results5 rfl ⟨rfl, rfl⟩ (fun w h => h)
                            · skip
                              refine WP.valG rfl rfl rfl rfl rfl rfl rfl (Val.move rfl rfl) ?_
                              refine WP.valG rfl rfl rfl rfl rfl rfl rfl (Val.neqS rfl rfl rfl) ?_
                              refine WP.valG rfl rfl rfl rfl rfl rfl rfl (Val.move rfl rfl) ?_
                              refine WP.splitB 87 rfl (fun h15 => ?_) (fun h15 => ?_)
                              · skip
                                refine WP.valG rfl rfl rfl rfl rfl rfl rfl (Val.move rfl rfl) ?_
                                refine WP.valG rfl rfl rfl rfl rfl rfl rfl (Val.move rfl rfl) ?_
                                refine WP.valG rfl rfl rfl rfl rfl rfl rfl (Val.leqS rfl rfl rfl) ?_
                                refine WP.valG rfl rfl rfl rfl rfl rfl rfl (Val.pickT rfl rfl rfl) ?_
                                refine WP.val rfl rfl rfl (Val.pickF rfl rfl rfl) ?_
                                refine WP.val rfl rfl rfl (Val.move rfl rfl) ?_
                                refine WP.splitB 93 rfl (fun h16 => ?_) (fun h16 => ?_)
                                · skip
                                  refine WP.skip rfl rfl rfl rfl rfl rfl rfl ?_
                                  refine WP.skip rfl rfl rfl rfl rfl rfl rfl ?_
                                  refine WP.skip rfl rfl rfl rfl rfl rfl rfl ?_
                                  refine WP.val rfl rfl rfl (Val.pickT rfl rfl rfl) ?_
                                  refine WP.val rfl rfl rfl (Val.move rfl rfl) ?_
                                  refine WP.skip rfl rfl rfl rfl rfl rfl rfl ?_
                                  refine WP.skip rfl rfl rfl rfl rfl rfl rfl ?_
                                  refine WP.skip rfl rfl rfl rfl rfl rfl rfl ?_
                                  refine WP.val rfl rfl rfl (Val.pickT rfl rfl rfl) ?_
                                  refine WP.val rfl rfl rfl (Val.move rfl rfl) ?_
                                  refine WP.skip rfl rfl rfl rfl rfl rfl rfl ?_
                                  refine WP.skip rfl rfl rfl rfl rfl rfl rfl ?_
                                  refine WP.skip rfl rfl rfl rfl rfl rfl rfl ?_
                                  refine WP.val rfl rfl rfl (Val.pickT rfl rfl rfl) ?_
                                  refine WP.val rfl rfl rfl (Val.move rfl rfl) ?_
                                  refine WP.skip rfl rfl rfl rfl rfl rfl rfl ?_
                                  refine WP.skip rfl rfl rfl rfl rfl rfl rfl ?_
                                  refine WP.val rfl rfl rfl (Val.pickT rfl rfl rfl) ?_
                                  refine WP.nil ?_
                                  refine Out.next ?_
                                  refine WPc.condT rfl rfl ?_
                                  refine WPc.seq ?_
                                  refine WPc.region ?_
                                  refine WP.val rfl rfl rfl (Val.assign rfl rfl) ?_
                                  refine WP.nil ?_
                                  refine Out.next ?_
                                  refine WPc.ret ?_
                                  refine Out.then_ret ?_
                                  exact Out.ret1 (L' := [A]) Try.results5 rfl ⟨rfl, rfl⟩ (fun w h => h)
                                · skip
                                  refine WP.valG rfl rfl rfl rfl rfl rfl rfl (Val.move rfl rfl) ?_
                                  refine WP.effG rfl rfl rfl rfl rfl rfl rfl (Eff.call rfl rfl Try.call20 (key_does fr)) ?_
                                  rintro _ _ ⟨_, ⟨rfl, rfl⟩, rfl⟩
                                  show WP _ _ _ _ _ _ _ (A :: F)
                                  refine WP.valG rfl rfl rfl rfl rfl rfl rfl (Val.notP rfl rfl) ?_
                                  refine WP.val rfl rfl rfl (Val.pickF rfl rfl rfl) ?_
                                  refine WP.val rfl rfl rfl (Val.move rfl rfl) ?_
                                  refine WP.split 98 rfl (fun h17 => ?_) (fun h17 => ?_)
                                  · skip
                                    have h17 : (¬ ((((fr).size : Nat) : Int) ≤ 64)) := h17
                                    refine WP.skip rfl rfl rfl rfl rfl rfl rfl ?_
                                    refine WP.skip rfl rfl rfl rfl rfl rfl rfl ?_
                                    refine WP.skip rfl rfl rfl rfl rfl rfl rfl ?_
                                    refine WP.val rfl rfl rfl (Val.pickT rfl rfl rfl) ?_
                                    refine WP.val rfl rfl rfl (Val.move rfl rfl) ?_
                                    refine WP.skip rfl rfl rfl rfl rfl rfl rfl ?_
                                    refine WP.skip rfl rfl rfl rfl rfl rfl rfl ?_
                                    refine WP.skip rfl rfl rfl rfl rfl rfl rfl ?_
                                    refine WP.val rfl rfl rfl (Val.pickT rfl rfl rfl) ?_
                                    refine WP.val rfl rfl rfl (Val.move rfl rfl) ?_
                                    refine WP.skip rfl rfl rfl rfl rfl rfl rfl ?_
                                    refine WP.skip rfl rfl rfl rfl rfl rfl rfl ?_
                                    refine WP.val rfl rfl rfl (Val.pickT rfl rfl rfl) ?_
                                    refine WP.nil ?_
                                    refine Out.next ?_
                                    refine WPc.condT rfl rfl ?_
                                    refine WPc.seq ?_
                                    refine WPc.region ?_
                                    refine WP.val rfl rfl rfl (Val.assign rfl rfl) ?_
                                    refine WP.nil ?_
                                    refine Out.next ?_
                                    refine WPc.ret ?_
                                    refine Out.then_ret ?_
                                    exact Out.ret1 (L' := [A]) Try.results5 rfl ⟨rfl, rfl⟩ (fun w h => h)
                                  · skip
                                    have h17 : ¬ (¬ ((((fr).size : Nat) : Int) ≤ 64)) := h17
                                    refine WP.valG rfl rfl rfl rfl rfl rfl rfl (Val.move rfl rfl) ?_
                                    refine WP.effG rfl rfl rfl rfl rfl rfl rfl (Eff.call rfl rfl Try.call20 (key_does mid)) ?_
                                    rintro _ _ ⟨_, ⟨rfl, rfl⟩, rfl⟩
                                    show WP _ _ _ _ _ _ _ (A :: F)
                                    refine WP.valG rfl rfl rfl rfl rfl rfl rfl (Val.notP rfl rfl) ?_
                                    refine WP.val rfl rfl rfl (Val.pickF rfl rfl rfl) ?_
                                    refine WP.val rfl rfl rfl (Val.move rfl rfl) ?_
                                    refine WP.split 103 rfl (fun h18 => ?_) (fun h18 => ?_)
                                    · skip
                                      have h18 : (¬ ((((mid).size : Nat) : Int) ≤ 64)) := h18
                                      refine WP.skip rfl rfl rfl rfl rfl rfl rfl ?_
                                      refine WP.skip rfl rfl rfl rfl rfl rfl rfl ?_
                                      refine WP.skip rfl rfl rfl rfl rfl rfl rfl ?_
                                      refine WP.val rfl rfl rfl (Val.pickT rfl rfl rfl) ?_
                                      refine WP.val rfl rfl rfl (Val.move rfl rfl) ?_
                                      refine WP.skip rfl rfl rfl rfl rfl rfl rfl ?_
                                      refine WP.skip rfl rfl rfl rfl rfl rfl rfl ?_
                                      refine WP.val rfl rfl rfl (Val.pickT rfl rfl rfl) ?_
                                      refine WP.nil ?_
                                      refine Out.next ?_
                                      refine WPc.condT rfl rfl ?_
                                      refine WPc.seq ?_
                                      refine WPc.region ?_
                                      refine WP.val rfl rfl rfl (Val.assign rfl rfl) ?_
                                      refine WP.nil ?_
                                      refine Out.next ?_
                                      refine WPc.ret ?_
                                      refine Out.then_ret ?_
                                      exact Out.ret1 (L' := [A]) Try.results5 rfl ⟨rfl, rfl⟩ (fun w h => h)
                                    · skip
                                      have h18 : ¬ (¬ ((((mid).size : Nat) : Int) ≤ 64)) := h18
                                      refine WP.valG rfl rfl rfl rfl rfl rfl rfl (Val.move rfl rfl) ?_
                                      refine WP.effG rfl rfl rfl rfl rfl rfl rfl (Eff.call rfl rfl Try.call20 (key_does to)) ?_
                                      rintro _ _ ⟨_, ⟨rfl, rfl⟩, rfl⟩
                                      show WP _ _ _ _ _ _ _ (A :: F)
                                      refine WP.valG rfl rfl rfl rfl rfl rfl rfl (Val.notP rfl rfl) ?_
                                      refine WP.val rfl rfl rfl (Val.pickF rfl rfl rfl) ?_
                                      refine WP.val rfl rfl rfl (Val.move rfl rfl) ?_
                                      refine WP.split 108 rfl (fun h19 => ?_) (fun h19 => ?_)
                                      · skip
                                        have h19 : (¬ ((((to).size : Nat) : Int) ≤ 64)) := h19
                                        refine WP.skip rfl rfl rfl rfl rfl rfl rfl ?_
                                        refine WP.skip rfl rfl rfl rfl rfl rfl rfl ?_
                                        refine WP.val rfl rfl rfl (Val.pickT rfl rfl rfl) ?_
                                        refine WP.nil ?_
                                        refine Out.next ?_
                                        refine WPc.condT rfl rfl ?_
                                        refine WPc.seq ?_
                                        refine WPc.region ?_
                                        refine WP.val rfl rfl rfl (Val.assign rfl rfl) ?_
                                        refine WP.nil ?_
                                        refine Out.next ?_
                                        refine WPc.ret ?_
                                        refine Out.then_ret ?_
                                        exact Out.ret1 (L' := [A]) Try.results5 rfl ⟨rfl, rfl⟩ (fun w h => h)
                                      · skip
                                        have h19 : ¬ (¬ ((((to).size : Nat) : Int) ≤ 64)) := h19
                                        refine WP.valG rfl rfl rfl rfl rfl rfl rfl (Val.move rfl rfl) ?_
                                        refine WP.valG rfl rfl rfl rfl rfl rfl rfl (Val.eqlS rfl rfl rfl) ?_
                                        refine WP.val rfl rfl rfl (Val.pickF rfl rfl rfl) ?_
                                        refine WP.nil ?_
                                        refine Out.next ?_
                                        refine WPc.cond rfl (fun h20 => ?_) (fun h20 => ?_)
                                        · skip
                                          have h20 : (seq mid (⟨#[0]⟩)) = true := h20
                                          refine WPc.seq ?_
                                          refine WPc.region ?_
                                          refine WP.val rfl rfl rfl (Val.assign rfl rfl) ?_
                                          refine WP.nil ?_
                                          refine Out.next ?_
                                          refine WPc.ret ?_
                                          refine Out.then_ret ?_
                                          exact Out.ret1 (L' := [A]) Try.results5 rfl ⟨rfl, rfl⟩ (fun w h => h)
                                        · skip
                                          have h20 : (seq mid (⟨#[0]⟩)) = false := h20
                                          refine WPc.skip ?_
                                          refine Out.next ?_
                                          refine WPc.seq ?_
                                          obtain ⟨hok, hl12⟩ := hq2 (by simpa using ‹(!q2) = false›)
                                          have hvr := hq3 (by simpa using ‹(!q3) = false›)
                                          have hkz : key.size ≤ 64 := by omega
                                          have hfz : fin.size ≤ 64 := by omega
                                          have hkd : kind = 0 ∨ kind = 1 := by omega
                                          have hf64 : fr.size ≤ 64 := by omega
                                          have hm64 : mid.size ≤ 64 := by omega
                                          have ht64 : to.size ≤ 64 := by omega
                                          have hdv : Div fr mid to := div_of (ne_of (by assumption)) (lt_of (by assumption)) (by first | exact .inl (op_of (by assumption)) | exact .inr (lt_of (by assumption))) (op_no (by assumption))
                                          have hok1 : ∀ p ∈ (([] : List Pm) ++ [(⟨kind, fr, to⟩ : Pm)]), PmOk p := ok_app hok (fun p hp => by rw [List.mem_singleton.1 hp]; exact ⟨by show 0 ≤ kind ∧ kind ≤ 2; omega, hf64, ht64, hdv.vr1⟩)
                                          have hok2 : ∀ p ∈ (([] : List Pm) ++ [(⟨kind, fr, mid⟩ : Pm), ⟨kind, mid, to⟩]), PmOk p := ok_app hok (fun p hp => by
                                                                                        rcases List.mem_cons.1 hp with rfl | hp
                                                                                        · exact ⟨by show 0 ≤ kind ∧ kind ≤ 2; omega, hf64, hm64, hdv.vr2⟩
                                                                                        · rw [List.mem_singleton.1 hp]; exact ⟨by show 0 ≤ kind ∧ kind ≤ 2; omega, hm64, ht64, hdv.vr3⟩)
                                          refine WPc.region ?_
                                          refine WP.eff rfl rfl rfl (Eff.mkSlice (C := []) rfl Ty.sl39 rfl (fun _ => by kernel_rfl)) ?_
                                          rintro _ _ ⟨b1, rfl, rfl⟩
                                          refine WP.conv (fun w h => own_zero h) ?_
                                          show WP _ _ _ _ _ _ _ (Own 45 3 (.slice (some ⟨b1, 0, none⟩) 0 0) 0 ([]) :: A :: F)
                                          refine WP.val rfl rfl rfl (Val.move rfl rfl) ?_
                                          refine WP.eff rfl rfl rfl (Eff.append (m := 0) (n0 := 0) (news := ([] : List Value)) rfl Ty.sl39 Ty.z45 rfl rfl rfl (srcs_zero Ty.sl39) (by omega) (by omega)) ?_
                                          rintro v2 _ ⟨onev2, rfl⟩
                                          refine WP.val rfl rfl rfl (Val.move rfl rfl) ?_
                                          refine WP.val rfl rfl rfl (Val.move rfl rfl) ?_
                                          refine WP.val rfl rfl rfl (Val.move rfl rfl) ?_
                                          refine WP.val rfl rfl rfl (Val.mk (cs := [.int .i64 (kind), .string fr, .string to]) rfl rfl (fun _ => by kernel_rfl)) ?_
                                          refine WP.eff rfl rfl rfl (Eff.mkSlice (C := [.int .i64 (kind), .string fr, .string to]) rfl Ty.sl39 rfl (fun _ => by kernel_rfl)) ?_
                                          rintro _ _ ⟨b3, rfl, rfl⟩
                                          refine WP.perm pl1 ?_
                                          refine WP.eff rfl rfl rfl (Eff.append (m := 1) (n0 := 0 + 0) (news := [.int .i64 (kind), .string fr, .string to]) rfl Ty.sl39 Ty.z45 rfl rfl rfl (.slice Ty.sl39 rfl rfl (fun w h => cells_range (h.range 1 rfl rfl))) (by omega) (by omega)) ?_
                                          rintro v4 _ ⟨onev4, rfl⟩
                                          refine WP.val rfl rfl rfl (Val.assign rfl rfl) ?_
                                          refine WP.nil ?_
                                          refine Out.next ?_
                                          refine WPc.seq ?_
                                          refine WPc.region ?_
                                          refine WP.eff rfl rfl rfl (Eff.mkSlice (C := []) rfl Ty.sl39 rfl (fun _ => by kernel_rfl)) ?_
                                          rintro _ _ ⟨b5, rfl, rfl⟩
                                          refine WP.conv (fun w h => own_zero h) ?_
                                          show WP _ _ _ _ _ _ _ (Own 45 3 (.slice (some ⟨b5, 0, none⟩) 0 0) 0 ([]) :: Own 45 3 v4 ((0 + 0) + 1) ((([]) ++ (([] : List Value))) ++ ([.int .i64 (kind), .string fr, .string to])) :: Blk b3 [.int .i64 (kind), .string fr, .string to] 45 :: A :: F)
                                          refine WP.val rfl rfl rfl (Val.move rfl rfl) ?_
                                          refine WP.eff rfl rfl rfl (Eff.append (m := 0) (n0 := 0) (news := ([] : List Value)) rfl Ty.sl39 Ty.z45 rfl rfl rfl (srcs_zero Ty.sl39) (by omega) (by omega)) ?_
                                          rintro v6 _ ⟨onev6, rfl⟩
                                          refine WP.val rfl rfl rfl (Val.move rfl rfl) ?_
                                          refine WP.val rfl rfl rfl (Val.move rfl rfl) ?_
                                          refine WP.val rfl rfl rfl (Val.move rfl rfl) ?_
                                          refine WP.val rfl rfl rfl (Val.mk (cs := [.int .i64 (kind), .string fr, .string mid]) rfl rfl (fun _ => by kernel_rfl)) ?_
                                          refine WP.val rfl rfl rfl (Val.move rfl rfl) ?_
                                          refine WP.val rfl rfl rfl (Val.move rfl rfl) ?_
                                          refine WP.val rfl rfl rfl (Val.move rfl rfl) ?_
                                          refine WP.val rfl rfl rfl (Val.mk (cs := [.int .i64 (kind), .string mid, .string to]) rfl rfl (fun _ => by kernel_rfl)) ?_
                                          refine WP.eff rfl rfl rfl (Eff.mkSlice (C := [.int .i64 (kind), .string fr, .string mid, .int .i64 (kind), .string mid, .string to]) rfl Ty.sl39 rfl (fun _ => by kernel_rfl)) ?_
                                          rintro _ _ ⟨b7, rfl, rfl⟩
                                          refine WP.perm pl1 ?_
                                          refine WP.eff rfl rfl rfl (Eff.append (m := 2) (n0 := 0 + 0) (news := [.int .i64 (kind), .string fr, .string mid, .int .i64 (kind), .string mid, .string to]) rfl Ty.sl39 Ty.z45 rfl rfl rfl (.slice Ty.sl39 rfl rfl (fun w h => cells_range (h.range 1 rfl rfl))) (by omega) (by omega)) ?_
                                          rintro v8 _ ⟨onev8, rfl⟩
                                          refine WP.val rfl rfl rfl (Val.assign rfl rfl) ?_
                                          refine WP.nil ?_
                                          refine Out.next ?_
                                          refine WPc.seq ?_
                                          refine WPc.perm pl2 ?_
                                          refine WPc.conv (M := Own 45 3 v4 ((([] : List Pm) ++ [(⟨kind, fr, to⟩ : Pm)]).length) (flatOf Pm.cells (([] : List Pm) ++ [(⟨kind, fr, to⟩ : Pm)])) :: Own 45 3 v8 ((0 + 0) + 2) ((([]) ++ (([] : List Value))) ++ ([.int .i64 (kind), .string fr, .string mid, .int .i64 (kind), .string mid, .string to])) :: Blk b7 [.int .i64 (kind), .string fr, .string mid, .int .i64 (kind), .string mid, .string to] 45 :: Blk b3 [.int .i64 (kind), .string fr, .string to] 45 :: A :: F) (fun w h => by rw [← flat1, List.length_append]; first | exact h | (simp only [Nat.zero_add] at h ⊢; exact h)) ?_
                                          refine WPc.open (fun w h => h.ownPos (by rw [List.length_append]; exact Nat.succ_pos _)) ?_
                                          rintro ⟨g9, cg9, spg9⟩
                                          refine WPc.pure (fun hvg9 => ?_)
                                          obtain ⟨rfl, hng9, hlg9, hsg9, hcg9⟩ := hvg9
                                          dsimp only at hng9 hlg9 hsg9 hcg9
                                          show WPc _ _ _ _ _ _ (Blk g9 (flatOf Pm.cells (([] : List Pm) ++ [(⟨kind, fr, to⟩ : Pm)]) ++ spg9) 45 :: Own 45 3 v8 ((0 + 0) + 2) ((([]) ++ (([] : List Value))) ++ ([.int .i64 (kind), .string fr, .string mid, .int .i64 (kind), .string mid, .string to])) :: Blk b7 [.int .i64 (kind), .string fr, .string mid, .int .i64 (kind), .string mid, .string to] 45 :: Blk b3 [.int .i64 (kind), .string fr, .string to] 45 :: A :: F)
                                          refine WPc.perm pl1 ?_
                                          refine WPc.conv (M := Own 45 3 v8 ((([] : List Pm) ++ [(⟨kind, fr, mid⟩ : Pm), ⟨kind, mid, to⟩]).length) (flatOf Pm.cells (([] : List Pm) ++ [(⟨kind, fr, mid⟩ : Pm), ⟨kind, mid, to⟩])) :: Blk g9 (flatOf Pm.cells (([] : List Pm) ++ [(⟨kind, fr, to⟩ : Pm)]) ++ spg9) 45 :: Blk b7 [.int .i64 (kind), .string fr, .string mid, .int .i64 (kind), .string mid, .string to] 45 :: Blk b3 [.int .i64 (kind), .string fr, .string to] 45 :: A :: F) (fun w h => by rw [← flat2, List.length_append]; first | exact h | (simp only [Nat.zero_add] at h ⊢; exact h)) ?_
                                          refine WPc.open (fun w h => h.ownPos (by rw [List.length_append]; exact Nat.succ_pos _)) ?_
                                          rintro ⟨g10, cg10, spg10⟩
                                          refine WPc.pure (fun hvg10 => ?_)
                                          obtain ⟨rfl, hng10, hlg10, hsg10, hcg10⟩ := hvg10
                                          dsimp only at hng10 hlg10 hsg10 hcg10
                                          show WPc _ _ _ _ _ _ (Blk g10 (flatOf Pm.cells (([] : List Pm) ++ [(⟨kind, fr, mid⟩ : Pm), ⟨kind, mid, to⟩]) ++ spg10) 45 :: Blk g9 (flatOf Pm.cells (([] : List Pm) ++ [(⟨kind, fr, to⟩ : Pm)]) ++ spg9) 45 :: Blk b7 [.int .i64 (kind), .string fr, .string mid, .int .i64 (kind), .string mid, .string to] 45 :: Blk b3 [.int .i64 (kind), .string fr, .string to] 45 :: A :: F)
                                          refine WPc.region ?_
                                          refine WP.val rfl rfl rfl (Val.move rfl rfl) ?_
                                          refine WP.val rfl rfl rfl (Val.move rfl rfl) ?_
                                          refine WP.val rfl rfl rfl (Val.move rfl rfl) ?_
                                          refine WP.val rfl rfl rfl (Val.move rfl rfl) ?_
                                          refine WP.perm pl1 ?_
                                          refine WP.eff rfl rfl rfl (Eff.call rfl rfl Try.call22 (permits_spec (Blk g9 (flatOf Pm.cells (([] : List Pm) ++ [(⟨kind, fr, to⟩ : Pm)]) ++ spg9) 45) key fin hkz hfz hvr kind hkd (([] : List Pm) ++ [(⟨kind, fr, to⟩ : Pm)]) (by rw [List.length_append]; first | (show _ + 1 ≤ _; omega) | (show _ + 2 ≤ _; omega)) hok1 (.slice (some ⟨g9, 0, none⟩) ((([] : List Pm) ++ [(⟨kind, fr, to⟩ : Pm)]).length) cg9) (.inl ⟨g9, 0, cg9, rfl, fun w hw i x hx => by rw [Nat.zero_add]; exact hw.cell_range (flatOf_range Pm.len hx)⟩))) ?_
                                          rintro _ _ ⟨_, ⟨p1, rfl, hp1, rfl⟩, rfl⟩
                                          show WP _ _ _ _ _ _ _ (Blk g9 (flatOf Pm.cells (([] : List Pm) ++ [(⟨kind, fr, to⟩ : Pm)]) ++ spg9) 45 :: Blk g10 (flatOf Pm.cells (([] : List Pm) ++ [(⟨kind, fr, mid⟩ : Pm), ⟨kind, mid, to⟩]) ++ spg10) 45 :: Blk b7 [.int .i64 (kind), .string fr, .string mid, .int .i64 (kind), .string mid, .string to] 45 :: Blk b3 [.int .i64 (kind), .string fr, .string to] 45 :: A :: F)
                                          refine WP.val rfl rfl rfl (Val.move rfl rfl) ?_
                                          refine WP.val rfl rfl rfl (Val.move rfl rfl) ?_
                                          refine WP.val rfl rfl rfl (Val.move rfl rfl) ?_
                                          refine WP.val rfl rfl rfl (Val.move rfl rfl) ?_
                                          refine WP.perm pl1 ?_
                                          refine WP.eff rfl rfl rfl (Eff.call rfl rfl Try.call22 (permits_spec (Blk g10 (flatOf Pm.cells (([] : List Pm) ++ [(⟨kind, fr, mid⟩ : Pm), ⟨kind, mid, to⟩]) ++ spg10) 45) key fin hkz hfz hvr kind hkd (([] : List Pm) ++ [(⟨kind, fr, mid⟩ : Pm), ⟨kind, mid, to⟩]) (by rw [List.length_append]; first | (show _ + 1 ≤ _; omega) | (show _ + 2 ≤ _; omega)) hok2 (.slice (some ⟨g10, 0, none⟩) ((([] : List Pm) ++ [(⟨kind, fr, mid⟩ : Pm), ⟨kind, mid, to⟩]).length) cg10) (.inl ⟨g10, 0, cg10, rfl, fun w hw i x hx => by rw [Nat.zero_add]; exact hw.cell_range (flatOf_range Pm.len hx)⟩))) ?_
                                          rintro _ _ ⟨_, ⟨p2, rfl, hp2, rfl⟩, rfl⟩
                                          show WP _ _ _ _ _ _ _ (Blk g10 (flatOf Pm.cells (([] : List Pm) ++ [(⟨kind, fr, mid⟩ : Pm), ⟨kind, mid, to⟩]) ++ spg10) 45 :: Blk g9 (flatOf Pm.cells (([] : List Pm) ++ [(⟨kind, fr, to⟩ : Pm)]) ++ spg9) 45 :: Blk b7 [.int .i64 (kind), .string fr, .string mid, .int .i64 (kind), .string mid, .string to] 45 :: Blk b3 [.int .i64 (kind), .string fr, .string to] 45 :: A :: F)
                                          refine WP.val rfl rfl rfl (Val.eqlB rfl Ty2.bo4 rfl rfl) ?_
                                          refine WP.val rfl rfl rfl (Val.move rfl rfl) ?_
                                          refine WP.splitB 145 rfl (fun h21 => ?_) (fun h21 => ?_)
                                          · skip
                                            refine WP.valG rfl rfl rfl rfl rfl rfl rfl (Val.move rfl rfl) ?_
                                            refine WP.valG rfl rfl rfl rfl rfl rfl rfl (Val.move rfl rfl) ?_
                                            refine WP.valG rfl rfl rfl rfl rfl rfl rfl (Val.move rfl rfl) ?_
                                            refine WP.valG rfl rfl rfl rfl rfl rfl rfl (Val.move rfl rfl) ?_
                                            refine WP.effG rfl rfl rfl rfl rfl rfl rfl (Eff.call rfl rfl Try.call22 (permits_spec (Blk g10 (flatOf Pm.cells (([] : List Pm) ++ [(⟨kind, fr, mid⟩ : Pm), ⟨kind, mid, to⟩]) ++ spg10) 45) fr to hf64 ht64 hdv.vr1 kind hkd (([] : List Pm) ++ [(⟨kind, fr, mid⟩ : Pm), ⟨kind, mid, to⟩]) (by rw [List.length_append]; first | (show _ + 1 ≤ _; omega) | (show _ + 2 ≤ _; omega)) hok2 (.slice (some ⟨g10, 0, none⟩) ((([] : List Pm) ++ [(⟨kind, fr, mid⟩ : Pm), ⟨kind, mid, to⟩]).length) cg10) (.inl ⟨g10, 0, cg10, rfl, fun w hw i x hx => by rw [Nat.zero_add]; exact hw.cell_range (flatOf_range Pm.len hx)⟩))) ?_
                                            rintro _ _ ⟨_, ⟨p3, rfl, hp3, rfl⟩, rfl⟩
                                            show WP _ _ _ _ _ _ _ (Blk g10 (flatOf Pm.cells (([] : List Pm) ++ [(⟨kind, fr, mid⟩ : Pm), ⟨kind, mid, to⟩]) ++ spg10) 45 :: Blk g9 (flatOf Pm.cells (([] : List Pm) ++ [(⟨kind, fr, to⟩ : Pm)]) ++ spg9) 45 :: Blk b7 [.int .i64 (kind), .string fr, .string mid, .int .i64 (kind), .string mid, .string to] 45 :: Blk b3 [.int .i64 (kind), .string fr, .string to] 45 :: A :: F)
                                            refine WP.val rfl rfl rfl (Val.pickT rfl rfl rfl) ?_
                                            refine WP.val rfl rfl rfl (Val.assign rfl rfl) ?_
                                            refine WP.nil ?_
                                            refine Out.next ?_
                                            refine WPc.ret ?_
                                            refine Out.drop ?_
                                            refine Out.drop ?_
                                            refine Out.drop ?_
                                            refine Out.drop ?_
                                            exact Out.ret1 (L' := [A]) Try.results5 rfl ⟨congrArg Value.bool (hp3.2 (div_all hdv)), rfl⟩ (fun w h => h)
                                          · skip
                                            exact absurd (Bool.eq_iff_iff.2 (hp1.trans ((div_cov hdv).trans hp2.symm))) (by simp_all)
                              · skip
                                refine WP.skip rfl rfl rfl rfl rfl rfl rfl ?_
                                refine WP.skip rfl rfl rfl rfl rfl rfl rfl ?_
                                refine WP.skip rfl rfl rfl rfl rfl rfl rfl ?_
                                refine WP.valG rfl rfl rfl rfl rfl rfl rfl (Val.pickF rfl rfl rfl) ?_
                                refine WP.val rfl rfl rfl (Val.pickF rfl rfl rfl) ?_
                                refine WP.val rfl rfl rfl (Val.move rfl rfl) ?_
                                refine WP.valG rfl rfl rfl rfl rfl rfl rfl (Val.move rfl rfl) ?_
                                refine WP.effG rfl rfl rfl rfl rfl rfl rfl (Eff.call rfl rfl Try.call20 (key_does fr)) ?_
                                rintro _ _ ⟨_, ⟨rfl, rfl⟩, rfl⟩
                                show WP _ _ _ _ _ _ _ (A :: F)
                                refine WP.valG rfl rfl rfl rfl rfl rfl rfl (Val.notP rfl rfl) ?_
                                refine WP.val rfl rfl rfl (Val.pickF rfl rfl rfl) ?_
                                refine WP.val rfl rfl rfl (Val.move rfl rfl) ?_
                                refine WP.split 98 rfl (fun h22 => ?_) (fun h22 => ?_)
                                · skip
                                  have h22 : (¬ ((((fr).size : Nat) : Int) ≤ 64)) := h22
                                  refine WP.skip rfl rfl rfl rfl rfl rfl rfl ?_
                                  refine WP.skip rfl rfl rfl rfl rfl rfl rfl ?_
                                  refine WP.skip rfl rfl rfl rfl rfl rfl rfl ?_
                                  refine WP.val rfl rfl rfl (Val.pickT rfl rfl rfl) ?_
                                  refine WP.val rfl rfl rfl (Val.move rfl rfl) ?_
                                  refine WP.skip rfl rfl rfl rfl rfl rfl rfl ?_
                                  refine WP.skip rfl rfl rfl rfl rfl rfl rfl ?_
                                  refine WP.skip rfl rfl rfl rfl rfl rfl rfl ?_
                                  refine WP.val rfl rfl rfl (Val.pickT rfl rfl rfl) ?_
                                  refine WP.val rfl rfl rfl (Val.move rfl rfl) ?_
                                  refine WP.skip rfl rfl rfl rfl rfl rfl rfl ?_
                                  refine WP.skip rfl rfl rfl rfl rfl rfl rfl ?_
                                  refine WP.val rfl rfl rfl (Val.pickT rfl rfl rfl) ?_
                                  refine WP.nil ?_
                                  refine Out.next ?_
                                  refine WPc.condT rfl rfl ?_
                                  refine WPc.seq ?_
                                  refine WPc.region ?_
                                  refine WP.val rfl rfl rfl (Val.assign rfl rfl) ?_
                                  refine WP.nil ?_
                                  refine Out.next ?_
                                  refine WPc.ret ?_
                                  refine Out.then_ret ?_
                                  exact Out.ret1 (L' := [A]) Try.results5 rfl ⟨rfl, rfl⟩ (fun w h => h)
                                · skip
                                  have h22 : ¬ (¬ ((((fr).size : Nat) : Int) ≤ 64)) := h22
                                  refine WP.valG rfl rfl rfl rfl rfl rfl rfl (Val.move rfl rfl) ?_
                                  refine WP.effG rfl rfl rfl rfl rfl rfl rfl (Eff.call rfl rfl Try.call20 (key_does mid)) ?_
                                  rintro _ _ ⟨_, ⟨rfl, rfl⟩, rfl⟩
                                  show WP _ _ _ _ _ _ _ (A :: F)
                                  refine WP.valG rfl rfl rfl rfl rfl rfl rfl (Val.notP rfl rfl) ?_
                                  refine WP.val rfl rfl rfl (Val.pickF rfl rfl rfl) ?_
                                  refine WP.val rfl rfl rfl (Val.move rfl rfl) ?_
                                  refine WP.split 103 rfl (fun h23 => ?_) (fun h23 => ?_)
                                  · skip
                                    have h23 : (¬ ((((mid).size : Nat) : Int) ≤ 64)) := h23
                                    refine WP.skip rfl rfl rfl rfl rfl rfl rfl ?_
                                    refine WP.skip rfl rfl rfl rfl rfl rfl rfl ?_
                                    refine WP.skip rfl rfl rfl rfl rfl rfl rfl ?_
                                    refine WP.val rfl rfl rfl (Val.pickT rfl rfl rfl) ?_
                                    refine WP.val rfl rfl rfl (Val.move rfl rfl) ?_
                                    refine WP.skip rfl rfl rfl rfl rfl rfl rfl ?_
                                    refine WP.skip rfl rfl rfl rfl rfl rfl rfl ?_
                                    refine WP.val rfl rfl rfl (Val.pickT rfl rfl rfl) ?_
                                    refine WP.nil ?_
                                    refine Out.next ?_
                                    refine WPc.condT rfl rfl ?_
                                    refine WPc.seq ?_
                                    refine WPc.region ?_
                                    refine WP.val rfl rfl rfl (Val.assign rfl rfl) ?_
                                    refine WP.nil ?_
                                    refine Out.next ?_
                                    refine WPc.ret ?_
                                    refine Out.then_ret ?_
                                    exact Out.ret1 (L' := [A]) Try.results5 rfl ⟨rfl, rfl⟩ (fun w h => h)
                                  · skip
                                    have h23 : ¬ (¬ ((((mid).size : Nat) : Int) ≤ 64)) := h23
                                    refine WP.valG rfl rfl rfl rfl rfl rfl rfl (Val.move rfl rfl) ?_
                                    refine WP.effG rfl rfl rfl rfl rfl rfl rfl (Eff.call rfl rfl Try.call20 (key_does to)) ?_
                                    rintro _ _ ⟨_, ⟨rfl, rfl⟩, rfl⟩
                                    show WP _ _ _ _ _ _ _ (A :: F)
                                    refine WP.valG rfl rfl rfl rfl rfl rfl rfl (Val.notP rfl rfl) ?_
                                    refine WP.val rfl rfl rfl (Val.pickF rfl rfl rfl) ?_
                                    refine WP.val rfl rfl rfl (Val.move rfl rfl) ?_
                                    refine WP.split 108 rfl (fun h24 => ?_) (fun h24 => ?_)
                                    · skip
                                      have h24 : (¬ ((((to).size : Nat) : Int) ≤ 64)) := h24
                                      refine WP.skip rfl rfl rfl rfl rfl rfl rfl ?_
                                      refine WP.skip rfl rfl rfl rfl rfl rfl rfl ?_
                                      refine WP.val rfl rfl rfl (Val.pickT rfl rfl rfl) ?_
                                      refine WP.nil ?_
                                      refine Out.next ?_
                                      refine WPc.condT rfl rfl ?_
                                      refine WPc.seq ?_
                                      refine WPc.region ?_
                                      refine WP.val rfl rfl rfl (Val.assign rfl rfl) ?_
                                      refine WP.nil ?_
                                      refine Out.next ?_
                                      refine WPc.ret ?_
                                      refine Out.then_ret ?_
                                      exact Out.ret1 (L' := [A]) Try.results5 rfl ⟨rfl, rfl⟩ (fun w h => h)
                                    · skip
                                      have h24 : ¬ (¬ ((((to).size : Nat) : Int) ≤ 64)) := h24
                                      refine WP.valG rfl rfl rfl rfl rfl rfl rfl (Val.move rfl rfl) ?_
                                      refine WP.valG rfl rfl rfl rfl rfl rfl rfl (Val.eqlS rfl rfl rfl) ?_
                                      refine WP.val rfl rfl rfl (Val.pickF rfl rfl rfl) ?_
                                      refine WP.nil ?_
                                      refine Out.next ?_
                                      refine WPc.cond rfl (fun h25 => ?_) (fun h25 => ?_)
                                      · skip
                                        have h25 : (seq mid (⟨#[0]⟩)) = true := h25
                                        refine WPc.seq ?_
                                        refine WPc.region ?_
                                        refine WP.val rfl rfl rfl (Val.assign rfl rfl) ?_
                                        refine WP.nil ?_
                                        refine Out.next ?_
                                        refine WPc.ret ?_
                                        refine Out.then_ret ?_
                                        exact Out.ret1 (L' := [A]) Try.results5 rfl ⟨rfl, rfl⟩ (fun w h => h)
                                      · skip
                                        have h25 : (seq mid (⟨#[0]⟩)) = false := h25
                                        refine WPc.skip ?_
                                        refine Out.next ?_
                                        refine WPc.seq ?_
                                        obtain ⟨hok, hl12⟩ := hq2 (by simpa using ‹(!q2) = false›)
                                        have hvr := hq3 (by simpa using ‹(!q3) = false›)
                                        have hkz : key.size ≤ 64 := by omega
                                        have hfz : fin.size ≤ 64 := by omega
                                        have hkd : kind = 0 ∨ kind = 1 := by omega
                                        have hf64 : fr.size ≤ 64 := by omega
                                        have hm64 : mid.size ≤ 64 := by omega
                                        have ht64 : to.size ≤ 64 := by omega
                                        have hdv : Div fr mid to := div_of (ne_of (by assumption)) (lt_of (by assumption)) (by first | exact .inl (op_of (by assumption)) | exact .inr (lt_of (by assumption))) (op_no (by assumption))
                                        have hok1 : ∀ p ∈ (([] : List Pm) ++ [(⟨kind, fr, to⟩ : Pm)]), PmOk p := ok_app hok (fun p hp => by rw [List.mem_singleton.1 hp]; exact ⟨by show 0 ≤ kind ∧ kind ≤ 2; omega, hf64, ht64, hdv.vr1⟩)
                                        have hok2 : ∀ p ∈ (([] : List Pm) ++ [(⟨kind, fr, mid⟩ : Pm), ⟨kind, mid, to⟩]), PmOk p := ok_app hok (fun p hp => by
                                                                                    rcases List.mem_cons.1 hp with rfl | hp
                                                                                    · exact ⟨by show 0 ≤ kind ∧ kind ≤ 2; omega, hf64, hm64, hdv.vr2⟩
                                                                                    · rw [List.mem_singleton.1 hp]; exact ⟨by show 0 ≤ kind ∧ kind ≤ 2; omega, hm64, ht64, hdv.vr3⟩)
                                        refine WPc.region ?_
                                        refine WP.eff rfl rfl rfl (Eff.mkSlice (C := []) rfl Ty.sl39 rfl (fun _ => by kernel_rfl)) ?_
                                        rintro _ _ ⟨b11, rfl, rfl⟩
                                        refine WP.conv (fun w h => own_zero h) ?_
                                        show WP _ _ _ _ _ _ _ (Own 45 3 (.slice (some ⟨b11, 0, none⟩) 0 0) 0 ([]) :: A :: F)
                                        refine WP.val rfl rfl rfl (Val.move rfl rfl) ?_
                                        refine WP.eff rfl rfl rfl (Eff.append (m := 0) (n0 := 0) (news := ([] : List Value)) rfl Ty.sl39 Ty.z45 rfl rfl rfl (srcs_zero Ty.sl39) (by omega) (by omega)) ?_
                                        rintro v12 _ ⟨onev12, rfl⟩
                                        refine WP.val rfl rfl rfl (Val.move rfl rfl) ?_
                                        refine WP.val rfl rfl rfl (Val.move rfl rfl) ?_
                                        refine WP.val rfl rfl rfl (Val.move rfl rfl) ?_
                                        refine WP.val rfl rfl rfl (Val.mk (cs := [.int .i64 (kind), .string fr, .string to]) rfl rfl (fun _ => by kernel_rfl)) ?_
                                        refine WP.eff rfl rfl rfl (Eff.mkSlice (C := [.int .i64 (kind), .string fr, .string to]) rfl Ty.sl39 rfl (fun _ => by kernel_rfl)) ?_
                                        rintro _ _ ⟨b13, rfl, rfl⟩
                                        refine WP.perm pl1 ?_
                                        refine WP.eff rfl rfl rfl (Eff.append (m := 1) (n0 := 0 + 0) (news := [.int .i64 (kind), .string fr, .string to]) rfl Ty.sl39 Ty.z45 rfl rfl rfl (.slice Ty.sl39 rfl rfl (fun w h => cells_range (h.range 1 rfl rfl))) (by omega) (by omega)) ?_
                                        rintro v14 _ ⟨onev14, rfl⟩
                                        refine WP.val rfl rfl rfl (Val.assign rfl rfl) ?_
                                        refine WP.nil ?_
                                        refine Out.next ?_
                                        refine WPc.seq ?_
                                        refine WPc.region ?_
                                        refine WP.eff rfl rfl rfl (Eff.mkSlice (C := []) rfl Ty.sl39 rfl (fun _ => by kernel_rfl)) ?_
                                        rintro _ _ ⟨b15, rfl, rfl⟩
                                        refine WP.conv (fun w h => own_zero h) ?_
                                        show WP _ _ _ _ _ _ _ (Own 45 3 (.slice (some ⟨b15, 0, none⟩) 0 0) 0 ([]) :: Own 45 3 v14 ((0 + 0) + 1) ((([]) ++ (([] : List Value))) ++ ([.int .i64 (kind), .string fr, .string to])) :: Blk b13 [.int .i64 (kind), .string fr, .string to] 45 :: A :: F)
                                        refine WP.val rfl rfl rfl (Val.move rfl rfl) ?_
                                        refine WP.eff rfl rfl rfl (Eff.append (m := 0) (n0 := 0) (news := ([] : List Value)) rfl Ty.sl39 Ty.z45 rfl rfl rfl (srcs_zero Ty.sl39) (by omega) (by omega)) ?_
                                        rintro v16 _ ⟨onev16, rfl⟩
                                        refine WP.val rfl rfl rfl (Val.move rfl rfl) ?_
                                        refine WP.val rfl rfl rfl (Val.move rfl rfl) ?_
                                        refine WP.val rfl rfl rfl (Val.move rfl rfl) ?_
                                        refine WP.val rfl rfl rfl (Val.mk (cs := [.int .i64 (kind), .string fr, .string mid]) rfl rfl (fun _ => by kernel_rfl)) ?_
                                        refine WP.val rfl rfl rfl (Val.move rfl rfl) ?_
                                        refine WP.val rfl rfl rfl (Val.move rfl rfl) ?_
                                        refine WP.val rfl rfl rfl (Val.move rfl rfl) ?_
                                        refine WP.val rfl rfl rfl (Val.mk (cs := [.int .i64 (kind), .string mid, .string to]) rfl rfl (fun _ => by kernel_rfl)) ?_
                                        refine WP.eff rfl rfl rfl (Eff.mkSlice (C := [.int .i64 (kind), .string fr, .string mid, .int .i64 (kind), .string mid, .string to]) rfl Ty.sl39 rfl (fun _ => by kernel_rfl)) ?_
                                        rintro _ _ ⟨b17, rfl, rfl⟩
                                        refine WP.perm pl1 ?_
                                        refine WP.eff rfl rfl rfl (Eff.append (m := 2) (n0 := 0 + 0) (news := [.int .i64 (kind), .string fr, .string mid, .int .i64 (kind), .string mid, .string to]) rfl Ty.sl39 Ty.z45 rfl rfl rfl (.slice Ty.sl39 rfl rfl (fun w h => cells_range (h.range 1 rfl rfl))) (by omega) (by omega)) ?_
                                        rintro v18 _ ⟨onev18, rfl⟩
                                        refine WP.val rfl rfl rfl (Val.assign rfl rfl) ?_
                                        refine WP.nil ?_
                                        refine Out.next ?_
                                        refine WPc.seq ?_
                                        refine WPc.perm pl2 ?_
                                        refine WPc.conv (M := Own 45 3 v14 ((([] : List Pm) ++ [(⟨kind, fr, to⟩ : Pm)]).length) (flatOf Pm.cells (([] : List Pm) ++ [(⟨kind, fr, to⟩ : Pm)])) :: Own 45 3 v18 ((0 + 0) + 2) ((([]) ++ (([] : List Value))) ++ ([.int .i64 (kind), .string fr, .string mid, .int .i64 (kind), .string mid, .string to])) :: Blk b17 [.int .i64 (kind), .string fr, .string mid, .int .i64 (kind), .string mid, .string to] 45 :: Blk b13 [.int .i64 (kind), .string fr, .string to] 45 :: A :: F) (fun w h => by rw [← flat1, List.length_append]; first | exact h | (simp only [Nat.zero_add] at h ⊢; exact h)) ?_
                                        refine WPc.open (fun w h => h.ownPos (by rw [List.length_append]; exact Nat.succ_pos _)) ?_
                                        rintro ⟨g19, cg19, spg19⟩
                                        refine WPc.pure (fun hvg19 => ?_)
                                        obtain ⟨rfl, hng19, hlg19, hsg19, hcg19⟩ := hvg19
                                        dsimp only at hng19 hlg19 hsg19 hcg19
                                        show WPc _ _ _ _ _ _ (Blk g19 (flatOf Pm.cells (([] : List Pm) ++ [(⟨kind, fr, to⟩ : Pm)]) ++ spg19) 45 :: Own 45 3 v18 ((0 + 0) + 2) ((([]) ++ (([] : List Value))) ++ ([.int .i64 (kind), .string fr, .string mid, .int .i64 (kind), .string mid, .string to])) :: Blk b17 [.int .i64 (kind), .string fr, .string mid, .int .i64 (kind), .string mid, .string to] 45 :: Blk b13 [.int .i64 (kind), .string fr, .string to] 45 :: A :: F)
                                        refine WPc.perm pl1 ?_
                                        refine WPc.conv (M := Own 45 3 v18 ((([] : List Pm) ++ [(⟨kind, fr, mid⟩ : Pm), ⟨kind, mid, to⟩]).length) (flatOf Pm.cells (([] : List Pm) ++ [(⟨kind, fr, mid⟩ : Pm), ⟨kind, mid, to⟩])) :: Blk g19 (flatOf Pm.cells (([] : List Pm) ++ [(⟨kind, fr, to⟩ : Pm)]) ++ spg19) 45 :: Blk b17 [.int .i64 (kind), .string fr, .string mid, .int .i64 (kind), .string mid, .string to] 45 :: Blk b13 [.int .i64 (kind), .string fr, .string to] 45 :: A :: F) (fun w h => by rw [← flat2, List.length_append]; first | exact h | (simp only [Nat.zero_add] at h ⊢; exact h)) ?_
                                        refine WPc.open (fun w h => h.ownPos (by rw [List.length_append]; exact Nat.succ_pos _)) ?_
                                        rintro ⟨g20, cg20, spg20⟩
                                        refine WPc.pure (fun hvg20 => ?_)
                                        obtain ⟨rfl, hng20, hlg20, hsg20, hcg20⟩ := hvg20
                                        dsimp only at hng20 hlg20 hsg20 hcg20
                                        show WPc _ _ _ _ _ _ (Blk g20 (flatOf Pm.cells (([] : List Pm) ++ [(⟨kind, fr, mid⟩ : Pm), ⟨kind, mid, to⟩]) ++ spg20) 45 :: Blk g19 (flatOf Pm.cells (([] : List Pm) ++ [(⟨kind, fr, to⟩ : Pm)]) ++ spg19) 45 :: Blk b17 [.int .i64 (kind), .string fr, .string mid, .int .i64 (kind), .string mid, .string to] 45 :: Blk b13 [.int .i64 (kind), .string fr, .string to] 45 :: A :: F)
                                        refine WPc.region ?_
                                        refine WP.val rfl rfl rfl (Val.move rfl rfl) ?_
                                        refine WP.val rfl rfl rfl (Val.move rfl rfl) ?_
                                        refine WP.val rfl rfl rfl (Val.move rfl rfl) ?_
                                        refine WP.val rfl rfl rfl (Val.move rfl rfl) ?_
                                        refine WP.perm pl1 ?_
                                        refine WP.eff rfl rfl rfl (Eff.call rfl rfl Try.call22 (permits_spec (Blk g19 (flatOf Pm.cells (([] : List Pm) ++ [(⟨kind, fr, to⟩ : Pm)]) ++ spg19) 45) key fin hkz hfz hvr kind hkd (([] : List Pm) ++ [(⟨kind, fr, to⟩ : Pm)]) (by rw [List.length_append]; first | (show _ + 1 ≤ _; omega) | (show _ + 2 ≤ _; omega)) hok1 (.slice (some ⟨g19, 0, none⟩) ((([] : List Pm) ++ [(⟨kind, fr, to⟩ : Pm)]).length) cg19) (.inl ⟨g19, 0, cg19, rfl, fun w hw i x hx => by rw [Nat.zero_add]; exact hw.cell_range (flatOf_range Pm.len hx)⟩))) ?_
                                        rintro _ _ ⟨_, ⟨p1, rfl, hp1, rfl⟩, rfl⟩
                                        show WP _ _ _ _ _ _ _ (Blk g19 (flatOf Pm.cells (([] : List Pm) ++ [(⟨kind, fr, to⟩ : Pm)]) ++ spg19) 45 :: Blk g20 (flatOf Pm.cells (([] : List Pm) ++ [(⟨kind, fr, mid⟩ : Pm), ⟨kind, mid, to⟩]) ++ spg20) 45 :: Blk b17 [.int .i64 (kind), .string fr, .string mid, .int .i64 (kind), .string mid, .string to] 45 :: Blk b13 [.int .i64 (kind), .string fr, .string to] 45 :: A :: F)
                                        refine WP.val rfl rfl rfl (Val.move rfl rfl) ?_
                                        refine WP.val rfl rfl rfl (Val.move rfl rfl) ?_
                                        refine WP.val rfl rfl rfl (Val.move rfl rfl) ?_
                                        refine WP.val rfl rfl rfl (Val.move rfl rfl) ?_
                                        refine WP.perm pl1 ?_
                                        refine WP.eff rfl rfl rfl (Eff.call rfl rfl Try.call22 (permits_spec (Blk g20 (flatOf Pm.cells (([] : List Pm) ++ [(⟨kind, fr, mid⟩ : Pm), ⟨kind, mid, to⟩]) ++ spg20) 45) key fin hkz hfz hvr kind hkd (([] : List Pm) ++ [(⟨kind, fr, mid⟩ : Pm), ⟨kind, mid, to⟩]) (by rw [List.length_append]; first | (show _ + 1 ≤ _; omega) | (show _ + 2 ≤ _; omega)) hok2 (.slice (some ⟨g20, 0, none⟩) ((([] : List Pm) ++ [(⟨kind, fr, mid⟩ : Pm), ⟨kind, mid, to⟩]).length) cg20) (.inl ⟨g20, 0, cg20, rfl, fun w hw i x hx => by rw [Nat.zero_add]; exact hw.cell_range (flatOf_range Pm.len hx)⟩))) ?_
                                        rintro _ _ ⟨_, ⟨p2, rfl, hp2, rfl⟩, rfl⟩
                                        show WP _ _ _ _ _ _ _ (Blk g20 (flatOf Pm.cells (([] : List Pm) ++ [(⟨kind, fr, mid⟩ : Pm), ⟨kind, mid, to⟩]) ++ spg20) 45 :: Blk g19 (flatOf Pm.cells (([] : List Pm) ++ [(⟨kind, fr, to⟩ : Pm)]) ++ spg19) 45 :: Blk b17 [.int .i64 (kind), .string fr, .string mid, .int .i64 (kind), .string mid, .string to] 45 :: Blk b13 [.int .i64 (kind), .string fr, .string to] 45 :: A :: F)
                                        refine WP.val rfl rfl rfl (Val.eqlB rfl Ty2.bo4 rfl rfl) ?_
                                        refine WP.val rfl rfl rfl (Val.move rfl rfl) ?_
                                        refine WP.splitB 145 rfl (fun h26 => ?_) (fun h26 => ?_)
                                        · skip
                                          refine WP.valG rfl rfl rfl rfl rfl rfl rfl (Val.move rfl rfl) ?_
                                          refine WP.valG rfl rfl rfl rfl rfl rfl rfl (Val.move rfl rfl) ?_
                                          refine WP.valG rfl rfl rfl rfl rfl rfl rfl (Val.move rfl rfl) ?_
                                          refine WP.valG rfl rfl rfl rfl rfl rfl rfl (Val.move rfl rfl) ?_
                                          refine WP.effG rfl rfl rfl rfl rfl rfl rfl (Eff.call rfl rfl Try.call22 (permits_spec (Blk g20 (flatOf Pm.cells (([] : List Pm) ++ [(⟨kind, fr, mid⟩ : Pm), ⟨kind, mid, to⟩]) ++ spg20) 45) fr to hf64 ht64 hdv.vr1 kind hkd (([] : List Pm) ++ [(⟨kind, fr, mid⟩ : Pm), ⟨kind, mid, to⟩]) (by rw [List.length_append]; first | (show _ + 1 ≤ _; omega) | (show _ + 2 ≤ _; omega)) hok2 (.slice (some ⟨g20, 0, none⟩) ((([] : List Pm) ++ [(⟨kind, fr, mid⟩ : Pm), ⟨kind, mid, to⟩]).length) cg20) (.inl ⟨g20, 0, cg20, rfl, fun w hw i x hx => by rw [Nat.zero_add]; exact hw.cell_range (flatOf_range Pm.len hx)⟩))) ?_
                                          rintro _ _ ⟨_, ⟨p3, rfl, hp3, rfl⟩, rfl⟩
                                          show WP _ _ _ _ _ _ _ (Blk g20 (flatOf Pm.cells (([] : List Pm) ++ [(⟨kind, fr, mid⟩ : Pm), ⟨kind, mid, to⟩]) ++ spg20) 45 :: Blk g19 (flatOf Pm.cells (([] : List Pm) ++ [(⟨kind, fr, to⟩ : Pm)]) ++ spg19) 45 :: Blk b17 [.int .i64 (kind), .string fr, .string mid, .int .i64 (kind), .string mid, .string to] 45 :: Blk b13 [.int .i64 (kind), .string fr, .string to] 45 :: A :: F)
                                          refine WP.val rfl rfl rfl (Val.pickT rfl rfl rfl) ?_
                                          refine WP.val rfl rfl rfl (Val.assign rfl rfl) ?_
                                          refine WP.nil ?_
                                          refine Out.next ?_
                                          refine WPc.ret ?_
                                          refine Out.drop ?_
                                          refine Out.drop ?_
                                          refine Out.drop ?_
                                          refine Out.drop ?_
                                          exact Out.ret1 (L' := [A]) Try.results5 rfl ⟨congrArg Value.bool (hp3.2 (div_all hdv)), rfl⟩ (fun w h => h)
                                        · skip
                                          exact absurd (Bool.eq_iff_iff.2 (hp1.trans ((div_cov hdv).trans hp2.symm))) (by simp_all)

set_option maxRecDepth 100000 in
set_option maxHeartbeats 2000000 in
theorem splits_row (A : HProp) (fr mid to key fin : ByteArray) (kind : Int) (l : List Pm) (hl : l.length ≤ 9223372036854775807) (b0 o0 c0 : Nat) (hr : ∀ w, Holds A w → ∀ i x, l[i]? = some x → w.rangeAt b0 (o0 + i * 3) (Pm.cells x)) : Does Try.prog 5 [.slice (some ⟨b0, o0, none⟩) l.length c0, .string fr, .string mid, .string to, .string key, .string fin, .int .i64 (kind)] [A] (fun v L => v = .bool true ∧ L = [A]) := by
  refine Does.enter 152 Try.func5 rfl rfl rfl fun W F => ?_
  show WPc _ _ _ _ _ [(0, .slice (some ⟨b0, o0, none⟩) l.length c0), (1, .string fr), (2, .string mid), (3, .string to), (4, .string key), (5, .string fin), (6, .int .i64 (kind))] (A :: F)
  refine WPc.seq ?_
  refine WPc.region ?_
  refine WP.val rfl rfl rfl (Val.assign rfl rfl) ?_
  refine WP.nil ?_
  refine Out.next ?_
  refine WPc.seq ?_
  refine WPc.seq ?_
  refine WPc.region ?_
  refine WP.val rfl rfl rfl (Val.move rfl rfl) ?_
  refine WP.eff rfl rfl rfl (Eff.call rfl rfl Try.call18 (fits4_spec A l hl (.slice (some ⟨b0, o0, none⟩) l.length c0) (.inl ⟨b0, o0, c0, rfl, hr⟩))) ?_
  rintro _ _ ⟨_, ⟨q1, rfl, hq1, rfl⟩, rfl⟩
  show WP _ _ _ _ _ _ _ (A :: F)
  refine WP.val rfl rfl rfl (Val.not rfl rfl) ?_
  refine WP.val rfl rfl rfl (Val.move rfl rfl) ?_
  refine WP.splitB 20 rfl (fun h1 => ?_) (fun h1 => ?_)
  · skip
    refine WP.skip rfl rfl rfl rfl rfl rfl rfl ?_
    refine WP.skip rfl rfl rfl rfl rfl rfl rfl ?_
    refine WP.skip rfl rfl rfl rfl rfl rfl rfl ?_
    refine WP.val rfl rfl rfl (Val.pickT rfl rfl rfl) ?_
    refine WP.val rfl rfl rfl (Val.move rfl rfl) ?_
    refine WP.skip rfl rfl rfl rfl rfl rfl rfl ?_
    refine WP.skip rfl rfl rfl rfl rfl rfl rfl ?_
    refine WP.skip rfl rfl rfl rfl rfl rfl rfl ?_
    refine WP.val rfl rfl rfl (Val.pickT rfl rfl rfl) ?_
    refine WP.val rfl rfl rfl (Val.move rfl rfl) ?_
    refine WP.skip rfl rfl rfl rfl rfl rfl rfl ?_
    refine WP.skip rfl rfl rfl rfl rfl rfl rfl ?_
    refine WP.skip rfl rfl rfl rfl rfl rfl rfl ?_
    refine WP.val rfl rfl rfl (Val.pickT rfl rfl rfl) ?_
    refine WP.val rfl rfl rfl (Val.move rfl rfl) ?_
    refine WP.skip rfl rfl rfl rfl rfl rfl rfl ?_
    refine WP.skip rfl rfl rfl rfl rfl rfl rfl ?_
    refine WP.skip rfl rfl rfl rfl rfl rfl rfl ?_
    refine WP.val rfl rfl rfl (Val.pickT rfl rfl rfl) ?_
    refine WP.val rfl rfl rfl (Val.move rfl rfl) ?_
    refine WP.skip rfl rfl rfl rfl rfl rfl rfl ?_
    refine WP.skip rfl rfl rfl rfl rfl rfl rfl ?_
    refine WP.skip rfl rfl rfl rfl rfl rfl rfl ?_
    refine WP.val rfl rfl rfl (Val.pickT rfl rfl rfl) ?_
    refine WP.nil ?_
    refine Out.next ?_
    refine WPc.condT rfl rfl ?_
    refine WPc.seq ?_
    refine WPc.region ?_
    refine WP.val rfl rfl rfl (Val.assign rfl rfl) ?_
    refine WP.nil ?_
    refine Out.next ?_
    refine WPc.ret ?_
    refine Out.then_ret ?_
    exact Out.ret1 (L' := [A]) Try.results5 rfl ⟨rfl, rfl⟩ (fun w h => h)
  · skip
    refine WP.valG rfl rfl rfl rfl rfl rfl rfl (Val.move rfl rfl) ?_
    refine WP.valG rfl rfl rfl rfl rfl rfl rfl (Val.lenS rfl Ty.st9 rfl) ?_
    refine WP.valG rfl rfl rfl rfl rfl rfl rfl (Val.gtr rfl rfl rfl) ?_
    refine WP.val rfl rfl rfl (Val.pickF rfl rfl rfl) ?_
    refine WP.val rfl rfl rfl (Val.move rfl rfl) ?_
    refine WP.split 25 rfl (fun h2 => ?_) (fun h2 => ?_)
    · skip
      have h2 : ((2147483647 : Int) < (((fr).size : Nat) : Int)) := h2
      refine WP.skip rfl rfl rfl rfl rfl rfl rfl ?_
      refine WP.skip rfl rfl rfl rfl rfl rfl rfl ?_
      refine WP.skip rfl rfl rfl rfl rfl rfl rfl ?_
      refine WP.val rfl rfl rfl (Val.pickT rfl rfl rfl) ?_
      refine WP.val rfl rfl rfl (Val.move rfl rfl) ?_
      refine WP.skip rfl rfl rfl rfl rfl rfl rfl ?_
      refine WP.skip rfl rfl rfl rfl rfl rfl rfl ?_
      refine WP.skip rfl rfl rfl rfl rfl rfl rfl ?_
      refine WP.val rfl rfl rfl (Val.pickT rfl rfl rfl) ?_
      refine WP.val rfl rfl rfl (Val.move rfl rfl) ?_
      refine WP.skip rfl rfl rfl rfl rfl rfl rfl ?_
      refine WP.skip rfl rfl rfl rfl rfl rfl rfl ?_
      refine WP.skip rfl rfl rfl rfl rfl rfl rfl ?_
      refine WP.val rfl rfl rfl (Val.pickT rfl rfl rfl) ?_
      refine WP.val rfl rfl rfl (Val.move rfl rfl) ?_
      refine WP.skip rfl rfl rfl rfl rfl rfl rfl ?_
      refine WP.skip rfl rfl rfl rfl rfl rfl rfl ?_
      refine WP.skip rfl rfl rfl rfl rfl rfl rfl ?_
      refine WP.val rfl rfl rfl (Val.pickT rfl rfl rfl) ?_
      refine WP.nil ?_
      refine Out.next ?_
      refine WPc.condT rfl rfl ?_
      refine WPc.seq ?_
      refine WPc.region ?_
      refine WP.val rfl rfl rfl (Val.assign rfl rfl) ?_
      refine WP.nil ?_
      refine Out.next ?_
      refine WPc.ret ?_
      refine Out.then_ret ?_
      exact Out.ret1 (L' := [A]) Try.results5 rfl ⟨rfl, rfl⟩ (fun w h => h)
    · skip
      have h2 : ¬ ((2147483647 : Int) < (((fr).size : Nat) : Int)) := h2
      refine WP.valG rfl rfl rfl rfl rfl rfl rfl (Val.move rfl rfl) ?_
      refine WP.valG rfl rfl rfl rfl rfl rfl rfl (Val.lenS rfl Ty.st9 rfl) ?_
      refine WP.valG rfl rfl rfl rfl rfl rfl rfl (Val.gtr rfl rfl rfl) ?_
      refine WP.val rfl rfl rfl (Val.pickF rfl rfl rfl) ?_
      refine WP.val rfl rfl rfl (Val.move rfl rfl) ?_
      refine WP.split 30 rfl (fun h3 => ?_) (fun h3 => ?_)
      · skip
        have h3 : ((2147483647 : Int) < (((mid).size : Nat) : Int)) := h3
        refine WP.skip rfl rfl rfl rfl rfl rfl rfl ?_
        refine WP.skip rfl rfl rfl rfl rfl rfl rfl ?_
        refine WP.skip rfl rfl rfl rfl rfl rfl rfl ?_
        refine WP.val rfl rfl rfl (Val.pickT rfl rfl rfl) ?_
        refine WP.val rfl rfl rfl (Val.move rfl rfl) ?_
        refine WP.skip rfl rfl rfl rfl rfl rfl rfl ?_
        refine WP.skip rfl rfl rfl rfl rfl rfl rfl ?_
        refine WP.skip rfl rfl rfl rfl rfl rfl rfl ?_
        refine WP.val rfl rfl rfl (Val.pickT rfl rfl rfl) ?_
        refine WP.val rfl rfl rfl (Val.move rfl rfl) ?_
        refine WP.skip rfl rfl rfl rfl rfl rfl rfl ?_
        refine WP.skip rfl rfl rfl rfl rfl rfl rfl ?_
        refine WP.skip rfl rfl rfl rfl rfl rfl rfl ?_
        refine WP.val rfl rfl rfl (Val.pickT rfl rfl rfl) ?_
        refine WP.nil ?_
        refine Out.next ?_
        refine WPc.condT rfl rfl ?_
        refine WPc.seq ?_
        refine WPc.region ?_
        refine WP.val rfl rfl rfl (Val.assign rfl rfl) ?_
        refine WP.nil ?_
        refine Out.next ?_
        refine WPc.ret ?_
        refine Out.then_ret ?_
        exact Out.ret1 (L' := [A]) Try.results5 rfl ⟨rfl, rfl⟩ (fun w h => h)
      · skip
        have h3 : ¬ ((2147483647 : Int) < (((mid).size : Nat) : Int)) := h3
        refine WP.valG rfl rfl rfl rfl rfl rfl rfl (Val.move rfl rfl) ?_
        refine WP.valG rfl rfl rfl rfl rfl rfl rfl (Val.lenS rfl Ty.st9 rfl) ?_
        refine WP.valG rfl rfl rfl rfl rfl rfl rfl (Val.gtr rfl rfl rfl) ?_
        refine WP.val rfl rfl rfl (Val.pickF rfl rfl rfl) ?_
        refine WP.val rfl rfl rfl (Val.move rfl rfl) ?_
        refine WP.split 35 rfl (fun h4 => ?_) (fun h4 => ?_)
        · skip
          have h4 : ((2147483647 : Int) < (((to).size : Nat) : Int)) := h4
          refine WP.skip rfl rfl rfl rfl rfl rfl rfl ?_
          refine WP.skip rfl rfl rfl rfl rfl rfl rfl ?_
          refine WP.skip rfl rfl rfl rfl rfl rfl rfl ?_
          refine WP.val rfl rfl rfl (Val.pickT rfl rfl rfl) ?_
          refine WP.val rfl rfl rfl (Val.move rfl rfl) ?_
          refine WP.skip rfl rfl rfl rfl rfl rfl rfl ?_
          refine WP.skip rfl rfl rfl rfl rfl rfl rfl ?_
          refine WP.skip rfl rfl rfl rfl rfl rfl rfl ?_
          refine WP.val rfl rfl rfl (Val.pickT rfl rfl rfl) ?_
          refine WP.nil ?_
          refine Out.next ?_
          refine WPc.condT rfl rfl ?_
          refine WPc.seq ?_
          refine WPc.region ?_
          refine WP.val rfl rfl rfl (Val.assign rfl rfl) ?_
          refine WP.nil ?_
          refine Out.next ?_
          refine WPc.ret ?_
          refine Out.then_ret ?_
          exact Out.ret1 (L' := [A]) Try.results5 rfl ⟨rfl, rfl⟩ (fun w h => h)
        · skip
          have h4 : ¬ ((2147483647 : Int) < (((to).size : Nat) : Int)) := h4
          refine WP.valG rfl rfl rfl rfl rfl rfl rfl (Val.move rfl rfl) ?_
          refine WP.valG rfl rfl rfl rfl rfl rfl rfl (Val.lenS rfl Ty.st9 rfl) ?_
          refine WP.valG rfl rfl rfl rfl rfl rfl rfl (Val.gtr rfl rfl rfl) ?_
          refine WP.val rfl rfl rfl (Val.pickF rfl rfl rfl) ?_
          refine WP.val rfl rfl rfl (Val.move rfl rfl) ?_
          refine WP.split 40 rfl (fun h5 => ?_) (fun h5 => ?_)
          · skip
            have h5 : ((2147483647 : Int) < (((key).size : Nat) : Int)) := h5
            refine WP.skip rfl rfl rfl rfl rfl rfl rfl ?_
            refine WP.skip rfl rfl rfl rfl rfl rfl rfl ?_
            refine WP.skip rfl rfl rfl rfl rfl rfl rfl ?_
            refine WP.val rfl rfl rfl (Val.pickT rfl rfl rfl) ?_
            refine WP.nil ?_
            refine Out.next ?_
            refine WPc.condT rfl rfl ?_
            refine WPc.seq ?_
            refine WPc.region ?_
            refine WP.val rfl rfl rfl (Val.assign rfl rfl) ?_
            refine WP.nil ?_
            refine Out.next ?_
            refine WPc.ret ?_
            refine Out.then_ret ?_
            exact Out.ret1 (L' := [A]) Try.results5 rfl ⟨rfl, rfl⟩ (fun w h => h)
          · skip
            have h5 : ¬ ((2147483647 : Int) < (((key).size : Nat) : Int)) := h5
            refine WP.valG rfl rfl rfl rfl rfl rfl rfl (Val.move rfl rfl) ?_
            refine WP.valG rfl rfl rfl rfl rfl rfl rfl (Val.lenS rfl Ty.st9 rfl) ?_
            refine WP.valG rfl rfl rfl rfl rfl rfl rfl (Val.gtr rfl rfl rfl) ?_
            refine WP.val rfl rfl rfl (Val.pickF rfl rfl rfl) ?_
            refine WP.nil ?_
            refine Out.next ?_
            refine WPc.ifP rfl (fun h6 => ?_) (fun h6 => ?_)
            · skip
              have h6 : ((2147483647 : Int) < (((fin).size : Nat) : Int)) := h6
              refine WPc.seq ?_
              refine WPc.region ?_
              refine WP.val rfl rfl rfl (Val.assign rfl rfl) ?_
              refine WP.nil ?_
              refine Out.next ?_
              refine WPc.ret ?_
              refine Out.then_ret ?_
              exact Out.ret1 (L' := [A]) Try.results5 rfl ⟨rfl, rfl⟩ (fun w h => h)
            · skip
              have h6 : ¬ ((2147483647 : Int) < (((fin).size : Nat) : Int)) := h6
              refine WPc.skip ?_
              refine Out.next ?_
              refine WPc.seq ?_
              refine WPc.seq ?_
              refine WPc.region ?_
              refine WP.val rfl rfl rfl (Val.move rfl rfl) ?_
              refine WP.eff rfl rfl rfl (Eff.call rfl rfl Try.call19 (perms_spec A l hl (.slice (some ⟨b0, o0, none⟩) l.length c0) (.inl ⟨b0, o0, c0, rfl, hr⟩))) ?_
              rintro _ _ ⟨_, ⟨q2, rfl, hq2, rfl⟩, rfl⟩
              show WP _ _ _ _ _ _ _ (A :: F)
              refine WP.val rfl rfl rfl (Val.not rfl rfl) ?_
              refine WP.val rfl rfl rfl (Val.move rfl rfl) ?_
              refine WP.splitB 48 rfl (fun h7 => ?_) (fun h7 => ?_)
              · skip
                refine WP.skip rfl rfl rfl rfl rfl rfl rfl ?_
                refine WP.skip rfl rfl rfl rfl rfl rfl rfl ?_
                refine WP.skip rfl rfl rfl rfl rfl rfl rfl ?_
                refine WP.val rfl rfl rfl (Val.pickT rfl rfl rfl) ?_
                refine WP.val rfl rfl rfl (Val.move rfl rfl) ?_
                refine WP.skip rfl rfl rfl rfl rfl rfl rfl ?_
                refine WP.skip rfl rfl rfl rfl rfl rfl rfl ?_
                refine WP.val rfl rfl rfl (Val.pickT rfl rfl rfl) ?_
                refine WP.val rfl rfl rfl (Val.move rfl rfl) ?_
                refine WP.skip rfl rfl rfl rfl rfl rfl rfl ?_
                refine WP.skip rfl rfl rfl rfl rfl rfl rfl ?_
                refine WP.val rfl rfl rfl (Val.pickT rfl rfl rfl) ?_
                refine WP.val rfl rfl rfl (Val.move rfl rfl) ?_
                refine WP.skip rfl rfl rfl rfl rfl rfl rfl ?_
                refine WP.skip rfl rfl rfl rfl rfl rfl rfl ?_
                refine WP.skip rfl rfl rfl rfl rfl rfl rfl ?_
                refine WP.val rfl rfl rfl (Val.pickT rfl rfl rfl) ?_
                refine WP.val rfl rfl rfl (Val.move rfl rfl) ?_
                refine WP.skip rfl rfl rfl rfl rfl rfl rfl ?_
                refine WP.skip rfl rfl rfl rfl rfl rfl rfl ?_
                refine WP.skip rfl rfl rfl rfl rfl rfl rfl ?_
                refine WP.val rfl rfl rfl (Val.pickT rfl rfl rfl) ?_
                refine WP.val rfl rfl rfl (Val.move rfl rfl) ?_
                refine WP.skip rfl rfl rfl rfl rfl rfl rfl ?_
                refine WP.skip rfl rfl rfl rfl rfl rfl rfl ?_
                refine WP.skip rfl rfl rfl rfl rfl rfl rfl ?_
                refine WP.skip rfl rfl rfl rfl rfl rfl rfl ?_
                refine WP.val rfl rfl rfl (Val.pickT rfl rfl rfl) ?_
                refine WP.nil ?_
                refine Out.next ?_
                refine WPc.condT rfl rfl ?_
                refine WPc.seq ?_
                refine WPc.region ?_
                refine WP.val rfl rfl rfl (Val.assign rfl rfl) ?_
                refine WP.nil ?_
                refine Out.next ?_
                refine WPc.ret ?_
                refine Out.then_ret ?_
                exact Out.ret1 (L' := [A]) Try.results5 rfl ⟨rfl, rfl⟩ (fun w h => h)
              · skip
                refine WP.valG rfl rfl rfl rfl rfl rfl rfl (Val.move rfl rfl) ?_
                refine WP.valG rfl rfl rfl rfl rfl rfl rfl (Val.len rfl Ty.sl39 rfl) ?_
                refine WP.valG rfl rfl rfl rfl rfl rfl rfl (Val.gtr rfl rfl rfl) ?_
                refine WP.val rfl rfl rfl (Val.pickF rfl rfl rfl) ?_
                refine WP.val rfl rfl rfl (Val.move rfl rfl) ?_
                refine WP.split 53 rfl (fun h8 => ?_) (fun h8 => ?_)
                · skip
                  have h8 : ((10 : Int) < ((l.length : Nat) : Int)) := h8
                  refine WP.skip rfl rfl rfl rfl rfl rfl rfl ?_
                  refine WP.skip rfl rfl rfl rfl rfl rfl rfl ?_
                  refine WP.val rfl rfl rfl (Val.pickT rfl rfl rfl) ?_
                  refine WP.val rfl rfl rfl (Val.move rfl rfl) ?_
                  refine WP.skip rfl rfl rfl rfl rfl rfl rfl ?_
                  refine WP.skip rfl rfl rfl rfl rfl rfl rfl ?_
                  refine WP.val rfl rfl rfl (Val.pickT rfl rfl rfl) ?_
                  refine WP.val rfl rfl rfl (Val.move rfl rfl) ?_
                  refine WP.skip rfl rfl rfl rfl rfl rfl rfl ?_
                  refine WP.skip rfl rfl rfl rfl rfl rfl rfl ?_
                  refine WP.skip rfl rfl rfl rfl rfl rfl rfl ?_
                  refine WP.val rfl rfl rfl (Val.pickT rfl rfl rfl) ?_
                  refine WP.val rfl rfl rfl (Val.move rfl rfl) ?_
                  refine WP.skip rfl rfl rfl rfl rfl rfl rfl ?_
                  refine WP.skip rfl rfl rfl rfl rfl rfl rfl ?_
                  refine WP.skip rfl rfl rfl rfl rfl rfl rfl ?_
                  refine WP.val rfl rfl rfl (Val.pickT rfl rfl rfl) ?_
                  refine WP.val rfl rfl rfl (Val.move rfl rfl) ?_
                  refine WP.skip rfl rfl rfl rfl rfl rfl rfl ?_
                  refine WP.skip rfl rfl rfl rfl rfl rfl rfl ?_
                  refine WP.skip rfl rfl rfl rfl rfl rfl rfl ?_
                  refine WP.skip rfl rfl rfl rfl rfl rfl rfl ?_
                  refine WP.val rfl rfl rfl (Val.pickT rfl rfl rfl) ?_
                  refine WP.nil ?_
                  refine Out.next ?_
                  refine WPc.condT rfl rfl ?_
                  refine WPc.seq ?_
                  refine WPc.region ?_
                  refine WP.val rfl rfl rfl (Val.assign rfl rfl) ?_
                  refine WP.nil ?_
                  refine Out.next ?_
                  refine WPc.ret ?_
                  refine Out.then_ret ?_
                  exact Out.ret1 (L' := [A]) Try.results5 rfl ⟨rfl, rfl⟩ (fun w h => h)
                · skip
                  have h8 : ¬ ((10 : Int) < ((l.length : Nat) : Int)) := h8
                  refine WP.valG rfl rfl rfl rfl rfl rfl rfl (Val.move rfl rfl) ?_
                  refine WP.valG rfl rfl rfl rfl rfl rfl rfl (Val.lss rfl rfl rfl) ?_
                  refine WP.val rfl rfl rfl (Val.pickF rfl rfl rfl) ?_
                  refine WP.val rfl rfl rfl (Val.move rfl rfl) ?_
                  refine WP.split 57 rfl (fun h9 => ?_) (fun h9 => ?_)
                  · skip
                    have h9 : (kind < (0 : Int)) := h9
                    refine WP.skip rfl rfl rfl rfl rfl rfl rfl ?_
                    refine WP.skip rfl rfl rfl rfl rfl rfl rfl ?_
                    refine WP.val rfl rfl rfl (Val.pickT rfl rfl rfl) ?_
                    refine WP.val rfl rfl rfl (Val.move rfl rfl) ?_
                    refine WP.skip rfl rfl rfl rfl rfl rfl rfl ?_
                    refine WP.skip rfl rfl rfl rfl rfl rfl rfl ?_
                    refine WP.skip rfl rfl rfl rfl rfl rfl rfl ?_
                    refine WP.val rfl rfl rfl (Val.pickT rfl rfl rfl) ?_
                    refine WP.val rfl rfl rfl (Val.move rfl rfl) ?_
                    refine WP.skip rfl rfl rfl rfl rfl rfl rfl ?_
                    refine WP.skip rfl rfl rfl rfl rfl rfl rfl ?_
                    refine WP.skip rfl rfl rfl rfl rfl rfl rfl ?_
                    refine WP.val rfl rfl rfl (Val.pickT rfl rfl rfl) ?_
                    refine WP.val rfl rfl rfl (Val.move rfl rfl) ?_
                    refine WP.skip rfl rfl rfl rfl rfl rfl rfl ?_
                    refine WP.skip rfl rfl rfl rfl rfl rfl rfl ?_
                    refine WP.skip rfl rfl rfl rfl rfl rfl rfl ?_
                    refine WP.skip rfl rfl rfl rfl rfl rfl rfl ?_
                    refine WP.val rfl rfl rfl (Val.pickT rfl rfl rfl) ?_
                    refine WP.nil ?_
                    refine Out.next ?_
                    refine WPc.condT rfl rfl ?_
                    refine WPc.seq ?_
                    refine WPc.region ?_
                    refine WP.val rfl rfl rfl (Val.assign rfl rfl) ?_
                    refine WP.nil ?_
                    refine Out.next ?_
                    refine WPc.ret ?_
                    refine Out.then_ret ?_
                    exact Out.ret1 (L' := [A]) Try.results5 rfl ⟨rfl, rfl⟩ (fun w h => h)
                  · skip
                    have h9 : ¬ (kind < (0 : Int)) := h9
                    refine WP.valG rfl rfl rfl rfl rfl rfl rfl (Val.move rfl rfl) ?_
                    refine WP.valG rfl rfl rfl rfl rfl rfl rfl (Val.gtr rfl rfl rfl) ?_
                    refine WP.val rfl rfl rfl (Val.pickF rfl rfl rfl) ?_
                    refine WP.val rfl rfl rfl (Val.move rfl rfl) ?_
                    refine WP.split 61 rfl (fun h10 => ?_) (fun h10 => ?_)
                    · skip
                      have h10 : ((1 : Int) < kind) := h10
                      refine WP.skip rfl rfl rfl rfl rfl rfl rfl ?_
                      refine WP.skip rfl rfl rfl rfl rfl rfl rfl ?_
                      refine WP.skip rfl rfl rfl rfl rfl rfl rfl ?_
                      refine WP.val rfl rfl rfl (Val.pickT rfl rfl rfl) ?_
                      refine WP.val rfl rfl rfl (Val.move rfl rfl) ?_
                      refine WP.skip rfl rfl rfl rfl rfl rfl rfl ?_
                      refine WP.skip rfl rfl rfl rfl rfl rfl rfl ?_
                      refine WP.skip rfl rfl rfl rfl rfl rfl rfl ?_
                      refine WP.val rfl rfl rfl (Val.pickT rfl rfl rfl) ?_
                      refine WP.val rfl rfl rfl (Val.move rfl rfl) ?_
                      refine WP.skip rfl rfl rfl rfl rfl rfl rfl ?_
                      refine WP.skip rfl rfl rfl rfl rfl rfl rfl ?_
                      refine WP.skip rfl rfl rfl rfl rfl rfl rfl ?_
                      refine WP.skip rfl rfl rfl rfl rfl rfl rfl ?_
                      refine WP.val rfl rfl rfl (Val.pickT rfl rfl rfl) ?_
                      refine WP.nil ?_
                      refine Out.next ?_
                      refine WPc.condT rfl rfl ?_
                      refine WPc.seq ?_
                      refine WPc.region ?_
                      refine WP.val rfl rfl rfl (Val.assign rfl rfl) ?_
                      refine WP.nil ?_
                      refine Out.next ?_
                      refine WPc.ret ?_
                      refine Out.then_ret ?_
                      exact Out.ret1 (L' := [A]) Try.results5 rfl ⟨rfl, rfl⟩ (fun w h => h)
                    · skip
                      have h10 : ¬ ((1 : Int) < kind) := h10
                      refine WP.valG rfl rfl rfl rfl rfl rfl rfl (Val.move rfl rfl) ?_
                      refine WP.effG rfl rfl rfl rfl rfl rfl rfl (Eff.call rfl rfl Try.call20 (key_does key)) ?_
                      rintro _ _ ⟨_, ⟨rfl, rfl⟩, rfl⟩
                      show WP _ _ _ _ _ _ _ (A :: F)
                      refine WP.valG rfl rfl rfl rfl rfl rfl rfl (Val.notP rfl rfl) ?_
                      refine WP.val rfl rfl rfl (Val.pickF rfl rfl rfl) ?_
                      refine WP.val rfl rfl rfl (Val.move rfl rfl) ?_
                      refine WP.split 66 rfl (fun h11 => ?_) (fun h11 => ?_)
                      · skip
                        have h11 : (¬ ((((key).size : Nat) : Int) ≤ 64)) := h11
                        refine WP.skip rfl rfl rfl rfl rfl rfl rfl ?_
                        refine WP.skip rfl rfl rfl rfl rfl rfl rfl ?_
                        refine WP.skip rfl rfl rfl rfl rfl rfl rfl ?_
                        refine WP.val rfl rfl rfl (Val.pickT rfl rfl rfl) ?_
                        refine WP.val rfl rfl rfl (Val.move rfl rfl) ?_
                        refine WP.skip rfl rfl rfl rfl rfl rfl rfl ?_
                        refine WP.skip rfl rfl rfl rfl rfl rfl rfl ?_
                        refine WP.skip rfl rfl rfl rfl rfl rfl rfl ?_
                        refine WP.skip rfl rfl rfl rfl rfl rfl rfl ?_
                        refine WP.val rfl rfl rfl (Val.pickT rfl rfl rfl) ?_
                        refine WP.nil ?_
                        refine Out.next ?_
                        refine WPc.condT rfl rfl ?_
                        refine WPc.seq ?_
                        refine WPc.region ?_
                        refine WP.val rfl rfl rfl (Val.assign rfl rfl) ?_
                        refine WP.nil ?_
                        refine Out.next ?_
                        refine WPc.ret ?_
                        refine Out.then_ret ?_
                        exact Out.ret1 (L' := [A]) Try.results5 rfl ⟨rfl, rfl⟩ (fun w h => h)
                      · skip
                        have h11 : ¬ (¬ ((((key).size : Nat) : Int) ≤ 64)) := h11
                        refine WP.valG rfl rfl rfl rfl rfl rfl rfl (Val.move rfl rfl) ?_
                        refine WP.effG rfl rfl rfl rfl rfl rfl rfl (Eff.call rfl rfl Try.call20 (key_does fin)) ?_
                        rintro _ _ ⟨_, ⟨rfl, rfl⟩, rfl⟩
                        show WP _ _ _ _ _ _ _ (A :: F)
                        refine WP.valG rfl rfl rfl rfl rfl rfl rfl (Val.notP rfl rfl) ?_
                        refine WP.val rfl rfl rfl (Val.pickF rfl rfl rfl) ?_
                        refine WP.val rfl rfl rfl (Val.move rfl rfl) ?_
                        refine WP.split 71 rfl (fun h12 => ?_) (fun h12 => ?_)
                        · skip
                          have h12 : (¬ ((((fin).size : Nat) : Int) ≤ 64)) := h12
                          refine WP.skip rfl rfl rfl rfl rfl rfl rfl ?_
                          refine WP.skip rfl rfl rfl rfl rfl rfl rfl ?_
                          refine WP.skip rfl rfl rfl rfl rfl rfl rfl ?_
                          refine WP.skip rfl rfl rfl rfl rfl rfl rfl ?_
                          refine WP.val rfl rfl rfl (Val.pickT rfl rfl rfl) ?_
                          refine WP.nil ?_
                          refine Out.next ?_
                          refine WPc.condT rfl rfl ?_
                          refine WPc.seq ?_
                          refine WPc.region ?_
                          refine WP.val rfl rfl rfl (Val.assign rfl rfl) ?_
                          refine WP.nil ?_
                          refine Out.next ?_
                          refine WPc.ret ?_
                          refine Out.then_ret ?_
                          exact Out.ret1 (L' := [A]) Try.results5 rfl ⟨rfl, rfl⟩ (fun w h => h)
                        · skip
                          have h12 : ¬ (¬ ((((fin).size : Nat) : Int) ≤ 64)) := h12
                          refine WP.valG rfl rfl rfl rfl rfl rfl rfl (Val.move rfl rfl) ?_
                          refine WP.valG rfl rfl rfl rfl rfl rfl rfl (Val.move rfl rfl) ?_
                          refine WP.effG rfl rfl rfl rfl rfl rfl rfl (Eff.call rfl rfl Try.call21 (vr_does key fin)) ?_
                          rintro _ _ ⟨_, ⟨q3, rfl, hq3, rfl⟩, rfl⟩
                          show WP _ _ _ _ _ _ _ (A :: F)
                          refine WP.valG rfl rfl rfl rfl rfl rfl rfl (Val.not rfl rfl) ?_
                          refine WP.val rfl rfl rfl (Val.pickF rfl rfl rfl) ?_
                          refine WP.nil ?_
                          refine Out.next ?_
                          refine WPc.cond rfl (fun h13 => ?_) (fun h13 => ?_)
                          · skip
                            have h13 : (!q3) = true := h13
                            refine WPc.seq ?_
                            refine WPc.region ?_
                            refine WP.val rfl rfl rfl (Val.assign rfl rfl) ?_
                            refine WP.nil ?_
                            refine Out.next ?_
                            refine WPc.ret ?_
                            refine Out.then_ret ?_
                            exact Out.ret1 (L' := [A]) Try.results5 rfl ⟨rfl, rfl⟩ (fun w h => h)
                          · skip
                            have h13 : (!q3) = false := h13
                            refine WPc.skip ?_
                            refine Out.next ?_
                            refine WPc.seq ?_
                            refine WPc.seq ?_
                            refine WPc.region ?_
                            refine WP.val rfl rfl rfl (Val.move rfl rfl) ?_
                            refine WP.val rfl rfl rfl (Val.eqlS rfl rfl rfl) ?_
                            refine WP.val rfl rfl rfl (Val.move rfl rfl) ?_
                            refine WP.splitB 79 rfl (fun h14 => ?_) (fun h14 => ?_)
                            · skip
                              refine WP.skip rfl rfl rfl rfl rfl rfl rfl ?_
                              refine WP.skip rfl rfl rfl rfl rfl rfl rfl ?_
                              refine WP.skip rfl rfl rfl rfl rfl rfl rfl ?_
                              refine WP.val rfl rfl rfl (Val.pickT rfl rfl rfl) ?_
                              refine WP.val rfl rfl rfl (Val.move rfl rfl) ?_
                              refine WP.skip rfl rfl rfl rfl rfl rfl rfl ?_
                              refine WP.skip rfl rfl rfl rfl rfl rfl rfl ?_
                              refine WP.skip rfl rfl rfl rfl rfl rfl rfl ?_
                              refine WP.skipU rfl rfl rfl rfl rfl rfl ?_
                              refine WP.skipU rfl rfl rfl rfl rfl rfl ?_
                              refine WP.skipU rfl rfl rfl rfl rfl rfl ?_
                              refine WP.skip rfl rfl rfl rfl rfl rfl rfl ?_
                              refine WP.val rfl rfl rfl (Val.pickT rfl rfl rfl) ?_
                              refine WP.val rfl rfl rfl (Val.move rfl rfl) ?_
                              refine WP.skip rfl rfl rfl rfl rfl rfl rfl ?_
                              refine WP.skip rfl rfl rfl rfl rfl rfl rfl ?_
                              refine WP.skip rfl rfl rfl rfl rfl rfl rfl ?_
                              refine WP.val rfl rfl rfl (Val.pickT rfl rfl rfl) ?_
                              refine WP.val rfl rfl rfl (Val.move rfl rfl) ?_
                              refine WP.skip rfl rfl rfl rfl rfl rfl rfl ?_
                              refine WP.skip rfl rfl rfl rfl rfl rfl rfl ?_
                              refine WP.skip rfl rfl rfl rfl rfl rfl rfl ?_
                              refine WP.val rfl rfl rfl (Val.pickT rfl rfl rfl) ?_
                              refine WP.val rfl rfl rfl (Val.move rfl rfl) ?_
                              refine WP.skip rfl rfl rfl rfl rfl rfl rfl ?_
                              refine WP.skip rfl rfl rfl rfl rfl rfl rfl ?_
                              refine WP.skip rfl rfl rfl rfl rfl rfl rfl ?_
                              refine WP.val rfl rfl rfl (Val.pickT rfl rfl rfl) ?_
                              refine WP.val rfl rfl rfl (Val.move rfl rfl) ?_
                              refine WP.skip rfl rfl rfl rfl rfl rfl rfl ?_
                              refine WP.skip rfl rfl rfl rfl rfl rfl rfl ?_
                              refine WP.val rfl rfl rfl (Val.pickT rfl rfl rfl) ?_
                              refine WP.nil ?_
                              refine Out.next ?_
                              refine WPc.condT rfl rfl ?_
                              refine WPc.seq ?_
                              refine WPc.region ?_
                              refine WP.val rfl rfl rfl (Val.assign rfl rfl) ?_
                              refine WP.nil ?_
                              refine Out.next ?_
                              refine WPc.ret ?_
                              refine Out.then_ret ?_
                              exact Out.ret1 (L' := [A]) Try.results5 rfl ⟨rfl, rfl⟩ (fun w h => h)
                            · skip
                              refine WP.valG rfl rfl rfl rfl rfl rfl rfl (Val.move rfl rfl) ?_
                              refine WP.valG rfl rfl rfl rfl rfl rfl rfl (Val.move rfl rfl) ?_
                              refine WP.valG rfl rfl rfl rfl rfl rfl rfl (Val.leqS rfl rfl rfl) ?_
                              refine WP.val rfl rfl rfl (Val.pickF rfl rfl rfl) ?_
                              refine WP.val rfl rfl rfl (Val.move rfl rfl) ?_
                              refine WP.splitB 84 rfl (fun h15 => ?_) (fun h15 => ?_)
                              · skip
                                refine WP.skip rfl rfl rfl rfl rfl rfl rfl ?_
                                refine WP.skip rfl rfl rfl rfl rfl rfl rfl ?_
                                refine WP.skip rfl rfl rfl rfl rfl rfl rfl ?_
                                refine WP.skipU rfl rfl rfl rfl rfl rfl ?_
                                refine WP.skipU rfl rfl rfl rfl rfl rfl ?_
                                refine WP.skipU rfl rfl rfl rfl rfl rfl ?_
                                refine WP.skip rfl rfl rfl rfl rfl rfl rfl ?_
                                refine WP.val rfl rfl rfl (Val.pickT rfl rfl rfl) ?_
                                refine WP.val rfl rfl rfl (Val.move rfl rfl) ?_
                                refine WP.skip rfl rfl rfl rfl rfl rfl rfl ?_
                                refine WP.skip rfl rfl rfl rfl rfl rfl rfl ?_
                                refine WP.skip rfl rfl rfl rfl rfl rfl rfl ?_
                                refine WP.val rfl rfl rfl (Val.pickT rfl rfl rfl) ?_
                                refine WP.val rfl rfl rfl (Val.move rfl rfl) ?_
                                refine WP.skip rfl rfl rfl rfl rfl rfl rfl ?_
                                refine WP.skip rfl rfl rfl rfl rfl rfl rfl ?_
                                refine WP.skip rfl rfl rfl rfl rfl rfl rfl ?_
                                refine WP.val rfl rfl rfl (Val.pickT rfl rfl rfl) ?_
                                refine WP.val rfl rfl rfl (Val.move rfl rfl) ?_
                                refine WP.skip rfl rfl rfl rfl rfl rfl rfl ?_
                                refine WP.skip rfl rfl rfl rfl rfl rfl rfl ?_
                                refine WP.skip rfl rfl rfl rfl rfl rfl rfl ?_
                                refine WP.val rfl rfl rfl (Val.pickT rfl rfl rfl) ?_
                                refine WP.val rfl rfl rfl (Val.move rfl rfl) ?_
                                refine WP.skip rfl rfl rfl rfl rfl rfl rfl ?_
                                refine WP.skip rfl rfl rfl rfl rfl rfl rfl ?_
                                refine WP.val rfl rfl rfl (Val.pickT rfl rfl rfl) ?_
                                refine WP.nil ?_
                                refine Out.next ?_
                                refine WPc.condT rfl rfl ?_
                                refine WPc.seq ?_
                                refine WPc.region ?_
                                refine WP.val rfl rfl rfl (Val.assign rfl rfl) ?_
                                refine WP.nil ?_
                                refine Out.next ?_
                                refine WPc.ret ?_
                                refine Out.then_ret ?_
                                exact Out.ret1 (L' := [A]) Try.results5 rfl ⟨rfl, rfl⟩ (fun w h => h)
                              · skip
                                refine WP.valG rfl rfl rfl rfl rfl rfl rfl (Val.move rfl rfl) ?_
                                refine WP.valG rfl rfl rfl rfl rfl rfl rfl (Val.neqS rfl rfl rfl) ?_
                                refine WP.valG rfl rfl rfl rfl rfl rfl rfl (Val.move rfl rfl) ?_
                                refine WP.splitB 87 rfl (fun h16 => ?_) (fun h16 => ?_)
                                · skip
                                  refine WP.valG rfl rfl rfl rfl rfl rfl rfl (Val.move rfl rfl) ?_
                                  refine WP.valG rfl rfl rfl rfl rfl rfl rfl (Val.move rfl rfl) ?_
                                  refine WP.valG rfl rfl rfl rfl rfl rfl rfl (Val.leqS rfl rfl rfl) ?_
                                  refine WP.valG rfl rfl rfl rfl rfl rfl rfl (Val.pickT rfl rfl rfl) ?_
                                  refine WP.val rfl rfl rfl (Val.pickF rfl rfl rfl) ?_
                                  refine WP.val rfl rfl rfl (Val.move rfl rfl) ?_
                                  refine WP.splitB 93 rfl (fun h17 => ?_) (fun h17 => ?_)
                                  · skip
                                    refine WP.skip rfl rfl rfl rfl rfl rfl rfl ?_
                                    refine WP.skip rfl rfl rfl rfl rfl rfl rfl ?_
                                    refine WP.skip rfl rfl rfl rfl rfl rfl rfl ?_
                                    refine WP.val rfl rfl rfl (Val.pickT rfl rfl rfl) ?_
                                    refine WP.val rfl rfl rfl (Val.move rfl rfl) ?_
                                    refine WP.skip rfl rfl rfl rfl rfl rfl rfl ?_
                                    refine WP.skip rfl rfl rfl rfl rfl rfl rfl ?_
                                    refine WP.skip rfl rfl rfl rfl rfl rfl rfl ?_
                                    refine WP.val rfl rfl rfl (Val.pickT rfl rfl rfl) ?_
                                    refine WP.val rfl rfl rfl (Val.move rfl rfl) ?_
                                    refine WP.skip rfl rfl rfl rfl rfl rfl rfl ?_
                                    refine WP.skip rfl rfl rfl rfl rfl rfl rfl ?_
                                    refine WP.skip rfl rfl rfl rfl rfl rfl rfl ?_
                                    refine WP.val rfl rfl rfl (Val.pickT rfl rfl rfl) ?_
                                    refine WP.val rfl rfl rfl (Val.move rfl rfl) ?_
                                    refine WP.skip rfl rfl rfl rfl rfl rfl rfl ?_
                                    refine WP.skip rfl rfl rfl rfl rfl rfl rfl ?_
                                    refine WP.val rfl rfl rfl (Val.pickT rfl rfl rfl) ?_
                                    refine WP.nil ?_
                                    refine Out.next ?_
                                    refine WPc.condT rfl rfl ?_
                                    refine WPc.seq ?_
                                    refine WPc.region ?_
                                    refine WP.val rfl rfl rfl (Val.assign rfl rfl) ?_
                                    refine WP.nil ?_
                                    refine Out.next ?_
                                    refine WPc.ret ?_
                                    refine Out.then_ret ?_
                                    exact Out.ret1 (L' := [A]) Try.results5 rfl ⟨rfl, rfl⟩ (fun w h => h)
                                  · skip
                                    refine WP.valG rfl rfl rfl rfl rfl rfl rfl (Val.move rfl rfl) ?_
                                    refine WP.effG rfl rfl rfl rfl rfl rfl rfl (Eff.call rfl rfl Try.call20 (key_does fr)) ?_
                                    rintro _ _ ⟨_, ⟨rfl, rfl⟩, rfl⟩
                                    show WP _ _ _ _ _ _ _ (A :: F)
                                    refine WP.valG rfl rfl rfl rfl rfl rfl rfl (Val.notP rfl rfl) ?_
                                    refine WP.val rfl rfl rfl (Val.pickF rfl rfl rfl) ?_
                                    refine WP.val rfl rfl rfl (Val.move rfl rfl) ?_
                                    refine WP.split 98 rfl (fun h18 => ?_) (fun h18 => ?_)
                                    · skip
                                      have h18 : (¬ ((((fr).size : Nat) : Int) ≤ 64)) := h18
                                      refine WP.skip rfl rfl rfl rfl rfl rfl rfl ?_
                                      refine WP.skip rfl rfl rfl rfl rfl rfl rfl ?_
                                      refine WP.skip rfl rfl rfl rfl rfl rfl rfl ?_
                                      refine WP.val rfl rfl rfl (Val.pickT rfl rfl rfl) ?_
                                      refine WP.val rfl rfl rfl (Val.move rfl rfl) ?_
                                      refine WP.skip rfl rfl rfl rfl rfl rfl rfl ?_
                                      refine WP.skip rfl rfl rfl rfl rfl rfl rfl ?_
                                      refine WP.skip rfl rfl rfl rfl rfl rfl rfl ?_
                                      refine WP.val rfl rfl rfl (Val.pickT rfl rfl rfl) ?_
                                      refine WP.val rfl rfl rfl (Val.move rfl rfl) ?_
                                      refine WP.skip rfl rfl rfl rfl rfl rfl rfl ?_
                                      refine WP.skip rfl rfl rfl rfl rfl rfl rfl ?_
                                      refine WP.val rfl rfl rfl (Val.pickT rfl rfl rfl) ?_
                                      refine WP.nil ?_
                                      refine Out.next ?_
                                      refine WPc.condT rfl rfl ?_
                                      refine WPc.seq ?_
                                      refine WPc.region ?_
                                      refine WP.val rfl rfl rfl (Val.assign rfl rfl) ?_
                                      refine WP.nil ?_
                                      refine Out.next ?_
                                      refine WPc.ret ?_
                                      refine Out.then_ret ?_
                                      exact Out.ret1 (L' := [A]) Try.results5 rfl ⟨rfl, rfl⟩ (fun w h => h)
                                    · skip
                                      have h18 : ¬ (¬ ((((fr).size : Nat) : Int) ≤ 64)) := h18
                                      refine WP.valG rfl rfl rfl rfl rfl rfl rfl (Val.move rfl rfl) ?_
                                      refine WP.effG rfl rfl rfl rfl rfl rfl rfl (Eff.call rfl rfl Try.call20 (key_does mid)) ?_
                                      rintro _ _ ⟨_, ⟨rfl, rfl⟩, rfl⟩
                                      show WP _ _ _ _ _ _ _ (A :: F)
                                      refine WP.valG rfl rfl rfl rfl rfl rfl rfl (Val.notP rfl rfl) ?_
                                      refine WP.val rfl rfl rfl (Val.pickF rfl rfl rfl) ?_
                                      refine WP.val rfl rfl rfl (Val.move rfl rfl) ?_
                                      refine WP.split 103 rfl (fun h19 => ?_) (fun h19 => ?_)
                                      · skip
                                        have h19 : (¬ ((((mid).size : Nat) : Int) ≤ 64)) := h19
                                        refine WP.skip rfl rfl rfl rfl rfl rfl rfl ?_
                                        refine WP.skip rfl rfl rfl rfl rfl rfl rfl ?_
                                        refine WP.skip rfl rfl rfl rfl rfl rfl rfl ?_
                                        refine WP.val rfl rfl rfl (Val.pickT rfl rfl rfl) ?_
                                        refine WP.val rfl rfl rfl (Val.move rfl rfl) ?_
                                        refine WP.skip rfl rfl rfl rfl rfl rfl rfl ?_
                                        refine WP.skip rfl rfl rfl rfl rfl rfl rfl ?_
                                        refine WP.val rfl rfl rfl (Val.pickT rfl rfl rfl) ?_
                                        refine WP.nil ?_
                                        refine Out.next ?_
                                        refine WPc.condT rfl rfl ?_
                                        refine WPc.seq ?_
                                        refine WPc.region ?_
                                        refine WP.val rfl rfl rfl (Val.assign rfl rfl) ?_
                                        refine WP.nil ?_
                                        refine Out.next ?_
                                        refine WPc.ret ?_
                                        refine Out.then_ret ?_
                                        exact Out.ret1 (L' := [A]) Try.results5 rfl ⟨rfl, rfl⟩ (fun w h => h)
                                      · skip
                                        have h19 : ¬ (¬ ((((mid).size : Nat) : Int) ≤ 64)) := h19
                                        refine WP.valG rfl rfl rfl rfl rfl rfl rfl (Val.move rfl rfl) ?_
                                        refine WP.effG rfl rfl rfl rfl rfl rfl rfl (Eff.call rfl rfl Try.call20 (key_does to)) ?_
                                        rintro _ _ ⟨_, ⟨rfl, rfl⟩, rfl⟩
                                        show WP _ _ _ _ _ _ _ (A :: F)
                                        refine WP.valG rfl rfl rfl rfl rfl rfl rfl (Val.notP rfl rfl) ?_
                                        refine WP.val rfl rfl rfl (Val.pickF rfl rfl rfl) ?_
                                        refine WP.val rfl rfl rfl (Val.move rfl rfl) ?_
                                        refine WP.split 108 rfl (fun h20 => ?_) (fun h20 => ?_)
                                        · skip
                                          have h20 : (¬ ((((to).size : Nat) : Int) ≤ 64)) := h20
                                          refine WP.skip rfl rfl rfl rfl rfl rfl rfl ?_
                                          refine WP.skip rfl rfl rfl rfl rfl rfl rfl ?_
                                          refine WP.val rfl rfl rfl (Val.pickT rfl rfl rfl) ?_
                                          refine WP.nil ?_
                                          refine Out.next ?_
                                          refine WPc.condT rfl rfl ?_
                                          refine WPc.seq ?_
                                          refine WPc.region ?_
                                          refine WP.val rfl rfl rfl (Val.assign rfl rfl) ?_
                                          refine WP.nil ?_
                                          refine Out.next ?_
                                          refine WPc.ret ?_
                                          refine Out.then_ret ?_
                                          exact Out.ret1 (L' := [A]) Try.results5 rfl ⟨rfl, rfl⟩ (fun w h => h)
                                        · skip
                                          have h20 : ¬ (¬ ((((to).size : Nat) : Int) ≤ 64)) := h20
                                          refine WP.valG rfl rfl rfl rfl rfl rfl rfl (Val.move rfl rfl) ?_
                                          refine WP.valG rfl rfl rfl rfl rfl rfl rfl (Val.eqlS rfl rfl rfl) ?_
                                          refine WP.val rfl rfl rfl (Val.pickF rfl rfl rfl) ?_
                                          refine WP.nil ?_
                                          refine Out.next ?_
                                          refine WPc.cond rfl (fun h21 => ?_) (fun h21 => ?_)
                                          · skip
                                            have h21 : (seq mid (⟨#[0]⟩)) = true := h21
                                            refine WPc.seq ?_
                                            refine WPc.region ?_
                                            refine WP.val rfl rfl rfl (Val.assign rfl rfl) ?_
                                            refine WP.nil ?_
                                            refine Out.next ?_
                                            refine WPc.ret ?_
                                            refine Out.then_ret ?_
                                            exact Out.ret1 (L' := [A]) Try.results5 rfl ⟨rfl, rfl⟩ (fun w h => h)
                                          · skip
                                            have h21 : (seq mid (⟨#[0]⟩)) = false := h21
                                            refine WPc.skip ?_
                                            refine Out.next ?_
                                            refine WPc.seq ?_
                                            obtain ⟨hok, hl12⟩ := hq2 (by simpa using ‹(!q2) = false›)
                                            have hvr := hq3 (by simpa using ‹(!q3) = false›)
                                            have hkz : key.size ≤ 64 := by omega
                                            have hfz : fin.size ≤ 64 := by omega
                                            have hkd : kind = 0 ∨ kind = 1 := by omega
                                            have hf64 : fr.size ≤ 64 := by omega
                                            have hm64 : mid.size ≤ 64 := by omega
                                            have ht64 : to.size ≤ 64 := by omega
                                            have hdv : Div fr mid to := div_of (ne_of (by assumption)) (lt_of (by assumption)) (by first | exact .inl (op_of (by assumption)) | exact .inr (lt_of (by assumption))) (op_no (by assumption))
                                            have hok1 : ∀ p ∈ (l ++ [(⟨kind, fr, to⟩ : Pm)]), PmOk p := ok_app hok (fun p hp => by rw [List.mem_singleton.1 hp]; exact ⟨by show 0 ≤ kind ∧ kind ≤ 2; omega, hf64, ht64, hdv.vr1⟩)
                                            have hok2 : ∀ p ∈ (l ++ [(⟨kind, fr, mid⟩ : Pm), ⟨kind, mid, to⟩]), PmOk p := ok_app hok (fun p hp => by
                                                                                            rcases List.mem_cons.1 hp with rfl | hp
                                                                                            · exact ⟨by show 0 ≤ kind ∧ kind ≤ 2; omega, hf64, hm64, hdv.vr2⟩
                                                                                            · rw [List.mem_singleton.1 hp]; exact ⟨by show 0 ≤ kind ∧ kind ≤ 2; omega, hm64, ht64, hdv.vr3⟩)
                                            refine WPc.region ?_
                                            refine WP.eff rfl rfl rfl (Eff.mkSlice (C := []) rfl Ty.sl39 rfl (fun _ => by kernel_rfl)) ?_
                                            rintro _ _ ⟨b1, rfl, rfl⟩
                                            refine WP.conv (fun w h => own_zero h) ?_
                                            show WP _ _ _ _ _ _ _ (Own 45 3 (.slice (some ⟨b1, 0, none⟩) 0 0) 0 ([]) :: A :: F)
                                            refine WP.val rfl rfl rfl (Val.move rfl rfl) ?_
                                            refine WP.eff rfl rfl rfl (Eff.append (m := l.length) (n0 := 0) (news := flatOf Pm.cells l) rfl Ty.sl39 Ty.z45 rfl rfl rfl (.slice Ty.sl39 (flatOf_length Pm.len _) (pm_all _) (fun w h => cells_range (rows_flat Pm.len (by decide) (hr w (h.at 1 rfl))))) (by omega) (by omega)) ?_
                                            rintro v2 _ ⟨onev2, rfl⟩
                                            refine WP.val rfl rfl rfl (Val.move rfl rfl) ?_
                                            refine WP.val rfl rfl rfl (Val.move rfl rfl) ?_
                                            refine WP.val rfl rfl rfl (Val.move rfl rfl) ?_
                                            refine WP.val rfl rfl rfl (Val.mk (cs := [.int .i64 (kind), .string fr, .string to]) rfl rfl (fun _ => by kernel_rfl)) ?_
                                            refine WP.eff rfl rfl rfl (Eff.mkSlice (C := [.int .i64 (kind), .string fr, .string to]) rfl Ty.sl39 rfl (fun _ => by kernel_rfl)) ?_
                                            rintro _ _ ⟨b3, rfl, rfl⟩
                                            refine WP.perm pl1 ?_
                                            refine WP.eff rfl rfl rfl (Eff.append (m := 1) (n0 := 0 + l.length) (news := [.int .i64 (kind), .string fr, .string to]) rfl Ty.sl39 Ty.z45 rfl rfl rfl (.slice Ty.sl39 rfl rfl (fun w h => cells_range (h.range 1 rfl rfl))) (by omega) (by omega)) ?_
                                            rintro v4 _ ⟨onev4, rfl⟩
                                            refine WP.val rfl rfl rfl (Val.assign rfl rfl) ?_
                                            refine WP.nil ?_
                                            refine Out.next ?_
                                            refine WPc.seq ?_
                                            refine WPc.region ?_
                                            refine WP.eff rfl rfl rfl (Eff.mkSlice (C := []) rfl Ty.sl39 rfl (fun _ => by kernel_rfl)) ?_
                                            rintro _ _ ⟨b5, rfl, rfl⟩
                                            refine WP.conv (fun w h => own_zero h) ?_
                                            show WP _ _ _ _ _ _ _ (Own 45 3 (.slice (some ⟨b5, 0, none⟩) 0 0) 0 ([]) :: Own 45 3 v4 ((0 + l.length) + 1) ((([]) ++ (flatOf Pm.cells l)) ++ ([.int .i64 (kind), .string fr, .string to])) :: Blk b3 [.int .i64 (kind), .string fr, .string to] 45 :: A :: F)
                                            refine WP.val rfl rfl rfl (Val.move rfl rfl) ?_
                                            refine WP.eff rfl rfl rfl (Eff.append (m := l.length) (n0 := 0) (news := flatOf Pm.cells l) rfl Ty.sl39 Ty.z45 rfl rfl rfl (.slice Ty.sl39 (flatOf_length Pm.len _) (pm_all _) (fun w h => cells_range (rows_flat Pm.len (by decide) (hr w (h.at 3 rfl))))) (by omega) (by omega)) ?_
                                            rintro v6 _ ⟨onev6, rfl⟩
                                            refine WP.val rfl rfl rfl (Val.move rfl rfl) ?_
                                            refine WP.val rfl rfl rfl (Val.move rfl rfl) ?_
                                            refine WP.val rfl rfl rfl (Val.move rfl rfl) ?_
                                            refine WP.val rfl rfl rfl (Val.mk (cs := [.int .i64 (kind), .string fr, .string mid]) rfl rfl (fun _ => by kernel_rfl)) ?_
                                            refine WP.val rfl rfl rfl (Val.move rfl rfl) ?_
                                            refine WP.val rfl rfl rfl (Val.move rfl rfl) ?_
                                            refine WP.val rfl rfl rfl (Val.move rfl rfl) ?_
                                            refine WP.val rfl rfl rfl (Val.mk (cs := [.int .i64 (kind), .string mid, .string to]) rfl rfl (fun _ => by kernel_rfl)) ?_
                                            refine WP.eff rfl rfl rfl (Eff.mkSlice (C := [.int .i64 (kind), .string fr, .string mid, .int .i64 (kind), .string mid, .string to]) rfl Ty.sl39 rfl (fun _ => by kernel_rfl)) ?_
                                            rintro _ _ ⟨b7, rfl, rfl⟩
                                            refine WP.perm pl1 ?_
                                            refine WP.eff rfl rfl rfl (Eff.append (m := 2) (n0 := 0 + l.length) (news := [.int .i64 (kind), .string fr, .string mid, .int .i64 (kind), .string mid, .string to]) rfl Ty.sl39 Ty.z45 rfl rfl rfl (.slice Ty.sl39 rfl rfl (fun w h => cells_range (h.range 1 rfl rfl))) (by omega) (by omega)) ?_
                                            rintro v8 _ ⟨onev8, rfl⟩
                                            refine WP.val rfl rfl rfl (Val.assign rfl rfl) ?_
                                            refine WP.nil ?_
                                            refine Out.next ?_
                                            refine WPc.seq ?_
                                            refine WPc.perm pl2 ?_
                                            refine WPc.conv (M := Own 45 3 v4 ((l ++ [(⟨kind, fr, to⟩ : Pm)]).length) (flatOf Pm.cells (l ++ [(⟨kind, fr, to⟩ : Pm)])) :: Own 45 3 v8 ((0 + l.length) + 2) ((([]) ++ (flatOf Pm.cells l)) ++ ([.int .i64 (kind), .string fr, .string mid, .int .i64 (kind), .string mid, .string to])) :: Blk b7 [.int .i64 (kind), .string fr, .string mid, .int .i64 (kind), .string mid, .string to] 45 :: Blk b3 [.int .i64 (kind), .string fr, .string to] 45 :: A :: F) (fun w h => by rw [← flat1, List.length_append]; first | exact h | (simp only [Nat.zero_add] at h ⊢; exact h)) ?_
                                            refine WPc.open (fun w h => h.ownPos (by rw [List.length_append]; exact Nat.succ_pos _)) ?_
                                            rintro ⟨g9, cg9, spg9⟩
                                            refine WPc.pure (fun hvg9 => ?_)
                                            obtain ⟨rfl, hng9, hlg9, hsg9, hcg9⟩ := hvg9
                                            dsimp only at hng9 hlg9 hsg9 hcg9
                                            show WPc _ _ _ _ _ _ (Blk g9 (flatOf Pm.cells (l ++ [(⟨kind, fr, to⟩ : Pm)]) ++ spg9) 45 :: Own 45 3 v8 ((0 + l.length) + 2) ((([]) ++ (flatOf Pm.cells l)) ++ ([.int .i64 (kind), .string fr, .string mid, .int .i64 (kind), .string mid, .string to])) :: Blk b7 [.int .i64 (kind), .string fr, .string mid, .int .i64 (kind), .string mid, .string to] 45 :: Blk b3 [.int .i64 (kind), .string fr, .string to] 45 :: A :: F)
                                            refine WPc.perm pl1 ?_
                                            refine WPc.conv (M := Own 45 3 v8 ((l ++ [(⟨kind, fr, mid⟩ : Pm), ⟨kind, mid, to⟩]).length) (flatOf Pm.cells (l ++ [(⟨kind, fr, mid⟩ : Pm), ⟨kind, mid, to⟩])) :: Blk g9 (flatOf Pm.cells (l ++ [(⟨kind, fr, to⟩ : Pm)]) ++ spg9) 45 :: Blk b7 [.int .i64 (kind), .string fr, .string mid, .int .i64 (kind), .string mid, .string to] 45 :: Blk b3 [.int .i64 (kind), .string fr, .string to] 45 :: A :: F) (fun w h => by rw [← flat2, List.length_append]; first | exact h | (simp only [Nat.zero_add] at h ⊢; exact h)) ?_
                                            refine WPc.open (fun w h => h.ownPos (by rw [List.length_append]; exact Nat.succ_pos _)) ?_
                                            rintro ⟨g10, cg10, spg10⟩
                                            refine WPc.pure (fun hvg10 => ?_)
                                            obtain ⟨rfl, hng10, hlg10, hsg10, hcg10⟩ := hvg10
                                            dsimp only at hng10 hlg10 hsg10 hcg10
                                            show WPc _ _ _ _ _ _ (Blk g10 (flatOf Pm.cells (l ++ [(⟨kind, fr, mid⟩ : Pm), ⟨kind, mid, to⟩]) ++ spg10) 45 :: Blk g9 (flatOf Pm.cells (l ++ [(⟨kind, fr, to⟩ : Pm)]) ++ spg9) 45 :: Blk b7 [.int .i64 (kind), .string fr, .string mid, .int .i64 (kind), .string mid, .string to] 45 :: Blk b3 [.int .i64 (kind), .string fr, .string to] 45 :: A :: F)
                                            refine WPc.region ?_
                                            refine WP.val rfl rfl rfl (Val.move rfl rfl) ?_
                                            refine WP.val rfl rfl rfl (Val.move rfl rfl) ?_
                                            refine WP.val rfl rfl rfl (Val.move rfl rfl) ?_
                                            refine WP.val rfl rfl rfl (Val.move rfl rfl) ?_
                                            refine WP.perm pl1 ?_
                                            refine WP.eff rfl rfl rfl (Eff.call rfl rfl Try.call22 (permits_spec (Blk g9 (flatOf Pm.cells (l ++ [(⟨kind, fr, to⟩ : Pm)]) ++ spg9) 45) key fin hkz hfz hvr kind hkd (l ++ [(⟨kind, fr, to⟩ : Pm)]) (by rw [List.length_append]; first | (show _ + 1 ≤ _; omega) | (show _ + 2 ≤ _; omega)) hok1 (.slice (some ⟨g9, 0, none⟩) ((l ++ [(⟨kind, fr, to⟩ : Pm)]).length) cg9) (.inl ⟨g9, 0, cg9, rfl, fun w hw i x hx => by rw [Nat.zero_add]; exact hw.cell_range (flatOf_range Pm.len hx)⟩))) ?_
                                            rintro _ _ ⟨_, ⟨p1, rfl, hp1, rfl⟩, rfl⟩
                                            show WP _ _ _ _ _ _ _ (Blk g9 (flatOf Pm.cells (l ++ [(⟨kind, fr, to⟩ : Pm)]) ++ spg9) 45 :: Blk g10 (flatOf Pm.cells (l ++ [(⟨kind, fr, mid⟩ : Pm), ⟨kind, mid, to⟩]) ++ spg10) 45 :: Blk b7 [.int .i64 (kind), .string fr, .string mid, .int .i64 (kind), .string mid, .string to] 45 :: Blk b3 [.int .i64 (kind), .string fr, .string to] 45 :: A :: F)
                                            refine WP.val rfl rfl rfl (Val.move rfl rfl) ?_
                                            refine WP.val rfl rfl rfl (Val.move rfl rfl) ?_
                                            refine WP.val rfl rfl rfl (Val.move rfl rfl) ?_
                                            refine WP.val rfl rfl rfl (Val.move rfl rfl) ?_
                                            refine WP.perm pl1 ?_
                                            refine WP.eff rfl rfl rfl (Eff.call rfl rfl Try.call22 (permits_spec (Blk g10 (flatOf Pm.cells (l ++ [(⟨kind, fr, mid⟩ : Pm), ⟨kind, mid, to⟩]) ++ spg10) 45) key fin hkz hfz hvr kind hkd (l ++ [(⟨kind, fr, mid⟩ : Pm), ⟨kind, mid, to⟩]) (by rw [List.length_append]; first | (show _ + 1 ≤ _; omega) | (show _ + 2 ≤ _; omega)) hok2 (.slice (some ⟨g10, 0, none⟩) ((l ++ [(⟨kind, fr, mid⟩ : Pm), ⟨kind, mid, to⟩]).length) cg10) (.inl ⟨g10, 0, cg10, rfl, fun w hw i x hx => by rw [Nat.zero_add]; exact hw.cell_range (flatOf_range Pm.len hx)⟩))) ?_
                                            rintro _ _ ⟨_, ⟨p2, rfl, hp2, rfl⟩, rfl⟩
                                            show WP _ _ _ _ _ _ _ (Blk g10 (flatOf Pm.cells (l ++ [(⟨kind, fr, mid⟩ : Pm), ⟨kind, mid, to⟩]) ++ spg10) 45 :: Blk g9 (flatOf Pm.cells (l ++ [(⟨kind, fr, to⟩ : Pm)]) ++ spg9) 45 :: Blk b7 [.int .i64 (kind), .string fr, .string mid, .int .i64 (kind), .string mid, .string to] 45 :: Blk b3 [.int .i64 (kind), .string fr, .string to] 45 :: A :: F)
                                            refine WP.val rfl rfl rfl (Val.eqlB rfl Ty2.bo4 rfl rfl) ?_
                                            refine WP.val rfl rfl rfl (Val.move rfl rfl) ?_
                                            refine WP.splitB 145 rfl (fun h22 => ?_) (fun h22 => ?_)
                                            · skip
                                              refine WP.valG rfl rfl rfl rfl rfl rfl rfl (Val.move rfl rfl) ?_
                                              refine WP.valG rfl rfl rfl rfl rfl rfl rfl (Val.move rfl rfl) ?_
                                              refine WP.valG rfl rfl rfl rfl rfl rfl rfl (Val.move rfl rfl) ?_
                                              refine WP.valG rfl rfl rfl rfl rfl rfl rfl (Val.move rfl rfl) ?_
                                              refine WP.effG rfl rfl rfl rfl rfl rfl rfl (Eff.call rfl rfl Try.call22 (permits_spec (Blk g10 (flatOf Pm.cells (l ++ [(⟨kind, fr, mid⟩ : Pm), ⟨kind, mid, to⟩]) ++ spg10) 45) fr to hf64 ht64 hdv.vr1 kind hkd (l ++ [(⟨kind, fr, mid⟩ : Pm), ⟨kind, mid, to⟩]) (by rw [List.length_append]; first | (show _ + 1 ≤ _; omega) | (show _ + 2 ≤ _; omega)) hok2 (.slice (some ⟨g10, 0, none⟩) ((l ++ [(⟨kind, fr, mid⟩ : Pm), ⟨kind, mid, to⟩]).length) cg10) (.inl ⟨g10, 0, cg10, rfl, fun w hw i x hx => by rw [Nat.zero_add]; exact hw.cell_range (flatOf_range Pm.len hx)⟩))) ?_
                                              rintro _ _ ⟨_, ⟨p3, rfl, hp3, rfl⟩, rfl⟩
                                              show WP _ _ _ _ _ _ _ (Blk g10 (flatOf Pm.cells (l ++ [(⟨kind, fr, mid⟩ : Pm), ⟨kind, mid, to⟩]) ++ spg10) 45 :: Blk g9 (flatOf Pm.cells (l ++ [(⟨kind, fr, to⟩ : Pm)]) ++ spg9) 45 :: Blk b7 [.int .i64 (kind), .string fr, .string mid, .int .i64 (kind), .string mid, .string to] 45 :: Blk b3 [.int .i64 (kind), .string fr, .string to] 45 :: A :: F)
                                              refine WP.val rfl rfl rfl (Val.pickT rfl rfl rfl) ?_
                                              refine WP.val rfl rfl rfl (Val.assign rfl rfl) ?_
                                              refine WP.nil ?_
                                              refine Out.next ?_
                                              refine WPc.ret ?_
                                              refine Out.drop ?_
                                              refine Out.drop ?_
                                              refine Out.drop ?_
                                              refine Out.drop ?_
                                              exact Out.ret1 (L' := [A]) Try.results5 rfl ⟨congrArg Value.bool (hp3.2 (div_all hdv)), rfl⟩ (fun w h => h)
                                            · skip
                                              exact absurd (Bool.eq_iff_iff.2 (hp1.trans ((div_cov hdv).trans hp2.symm))) (by simp_all)
                                · skip
                                  refine WP.skip rfl rfl rfl rfl rfl rfl rfl ?_
                                  refine WP.skip rfl rfl rfl rfl rfl rfl rfl ?_
                                  refine WP.skip rfl rfl rfl rfl rfl rfl rfl ?_
                                  refine WP.valG rfl rfl rfl rfl rfl rfl rfl (Val.pickF rfl rfl rfl) ?_
                                  refine WP.val rfl rfl rfl (Val.pickF rfl rfl rfl) ?_
                                  refine WP.val rfl rfl rfl (Val.move rfl rfl) ?_
                                  refine WP.valG rfl rfl rfl rfl rfl rfl rfl (Val.move rfl rfl) ?_
                                  refine WP.effG rfl rfl rfl rfl rfl rfl rfl (Eff.call rfl rfl Try.call20 (key_does fr)) ?_
                                  rintro _ _ ⟨_, ⟨rfl, rfl⟩, rfl⟩
                                  show WP _ _ _ _ _ _ _ (A :: F)
                                  refine WP.valG rfl rfl rfl rfl rfl rfl rfl (Val.notP rfl rfl) ?_
                                  refine WP.val rfl rfl rfl (Val.pickF rfl rfl rfl) ?_
                                  refine WP.val rfl rfl rfl (Val.move rfl rfl) ?_
                                  refine WP.split 98 rfl (fun h23 => ?_) (fun h23 => ?_)
                                  · skip
                                    have h23 : (¬ ((((fr).size : Nat) : Int) ≤ 64)) := h23
                                    refine WP.skip rfl rfl rfl rfl rfl rfl rfl ?_
                                    refine WP.skip rfl rfl rfl rfl rfl rfl rfl ?_
                                    refine WP.skip rfl rfl rfl rfl rfl rfl rfl ?_
                                    refine WP.val rfl rfl rfl (Val.pickT rfl rfl rfl) ?_
                                    refine WP.val rfl rfl rfl (Val.move rfl rfl) ?_
                                    refine WP.skip rfl rfl rfl rfl rfl rfl rfl ?_
                                    refine WP.skip rfl rfl rfl rfl rfl rfl rfl ?_
                                    refine WP.skip rfl rfl rfl rfl rfl rfl rfl ?_
                                    refine WP.val rfl rfl rfl (Val.pickT rfl rfl rfl) ?_
                                    refine WP.val rfl rfl rfl (Val.move rfl rfl) ?_
                                    refine WP.skip rfl rfl rfl rfl rfl rfl rfl ?_
                                    refine WP.skip rfl rfl rfl rfl rfl rfl rfl ?_
                                    refine WP.val rfl rfl rfl (Val.pickT rfl rfl rfl) ?_
                                    refine WP.nil ?_
                                    refine Out.next ?_
                                    refine WPc.condT rfl rfl ?_
                                    refine WPc.seq ?_
                                    refine WPc.region ?_
                                    refine WP.val rfl rfl rfl (Val.assign rfl rfl) ?_
                                    refine WP.nil ?_
                                    refine Out.next ?_
                                    refine WPc.ret ?_
                                    refine Out.then_ret ?_
                                    exact Out.ret1 (L' := [A]) Try.results5 rfl ⟨rfl, rfl⟩ (fun w h => h)
                                  · skip
                                    have h23 : ¬ (¬ ((((fr).size : Nat) : Int) ≤ 64)) := h23
                                    refine WP.valG rfl rfl rfl rfl rfl rfl rfl (Val.move rfl rfl) ?_
                                    refine WP.effG rfl rfl rfl rfl rfl rfl rfl (Eff.call rfl rfl Try.call20 (key_does mid)) ?_
                                    rintro _ _ ⟨_, ⟨rfl, rfl⟩, rfl⟩
                                    show WP _ _ _ _ _ _ _ (A :: F)
                                    refine WP.valG rfl rfl rfl rfl rfl rfl rfl (Val.notP rfl rfl) ?_
                                    refine WP.val rfl rfl rfl (Val.pickF rfl rfl rfl) ?_
                                    refine WP.val rfl rfl rfl (Val.move rfl rfl) ?_
                                    refine WP.split 103 rfl (fun h24 => ?_) (fun h24 => ?_)
                                    · skip
                                      have h24 : (¬ ((((mid).size : Nat) : Int) ≤ 64)) := h24
                                      refine WP.skip rfl rfl rfl rfl rfl rfl rfl ?_
                                      refine WP.skip rfl rfl rfl rfl rfl rfl rfl ?_
                                      refine WP.skip rfl rfl rfl rfl rfl rfl rfl ?_
                                      refine WP.val rfl rfl rfl (Val.pickT rfl rfl rfl) ?_
                                      refine WP.val rfl rfl rfl (Val.move rfl rfl) ?_
                                      refine WP.skip rfl rfl rfl rfl rfl rfl rfl ?_
                                      refine WP.skip rfl rfl rfl rfl rfl rfl rfl ?_
                                      refine WP.val rfl rfl rfl (Val.pickT rfl rfl rfl) ?_
                                      refine WP.nil ?_
                                      refine Out.next ?_
                                      refine WPc.condT rfl rfl ?_
                                      refine WPc.seq ?_
                                      refine WPc.region ?_
                                      refine WP.val rfl rfl rfl (Val.assign rfl rfl) ?_
                                      refine WP.nil ?_
                                      refine Out.next ?_
                                      refine WPc.ret ?_
                                      refine Out.then_ret ?_
                                      exact Out.ret1 (L' := [A]) Try.results5 rfl ⟨rfl, rfl⟩ (fun w h => h)
                                    · skip
                                      have h24 : ¬ (¬ ((((mid).size : Nat) : Int) ≤ 64)) := h24
                                      refine WP.valG rfl rfl rfl rfl rfl rfl rfl (Val.move rfl rfl) ?_
                                      refine WP.effG rfl rfl rfl rfl rfl rfl rfl (Eff.call rfl rfl Try.call20 (key_does to)) ?_
                                      rintro _ _ ⟨_, ⟨rfl, rfl⟩, rfl⟩
                                      show WP _ _ _ _ _ _ _ (A :: F)
                                      refine WP.valG rfl rfl rfl rfl rfl rfl rfl (Val.notP rfl rfl) ?_
                                      refine WP.val rfl rfl rfl (Val.pickF rfl rfl rfl) ?_
                                      refine WP.val rfl rfl rfl (Val.move rfl rfl) ?_
                                      refine WP.split 108 rfl (fun h25 => ?_) (fun h25 => ?_)
                                      · skip
                                        have h25 : (¬ ((((to).size : Nat) : Int) ≤ 64)) := h25
                                        refine WP.skip rfl rfl rfl rfl rfl rfl rfl ?_
                                        refine WP.skip rfl rfl rfl rfl rfl rfl rfl ?_
                                        refine WP.val rfl rfl rfl (Val.pickT rfl rfl rfl) ?_
                                        refine WP.nil ?_
                                        refine Out.next ?_
                                        refine WPc.condT rfl rfl ?_
                                        refine WPc.seq ?_
                                        refine WPc.region ?_
                                        refine WP.val rfl rfl rfl (Val.assign rfl rfl) ?_
                                        refine WP.nil ?_
                                        refine Out.next ?_
                                        refine WPc.ret ?_
                                        refine Out.then_ret ?_
                                        exact Out.ret1 (L' := [A]) Try.results5 rfl ⟨rfl, rfl⟩ (fun w h => h)
                                      · skip
                                        have h25 : ¬ (¬ ((((to).size : Nat) : Int) ≤ 64)) := h25
                                        refine WP.valG rfl rfl rfl rfl rfl rfl rfl (Val.move rfl rfl) ?_
                                        refine WP.valG rfl rfl rfl rfl rfl rfl rfl (Val.eqlS rfl rfl rfl) ?_
                                        refine WP.val rfl rfl rfl (Val.pickF rfl rfl rfl) ?_
                                        refine WP.nil ?_
                                        refine Out.next ?_
                                        refine WPc.cond rfl (fun h26 => ?_) (fun h26 => ?_)
                                        · skip
                                          have h26 : (seq mid (⟨#[0]⟩)) = true := h26
                                          refine WPc.seq ?_
                                          refine WPc.region ?_
                                          refine WP.val rfl rfl rfl (Val.assign rfl rfl) ?_
                                          refine WP.nil ?_
                                          refine Out.next ?_
                                          refine WPc.ret ?_
                                          refine Out.then_ret ?_
                                          exact Out.ret1 (L' := [A]) Try.results5 rfl ⟨rfl, rfl⟩ (fun w h => h)
                                        · skip
                                          have h26 : (seq mid (⟨#[0]⟩)) = false := h26
                                          refine WPc.skip ?_
                                          refine Out.next ?_
                                          refine WPc.seq ?_
                                          obtain ⟨hok, hl12⟩ := hq2 (by simpa using ‹(!q2) = false›)
                                          have hvr := hq3 (by simpa using ‹(!q3) = false›)
                                          have hkz : key.size ≤ 64 := by omega
                                          have hfz : fin.size ≤ 64 := by omega
                                          have hkd : kind = 0 ∨ kind = 1 := by omega
                                          have hf64 : fr.size ≤ 64 := by omega
                                          have hm64 : mid.size ≤ 64 := by omega
                                          have ht64 : to.size ≤ 64 := by omega
                                          have hdv : Div fr mid to := div_of (ne_of (by assumption)) (lt_of (by assumption)) (by first | exact .inl (op_of (by assumption)) | exact .inr (lt_of (by assumption))) (op_no (by assumption))
                                          have hok1 : ∀ p ∈ (l ++ [(⟨kind, fr, to⟩ : Pm)]), PmOk p := ok_app hok (fun p hp => by rw [List.mem_singleton.1 hp]; exact ⟨by show 0 ≤ kind ∧ kind ≤ 2; omega, hf64, ht64, hdv.vr1⟩)
                                          have hok2 : ∀ p ∈ (l ++ [(⟨kind, fr, mid⟩ : Pm), ⟨kind, mid, to⟩]), PmOk p := ok_app hok (fun p hp => by
                                                                                        rcases List.mem_cons.1 hp with rfl | hp
                                                                                        · exact ⟨by show 0 ≤ kind ∧ kind ≤ 2; omega, hf64, hm64, hdv.vr2⟩
                                                                                        · rw [List.mem_singleton.1 hp]; exact ⟨by show 0 ≤ kind ∧ kind ≤ 2; omega, hm64, ht64, hdv.vr3⟩)
                                          refine WPc.region ?_
                                          refine WP.eff rfl rfl rfl (Eff.mkSlice (C := []) rfl Ty.sl39 rfl (fun _ => by kernel_rfl)) ?_
                                          rintro _ _ ⟨b11, rfl, rfl⟩
                                          refine WP.conv (fun w h => own_zero h) ?_
                                          show WP _ _ _ _ _ _ _ (Own 45 3 (.slice (some ⟨b11, 0, none⟩) 0 0) 0 ([]) :: A :: F)
                                          refine WP.val rfl rfl rfl (Val.move rfl rfl) ?_
                                          refine WP.eff rfl rfl rfl (Eff.append (m := l.length) (n0 := 0) (news := flatOf Pm.cells l) rfl Ty.sl39 Ty.z45 rfl rfl rfl (.slice Ty.sl39 (flatOf_length Pm.len _) (pm_all _) (fun w h => cells_range (rows_flat Pm.len (by decide) (hr w (h.at 1 rfl))))) (by omega) (by omega)) ?_
                                          rintro v12 _ ⟨onev12, rfl⟩
                                          refine WP.val rfl rfl rfl (Val.move rfl rfl) ?_
                                          refine WP.val rfl rfl rfl (Val.move rfl rfl) ?_
                                          refine WP.val rfl rfl rfl (Val.move rfl rfl) ?_
                                          refine WP.val rfl rfl rfl (Val.mk (cs := [.int .i64 (kind), .string fr, .string to]) rfl rfl (fun _ => by kernel_rfl)) ?_
                                          refine WP.eff rfl rfl rfl (Eff.mkSlice (C := [.int .i64 (kind), .string fr, .string to]) rfl Ty.sl39 rfl (fun _ => by kernel_rfl)) ?_
                                          rintro _ _ ⟨b13, rfl, rfl⟩
                                          refine WP.perm pl1 ?_
                                          refine WP.eff rfl rfl rfl (Eff.append (m := 1) (n0 := 0 + l.length) (news := [.int .i64 (kind), .string fr, .string to]) rfl Ty.sl39 Ty.z45 rfl rfl rfl (.slice Ty.sl39 rfl rfl (fun w h => cells_range (h.range 1 rfl rfl))) (by omega) (by omega)) ?_
                                          rintro v14 _ ⟨onev14, rfl⟩
                                          refine WP.val rfl rfl rfl (Val.assign rfl rfl) ?_
                                          refine WP.nil ?_
                                          refine Out.next ?_
                                          refine WPc.seq ?_
                                          refine WPc.region ?_
                                          refine WP.eff rfl rfl rfl (Eff.mkSlice (C := []) rfl Ty.sl39 rfl (fun _ => by kernel_rfl)) ?_
                                          rintro _ _ ⟨b15, rfl, rfl⟩
                                          refine WP.conv (fun w h => own_zero h) ?_
                                          show WP _ _ _ _ _ _ _ (Own 45 3 (.slice (some ⟨b15, 0, none⟩) 0 0) 0 ([]) :: Own 45 3 v14 ((0 + l.length) + 1) ((([]) ++ (flatOf Pm.cells l)) ++ ([.int .i64 (kind), .string fr, .string to])) :: Blk b13 [.int .i64 (kind), .string fr, .string to] 45 :: A :: F)
                                          refine WP.val rfl rfl rfl (Val.move rfl rfl) ?_
                                          refine WP.eff rfl rfl rfl (Eff.append (m := l.length) (n0 := 0) (news := flatOf Pm.cells l) rfl Ty.sl39 Ty.z45 rfl rfl rfl (.slice Ty.sl39 (flatOf_length Pm.len _) (pm_all _) (fun w h => cells_range (rows_flat Pm.len (by decide) (hr w (h.at 3 rfl))))) (by omega) (by omega)) ?_
                                          rintro v16 _ ⟨onev16, rfl⟩
                                          refine WP.val rfl rfl rfl (Val.move rfl rfl) ?_
                                          refine WP.val rfl rfl rfl (Val.move rfl rfl) ?_
                                          refine WP.val rfl rfl rfl (Val.move rfl rfl) ?_
                                          refine WP.val rfl rfl rfl (Val.mk (cs := [.int .i64 (kind), .string fr, .string mid]) rfl rfl (fun _ => by kernel_rfl)) ?_
                                          refine WP.val rfl rfl rfl (Val.move rfl rfl) ?_
                                          refine WP.val rfl rfl rfl (Val.move rfl rfl) ?_
                                          refine WP.val rfl rfl rfl (Val.move rfl rfl) ?_
                                          refine WP.val rfl rfl rfl (Val.mk (cs := [.int .i64 (kind), .string mid, .string to]) rfl rfl (fun _ => by kernel_rfl)) ?_
                                          refine WP.eff rfl rfl rfl (Eff.mkSlice (C := [.int .i64 (kind), .string fr, .string mid, .int .i64 (kind), .string mid, .string to]) rfl Ty.sl39 rfl (fun _ => by kernel_rfl)) ?_
                                          rintro _ _ ⟨b17, rfl, rfl⟩
                                          refine WP.perm pl1 ?_
                                          refine WP.eff rfl rfl rfl (Eff.append (m := 2) (n0 := 0 + l.length) (news := [.int .i64 (kind), .string fr, .string mid, .int .i64 (kind), .string mid, .string to]) rfl Ty.sl39 Ty.z45 rfl rfl rfl (.slice Ty.sl39 rfl rfl (fun w h => cells_range (h.range 1 rfl rfl))) (by omega) (by omega)) ?_
                                          rintro v18 _ ⟨onev18, rfl⟩
                                          refine WP.val rfl rfl rfl (Val.assign rfl rfl) ?_
                                          refine WP.nil ?_
                                          refine Out.next ?_
                                          refine WPc.seq ?_
                                          refine WPc.perm pl2 ?_
                                          refine WPc.conv (M := Own 45 3 v14 ((l ++ [(⟨kind, fr, to⟩ : Pm)]).length) (flatOf Pm.cells (l ++ [(⟨kind, fr, to⟩ : Pm)])) :: Own 45 3 v18 ((0 + l.length) + 2) ((([]) ++ (flatOf Pm.cells l)) ++ ([.int .i64 (kind), .string fr, .string mid, .int .i64 (kind), .string mid, .string to])) :: Blk b17 [.int .i64 (kind), .string fr, .string mid, .int .i64 (kind), .string mid, .string to] 45 :: Blk b13 [.int .i64 (kind), .string fr, .string to] 45 :: A :: F) (fun w h => by rw [← flat1, List.length_append]; first | exact h | (simp only [Nat.zero_add] at h ⊢; exact h)) ?_
                                          refine WPc.open (fun w h => h.ownPos (by rw [List.length_append]; exact Nat.succ_pos _)) ?_
                                          rintro ⟨g19, cg19, spg19⟩
                                          refine WPc.pure (fun hvg19 => ?_)
                                          obtain ⟨rfl, hng19, hlg19, hsg19, hcg19⟩ := hvg19
                                          dsimp only at hng19 hlg19 hsg19 hcg19
                                          show WPc _ _ _ _ _ _ (Blk g19 (flatOf Pm.cells (l ++ [(⟨kind, fr, to⟩ : Pm)]) ++ spg19) 45 :: Own 45 3 v18 ((0 + l.length) + 2) ((([]) ++ (flatOf Pm.cells l)) ++ ([.int .i64 (kind), .string fr, .string mid, .int .i64 (kind), .string mid, .string to])) :: Blk b17 [.int .i64 (kind), .string fr, .string mid, .int .i64 (kind), .string mid, .string to] 45 :: Blk b13 [.int .i64 (kind), .string fr, .string to] 45 :: A :: F)
                                          refine WPc.perm pl1 ?_
                                          refine WPc.conv (M := Own 45 3 v18 ((l ++ [(⟨kind, fr, mid⟩ : Pm), ⟨kind, mid, to⟩]).length) (flatOf Pm.cells (l ++ [(⟨kind, fr, mid⟩ : Pm), ⟨kind, mid, to⟩])) :: Blk g19 (flatOf Pm.cells (l ++ [(⟨kind, fr, to⟩ : Pm)]) ++ spg19) 45 :: Blk b17 [.int .i64 (kind), .string fr, .string mid, .int .i64 (kind), .string mid, .string to] 45 :: Blk b13 [.int .i64 (kind), .string fr, .string to] 45 :: A :: F) (fun w h => by rw [← flat2, List.length_append]; first | exact h | (simp only [Nat.zero_add] at h ⊢; exact h)) ?_
                                          refine WPc.open (fun w h => h.ownPos (by rw [List.length_append]; exact Nat.succ_pos _)) ?_
                                          rintro ⟨g20, cg20, spg20⟩
                                          refine WPc.pure (fun hvg20 => ?_)
                                          obtain ⟨rfl, hng20, hlg20, hsg20, hcg20⟩ := hvg20
                                          dsimp only at hng20 hlg20 hsg20 hcg20
                                          show WPc _ _ _ _ _ _ (Blk g20 (flatOf Pm.cells (l ++ [(⟨kind, fr, mid⟩ : Pm), ⟨kind, mid, to⟩]) ++ spg20) 45 :: Blk g19 (flatOf Pm.cells (l ++ [(⟨kind, fr, to⟩ : Pm)]) ++ spg19) 45 :: Blk b17 [.int .i64 (kind), .string fr, .string mid, .int .i64 (kind), .string mid, .string to] 45 :: Blk b13 [.int .i64 (kind), .string fr, .string to] 45 :: A :: F)
                                          refine WPc.region ?_
                                          refine WP.val rfl rfl rfl (Val.move rfl rfl) ?_
                                          refine WP.val rfl rfl rfl (Val.move rfl rfl) ?_
                                          refine WP.val rfl rfl rfl (Val.move rfl rfl) ?_
                                          refine WP.val rfl rfl rfl (Val.move rfl rfl) ?_
                                          refine WP.perm pl1 ?_
                                          refine WP.eff rfl rfl rfl (Eff.call rfl rfl Try.call22 (permits_spec (Blk g19 (flatOf Pm.cells (l ++ [(⟨kind, fr, to⟩ : Pm)]) ++ spg19) 45) key fin hkz hfz hvr kind hkd (l ++ [(⟨kind, fr, to⟩ : Pm)]) (by rw [List.length_append]; first | (show _ + 1 ≤ _; omega) | (show _ + 2 ≤ _; omega)) hok1 (.slice (some ⟨g19, 0, none⟩) ((l ++ [(⟨kind, fr, to⟩ : Pm)]).length) cg19) (.inl ⟨g19, 0, cg19, rfl, fun w hw i x hx => by rw [Nat.zero_add]; exact hw.cell_range (flatOf_range Pm.len hx)⟩))) ?_
                                          rintro _ _ ⟨_, ⟨p1, rfl, hp1, rfl⟩, rfl⟩
                                          show WP _ _ _ _ _ _ _ (Blk g19 (flatOf Pm.cells (l ++ [(⟨kind, fr, to⟩ : Pm)]) ++ spg19) 45 :: Blk g20 (flatOf Pm.cells (l ++ [(⟨kind, fr, mid⟩ : Pm), ⟨kind, mid, to⟩]) ++ spg20) 45 :: Blk b17 [.int .i64 (kind), .string fr, .string mid, .int .i64 (kind), .string mid, .string to] 45 :: Blk b13 [.int .i64 (kind), .string fr, .string to] 45 :: A :: F)
                                          refine WP.val rfl rfl rfl (Val.move rfl rfl) ?_
                                          refine WP.val rfl rfl rfl (Val.move rfl rfl) ?_
                                          refine WP.val rfl rfl rfl (Val.move rfl rfl) ?_
                                          refine WP.val rfl rfl rfl (Val.move rfl rfl) ?_
                                          refine WP.perm pl1 ?_
                                          refine WP.eff rfl rfl rfl (Eff.call rfl rfl Try.call22 (permits_spec (Blk g20 (flatOf Pm.cells (l ++ [(⟨kind, fr, mid⟩ : Pm), ⟨kind, mid, to⟩]) ++ spg20) 45) key fin hkz hfz hvr kind hkd (l ++ [(⟨kind, fr, mid⟩ : Pm), ⟨kind, mid, to⟩]) (by rw [List.length_append]; first | (show _ + 1 ≤ _; omega) | (show _ + 2 ≤ _; omega)) hok2 (.slice (some ⟨g20, 0, none⟩) ((l ++ [(⟨kind, fr, mid⟩ : Pm), ⟨kind, mid, to⟩]).length) cg20) (.inl ⟨g20, 0, cg20, rfl, fun w hw i x hx => by rw [Nat.zero_add]; exact hw.cell_range (flatOf_range Pm.len hx)⟩))) ?_
                                          rintro _ _ ⟨_, ⟨p2, rfl, hp2, rfl⟩, rfl⟩
                                          show WP _ _ _ _ _ _ _ (Blk g20 (flatOf Pm.cells (l ++ [(⟨kind, fr, mid⟩ : Pm), ⟨kind, mid, to⟩]) ++ spg20) 45 :: Blk g19 (flatOf Pm.cells (l ++ [(⟨kind, fr, to⟩ : Pm)]) ++ spg19) 45 :: Blk b17 [.int .i64 (kind), .string fr, .string mid, .int .i64 (kind), .string mid, .string to] 45 :: Blk b13 [.int .i64 (kind), .string fr, .string to] 45 :: A :: F)
                                          refine WP.val rfl rfl rfl (Val.eqlB rfl Ty2.bo4 rfl rfl) ?_
                                          refine WP.val rfl rfl rfl (Val.move rfl rfl) ?_
                                          refine WP.splitB 145 rfl (fun h27 => ?_) (fun h27 => ?_)
                                          · skip
                                            refine WP.valG rfl rfl rfl rfl rfl rfl rfl (Val.move rfl rfl) ?_
                                            refine WP.valG rfl rfl rfl rfl rfl rfl rfl (Val.move rfl rfl) ?_
                                            refine WP.valG rfl rfl rfl rfl rfl rfl rfl (Val.move rfl rfl) ?_
                                            refine WP.valG rfl rfl rfl rfl rfl rfl rfl (Val.move rfl rfl) ?_
                                            refine WP.effG rfl rfl rfl rfl rfl rfl rfl (Eff.call rfl rfl Try.call22 (permits_spec (Blk g20 (flatOf Pm.cells (l ++ [(⟨kind, fr, mid⟩ : Pm), ⟨kind, mid, to⟩]) ++ spg20) 45) fr to hf64 ht64 hdv.vr1 kind hkd (l ++ [(⟨kind, fr, mid⟩ : Pm), ⟨kind, mid, to⟩]) (by rw [List.length_append]; first | (show _ + 1 ≤ _; omega) | (show _ + 2 ≤ _; omega)) hok2 (.slice (some ⟨g20, 0, none⟩) ((l ++ [(⟨kind, fr, mid⟩ : Pm), ⟨kind, mid, to⟩]).length) cg20) (.inl ⟨g20, 0, cg20, rfl, fun w hw i x hx => by rw [Nat.zero_add]; exact hw.cell_range (flatOf_range Pm.len hx)⟩))) ?_
                                            rintro _ _ ⟨_, ⟨p3, rfl, hp3, rfl⟩, rfl⟩
                                            show WP _ _ _ _ _ _ _ (Blk g20 (flatOf Pm.cells (l ++ [(⟨kind, fr, mid⟩ : Pm), ⟨kind, mid, to⟩]) ++ spg20) 45 :: Blk g19 (flatOf Pm.cells (l ++ [(⟨kind, fr, to⟩ : Pm)]) ++ spg19) 45 :: Blk b17 [.int .i64 (kind), .string fr, .string mid, .int .i64 (kind), .string mid, .string to] 45 :: Blk b13 [.int .i64 (kind), .string fr, .string to] 45 :: A :: F)
                                            refine WP.val rfl rfl rfl (Val.pickT rfl rfl rfl) ?_
                                            refine WP.val rfl rfl rfl (Val.assign rfl rfl) ?_
                                            refine WP.nil ?_
                                            refine Out.next ?_
                                            refine WPc.ret ?_
                                            refine Out.drop ?_
                                            refine Out.drop ?_
                                            refine Out.drop ?_
                                            refine Out.drop ?_
                                            exact Out.ret1 (L' := [A]) Try.results5 rfl ⟨congrArg Value.bool (hp3.2 (div_all hdv)), rfl⟩ (fun w h => h)
                                          · skip
                                            exact absurd (Bool.eq_iff_iff.2 (hp1.trans ((div_cov hdv).trans hp2.symm))) (by simp_all)

theorem splits_spec (A : HProp) (fr mid to key fin : ByteArray) (kind : Int) (l : List Pm) (hl : l.length ≤ 9223372036854775807) (va : Value) (hva : Rd A 3 Pm.cells va l) : Does Try.prog 5 [va, .string fr, .string mid, .string to, .string key, .string fin, .int .i64 (kind)] [A] (fun v L => v = .bool true ∧ L = [A]) := by
  rcases hva with ⟨b0, o0, c0, rfl, hr⟩ | ⟨rfl, a, c, rfl⟩
  · exact splits_row A fr mid to key fin kind l hl b0 o0 c0 hr
  · exact splits_nil A fr mid to key fin kind a c

end Go.Proofs.Ytbomnihiapjmpaa.An

