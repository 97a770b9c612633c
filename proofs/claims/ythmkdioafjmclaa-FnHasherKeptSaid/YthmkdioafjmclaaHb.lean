import Derived.Test.YthmkdioafjmclaaHm
namespace Go.Proofs.Ythmkdioafjmclaa.Hb
open Go.RowKit Go.Proofs.Ythmkdioafjmclaa Go.Proofs.Ythmkdioafjmclaa.Sl Go.Proofs.Ythmkdioafjmclaa.Hc Go.Proofs.Ythmkdioafjmclaa.Hp Go.Proofs.Ythmkdioafjmclaa.Hm
set_option linter.unusedVariables false
set_option linter.unusedSimpArgs false
set_option linter.unusedSectionVars false


/-- byte k of a number's eight -/
def bq (n : Int) (k : Nat) : UInt8 := b8 (bshr .u64 n (((8 * (7 - k) : Nat) : Nat) : Int))
def beN (n : Int) (k : Nat) : List UInt8 := (List.range k).map (bq n)
def be8 (n : Int) : List UInt8 := beN n 8
theorem beN_len (n : Int) (k : Nat) : (beN n k).length = k := by simp [beN]
theorem beN_succ (n : Int) (k : Nat) : beN n (k + 1) = beN n k ++ [bq n k] := by simp [beN, List.range_succ]
def putN (C : List Value) (o : Nat) (n : Int) (k : Nat) : List Value := C.take o ++ byt (beN n k) ++ C.drop (o + k)
theorem putN_len {C : List Value} {o k : Nat} (n : Int) (h : o + k ≤ C.length) : (putN C o n k).length = C.length := by
  simp only [putN, List.length_append, List.length_take, List.length_drop, byt_length, beN_len]; omega
theorem putN_zero (C : List Value) (o : Nat) (n : Int) : putN C o n 0 = C := by simp [putN, beN, byt]
theorem putN_set {C : List Value} {o k : Nat} (n : Int) (h : o + k < C.length) : (putN C o n k).set (o + k) (.int .u8 (IntKind.wrap .u8 (bshr .u64 n (((8 * (7 - k) : Nat) : Nat) : Int)))) = putN C o n (k + 1) := by
  have e : C.drop (o + k) = C[o + k] :: C.drop (o + (k + 1)) := by rw [List.drop_eq_getElem_cons h]; rfl
  have hl : (C.take o ++ byt (beN n k)).length = o + k := by simp only [List.length_append, List.length_take, byt_length, beN_len]; omega
  unfold putN
  rw [e, List.set_append_right _ _ (by omega), hl, Nat.sub_self, List.set_cons_zero, beN_succ, byt_append]
  have e2 : byt [bq n k] = [.int .u8 (IntKind.wrap .u8 (bshr .u64 n (((8 * (7 - k) : Nat) : Nat) : Int)))] := (b8_byt _).symm
  rw [e2]
  simp
theorem sub7 {k : Nat} (h : k < 8) : IntKind.u64.wrap ((7 : Int) - (k : Int)) = ((7 - k : Nat) : Int) := by
  have e : IntKind.u64.wrap ((7 : Int) - (k : Int)) = ((7 : Int) - (k : Int)) % 18446744073709551616 := rfl
  rw [e]; omega
theorem mul8 {k : Nat} (h : k < 8) : IntKind.u64.wrap ((8 : Int) * ((7 - k : Nat) : Int)) = ((8 * (7 - k) : Nat) : Int) := by
  have e : IntKind.u64.wrap ((8 : Int) * ((7 - k : Nat) : Int)) = ((8 : Int) * ((7 - k : Nat) : Int)) % 18446744073709551616 := rfl
  rw [e]; omega
def Nval (x : Nat → Int) : Nat → Int
  | 0 => 0
  | k + 1 => Nval x k * 256 + x k
theorem nval_bd (x : Nat → Int) : ∀ k, (∀ i, i < k → 0 ≤ x i ∧ x i < 256) → 0 ≤ Nval x k ∧ Nval x k < 256 ^ k
  | 0, _ => by simp [Nval]
  | k + 1, h => by
    have ih := nval_bd x k (fun i hi => h i (by omega))
    have hk := h k (by omega)
    rw [Nval, Int.pow_succ]
    omega
theorem or_step (a y : Int) (k : Nat) (hk : k < 8) (h0 : 0 ≤ a) (h1 : a < 256 ^ k) (hy0 : 0 ≤ y) (hy1 : y < 256) : bor .u64 (bshl .u64 a 8) (IntKind.wrap .u64 y) = a * 256 + y := by
  have hb : a < 72057594037927936 := by
    rcases (by omega : k = 0 ∨ k = 1 ∨ k = 2 ∨ k = 3 ∨ k = 4 ∨ k = 5 ∨ k = 6 ∨ k = 7) with rfl | rfl | rfl | rfl | rfl | rfl | rfl | rfl <;> simp at h1 <;> omega
  have hw : bshl .u64 a 8 = a * 256 := by
    show IntKind.u64.wrap (a * 2 ^ min (8 : Int).toNat 64) = _
    have e : IntKind.u64.wrap (a * 2 ^ min (8 : Int).toNat 64) = (a * 256) % 18446744073709551616 := rfl
    rw [e]; omega
  have hy : IntKind.wrap .u64 y = y := by
    have e : IntKind.wrap .u64 y = y % 18446744073709551616 := rfl
    rw [e]; omega
  rw [hw, hy]
  show bits .or .u64 (a * 256) y = _
  refine bits_join .u64 64 (by decide) (fun n h0 h1 => ?_) 8 (a * 256) y (by omega) (by omega) (by omega) hy0 (by omega) (by omega)
  unfold IntKind.wrap
  simp [IntKind.bits, IntKind.signed]
  omega
theorem bq_val {n : Int} {k : Nat} (h : k < 8) : (((bq n k).toNat : Nat) : Int) = n / 2 ^ (8 * (7 - k)) % 256 := by
  unfold bq
  rw [b8_nat]
  have e1 : IntKind.u8.wrap (bshr .u64 n (((8 * (7 - k) : Nat) : Nat) : Int)) = (bshr .u64 n (((8 * (7 - k) : Nat) : Nat) : Int)) % 256 := rfl
  rw [e1]
  congr 1
  unfold bshr
  have e2 : min (((8 * (7 - k) : Nat) : Int)).toNat (IntKind.u64.bits) = 8 * (7 - k) := by
    have : IntKind.u64.bits = 64 := rfl
    rw [this]; omega
  rw [e2, Int.fdiv_eq_ediv_of_nonneg _ (Int.le_of_lt (Int.pow_pos (by decide)))]
def x8 (l : List UInt8) (k : Nat) : Int := ((l.getD k 0).toNat : Int)
def de8 (l : List UInt8) : Int := Nval (x8 l) 8
theorem de8_be8 {n : Int} (h0 : 0 ≤ n) (h1 : n < 9223372036854775808) (t : List UInt8) : de8 (be8 n ++ t) = n := by
  have hx : ∀ k, k < 8 → x8 (be8 n ++ t) k = n / 2 ^ (8 * (7 - k)) % 256 := fun k hk => by
    unfold x8
    rw [List.getD_eq_getElem?_getD, List.getElem?_append_left (by rw [be8, beN_len]; exact hk)]
    have : (be8 n)[k]? = some (bq n k) := by simp [be8, beN, hk]
    rw [this]
    exact bq_val hk
  have e0 := hx 0 (by omega); have e1 := hx 1 (by omega); have e2 := hx 2 (by omega); have e3 := hx 3 (by omega)
  have e4 := hx 4 (by omega); have e5 := hx 5 (by omega); have e6 := hx 6 (by omega); have e7 := hx 7 (by omega)
  unfold de8
  generalize x8 (be8 n ++ t) = x at *
  simp at e0 e1 e2 e3 e4 e5 e6 e7
  have h1 : Nval x 1 = n / 72057594037927936 := by simp only [Nval]; omega
  have h2 : Nval x 2 = n / 281474976710656 := by rw [Nval, h1]; omega
  have h3 : Nval x 3 = n / 1099511627776 := by rw [Nval, h2]; omega
  have h4 : Nval x 4 = n / 4294967296 := by rw [Nval, h3]; omega
  have h5 : Nval x 5 = n / 16777216 := by rw [Nval, h4]; omega
  have h6 : Nval x 6 = n / 65536 := by rw [Nval, h5]; omega
  have h7 : Nval x 7 = n / 256 := by rw [Nval, h6]; omega
  rw [Nval, h7]; omega
set_option maxRecDepth 100000 in
set_option maxHeartbeats 1000000 in
theorem put64_spec (b0 o0 len c0 : Nat) (n : Int) (C : List Value) (T : TypeId) (ho : o0 + 8 ≤ C.length) (hl : 8 ≤ len) : Does Try.prog 118 [.slice (some ⟨b0, o0, none⟩) len c0, .int .u64 (n)] [Blk b0 C T] (fun v L => v = .tuple #[] ∧ L = [Blk b0 (putN C o0 n 8) T]) := by
  refine Does.enter 19 Try.func118 rfl rfl rfl fun W F => ?_
  show WPc _ _ _ _ _ [(0, .slice (some ⟨b0, o0, none⟩) len c0), (1, .int .u64 (n))] (Blk b0 C T :: F)
  refine WPc.seq ?_
  refine WPc.region ?_
  refine WP.val rfl rfl rfl (Val.assign rfl rfl) ?_
  refine WP.nil ?_
  refine Out.next ?_
  refine WPc.block ?_
  refine WPc.loop (ι := Nat) (fun k => k ≤ 8) (fun k => [(0, .slice (some ⟨b0, o0, none⟩) len c0), (1, .int .u64 (n)), (4, .int .i64 (((k : Nat) : Int)))]) (fun k => Blk b0 (putN C o0 n k) T :: F) (fun k => 8 - k) 0 (Nat.zero_le _) ((Sub.cons rfl (Sub.cons rfl (Sub.cons rfl Sub.nil)))) (fun w h => by rw [putN_zero]; exact h) ?_
  rintro k hk
  show WPc _ _ _ _ _ [(0, .slice (some ⟨b0, o0, none⟩) len c0), (1, .int .u64 (n)), (4, .int .i64 (((k : Nat) : Int)))] (Blk b0 (putN C o0 n k) T :: F)
  replace hk : k ≤ 8 := hk
  refine WPc.seq ?_
  refine WPc.seq ?_
  refine WPc.region ?_
  refine WP.val rfl rfl rfl (Val.move rfl rfl) ?_
  refine WP.val rfl rfl rfl (Val.lss rfl rfl rfl) ?_
  refine WP.nil ?_
  refine Out.next ?_
  refine WPc.ifP rfl (fun h1 => ?_) (fun h1 => ?_)
  · skip
    have h1 : (((k : Nat) : Int) < (8 : Int)) := h1
    refine WPc.skip ?_
    refine Out.next ?_
    refine WPc.seq ?_
    refine WPc.block ?_
    refine WPc.region ?_
    refine WP.val rfl rfl rfl (Val.move rfl rfl) ?_
    refine WP.val rfl rfl rfl (Val.move rfl rfl) ?_
    refine WP.val rfl rfl rfl (Val.move rfl rfl) ?_
    refine WP.val rfl rfl rfl (Val.move rfl rfl) ?_
    refine WP.val rfl rfl rfl (Val.sub (z := (7 : Int) - (k : Int)) rfl rfl rfl (w64 (by omega) (by omega))) ?_
    refine WP.val rfl rfl rfl (Val.conv (z := ((7 - k : Nat) : Int)) rfl Ty.ik228 Ty.un3 rfl (sub7 (by omega))) ?_
    refine WP.val rfl rfl rfl (Val.mul (z := ((8 * (7 - k) : Nat) : Int)) rfl rfl rfl (mul8 (by omega))) ?_
    refine WP.val rfl rfl rfl (Val.shr rfl rfl rfl (by first | decide | omega)) ?_
    refine WP.val rfl rfl rfl (Val.conv (z := IntKind.wrap .u8 (bshr .u64 n ((8 * (7 - k) : Nat) : Int))) rfl Ty.ik5 Ty.un235 rfl rfl) ?_
    refine WP.val rfl rfl rfl (Val.indexAddr (j := k) (q := o0 + k) rfl Ty.sl86 rfl rfl (by omega) (by omega) (by omega)) ?_
    refine WP.eff0 rfl rfl (Eff.store (C' := putN C o0 n (k + 1)) rfl Ty.sc5 rfl rfl rfl (by rw [putN_len n (by omega)]; omega) (putN_set n (by omega))) ?_
    rintro _ _ rfl
    refine WP.nil ?_
    refine Out.block ?_
    refine Out.next ?_
    refine WPc.region ?_
    refine WP.val rfl rfl rfl (Val.move rfl rfl) ?_
    refine WP.val rfl rfl rfl (Val.add (z := ((k + 1 : Nat) : Int)) rfl rfl rfl ((w64 (by omega) (by omega)).trans (by omega))) ?_
    refine WP.val rfl rfl rfl (Val.assign rfl rfl) ?_
    refine WP.nil ?_
    refine Out.again (k + 1) ?_ ?_ ?_ ?_
    · exact (by first | omega | (dsimp only; omega))
    · first | omega | (dsimp only; omega)
    · exact (Sub.cons rfl (Sub.cons rfl (Sub.cons rfl Sub.nil)))
    · exact (fun _ h => h)
  · skip
    have h1 : ¬ (((k : Nat) : Int) < (8 : Int)) := h1
    refine WPc.exit ?_
    refine Out.then_exit ?_
    refine Out.then_exit ?_
    refine Out.block_exit ?_
    have h8 : k = 8 := by omega
    subst h8
    exact Out.end0 (L' := _) Try.results118 ⟨rfl, rfl⟩ (fun _ h => h)
set_option maxRecDepth 100000 in
set_option maxHeartbeats 1000000 in
theorem get64_spec (A : HProp) (b0 o0 len c0 : Nat) (l : List UInt8) (hr : ∀ w, Holds A w → ∀ k, k < 8 → w.cell? ⟨b0, o0 + k, none⟩ = some (.int .u8 (x8 l k))) (hl : 8 ≤ len) : Does Try.prog 119 [.slice (some ⟨b0, o0, none⟩) len c0] [A] (fun v L => v = .int .u64 (de8 l) ∧ L = [A]) := by
  refine Does.enter 18 Try.func119 rfl rfl rfl fun W F => ?_
  show WPc _ _ _ _ _ [(0, .slice (some ⟨b0, o0, none⟩) len c0)] (A :: F)
  refine WPc.seq ?_
  refine WPc.region ?_
  refine WP.val rfl rfl rfl (Val.assign rfl rfl) ?_
  refine WP.nil ?_
  refine Out.next ?_
  refine WPc.seq ?_
  refine WPc.region ?_
  refine WP.val rfl rfl rfl (Val.assign rfl rfl) ?_
  refine WP.nil ?_
  refine Out.next ?_
  refine WPc.seq ?_
  refine WPc.seq ?_
  refine WPc.region ?_
  refine WP.val rfl rfl rfl (Val.assign rfl rfl) ?_
  refine WP.nil ?_
  refine Out.next ?_
  refine WPc.block ?_
  refine WPc.loop (ι := Nat) (fun k => k ≤ 8) (fun k => [(0, .slice (some ⟨b0, o0, none⟩) len c0), (3, .int .u64 (Nval (x8 l) k)), (4, .int .i64 (((k : Nat) : Int)))]) (fun k => A :: F) (fun k => 8 - k) 0 (Nat.zero_le _) ((Sub.cons rfl (Sub.cons rfl (Sub.cons rfl Sub.nil)))) (fun _ h => h) ?_
  rintro k hk
  show WPc _ _ _ _ _ [(0, .slice (some ⟨b0, o0, none⟩) len c0), (3, .int .u64 (Nval (x8 l) k)), (4, .int .i64 (((k : Nat) : Int)))] (A :: F)
  replace hk : k ≤ 8 := hk
  refine WPc.seq ?_
  refine WPc.seq ?_
  refine WPc.region ?_
  refine WP.val rfl rfl rfl (Val.move rfl rfl) ?_
  refine WP.val rfl rfl rfl (Val.lss rfl rfl rfl) ?_
  refine WP.nil ?_
  refine Out.next ?_
  refine WPc.ifP rfl (fun h1 => ?_) (fun h1 => ?_)
  · skip
    have h1 : (((k : Nat) : Int) < (8 : Int)) := h1
    refine WPc.skip ?_
    refine Out.next ?_
    refine WPc.seq ?_
    refine WPc.block ?_
    refine WPc.region ?_
    refine WP.val rfl rfl rfl (Val.move rfl rfl) ?_
    refine WP.val rfl rfl rfl (Val.shl rfl rfl rfl (by first | decide | omega)) ?_
    refine WP.val rfl rfl rfl (Val.move rfl rfl) ?_
    refine WP.val rfl rfl rfl (Val.move rfl rfl) ?_
    refine WP.val rfl rfl rfl (Val.indexAddr (j := k) (q := o0 + k) rfl Ty.sl86 rfl rfl (by omega) (by omega) (by omega)) ?_
    refine WP.val rfl rfl rfl (Val.load (v := .int .u8 (x8 l k)) rfl Ty.sc5 rfl (fun w h => hr w (h.at 0 rfl) k (by omega))) ?_
    refine WP.val rfl rfl rfl (Val.conv (z := IntKind.wrap .u64 (x8 l k)) rfl Ty.ik235 Ty.un5 rfl rfl) ?_
    refine WP.val rfl rfl rfl (Val.or rfl rfl rfl) ?_
    refine WP.val rfl rfl rfl (Val.assign rfl rfl) ?_
    refine WP.nil ?_
    refine Out.block ?_
    refine Out.next ?_
    refine WPc.region ?_
    refine WP.val rfl rfl rfl (Val.move rfl rfl) ?_
    refine WP.val rfl rfl rfl (Val.add (z := ((k + 1 : Nat) : Int)) rfl rfl rfl ((w64 (by omega) (by omega)).trans (by omega))) ?_
    refine WP.val rfl rfl rfl (Val.assign rfl rfl) ?_
    refine WP.nil ?_
    have hx8 : ∀ i, 0 ≤ x8 l i ∧ x8 l i < 256 := fun i => ⟨Int.natCast_nonneg _, by have := (l.getD i 0).toNat_lt; unfold x8; omega⟩
    have hnb := nval_bd (x8 l) k (fun i _ => hx8 i)
    have hos := or_step (Nval (x8 l) k) (x8 l k) k (by omega) hnb.1 hnb.2 (hx8 k).1 (hx8 k).2
    refine Out.again (k + 1) ?_ ?_ ?_ ?_
    · exact (by first | omega | (dsimp only; omega))
    · first | omega | (dsimp only; omega)
    · exact (Sub.cons rfl (Sub.cons (by rw [hos]; rfl) (Sub.cons rfl Sub.nil)))
    · exact (fun _ h => h)
  · skip
    have h1 : ¬ (((k : Nat) : Int) < (8 : Int)) := h1
    refine WPc.exit ?_
    refine Out.then_exit ?_
    refine Out.then_exit ?_
    refine Out.block_exit ?_
    refine Out.next ?_
    refine WPc.seq ?_
    refine WPc.region ?_
    refine WP.val rfl rfl rfl (Val.move rfl rfl) ?_
    refine WP.val rfl rfl rfl (Val.assign rfl rfl) ?_
    refine WP.nil ?_
    refine Out.next ?_
    refine WPc.ret ?_
    have h8 : k = 8 := by omega
    subst h8
    exact Out.ret1 (L' := _) Try.results119 rfl ⟨rfl, rfl⟩ (fun _ h => h)

end Go.Proofs.Ythmkdioafjmclaa.Hb
