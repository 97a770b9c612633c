import Derived.Test.YthicijpjpijdjaaDoorWe
import Derived.Test.YthicijpjpijdjaaDoorSlDefer
namespace Go.Proofs.YthicijpjpijdjaaDoor.Wf
open Go.RowKit Go.Proofs.YthicijpjpijdjaaDoor Go.Proofs.YthicijpjpijdjaaDoor.Sl Go.Proofs.YthicijpjpijdjaaDoor.Wa Go.Proofs.YthicijpjpijdjaaDoor.Wb Go.Proofs.YthicijpjpijdjaaDoor.Wc Go.Proofs.YthicijpjpijdjaaDoor.Wd Go.Proofs.YthicijpjpijdjaaDoor.We
set_option linter.unusedVariables false
set_option linter.unusedSimpArgs false
set_option linter.unusedSectionVars false


theorem quiet38 : Quiet Tryd.prog 38 := fun v u w => by
  go_enter_d Tryd.func38, Tryd.ntmps38
  go_wp2
  go_end0
  exact ⟨rfl, rfl⟩
/-- a length's field: the length, and in the highest byte how much fills it up -/
def lfN (n : Nat) : Nat := if padn n = 0 then n else n + (128 + padn n) * 72057594037927936
theorem padn_lt (n : Nat) : padn n < 8 := by unfold padn; omega
theorem lfN_lt {n : Nat} (h : n < 72057594037927936) : lfN n < 18446744073709551616 := by
  have := padn_lt n
  unfold lfN
  split <;> omega
theorem u64_nat {n : Nat} (h : n < 18446744073709551616) : IntKind.wrap .u64 ((n : Nat) : Int) = ((n : Nat) : Int) := by
  have e : IntKind.wrap .u64 ((n : Nat) : Int) = ((n : Nat) : Int) % 18446744073709551616 := rfl
  rw [e]; omega
theorem bits_or_hi {a b : Int} (ha : 0 ≤ a) (ha2 : a < 72057594037927936) (hb : 0 ≤ b) (hb2 : b < 256) : bor .u64 (b * 72057594037927936) a = b * 72057594037927936 + a := by
  show bits .or .u64 (b * 72057594037927936) a = _
  refine bits_join .u64 64 (by decide) (fun n h0 h1 => ?_) 56 (b * 72057594037927936) a (by omega) (by omega) (by omega) ha (by omega) (by omega)
  unfold IntKind.wrap
  simp [IntKind.bits, IntKind.signed]
  omega
theorem bor_comm (k : IntKind) (x y : Int) : bor k x y = bor k y x := by unfold bor; rw [BitVec.or_comm]
theorem hi_val : ∀ k : Nat, k < 8 → bshl .u64 (IntKind.wrap .u64 (bor .i64 128 ((k : Nat) : Int))) 56 = (((128 + k : Nat) : Nat) : Int) * 72057594037927936 := by
  intro k hk
  rcases (by omega : k = 0 ∨ k = 1 ∨ k = 2 ∨ k = 3 ∨ k = 4 ∨ k = 5 ∨ k = 6 ∨ k = 7) with rfl | rfl | rfl | rfl | rfl | rfl | rfl | rfl <;> decide
theorem lf_val {n : Nat} (h : n < 72057594037927936) (hp : padn n ≠ 0) : bor .u64 (IntKind.wrap .u64 ((n : Nat) : Int)) (bshl .u64 (IntKind.wrap .u64 (bor .i64 128 ((padn n : Nat) : Int))) 56) = ((lfN n : Nat) : Int) := by
  have hlt := padn_lt n
  rw [hi_val _ hlt, u64_nat (by omega), bor_comm, bits_or_hi (by omega) (by omega) (by omega) (by omega)]
  unfold lfN
  rw [if_neg hp]
  omega
/-- byte k of a number, the least first -/
def lq (n : Int) (k : Nat) : UInt8 := b8 (bshr .u64 n ((8 * k : Nat) : Int))
def leN (n : Int) (k : Nat) : List UInt8 := (List.range k).map (lq n)
theorem leN_len (n : Int) (k : Nat) : (leN n k).length = k := by simp [leN]
theorem leN_succ (n : Int) (k : Nat) : leN n (k + 1) = leN n k ++ [lq n k] := by simp [leN, List.range_succ]
def putL (C : List Value) (n : Int) (k : Nat) : List Value := byt (leN n k) ++ C.drop k
theorem putL_len {C : List Value} {k : Nat} (n : Int) (h : k ≤ C.length) : (putL C n k).length = C.length := by
  simp only [putL, List.length_append, List.length_drop, byt_length, leN_len]; omega
theorem putL_zero (C : List Value) (n : Int) : putL C n 0 = C := by simp [putL, leN, byt]
theorem putL_set {C : List Value} {k : Nat} (n : Int) (h : k < C.length) : (putL C n k).set k (.int .u8 (IntKind.wrap .u8 (bshr .u64 n ((8 * k : Nat) : Int)))) = putL C n (k + 1) := by
  have e : C.drop k = C[k] :: C.drop (k + 1) := List.drop_eq_getElem_cons h
  have hl : (byt (leN n k)).length = k := by rw [byt_length, leN_len]
  unfold putL
  rw [e, List.set_append_right _ _ (by omega), hl, Nat.sub_self, List.set_cons_zero, leN_succ, byt_append]
  have e2 : byt [lq n k] = [.int .u8 (IntKind.wrap .u8 (bshr .u64 n ((8 * k : Nat) : Int)))] := (b8_byt _).symm
  rw [e2]
  simp
set_option maxRecDepth 100000 in
set_option maxHeartbeats 2000000 in
theorem efs_spec (n : Nat) (hn : n ≤ 4294967296) : Does Tryd.prog 46 [.int .i64 (((n : Nat) : Int))] [] (fun v L => v = .tuple #[.int .u64 ((lfN n : Nat) : Int), .int .i64 ((padn n : Nat) : Int)] ∧ L = []) := by
  refine Does.enter 20 Tryd.func46 rfl rfl rfl fun W F => ?_
  show WPc _ _ _ _ _ [(0, .int .i64 (((n : Nat) : Int)))] (F)
  refine WPc.seq ?_
  refine WPc.region ?_
  refine WP.val rfl rfl rfl (Val.assign rfl rfl) ?_
  refine WP.val rfl rfl rfl (Val.assign rfl rfl) ?_
  refine WP.nil ?_
  refine Out.next ?_
  refine WPc.seq ?_
  refine WPc.region ?_
  refine WP.val rfl rfl rfl (Val.move rfl rfl) ?_
  refine WP.val rfl rfl rfl (Val.conv (z := IntKind.wrap .u64 ((n : Nat) : Int)) rfl Ty.ik94 Ty.un3 rfl rfl) ?_
  refine WP.val rfl rfl rfl (Val.assign rfl rfl) ?_
  refine WP.nil ?_
  refine Out.next ?_
  refine WPc.seq ?_
  refine WPc.region ?_
  refine WP.val rfl rfl rfl (Val.move rfl rfl) ?_
  refine WP.val rfl rfl rfl (Val.rem (z := ((n % 8 : Nat) : Int)) rfl rfl rfl (by omega) (by rfl)) ?_
  refine WP.val rfl rfl rfl (Val.sub (z := ((8 - n % 8 : Nat) : Int)) rfl rfl rfl ((w64 (by omega) (by omega)).trans (by omega))) ?_
  refine WP.val rfl rfl rfl (Val.rem (z := ((padn n : Nat) : Int)) rfl rfl rfl (by omega) (by rfl)) ?_
  refine WP.val rfl rfl rfl (Val.assign rfl rfl) ?_
  refine WP.nil ?_
  refine Out.next ?_
  refine WPc.seq ?_
  refine WPc.seq ?_
  refine WPc.region ?_
  refine WP.val rfl rfl rfl (Val.move rfl rfl) ?_
  refine WP.val rfl rfl rfl (Val.neq rfl rfl rfl) ?_
  refine WP.nil ?_
  refine Out.next ?_
  refine WPc.ifP rfl (fun h1 => ?_) (fun h1 => ?_)
  · skip
    have h1 : (((padn n : Nat) : Int) ≠ (0 : Int)) := h1
    refine WPc.region ?_
    refine WP.val rfl rfl rfl (Val.move rfl rfl) ?_
    refine WP.val rfl rfl rfl (Val.move rfl rfl) ?_
    refine WP.val rfl rfl rfl (Val.or rfl rfl rfl) ?_
    refine WP.val rfl rfl rfl (Val.conv (z := IntKind.wrap .u64 (bor .i64 128 ((padn n : Nat) : Int))) rfl Ty.ik94 Ty.un3 rfl rfl) ?_
    refine WP.val rfl rfl rfl (Val.shl rfl rfl rfl (by first | decide | omega)) ?_
    refine WP.val rfl rfl rfl (Val.or rfl rfl rfl) ?_
    refine WP.val rfl rfl rfl (Val.assign rfl rfl) ?_
    refine WP.nil ?_
    refine Out.next ?_
    refine WPc.seq ?_
    refine WPc.region ?_
    refine WP.val rfl rfl rfl (Val.move rfl rfl) ?_
    refine WP.val rfl rfl rfl (Val.move rfl rfl) ?_
    refine WP.val rfl rfl rfl (Val.assign rfl rfl) ?_
    refine WP.val rfl rfl rfl (Val.assign rfl rfl) ?_
    refine WP.nil ?_
    refine Out.next ?_
    refine WPc.ret ?_
    exact Out.ret2 (L' := []) Tryd.results46 rfl rfl ⟨by rw [lf_val (by omega) (by omega)], rfl⟩ (fun _ h => h)
  · skip
    have h1 : ¬ (((padn n : Nat) : Int) ≠ (0 : Int)) := h1
    refine WPc.skip ?_
    refine Out.next ?_
    refine WPc.seq ?_
    refine WPc.region ?_
    refine WP.val rfl rfl rfl (Val.move rfl rfl) ?_
    refine WP.val rfl rfl rfl (Val.move rfl rfl) ?_
    refine WP.val rfl rfl rfl (Val.assign rfl rfl) ?_
    refine WP.val rfl rfl rfl (Val.assign rfl rfl) ?_
    refine WP.nil ?_
    refine Out.next ?_
    refine WPc.ret ?_
    exact Out.ret2 (L' := []) Tryd.results46 rfl rfl ⟨by rw [u64_nat (by omega)]; unfold lfN; rw [if_pos (by omega)], rfl⟩ (fun _ h => h)
set_option maxRecDepth 100000 in
set_option maxHeartbeats 1000000 in
theorem putl_spec (b0 len c0 : Nat) (n : Int) (C : List Value) (T : TypeId) (ho : 8 ≤ C.length) (hl : 8 ≤ len) : Does Tryd.prog 47 [.slice (some ⟨b0, 0, none⟩) len c0, .int .u64 (n)] [Blk b0 C T] (fun v L => v = .tuple #[] ∧ L = [Blk b0 (putL C n 8) T]) := by
  refine Does.enter 18 Tryd.func47 rfl rfl rfl fun W F => ?_
  show WPc _ _ _ _ _ [(0, .slice (some ⟨b0, 0, none⟩) len c0), (1, .int .u64 (n))] (Blk b0 C T :: F)
  refine WPc.seq ?_
  refine WPc.region ?_
  refine WP.val rfl rfl rfl (Val.assign rfl rfl) ?_
  refine WP.nil ?_
  refine Out.next ?_
  refine WPc.block ?_
  refine WPc.loop (ι := Nat) (fun k => k ≤ 8) (fun k => [(0, .slice (some ⟨b0, 0, none⟩) len c0), (1, .int .u64 (n)), (4, .int .i64 (((k : Nat) : Int)))]) (fun k => Blk b0 (putL C n k) T :: F) (fun k => 8 - k) 0 (Nat.zero_le _) ((Sub.cons rfl (Sub.cons rfl (Sub.cons rfl Sub.nil)))) (fun w h => by rw [putL_zero]; exact h) ?_
  rintro k hk
  show WPc _ _ _ _ _ [(0, .slice (some ⟨b0, 0, none⟩) len c0), (1, .int .u64 (n)), (4, .int .i64 (((k : Nat) : Int)))] (Blk b0 (putL C n k) T :: F)
  replace hk : k ≤ 8 := hk
  refine WPc.seq ?_
  refine WPc.seq ?_
  refine WPc.region ?_
  refine WP.val rfl rfl rfl (Val.move rfl rfl) ?_
  refine WP.val rfl rfl rfl (Val.lss rfl rfl rfl) ?_
  refine WP.nil ?_
  refine Out.next ?_
  refine WPc.ifP rfl (fun h1 => ?_) (fun h1 => ?_)
  · skip
    have h1 : (((k : Nat) : Int) < (8 : Int)) := h1
    refine WPc.skip ?_
    refine Out.next ?_
    refine WPc.seq ?_
    refine WPc.block ?_
    refine WPc.region ?_
    refine WP.val rfl rfl rfl (Val.move rfl rfl) ?_
    refine WP.val rfl rfl rfl (Val.move rfl rfl) ?_
    refine WP.val rfl rfl rfl (Val.move rfl rfl) ?_
    refine WP.val rfl rfl rfl (Val.move rfl rfl) ?_
    refine WP.val rfl rfl rfl (Val.conv (z := ((k : Nat) : Int)) rfl Ty.ik90 Ty.un3 rfl (u64_nat (by omega))) ?_
    refine WP.val rfl rfl rfl (Val.mul (z := ((8 * k : Nat) : Int)) rfl rfl rfl ((u64_nat (n := 8 * k) (by omega) ▸ by congr 1))) ?_
    refine WP.val rfl rfl rfl (Val.shr rfl rfl rfl (by first | decide | omega)) ?_
    refine WP.val rfl rfl rfl (Val.conv (z := IntKind.wrap .u8 (bshr .u64 n ((8 * k : Nat) : Int))) rfl Ty.ik5 Ty.un94 rfl rfl) ?_
    refine WP.val rfl rfl rfl (Val.indexAddr (j := k) (q := k) rfl Ty.sl40 rfl rfl (by omega) (by omega) (by omega)) ?_
    refine WP.eff0 rfl rfl (Eff.store (C' := putL C n (k + 1)) rfl Ty.sc5 rfl rfl rfl (by rw [putL_len n (by omega)]; omega) (putL_set n (by omega))) ?_
    rintro _ _ rfl
    refine WP.nil ?_
    refine Out.block ?_
    refine Out.next ?_
    refine WPc.region ?_
    refine WP.val rfl rfl rfl (Val.move rfl rfl) ?_
    refine WP.val rfl rfl rfl (Val.add (z := ((k + 1 : Nat) : Int)) rfl rfl rfl ((w64 (by omega) (by omega)).trans (by omega))) ?_
    refine WP.val rfl rfl rfl (Val.assign rfl rfl) ?_
    refine WP.nil ?_
    refine Out.again (k + 1) ?_ ?_ ?_ ?_
    · exact (by first | omega | (dsimp only; omega))
    · first | omega | (dsimp only; omega)
    · exact (Sub.cons rfl (Sub.cons rfl (Sub.cons rfl Sub.nil)))
    · exact (fun _ h => h)
  · skip
    have h1 : ¬ (((k : Nat) : Int) < (8 : Int)) := h1
    refine WPc.exit ?_
    refine Out.then_exit ?_
    refine Out.then_exit ?_
    refine Out.block_exit ?_
    have h8 : k = 8 := by omega
    subst h8
    exact Out.end0 (L' := _) Tryd.results47 ⟨rfl, rfl⟩ (fun _ h => h)

end Go.Proofs.YthicijpjpijdjaaDoor.Wf
