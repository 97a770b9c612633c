import Derived.Test.YthicijpjpijdjaaDoorWh
import Derived.Test.YthicijpjpijdjaaDoorSlRes
namespace Go.Proofs.YthicijpjpijdjaaDoor.Wi
open Go.RowKit Go.Proofs.YthicijpjpijdjaaDoor Go.Proofs.YthicijpjpijdjaaDoor.Sl Go.Proofs.YthicijpjpijdjaaDoor.Wa Go.Proofs.YthicijpjpijdjaaDoor.Wb Go.Proofs.YthicijpjpijdjaaDoor.Wc Go.Proofs.YthicijpjpijdjaaDoor.Wd Go.Proofs.YthicijpjpijdjaaDoor.We Go.Proofs.YthicijpjpijdjaaDoor.Wf Go.Proofs.YthicijpjpijdjaaDoor.Wg Go.Proofs.YthicijpjpijdjaaDoor.Wh
set_option linter.unusedVariables false
set_option linter.unusedSimpArgs false
set_option linter.unusedSectionVars false


theorem b128 : (128 : Int) ^ 0 = 1 ∧ (128 : Int) ^ 1 = 128 ∧ (128 : Int) ^ 2 = 16384 ∧ (128 : Int) ^ 3 = 2097152 ∧ (128 : Int) ^ 4 = 268435456 ∧ (128 : Int) ^ 5 = 34359738368 ∧ (128 : Int) ^ 6 = 4398046511104 ∧ (128 : Int) ^ 7 = 562949953421312 ∧ (128 : Int) ^ 8 = 72057594037927936 ∧ (128 : Int) ^ 9 = 9223372036854775808 ∧ (128 : Int) ^ 10 = 1180591620717411303424 := by decide
theorem p128 (i : Nat) : (2 : Int) ^ (7 * i) = 128 ^ i := by rw [Int.pow_mul]; rfl
theorem u64_id {z : Int} (h0 : 0 ≤ z) (h1 : z < 18446744073709551616) : IntKind.wrap .u64 z = z := by
  have e : IntKind.wrap .u64 z = z % 18446744073709551616 := rfl
  rw [e]; omega
theorem band127 : ∀ k : Fin 256, band .u8 ((k.val : Nat) : Int) 127 = ((k.val % 128 : Nat) : Int) := by decide +kernel
theorem bor128 : ∀ k : Fin 256, bor .u8 ((k.val : Nat) : Int) 128 = ((k.val % 128 + 128 : Nat) : Int) := by decide +kernel
theorem band_lo (c : UInt8) : band .u8 ((c.toNat : Nat) : Int) 127 = ((c.toNat % 128 : Nat) : Int) := band127 ⟨c.toNat, c.toNat_lt⟩
theorem vcont_nat {z : Int} (h0 : 0 ≤ z) : (((vcont z).toNat : Nat) : Int) = z % 128 + 128 := by
  have e1 : (((vcont z).toNat : Nat) : Int) = bor .u8 (IntKind.wrap .u8 z) 128 := b8_nat _
  have e2 : IntKind.wrap .u8 z = z % 256 := rfl
  obtain ⟨k, hk⟩ : ∃ k : Nat, (k : Int) = z % 256 := ⟨(z % 256).toNat, by omega⟩
  have hk2 : k < 256 := by omega
  have := bor128 ⟨k, hk2⟩
  rw [e1, e2, ← hk]
  simp only at this
  rw [this]; omega
theorem b8_id {z : Int} (h0 : 0 ≤ z) (h1 : z < 256) : (((b8 z).toNat : Nat) : Int) = z := by
  rw [b8_nat]
  have e2 : IntKind.wrap .u8 z = z % 256 := rfl
  rw [e2]; omega
/-- a group of seven bits joins the lower ones -/
theorem vt_or (i : Nat) (hi : i ≤ 9) {a y : Int} (ha : 0 ≤ a) (ha2 : a < 128 ^ i) (hy : 0 ≤ y) (hy2 : y < 128) (hs : y * 128 ^ i < 18446744073709551616) : bor .u64 a (bshl .u64 (IntKind.wrap .u64 y) ((7 * i : Nat) : Int)) = a + y * 128 ^ i := by
  have hnn : (0 : Int) ≤ 128 ^ i := Int.le_of_lt (Int.pow_pos (by decide))
  have h0 : 0 ≤ y * 128 ^ i := Int.mul_nonneg hy hnn
  have hsh : bshl .u64 (IntKind.wrap .u64 y) ((7 * i : Nat) : Int) = y * 128 ^ i := by
    rw [u64_id hy (by omega)]
    have e : bshl .u64 y ((7 * i : Nat) : Int) = IntKind.wrap .u64 (y * 2 ^ min ((7 * i : Nat) : Int).toNat 64) := rfl
    have em : min ((7 * i : Nat) : Int).toNat 64 = 7 * i := by omega
    rw [e, em, p128, u64_id h0 hs]
  have hb := b128
  have hle : (128 : Int) ^ i ≤ 9223372036854775808 := by
    rcases (by omega : i = 0 ∨ i = 1 ∨ i = 2 ∨ i = 3 ∨ i = 4 ∨ i = 5 ∨ i = 6 ∨ i = 7 ∨ i = 8 ∨ i = 9) with rfl | rfl | rfl | rfl | rfl | rfl | rfl | rfl | rfl | rfl <;> omega
  rw [hsh, bor_comm]
  show bits .or .u64 (y * 128 ^ i) a = _
  rw [bits_join .u64 64 (by decide) (fun n h0 h1 => u64_id h0 (by omega)) (7 * i) (y * 128 ^ i) a h0 (by rw [p128]; exact Int.mul_emod_left ..) (by omega) ha (by rw [p128]; exact ha2) (by omega)]
  omega
/-- a number's first byte -/
def hdv (z : Int) : UInt8 := if 128 ≤ z then vcont z else b8 z
theorem vt_at {l r : List UInt8} {i m : Nat} {z : Int} (h : l.drop i = vintF (m + 1) z ++ r) : l[i]? = some (hdv z) := by
  have e : l[i]? = (l.drop i)[0]? := by rw [List.getElem?_drop]; rfl
  rw [e, h]
  unfold vintF hdv
  split <;> rfl
theorem vt_next {l r : List UInt8} {i m : Nat} {z : Int} (h : l.drop i = vintF (m + 1) z ++ r) (h2 : 128 ≤ z) : l.drop (i + 1) = vintF m (bshr .u64 z 7) ++ r := by
  have e : l.drop (i + 1) = (l.drop i).drop 1 := by rw [List.drop_drop]
  have e2 : vintF (m + 1) z = vcont z :: vintF m (bshr .u64 z 7) := by
    have := vint_more (m := m) (bs := []) h2
    simpa using this
  rw [e, h, e2]; rfl
theorem vt_end {l r : List UInt8} {i m : Nat} {z : Int} (h : l.drop i = vintF (m + 1) z ++ r) (h2 : ¬ 128 ≤ z) : l.drop (i + 1) = r := by
  have e : l.drop (i + 1) = (l.drop i).drop 1 := by rw [List.drop_drop]
  rw [e, h]
  unfold vintF
  rw [if_neg h2]; rfl
theorem shr7 (z : Int) : bshr .u64 z 7 = z / 128 := by
  unfold bshr
  rw [Int.fdiv_eq_ediv_of_nonneg _ (by decide)]
  rfl
theorem div128 (z0 : Int) (i : Nat) : z0 / 128 ^ i / 128 = z0 / 128 ^ (i + 1) := by
  rw [Int.pow_succ, Int.ediv_ediv_of_nonneg (Int.le_of_lt (Int.pow_pos (by decide)))]
theorem mod128 (z0 : Int) (i : Nat) : z0 % 128 ^ (i + 1) = z0 % 128 ^ i + z0 / 128 ^ i % 128 * 128 ^ i := by
  have h1 := Int.emod_add_mul_ediv z0 (128 ^ i)
  have h2 := Int.emod_add_mul_ediv (z0 / 128 ^ i) 128
  have h3 := Int.emod_add_mul_ediv z0 (128 ^ (i + 1))
  rw [← div128, Int.pow_succ] at h3
  generalize hA : (128 : Int) ^ i = A at *
  generalize hq : z0 / A = q at *
  generalize hq2 : q / 128 = q2 at *
  have h4 : A * q = A * (q % 128) + A * (128 * q2) := by rw [← Int.mul_add, h2]
  rw [Int.pow_succ, hA]
  have h5 : A * 128 * q2 = A * (128 * q2) := Int.mul_assoc _ _ _
  have h6 : q % 128 * A = A * (q % 128) := Int.mul_comm _ _
  omega
/-- a step of reading -/
theorem vt_step {z0 : Int} (h0 : 0 ≤ z0) (h1 : z0 < 18446744073709551616) {i : Nat} (hi : i ≤ 9) : bor .u64 (z0 % 128 ^ i) (bshl .u64 (IntKind.wrap .u64 (band .u8 (((hdv (z0 / 128 ^ i)).toNat : Nat) : Int) 127)) ((7 * i : Nat) : Int)) = z0 % 128 ^ (i + 1) := by
  have hpos : (0 : Int) < 128 ^ i := Int.pow_pos (by decide)
  have hz : 0 ≤ z0 / 128 ^ i := Int.ediv_nonneg h0 (by omega)
  have hb : band .u8 (((hdv (z0 / 128 ^ i)).toNat : Nat) : Int) 127 = z0 / 128 ^ i % 128 := by
    rw [band_lo]
    unfold hdv
    split
    · have := vcont_nat hz; omega
    · have := b8_id hz (by omega); omega
  have hm := mod128 z0 i
  have hle : z0 / 128 ^ i % 128 * 128 ^ i ≤ z0 := by
    have h2 : 0 ≤ z0 % 128 ^ i := Int.emod_nonneg _ (by omega)
    have h3 : z0 % 128 ^ (i + 1) ≤ z0 := by
      have h4 := Int.emod_add_mul_ediv z0 (128 ^ (i + 1))
      have h5 : 0 ≤ 128 ^ (i + 1) * (z0 / 128 ^ (i + 1)) := Int.mul_nonneg (Int.le_of_lt (Int.pow_pos (by decide))) (Int.ediv_nonneg h0 (Int.le_of_lt (Int.pow_pos (by decide))))
      omega
    omega
  rw [hb, vt_or i hi (Int.emod_nonneg _ (by omega)) (Int.emod_lt_of_pos _ hpos) (by omega) (by omega) (by omega), hm]
theorem vt_done {z0 : Int} (h0 : 0 ≤ z0) {i : Nat} (h : ¬ 128 ≤ z0 / 128 ^ i) : z0 % 128 ^ (i + 1) = z0 := by
  refine Int.emod_eq_of_lt h0 ?_
  have hpos : (0 : Int) < 128 ^ i := Int.pow_pos (by decide)
  have h2 := Int.emod_add_mul_ediv z0 (128 ^ i)
  have h3 := Int.emod_lt_of_pos z0 hpos
  have h4 : 128 ^ i * (z0 / 128 ^ i) ≤ 128 ^ i * 127 := Int.mul_le_mul_of_nonneg_left (by omega) (by omega)
  rw [Int.pow_succ]
  omega
theorem vt_top {z0 : Int} (h1 : z0 < 18446744073709551616) : z0 / 128 ^ 9 ≤ 1 := by
  have hb := b128
  rw [hb.2.2.2.2.2.2.2.2.2.1]; omega
set_option maxRecDepth 100000 in
set_option maxHeartbeats 2000000 in
theorem tv_spec (A : HProp) (l r : List UInt8) (z0 : Int) (b0 o0 c0 : Nat) (hr : ∀ w, Holds A w → w.rangeAt b0 o0 (byt l)) (hlen : l.length ≤ 4294967296) (hlc : l.length ≤ c0) (hz : 0 ≤ z0 ∧ z0 < 18446744073709551616) (hl : l = vint z0 ++ r) : Does Tryd.prog 94 [.slice (some ⟨b0, o0, none⟩) l.length c0] [A] (fun v L => ∃ o' c' : Nat, r.length ≤ c' ∧ v = .tuple #[.int .u64 z0, .slice (some ⟨b0, o', none⟩) r.length c', .bool true] ∧ L = [A] ∧ ∀ w, Holds A w → w.rangeAt b0 o' (byt r)) := by
  refine Does.enter 48 Tryd.func94 rfl rfl rfl fun W F => ?_
  show WPc _ _ _ _ _ [(0, .slice (some ⟨b0, o0, none⟩) l.length c0)] (A :: F)
  refine WPc.seq ?_
  refine WPc.region ?_
  refine WP.val rfl rfl rfl (Val.assign rfl rfl) ?_
  refine WP.val rfl rfl rfl (Val.assign rfl rfl) ?_
  refine WP.val rfl rfl rfl (Val.assign rfl rfl) ?_
  refine WP.nil ?_
  refine Out.next ?_
  refine WPc.seq ?_
  refine WPc.region ?_
  refine WP.val rfl rfl rfl (Val.assign rfl rfl) ?_
  refine WP.nil ?_
  refine Out.next ?_
  refine WPc.seq ?_
  refine WPc.seq ?_
  refine WPc.region ?_
  refine WP.val rfl rfl rfl (Val.assign rfl rfl) ?_
  refine WP.nil ?_
  refine Out.next ?_
  refine WPc.block ?_
  refine WPc.loop (ι := Nat) (fun i => i ≤ 9 ∧ l.drop i = vintF (10 - i) (z0 / 128 ^ i) ++ r) (fun i => [(0, .slice (some ⟨b0, o0, none⟩) l.length c0), (5, .int .u64 ((z0 % 128 ^ i))), (6, .int .i64 (((i : Nat) : Int)))]) (fun i => A :: F) (fun i => 10 - i) 0 ⟨Nat.zero_le _, by rw [List.drop_zero, Int.pow_zero, Int.ediv_one]; exact hl⟩ ((Sub.cons rfl (Sub.cons (by rw [Int.pow_zero, Int.emod_one]; rfl) (Sub.cons rfl Sub.nil)))) (fun _ h => h) ?_
  rintro i ⟨hi, hd⟩
  show WPc _ _ _ _ _ [(0, .slice (some ⟨b0, o0, none⟩) l.length c0), (5, .int .u64 ((z0 % 128 ^ i))), (6, .int .i64 (((i : Nat) : Int)))] (A :: F)
  refine WPc.seq ?_
  refine WPc.seq ?_
  obtain ⟨m, hm⟩ : ∃ m, 10 - i = m + 1 := ⟨9 - i, by omega⟩
  rw [hm] at hd
  have hx := vt_at hd
  have hlt : i < l.length := (List.getElem?_eq_some_iff.1 hx).1
  have hzn : 0 ≤ z0 / 128 ^ i := Int.ediv_nonneg hz.1 (Int.le_of_lt (Int.pow_pos (by decide)))
  have hx9 : i = 9 → (((hdv (z0 / 128 ^ i)).toNat : Nat) : Int) ≤ 1 := by
    rintro rfl
    have h1 := vt_top hz.2
    unfold hdv
    rw [if_neg (by omega), b8_id hzn (by omega)]
    exact h1
  refine WPc.region ?_
  refine WP.val rfl rfl rfl (Val.move rfl rfl) ?_
  refine WP.val rfl rfl rfl (Val.move rfl rfl) ?_
  refine WP.val rfl rfl rfl (Val.len rfl Ty.sl40 rfl) ?_
  refine WP.val rfl rfl rfl (Val.lss rfl rfl rfl) ?_
  refine WP.val rfl rfl rfl (Val.move rfl rfl) ?_
  refine WP.split 11 rfl (fun h1 => ?_) (fun h1 => ?_)
  · skip
    have h1 : (((i : Nat) : Int) < ((l.length : Nat) : Int)) := h1
    refine WP.valG rfl rfl rfl rfl rfl rfl rfl (Val.move rfl rfl) ?_
    refine WP.valG rfl rfl rfl rfl rfl rfl rfl (Val.lss rfl rfl rfl) ?_
    refine WP.val rfl rfl rfl (Val.pickT rfl rfl rfl) ?_
    refine WP.nil ?_
    refine Out.next ?_
    refine WPc.ifP rfl (fun h2 => ?_) (fun h2 => ?_)
    · skip
      have h2 : (((i : Nat) : Int) < (10 : Int)) := h2
      refine WPc.skip ?_
      refine Out.next ?_
      refine WPc.seq ?_
      refine WPc.block ?_
      refine WPc.seq ?_
      refine WPc.seq ?_
      refine WPc.region ?_
      refine WP.val rfl rfl rfl (Val.move rfl rfl) ?_
      refine WP.val rfl rfl rfl (Val.eql rfl rfl rfl) ?_
      refine WP.val rfl rfl rfl (Val.move rfl rfl) ?_
      refine WP.split 19 rfl (fun h3 => ?_) (fun h3 => ?_)
      · skip
        have h3 : (((i : Nat) : Int) = (9 : Int)) := h3
        refine WP.valG rfl rfl rfl rfl rfl rfl rfl (Val.move rfl rfl) ?_
        refine WP.valG rfl rfl rfl rfl rfl rfl rfl (Val.move rfl rfl) ?_
        refine WP.valG rfl rfl rfl rfl rfl rfl rfl (Val.indexAddr (j := i) (q := o0 + i) rfl Ty.sl40 rfl rfl (by omega) (by omega) (by omega)) ?_
        refine WP.valG rfl rfl rfl rfl rfl rfl rfl (Val.load (v := .int .u8 (((hdv (z0 / 128 ^ i)).toNat : Int))) rfl Ty.sc5 rfl (fun w h => hr w (h.at 0 rfl) i _ (byt_at hx))) ?_
        refine WP.valG rfl rfl rfl rfl rfl rfl rfl (Val.gtr rfl rfl rfl) ?_
        refine WP.val rfl rfl rfl (Val.pickT rfl rfl rfl) ?_
        refine WP.nil ?_
        refine Out.next ?_
        refine WPc.ifP rfl (fun h4 => ?_) (fun h4 => ?_)
        · skip
          have h4 : ((1 : Int) < ((hdv (z0 / 128 ^ i)).toNat : Int)) := h4
          exfalso; have := hx9 (by omega); omega
        · skip
          have h4 : ¬ ((1 : Int) < ((hdv (z0 / 128 ^ i)).toNat : Int)) := h4
          refine WPc.skip ?_
          refine Out.next ?_
          refine WPc.seq ?_
          refine WPc.region ?_
          refine WP.val rfl rfl rfl (Val.move rfl rfl) ?_
          refine WP.val rfl rfl rfl (Val.move rfl rfl) ?_
          refine WP.val rfl rfl rfl (Val.move rfl rfl) ?_
          refine WP.val rfl rfl rfl (Val.indexAddr (j := i) (q := o0 + i) rfl Ty.sl40 rfl rfl (by omega) (by omega) (by omega)) ?_
          refine WP.val rfl rfl rfl (Val.load (v := .int .u8 (((hdv (z0 / 128 ^ i)).toNat : Int))) rfl Ty.sc5 rfl (fun w h => hr w (h.at 0 rfl) i _ (byt_at hx))) ?_
          refine WP.val rfl rfl rfl (Val.and rfl rfl rfl) ?_
          refine WP.val rfl rfl rfl (Val.conv (z := IntKind.wrap .u64 (band .u8 ((hdv (z0 / 128 ^ i)).toNat : Int) (127 : Int))) rfl Ty.ik94 Ty.un5 rfl rfl) ?_
          refine WP.val rfl rfl rfl (Val.move rfl rfl) ?_
          refine WP.val rfl rfl rfl (Val.conv (z := ((i : Nat) : Int)) rfl Ty.ik90 Ty.un3 rfl (u64_nat (by omega))) ?_
          refine WP.val rfl rfl rfl (Val.mul (z := ((7 * i : Nat) : Int)) rfl rfl rfl ((u64_nat (n := 7 * i) (by omega) ▸ by congr 1))) ?_
          refine WP.val rfl rfl rfl (Val.shl rfl rfl rfl (by first | decide | omega)) ?_
          refine WP.val rfl rfl rfl (Val.or rfl rfl rfl) ?_
          refine WP.val rfl rfl rfl (Val.assign rfl rfl) ?_
          refine WP.nil ?_
          refine Out.next ?_
          refine WPc.seq ?_
          have hst := vt_step hz.1 hz.2 hi
          refine WPc.know 5 (.int .u64 (z0 % 128 ^ (i + 1))) rfl (congrArg (Value.int .u64) hst) ?_
          refine WPc.region ?_
          refine WP.val rfl rfl rfl (Val.move rfl rfl) ?_
          refine WP.val rfl rfl rfl (Val.move rfl rfl) ?_
          refine WP.val rfl rfl rfl (Val.indexAddr (j := i) (q := o0 + i) rfl Ty.sl40 rfl rfl (by omega) (by omega) (by omega)) ?_
          refine WP.val rfl rfl rfl (Val.load (v := .int .u8 (((hdv (z0 / 128 ^ i)).toNat : Int))) rfl Ty.sc5 rfl (fun w h => hr w (h.at 0 rfl) i _ (byt_at hx))) ?_
          refine WP.val rfl rfl rfl (Val.lss rfl rfl rfl) ?_
          refine WP.nil ?_
          refine Out.next ?_
          refine WPc.ifP rfl (fun h5 => ?_) (fun h5 => ?_)
          · skip
            have h5 : (((hdv (z0 / 128 ^ i)).toNat : Int) < (128 : Int)) := h5
            refine WPc.seq ?_
            refine WPD.start (Sat W (A :: F)) Ty.mixed ?_
            refine WPD.takeM 0 rfl rfl rfl rfl (by kernel_rfl) (by kernel_rfl) (by kernel_rfl) (by kernel_rfl) (fun _ _ _ h => h) (fun _ h => h) (Val.move rfl rfl) ?_
            refine WPD.takeM 1 rfl rfl rfl rfl (by kernel_rfl) (by kernel_rfl) (by kernel_rfl) (by kernel_rfl) (fun _ _ _ h => h) (fun _ h => h) (Val.move rfl rfl) ?_
            refine WPD.takeM 2 rfl rfl rfl rfl (by kernel_rfl) (by kernel_rfl) (by kernel_rfl) (by kernel_rfl) (fun _ _ _ h => h) (fun _ h => h) (Val.move rfl rfl) ?_
            refine WPD.takeM 3 rfl rfl rfl rfl (by kernel_rfl) (by kernel_rfl) (by kernel_rfl) (by kernel_rfl) (fun _ _ _ h => h) (fun _ h => h) (Val.add (z := ((i + 1 : Nat) : Int)) rfl rfl rfl ((w64 (by omega) (by omega)).trans (by omega))) ?_
            refine WPD.takeM 4 rfl rfl rfl rfl (by kernel_rfl) (by kernel_rfl) (by kernel_rfl) (by kernel_rfl) (fun _ _ _ h => h) (fun _ h => h) (Val.slice (lo := i + 1) (hi := l.length) (j := (if c0 = i + 1 then o0 else o0 + (i + 1))) (vlo := some (.i64, ((i + 1 : Nat) : Int))) (vhi := none) rfl Ty.sl40 rfl rfl rfl (by simp [bnd]; try omega) (by simp [bnd]; try omega) (by omega) (by omega) (by omega) (by simp)) ?_
            refine WPD.takeM 5 rfl rfl rfl rfl (by kernel_rfl) (by kernel_rfl) (by kernel_rfl) (by kernel_rfl) (fun _ _ _ h => h) (fun _ h => h) (Val.assign rfl rfl) ?_
            refine WPD.takeM 6 rfl rfl rfl rfl (by kernel_rfl) (by kernel_rfl) (by kernel_rfl) (by kernel_rfl) (fun _ _ _ h => h) (fun _ h => h) (Val.assign rfl rfl) ?_
            refine WPD.takeM 7 rfl rfl rfl rfl (by kernel_rfl) (by kernel_rfl) (by kernel_rfl) (by kernel_rfl) (fun _ _ _ h => h) (fun _ h => h) (Val.assign rfl rfl) ?_
            refine WPD.done (by kernel_rfl) ?_
            refine Out.next ?_
            refine WPc.ret ?_
            refine Out.block_ret ?_
            refine Out.then_ret ?_
            refine Out.then_ret ?_
            refine Out.block_ret ?_
            refine Out.then_ret ?_
            have hlt9 : ¬ 128 ≤ z0 / 128 ^ i := by
              intro hge
              have : (((hdv (z0 / 128 ^ i)).toNat : Nat) : Int) = z0 / 128 ^ i % 128 + 128 := by unfold hdv; rw [if_pos hge, vcont_nat hzn]
              omega
            have hend := vt_end hd hlt9
            have hrl : r.length = l.length - (i + 1) := by rw [← hend, List.length_drop]
            exact Out.retRun (L' := [A]) (results_ttt Tryd.results94 rfl rfl rfl) ⟨_, c0 - (i + 1), by omega, by rw [vt_done hz.1 hlt9, hrl], rfl, fun w h => by have := rangeAt_cut (k := i + 1) (hr w h) hlc; rw [hend] at this; exact this⟩ (fun _ h => h)
          · skip
            have h5 : ¬ (((hdv (z0 / 128 ^ i)).toNat : Int) < (128 : Int)) := h5
            refine WPc.skip ?_
            refine Out.block ?_
            refine Out.next ?_
            refine WPc.region ?_
            refine WP.val rfl rfl rfl (Val.move rfl rfl) ?_
            refine WP.val rfl rfl rfl (Val.add (z := ((i + 1 : Nat) : Int)) rfl rfl rfl ((w64 (by omega) (by omega)).trans (by omega))) ?_
            refine WP.val rfl rfl rfl (Val.assign rfl rfl) ?_
            refine WP.nil ?_
            have hge : 128 ≤ z0 / 128 ^ i := by
              by_cases hge : 128 ≤ z0 / 128 ^ i
              · exact hge
              · exfalso
                have : (((hdv (z0 / 128 ^ i)).toNat : Nat) : Int) = z0 / 128 ^ i := by unfold hdv; rw [if_neg hge, b8_id hzn (by omega)]
                omega
            have h9 : i ≠ 9 := by rintro rfl; have := vt_top hz.2; omega
            refine Out.again (i + 1) ?_ ?_ ?_ ?_
            · exact ⟨by omega, by have := vt_next hd hge; rw [shr7, div128] at this; rw [this, show 10 - (i + 1) = m by omega]⟩
            · first | omega | (dsimp only; omega)
            · exact (Sub.cons rfl (Sub.cons rfl (Sub.cons rfl Sub.nil)))
            · exact (fun _ h => h)
      · skip
        have h3 : ¬ (((i : Nat) : Int) = (9 : Int)) := h3
        refine WP.skip rfl rfl rfl rfl rfl rfl rfl ?_
        refine WP.skip rfl rfl rfl rfl rfl rfl rfl ?_
        refine WP.skip rfl rfl rfl rfl rfl rfl rfl ?_
        refine WP.skip rfl rfl rfl rfl rfl rfl rfl ?_
        refine WP.skip rfl rfl rfl rfl rfl rfl rfl ?_
        refine WP.val rfl rfl rfl (Val.pickF rfl rfl rfl) ?_
        refine WP.nil ?_
        refine Out.next ?_
        refine WPc.condF rfl rfl ?_
        refine WPc.skip ?_
        refine Out.next ?_
        refine WPc.seq ?_
        refine WPc.region ?_
        refine WP.val rfl rfl rfl (Val.move rfl rfl) ?_
        refine WP.val rfl rfl rfl (Val.move rfl rfl) ?_
        refine WP.val rfl rfl rfl (Val.move rfl rfl) ?_
        refine WP.val rfl rfl rfl (Val.indexAddr (j := i) (q := o0 + i) rfl Ty.sl40 rfl rfl (by omega) (by omega) (by omega)) ?_
        refine WP.val rfl rfl rfl (Val.load (v := .int .u8 (((hdv (z0 / 128 ^ i)).toNat : Int))) rfl Ty.sc5 rfl (fun w h => hr w (h.at 0 rfl) i _ (byt_at hx))) ?_
        refine WP.val rfl rfl rfl (Val.and rfl rfl rfl) ?_
        refine WP.val rfl rfl rfl (Val.conv (z := IntKind.wrap .u64 (band .u8 ((hdv (z0 / 128 ^ i)).toNat : Int) (127 : Int))) rfl Ty.ik94 Ty.un5 rfl rfl) ?_
        refine WP.val rfl rfl rfl (Val.move rfl rfl) ?_
        refine WP.val rfl rfl rfl (Val.conv (z := ((i : Nat) : Int)) rfl Ty.ik90 Ty.un3 rfl (u64_nat (by omega))) ?_
        refine WP.val rfl rfl rfl (Val.mul (z := ((7 * i : Nat) : Int)) rfl rfl rfl ((u64_nat (n := 7 * i) (by omega) ▸ by congr 1))) ?_
        refine WP.val rfl rfl rfl (Val.shl rfl rfl rfl (by first | decide | omega)) ?_
        refine WP.val rfl rfl rfl (Val.or rfl rfl rfl) ?_
        refine WP.val rfl rfl rfl (Val.assign rfl rfl) ?_
        refine WP.nil ?_
        refine Out.next ?_
        refine WPc.seq ?_
        have hst := vt_step hz.1 hz.2 hi
        refine WPc.know 5 (.int .u64 (z0 % 128 ^ (i + 1))) rfl (congrArg (Value.int .u64) hst) ?_
        refine WPc.region ?_
        refine WP.val rfl rfl rfl (Val.move rfl rfl) ?_
        refine WP.val rfl rfl rfl (Val.move rfl rfl) ?_
        refine WP.val rfl rfl rfl (Val.indexAddr (j := i) (q := o0 + i) rfl Ty.sl40 rfl rfl (by omega) (by omega) (by omega)) ?_
        refine WP.val rfl rfl rfl (Val.load (v := .int .u8 (((hdv (z0 / 128 ^ i)).toNat : Int))) rfl Ty.sc5 rfl (fun w h => hr w (h.at 0 rfl) i _ (byt_at hx))) ?_
        refine WP.val rfl rfl rfl (Val.lss rfl rfl rfl) ?_
        refine WP.nil ?_
        refine Out.next ?_
        refine WPc.ifP rfl (fun h6 => ?_) (fun h6 => ?_)
        · skip
          have h6 : (((hdv (z0 / 128 ^ i)).toNat : Int) < (128 : Int)) := h6
          refine WPc.seq ?_
          refine WPD.start (Sat W (A :: F)) Ty.mixed ?_
          refine WPD.takeM 0 rfl rfl rfl rfl (by kernel_rfl) (by kernel_rfl) (by kernel_rfl) (by kernel_rfl) (fun _ _ _ h => h) (fun _ h => h) (Val.move rfl rfl) ?_
          refine WPD.takeM 1 rfl rfl rfl rfl (by kernel_rfl) (by kernel_rfl) (by kernel_rfl) (by kernel_rfl) (fun _ _ _ h => h) (fun _ h => h) (Val.move rfl rfl) ?_
          refine WPD.takeM 2 rfl rfl rfl rfl (by kernel_rfl) (by kernel_rfl) (by kernel_rfl) (by kernel_rfl) (fun _ _ _ h => h) (fun _ h => h) (Val.move rfl rfl) ?_
          refine WPD.takeM 3 rfl rfl rfl rfl (by kernel_rfl) (by kernel_rfl) (by kernel_rfl) (by kernel_rfl) (fun _ _ _ h => h) (fun _ h => h) (Val.add (z := ((i + 1 : Nat) : Int)) rfl rfl rfl ((w64 (by omega) (by omega)).trans (by omega))) ?_
          refine WPD.takeM 4 rfl rfl rfl rfl (by kernel_rfl) (by kernel_rfl) (by kernel_rfl) (by kernel_rfl) (fun _ _ _ h => h) (fun _ h => h) (Val.slice (lo := i + 1) (hi := l.length) (j := (if c0 = i + 1 then o0 else o0 + (i + 1))) (vlo := some (.i64, ((i + 1 : Nat) : Int))) (vhi := none) rfl Ty.sl40 rfl rfl rfl (by simp [bnd]; try omega) (by simp [bnd]; try omega) (by omega) (by omega) (by omega) (by simp)) ?_
          refine WPD.takeM 5 rfl rfl rfl rfl (by kernel_rfl) (by kernel_rfl) (by kernel_rfl) (by kernel_rfl) (fun _ _ _ h => h) (fun _ h => h) (Val.assign rfl rfl) ?_
          refine WPD.takeM 6 rfl rfl rfl rfl (by kernel_rfl) (by kernel_rfl) (by kernel_rfl) (by kernel_rfl) (fun _ _ _ h => h) (fun _ h => h) (Val.assign rfl rfl) ?_
          refine WPD.takeM 7 rfl rfl rfl rfl (by kernel_rfl) (by kernel_rfl) (by kernel_rfl) (by kernel_rfl) (fun _ _ _ h => h) (fun _ h => h) (Val.assign rfl rfl) ?_
          refine WPD.done (by kernel_rfl) ?_
          refine Out.next ?_
          refine WPc.ret ?_
          refine Out.block_ret ?_
          refine Out.then_ret ?_
          refine Out.then_ret ?_
          refine Out.block_ret ?_
          refine Out.then_ret ?_
          have hlt9 : ¬ 128 ≤ z0 / 128 ^ i := by
            intro hge
            have : (((hdv (z0 / 128 ^ i)).toNat : Nat) : Int) = z0 / 128 ^ i % 128 + 128 := by unfold hdv; rw [if_pos hge, vcont_nat hzn]
            omega
          have hend := vt_end hd hlt9
          have hrl : r.length = l.length - (i + 1) := by rw [← hend, List.length_drop]
          exact Out.retRun (L' := [A]) (results_ttt Tryd.results94 rfl rfl rfl) ⟨_, c0 - (i + 1), by omega, by rw [vt_done hz.1 hlt9, hrl], rfl, fun w h => by have := rangeAt_cut (k := i + 1) (hr w h) hlc; rw [hend] at this; exact this⟩ (fun _ h => h)
        · skip
          have h6 : ¬ (((hdv (z0 / 128 ^ i)).toNat : Int) < (128 : Int)) := h6
          refine WPc.skip ?_
          refine Out.block ?_
          refine Out.next ?_
          refine WPc.region ?_
          refine WP.val rfl rfl rfl (Val.move rfl rfl) ?_
          refine WP.val rfl rfl rfl (Val.add (z := ((i + 1 : Nat) : Int)) rfl rfl rfl ((w64 (by omega) (by omega)).trans (by omega))) ?_
          refine WP.val rfl rfl rfl (Val.assign rfl rfl) ?_
          refine WP.nil ?_
          have hge : 128 ≤ z0 / 128 ^ i := by
            by_cases hge : 128 ≤ z0 / 128 ^ i
            · exact hge
            · exfalso
              have : (((hdv (z0 / 128 ^ i)).toNat : Nat) : Int) = z0 / 128 ^ i := by unfold hdv; rw [if_neg hge, b8_id hzn (by omega)]
              omega
          have h9 : i ≠ 9 := by rintro rfl; have := vt_top hz.2; omega
          refine Out.again (i + 1) ?_ ?_ ?_ ?_
          · exact ⟨by omega, by have := vt_next hd hge; rw [shr7, div128] at this; rw [this, show 10 - (i + 1) = m by omega]⟩
          · first | omega | (dsimp only; omega)
          · exact (Sub.cons rfl (Sub.cons rfl (Sub.cons rfl Sub.nil)))
          · exact (fun _ h => h)
    · skip
      have h2 : ¬ (((i : Nat) : Int) < (10 : Int)) := h2
      exfalso; omega
  · skip
    have h1 : ¬ (((i : Nat) : Int) < ((l.length : Nat) : Int)) := h1
    exfalso; omega

end Go.Proofs.YthicijpjpijdjaaDoor.Wi
