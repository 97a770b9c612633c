import Derived.Test.YthicijpjpijdjaaDoorWl
namespace Go.Proofs.YthicijpjpijdjaaDoor.Wm
open Go.RowKit Go.Proofs.YthicijpjpijdjaaDoor Go.Proofs.YthicijpjpijdjaaDoor.Sl Go.Proofs.YthicijpjpijdjaaDoor.Wa Go.Proofs.YthicijpjpijdjaaDoor.Wb Go.Proofs.YthicijpjpijdjaaDoor.Wc Go.Proofs.YthicijpjpijdjaaDoor.Wd Go.Proofs.YthicijpjpijdjaaDoor.We Go.Proofs.YthicijpjpijdjaaDoor.Wf Go.Proofs.YthicijpjpijdjaaDoor.Wg Go.Proofs.YthicijpjpijdjaaDoor.Wh Go.Proofs.YthicijpjpijdjaaDoor.Wi Go.Proofs.YthicijpjpijdjaaDoor.Wj Go.Proofs.YthicijpjpijdjaaDoor.Wk Go.Proofs.YthicijpjpijdjaaDoor.Wl
set_option linter.unusedVariables false
set_option linter.unusedSimpArgs false
set_option linter.unusedSectionVars false

def Nval (x : Nat → Int) : Nat → Int
  | 0 => 0
  | k + 1 => Nval x k * 256 + x k
theorem nval_bd (x : Nat → Int) : ∀ k, (∀ i, i < k → 0 ≤ x i ∧ x i < 256) → 0 ≤ Nval x k ∧ Nval x k < 256 ^ k
  | 0, _ => by simp [Nval]
  | k + 1, h => by
    have ih := nval_bd x k (fun i hi => h i (by omega))
    have hk := h k (by omega)
    rw [Nval, Int.pow_succ]
    omega
theorem or_step (a y : Int) (k : Nat) (hk : k < 8) (h0 : 0 ≤ a) (h1 : a < 256 ^ k) (hy0 : 0 ≤ y) (hy1 : y < 256) : bor .u64 (bshl .u64 a 8) (IntKind.wrap .u64 y) = a * 256 + y := by
  have hb : a < 72057594037927936 := by
    rcases (by omega : k = 0 ∨ k = 1 ∨ k = 2 ∨ k = 3 ∨ k = 4 ∨ k = 5 ∨ k = 6 ∨ k = 7) with rfl | rfl | rfl | rfl | rfl | rfl | rfl | rfl <;> simp at h1 <;> omega
  have hw : bshl .u64 a 8 = a * 256 := by
    show IntKind.u64.wrap (a * 2 ^ min (8 : Int).toNat 64) = _
    have e : IntKind.u64.wrap (a * 2 ^ min (8 : Int).toNat 64) = (a * 256) % 18446744073709551616 := rfl
    rw [e]; omega
  have hy : IntKind.wrap .u64 y = y := by
    have e : IntKind.wrap .u64 y = y % 18446744073709551616 := rfl
    rw [e]; omega
  rw [hw, hy]
  show bits .or .u64 (a * 256) y = _
  refine bits_join .u64 64 (by decide) (fun n h0 h1 => ?_) 8 (a * 256) y (by omega) (by omega) (by omega) hy0 (by omega) (by omega)
  unfold IntKind.wrap
  simp [IntKind.bits, IntKind.signed]
  omega

/-- byte 7 - k, and the number of eight bytes, the least first -/
def xr (l : List UInt8) (k : Nat) : Int := ((l.getD (7 - k) 0).toNat : Int)
theorem xr_bd (l : List UInt8) (k : Nat) : 0 ≤ xr l k ∧ xr l k < 256 := by
  have := (l.getD (7 - k) 0).toNat_lt
  unfold xr; omega
def le8 (l : List UInt8) : Int := Nval (xr l) 8
theorem lq_val {n : Int} {k : Nat} (h : k < 8) : (((lq n k).toNat : Nat) : Int) = n / 2 ^ (8 * k) % 256 := by
  unfold lq
  rw [b8_nat]
  have e1 : IntKind.u8.wrap (bshr .u64 n (((8 * k : Nat) : Nat) : Int)) = (bshr .u64 n (((8 * k : Nat) : Nat) : Int)) % 256 := rfl
  rw [e1]
  congr 1
  unfold bshr
  have e2 : min (((8 * k : Nat) : Int)).toNat (IntKind.u64.bits) = 8 * k := by
    have : IntKind.u64.bits = 64 := rfl
    rw [this]; omega
  rw [e2, Int.fdiv_eq_ediv_of_nonneg _ (Int.le_of_lt (Int.pow_pos (by decide)))]
theorem le8_leN {n : Int} (h0 : 0 ≤ n) (h1 : n < 18446744073709551616) : le8 (leN n 8) = n := by
  have hx : ∀ k, k < 8 → xr (leN n 8) k = n / 2 ^ (8 * (7 - k)) % 256 := fun k hk => by
    unfold xr
    rw [List.getD_eq_getElem?_getD]
    have : (leN n 8)[7 - k]? = some (lq n (7 - k)) := by rw [leN, List.getElem?_map, List.getElem?_range (by omega)]; rfl
    rw [this]
    exact lq_val (by omega)
  have e0 := hx 0 (by omega); have e1 := hx 1 (by omega); have e2 := hx 2 (by omega); have e3 := hx 3 (by omega)
  have e4 := hx 4 (by omega); have e5 := hx 5 (by omega); have e6 := hx 6 (by omega); have e7 := hx 7 (by omega)
  unfold le8
  generalize xr (leN n 8) = x at *
  simp at e0 e1 e2 e3 e4 e5 e6 e7
  have h1 : Nval x 1 = n / 72057594037927936 := by simp only [Nval]; omega
  have h2 : Nval x 2 = n / 281474976710656 := by rw [Nval, h1]; omega
  have h3 : Nval x 3 = n / 1099511627776 := by rw [Nval, h2]; omega
  have h4 : Nval x 4 = n / 4294967296 := by rw [Nval, h3]; omega
  have h5 : Nval x 5 = n / 16777216 := by rw [Nval, h4]; omega
  have h6 : Nval x 6 = n / 65536 := by rw [Nval, h5]; omega
  have h7 : Nval x 7 = n / 256 := by rw [Nval, h6]; omega
  rw [Nval, h7]; omega
theorem xr_at {l : List UInt8} {k : Nat} (hl : l.length = 8) (hk : k < 8) : (byt l)[7 - k]? = some (.int .u8 (xr l k)) := by
  have h : l[7 - k]? = some (l[7 - k]'(by omega)) := List.getElem?_eq_getElem (by omega)
  rw [byt_at h]
  unfold xr
  rw [List.getD_eq_getElem?_getD, h]; rfl
theorem i64_val (z : Int) : IntKind.wrap .i64 z = if 9223372036854775808 ≤ z % 18446744073709551616 then z % 18446744073709551616 - 18446744073709551616 else z % 18446744073709551616 := by
  unfold IntKind.wrap
  simp [IntKind.bits, IntKind.signed]
theorem i64_u64 {z : Int} (h0 : 0 ≤ z) (h1 : z < 18446744073709551616) : IntKind.wrap .u64 (IntKind.wrap .i64 z) = z := by
  have e1 := i64_val z
  have e2 : ∀ y, IntKind.wrap .u64 y = y % 18446744073709551616 := fun _ => rfl
  rw [e2, e1]; split <;> omega
theorem i64_id {z : Int} (h0 : 0 ≤ z) (h1 : z < 9223372036854775808) : IntKind.wrap .i64 z = z := by
  have e1 := i64_val z
  rw [e1]; split <;> omega
theorem i64_hi {z : Int} (h0 : 9223372036854775808 ≤ z) (h1 : z < 18446744073709551616) : IntKind.wrap .i64 z < 0 := by
  have e1 := i64_val z
  rw [e1]; split <;> omega
theorem band_low56 {z : Int} (h0 : 0 ≤ z) (h1 : z < 18446744073709551616) : band .u64 z 72057594037927935 = z % 72057594037927936 := by
  obtain ⟨k, rfl⟩ := Int.eq_ofNat_of_zero_le h0
  have hk : k < 2 ^ 64 := by omega
  have e1 : band .u64 (k : Int) 72057594037927935 = IntKind.wrap .u64 (((BitVec.ofInt 64 (k : Int) &&& BitVec.ofInt 64 72057594037927935).toNat : Nat) : Int) := rfl
  have e2 : (BitVec.ofInt 64 (k : Int) &&& BitVec.ofInt 64 72057594037927935).toNat = k % 72057594037927936 := by
    rw [BitVec.toNat_and]
    have a1 : (BitVec.ofInt 64 (k : Int)).toNat = k := by
      rw [BitVec.toNat_ofInt]; omega
    have a2 : (BitVec.ofInt 64 72057594037927935).toNat = 2 ^ 56 - 1 := by decide
    rw [a1, a2, Nat.and_two_pow_sub_one_eq_mod]
  rw [e1, e2, u64_id (by omega) (by omega)]; omega
theorem band7 : ∀ k : Fin 256, band .u64 ((k.val : Nat) : Int) 7 = ((k.val % 8 : Nat) : Int) := by decide +kernel
theorem lfN_low {n : Nat} (h : n < 72057594037927936) : ((lfN n : Nat) : Int) % 72057594037927936 = ((n : Nat) : Int) := by
  have := padn_lt n
  unfold lfN
  split <;> omega
theorem lfN_hi {n : Nat} (h : n < 72057594037927936) (hp : padn n ≠ 0) : 9223372036854775808 ≤ ((lfN n : Nat) : Int) := by
  have := padn_lt n
  unfold lfN
  rw [if_neg hp]; omega
theorem lfN_pad {n : Nat} (h : n < 72057594037927936) (hp : padn n ≠ 0) : band .u64 (bshr .u64 ((lfN n : Nat) : Int) 56) 7 = ((padn n : Nat) : Int) := by
  have h1 := padn_lt n
  have e : bshr .u64 ((lfN n : Nat) : Int) 56 = ((128 + padn n : Nat) : Int) := by
    have e1 : bshr .u64 ((lfN n : Nat) : Int) 56 = ((lfN n : Nat) : Int) / 72057594037927936 := by
      unfold bshr
      rw [Int.fdiv_eq_ediv_of_nonneg _ (by decide)]; rfl
    rw [e1]
    unfold lfN
    rw [if_neg hp]; omega
  have h2 := band7 ⟨128 + padn n, by omega⟩
  rw [e]
  simp only at h2
  rw [h2]; omega
set_option maxRecDepth 100000 in
set_option maxHeartbeats 2000000 in
theorem rl64_full (fb : Nat) (bs : List UInt8) (p : Nat) (hfit : p + 8 ≤ bs.length) (hbs : bs.length ≤ 4294967296) : Does Tryd.prog 84 [.iface 81 (.pointer (some ⟨fb, 0, none⟩))] [Rdr fb bs p] (fun v L => v = .tuple #[.int .i64 (IntKind.wrap .i64 (le8 ((bs.drop p).take 8))), .nilIface] ∧ L = [Rdr fb bs (p + 8)]) := by
  have h8l : ((bs.drop p).take 8).length = 8 := by rw [List.length_take, List.length_drop]; omega
  refine Does.enter 31 Tryd.func84 rfl rfl rfl fun W F => ?_
  show WPc _ _ _ _ _ [(0, .iface 81 (.pointer (some ⟨fb, 0, none⟩)))] (Rdr fb bs p :: F)
  refine WPc.seq ?_
  refine WPc.region ?_
  refine WP.val rfl rfl rfl (Val.assign rfl rfl) ?_
  refine WP.val rfl rfl rfl (Val.assign rfl rfl) ?_
  refine WP.nil ?_
  refine Out.next ?_
  refine WPc.seq ?_
  refine WPc.region ?_
  refine WP.eff rfl rfl rfl (Eff.alloc rfl Ty.z157) ?_
  rintro _ _ ⟨b1, rfl, rfl⟩
  refine WP.nil ?_
  refine Out.next ?_
  refine WPc.seq ?_
  refine WPc.seq ?_
  refine WPc.region ?_
  refine WP.val rfl rfl rfl (Val.move rfl rfl) ?_
  refine WP.val rfl rfl rfl (Val.sliceArr (len := 8) rfl Ty.ar157 rfl (by omega)) ?_
  refine WP.perm pl1 ?_
  refine WP.eff rfl rfl rfl (Eff.call rfl rfl Tryd.call79 (rf_full fb b1 bs p 8 [.int .u8 0, .int .u8 0, .int .u8 0, .int .u8 0, .int .u8 0, .int .u8 0, .int .u8 0, .int .u8 0] 157 rfl (by omega) hfit hbs)) ?_
  rintro _ _ ⟨_, ⟨rfl, rfl⟩, rfl⟩
  show WP _ _ _ _ _ _ _ (Rdr fb bs (p + 8) :: Blk b1 (byt ((bs.drop p).take 8)) 157 :: F)
  refine WP.val rfl rfl rfl (Val.move rfl rfl) ?_
  refine WP.val rfl rfl rfl (Val.extract rfl rfl rfl) ?_
  refine WP.val rfl rfl rfl (Val.extract rfl rfl rfl) ?_
  refine WP.val rfl rfl rfl (Val.assign rfl rfl) ?_
  refine WP.val rfl rfl rfl (Val.assign rfl rfl) ?_
  refine WP.nil ?_
  refine Out.next ?_
  refine WPc.seq ?_
  refine WPc.region ?_
  refine WP.val rfl rfl rfl (Val.move rfl rfl) ?_
  refine WP.val rfl rfl rfl (Val.nilIn rfl Ty.if61 rfl) ?_
  refine WP.nil ?_
  refine Out.next ?_
  refine WPc.condF rfl rfl ?_
  refine WPc.skip ?_
  refine Out.next ?_
  refine WPc.seq ?_
  refine WPc.region ?_
  refine WP.val rfl rfl rfl (Val.assign rfl rfl) ?_
  refine WP.nil ?_
  refine Out.next ?_
  refine WPc.seq ?_
  refine WPc.seq ?_
  refine WPc.region ?_
  refine WP.val rfl rfl rfl (Val.assign rfl rfl) ?_
  refine WP.nil ?_
  refine Out.next ?_
  refine WPc.block ?_
  refine WPc.perm pl1 ?_
  refine WPc.loop (ι := Nat) (fun j => j ≤ 8) (fun j => [(4, .pointer (some ⟨b1, 0, none⟩)), (7, .int .u64 ((Nval (xr ((bs.drop p).take 8)) j))), (8, .int .i64 (((7 : Int) - ((j : Nat) : Int))))]) (fun j => Blk b1 (byt ((bs.drop p).take 8)) 157 :: Rdr fb bs (p + 8) :: F) (fun j => 8 - j) 0 (Nat.zero_le _) ((Sub.cons rfl (Sub.cons rfl (Sub.cons rfl Sub.nil)))) (fun _ h => h) ?_
  rintro j hj
  show WPc _ _ _ _ _ [(4, .pointer (some ⟨b1, 0, none⟩)), (7, .int .u64 ((Nval (xr ((bs.drop p).take 8)) j))), (8, .int .i64 (((7 : Int) - ((j : Nat) : Int))))] (Blk b1 (byt ((bs.drop p).take 8)) 157 :: Rdr fb bs (p + 8) :: F)
  replace hj : j ≤ 8 := hj
  refine WPc.seq ?_
  refine WPc.seq ?_
  refine WPc.region ?_
  refine WP.val rfl rfl rfl (Val.move rfl rfl) ?_
  refine WP.val rfl rfl rfl (Val.geq rfl rfl rfl) ?_
  refine WP.nil ?_
  refine Out.next ?_
  refine WPc.ifP rfl (fun h1 => ?_) (fun h1 => ?_)
  · skip
    have h1 : ((0 : Int) ≤ ((7 : Int) - ((j : Nat) : Int))) := h1
    refine WPc.skip ?_
    refine Out.next ?_
    refine WPc.seq ?_
    refine WPc.block ?_
    have hj7 : j < 8 := by omega
    refine WPc.know 8 (.int .i64 ((7 - j : Nat) : Int)) rfl (congrArg (Value.int .i64) (by omega)) ?_
    refine WPc.region ?_
    refine WP.val rfl rfl rfl (Val.move rfl rfl) ?_
    refine WP.val rfl rfl rfl (Val.shl rfl rfl rfl (by first | decide | omega)) ?_
    refine WP.val rfl rfl rfl (Val.move rfl rfl) ?_
    refine WP.val rfl rfl rfl (Val.indexAddrA (j := (7 - j)) (q := 0 + ((7 - j)) * 1) rfl Ty.ar157 rfl rfl (by omega) (by omega) (by omega)) ?_
    refine WP.val rfl rfl rfl (Val.load (v := .int .u8 ((xr ((bs.drop p).take 8) j))) rfl Ty.sc5 rfl (fun w h => h.cell 0 rfl (by rw [show 0 + (7 - j) * 1 = 7 - j from by omega]; exact xr_at h8l hj7))) ?_
    refine WP.val rfl rfl rfl (Val.conv (z := IntKind.wrap .u64 (xr ((bs.drop p).take 8) j)) rfl Ty.ik94 Ty.un5 rfl rfl) ?_
    refine WP.val rfl rfl rfl (Val.or rfl rfl rfl) ?_
    refine WP.val rfl rfl rfl (Val.assign rfl rfl) ?_
    refine WP.nil ?_
    refine Out.block ?_
    refine Out.next ?_
    refine WPc.region ?_
    refine WP.val rfl rfl rfl (Val.move rfl rfl) ?_
    refine WP.val rfl rfl rfl (Val.sub (z := ((7 - j : Nat) : Int) - (1 : Int)) rfl rfl rfl (w64 (by omega) (by omega))) ?_
    refine WP.val rfl rfl rfl (Val.assign rfl rfl) ?_
    refine WP.nil ?_
    have hos := or_step (Nval (xr ((bs.drop p).take 8)) j) (xr ((bs.drop p).take 8) j) j (by omega) (nval_bd _ j fun i _ => xr_bd _ i).1 (nval_bd _ j fun i _ => xr_bd _ i).2 (xr_bd _ j).1 (xr_bd _ j).2
    refine Out.again (j + 1) ?_ ?_ ?_ ?_
    · exact (by first | omega | (dsimp only; omega))
    · first | omega | (dsimp only; omega)
    · exact (Sub.cons rfl (Sub.cons (by rw [hos]; rfl) (Sub.cons (congrArg some (congrArg (Value.int .i64) (by omega))) Sub.nil)))
    · exact (fun _ h => h)
  · skip
    have h1 : ¬ ((0 : Int) ≤ ((7 : Int) - ((j : Nat) : Int))) := h1
    refine WPc.exit ?_
    refine Out.then_exit ?_
    refine Out.then_exit ?_
    refine Out.block_exit ?_
    refine Out.next ?_
    refine WPc.seq ?_
    refine WPc.region ?_
    refine WP.val rfl rfl rfl (Val.move rfl rfl) ?_
    refine WP.val rfl rfl rfl (Val.conv (z := IntKind.wrap .i64 (Nval (xr ((bs.drop p).take 8)) j)) rfl Ty.ik2 Ty.un94 rfl rfl) ?_
    refine WP.val rfl rfl rfl (Val.assign rfl rfl) ?_
    refine WP.val rfl rfl rfl (Val.assign rfl rfl) ?_
    refine WP.nil ?_
    refine Out.next ?_
    refine WPc.ret ?_
    obtain rfl : j = 8 := by omega
    refine Out.drop ?_
    exact Out.ret2 (L' := _) Tryd.results84 rfl rfl ⟨rfl, rfl⟩ (fun _ h => h)
set_option maxRecDepth 100000 in
set_option maxHeartbeats 2000000 in
theorem rl64_eof (fb : Nat) (ep : Addr) (bs : List UInt8) (p : Nat) (hp : p = bs.length) (hbs : bs.length ≤ 4294967296) : Does Tryd.prog 84 [.iface 81 (.pointer (some ⟨fb, 0, none⟩))] [Rdr fb bs p, Cel 0 0 (.iface 123 (.pointer (some ep)))] (fun v L => v = .tuple #[.int .i64 0, .iface 123 (.pointer (some ep))] ∧ L = [Rdr fb bs p, Cel 0 0 (.iface 123 (.pointer (some ep)))]) := by
  refine Does.enter 31 Tryd.func84 rfl rfl rfl fun W F => ?_
  show WPc _ _ _ _ _ [(0, .iface 81 (.pointer (some ⟨fb, 0, none⟩)))] (Rdr fb bs p :: Cel 0 0 (.iface 123 (.pointer (some ep))) :: F)
  refine WPc.seq ?_
  refine WPc.region ?_
  refine WP.val rfl rfl rfl (Val.assign rfl rfl) ?_
  refine WP.val rfl rfl rfl (Val.assign rfl rfl) ?_
  refine WP.nil ?_
  refine Out.next ?_
  refine WPc.seq ?_
  refine WPc.region ?_
  refine WP.eff rfl rfl rfl (Eff.alloc rfl Ty.z157) ?_
  rintro _ _ ⟨b1, rfl, rfl⟩
  refine WP.nil ?_
  refine Out.next ?_
  refine WPc.seq ?_
  refine WPc.seq ?_
  refine WPc.region ?_
  refine WP.val rfl rfl rfl (Val.move rfl rfl) ?_
  refine WP.val rfl rfl rfl (Val.sliceArr (len := 8) rfl Ty.ar157 rfl (by omega)) ?_
  refine WP.perm pl2 ?_
  refine WP.perm pl1 ?_
  refine WP.perm pl2 ?_
  refine WP.eff rfl rfl rfl (Eff.call rfl rfl Tryd.call79 (rf_eof fb b1 ep bs p 8 [.int .u8 0, .int .u8 0, .int .u8 0, .int .u8 0, .int .u8 0, .int .u8 0, .int .u8 0, .int .u8 0] 157 (by omega) (by omega) hp hbs)) ?_
  rintro _ _ ⟨_, ⟨rfl, rfl⟩, rfl⟩
  show WP _ _ _ _ _ _ _ (Rdr fb bs p :: Blk b1 ([.int .u8 0, .int .u8 0, .int .u8 0, .int .u8 0, .int .u8 0, .int .u8 0, .int .u8 0, .int .u8 0]) 157 :: Cel 0 0 (.iface 123 (.pointer (some ep))) :: F)
  refine WP.val rfl rfl rfl (Val.move rfl rfl) ?_
  refine WP.val rfl rfl rfl (Val.extract rfl rfl rfl) ?_
  refine WP.val rfl rfl rfl (Val.extract rfl rfl rfl) ?_
  refine WP.val rfl rfl rfl (Val.assign rfl rfl) ?_
  refine WP.val rfl rfl rfl (Val.assign rfl rfl) ?_
  refine WP.nil ?_
  refine Out.next ?_
  refine WPc.seq ?_
  refine WPc.region ?_
  refine WP.val rfl rfl rfl (Val.move rfl rfl) ?_
  refine WP.val rfl rfl rfl (Val.someIn rfl Ty.if61 rfl) ?_
  refine WP.nil ?_
  refine Out.next ?_
  refine WPc.condT rfl rfl ?_
  refine WPc.seq ?_
  refine WPc.region ?_
  refine WP.val rfl rfl rfl (Val.move rfl rfl) ?_
  refine WP.val rfl rfl rfl (Val.assign rfl rfl) ?_
  refine WP.val rfl rfl rfl (Val.assign rfl rfl) ?_
  refine WP.nil ?_
  refine Out.next ?_
  refine WPc.ret ?_
  refine Out.then_ret ?_
  refine Out.perm pl1 ?_
  refine Out.drop ?_
  exact Out.ret2 (L' := _) Tryd.results84 rfl rfl ⟨rfl, rfl⟩ (fun _ h => h)
set_option maxRecDepth 100000 in
set_option maxHeartbeats 2000000 in
theorem ri_full (fb : Nat) (bs : List UInt8) (p : Nat) (hfit : p + 8 ≤ bs.length) (hbs : bs.length ≤ 4294967296) : Does Tryd.prog 76 [.iface 81 (.pointer (some ⟨fb, 0, none⟩))] [Rdr fb bs p] (fun v L => v = .tuple #[.int .i64 (IntKind.wrap .i64 (le8 ((bs.drop p).take 8))), .nilIface] ∧ L = [Rdr fb bs (p + 8)]) := by
  refine Does.enter 8 Tryd.func76 rfl rfl rfl fun W F => ?_
  show WPc _ _ _ _ _ [(0, .iface 81 (.pointer (some ⟨fb, 0, none⟩)))] (Rdr fb bs p :: F)
  refine WPc.seq ?_
  refine WPc.region ?_
  refine WP.val rfl rfl rfl (Val.assign rfl rfl) ?_
  refine WP.val rfl rfl rfl (Val.assign rfl rfl) ?_
  refine WP.nil ?_
  refine Out.next ?_
  refine WPc.seq ?_
  refine WPc.region ?_
  refine WP.val rfl rfl rfl (Val.move rfl rfl) ?_
  refine WP.eff rfl rfl rfl (Eff.call rfl rfl Tryd.call84 (rl64_full fb bs p hfit hbs)) ?_
  rintro _ _ ⟨_, ⟨rfl, rfl⟩, rfl⟩
  show WP _ _ _ _ _ _ _ (Rdr fb bs (p + 8) :: F)
  refine WP.val rfl rfl rfl (Val.extract rfl rfl rfl) ?_
  refine WP.val rfl rfl rfl (Val.extract rfl rfl rfl) ?_
  refine WP.val rfl rfl rfl (Val.assign rfl rfl) ?_
  refine WP.val rfl rfl rfl (Val.assign rfl rfl) ?_
  refine WP.nil ?_
  refine Out.next ?_
  refine WPc.ret ?_
  exact Out.ret2 (L' := _) Tryd.results76 rfl rfl ⟨rfl, rfl⟩ (fun _ h => h)
set_option maxRecDepth 100000 in
set_option maxHeartbeats 2000000 in
theorem ri_eof (fb : Nat) (ep : Addr) (bs : List UInt8) (p : Nat) (hp : p = bs.length) (hbs : bs.length ≤ 4294967296) : Does Tryd.prog 76 [.iface 81 (.pointer (some ⟨fb, 0, none⟩))] [Rdr fb bs p, Cel 0 0 (.iface 123 (.pointer (some ep)))] (fun v L => v = .tuple #[.int .i64 0, .iface 123 (.pointer (some ep))] ∧ L = [Rdr fb bs p, Cel 0 0 (.iface 123 (.pointer (some ep)))]) := by
  refine Does.enter 8 Tryd.func76 rfl rfl rfl fun W F => ?_
  show WPc _ _ _ _ _ [(0, .iface 81 (.pointer (some ⟨fb, 0, none⟩)))] (Rdr fb bs p :: Cel 0 0 (.iface 123 (.pointer (some ep))) :: F)
  refine WPc.seq ?_
  refine WPc.region ?_
  refine WP.val rfl rfl rfl (Val.assign rfl rfl) ?_
  refine WP.val rfl rfl rfl (Val.assign rfl rfl) ?_
  refine WP.nil ?_
  refine Out.next ?_
  refine WPc.seq ?_
  refine WPc.region ?_
  refine WP.val rfl rfl rfl (Val.move rfl rfl) ?_
  refine WP.perm pl1 ?_
  refine WP.perm pl1 ?_
  refine WP.eff rfl rfl rfl (Eff.call rfl rfl Tryd.call84 (rl64_eof fb ep bs p hp hbs)) ?_
  rintro _ _ ⟨_, ⟨rfl, rfl⟩, rfl⟩
  show WP _ _ _ _ _ _ _ (Rdr fb bs p :: Cel 0 0 (.iface 123 (.pointer (some ep))) :: F)
  refine WP.val rfl rfl rfl (Val.extract rfl rfl rfl) ?_
  refine WP.val rfl rfl rfl (Val.extract rfl rfl rfl) ?_
  refine WP.val rfl rfl rfl (Val.assign rfl rfl) ?_
  refine WP.val rfl rfl rfl (Val.assign rfl rfl) ?_
  refine WP.nil ?_
  refine Out.next ?_
  refine WPc.ret ?_
  exact Out.ret2 (L' := _) Tryd.results76 rfl rfl ⟨rfl, rfl⟩ (fun _ h => h)
set_option maxRecDepth 100000 in
set_option maxHeartbeats 2000000 in
theorem dfs_spec (n : Nat) (hn : n < 72057594037927936) : Does Tryd.prog 77 [.int .i64 ((IntKind.wrap .i64 ((lfN n : Nat) : Int)))] [] (fun v L => v = .tuple #[.int .i64 ((n : Nat) : Int), .int .i64 ((padn n : Nat) : Int)] ∧ L = []) := by
  refine Does.enter 17 Tryd.func77 rfl rfl rfl fun W F => ?_
  show WPc _ _ _ _ _ [(0, .int .i64 ((IntKind.wrap .i64 ((lfN n : Nat) : Int))))] (F)
  refine WPc.seq ?_
  refine WPc.region ?_
  refine WP.val rfl rfl rfl (Val.assign rfl rfl) ?_
  refine WP.val rfl rfl rfl (Val.assign rfl rfl) ?_
  refine WP.nil ?_
  refine Out.next ?_
  refine WPc.seq ?_
  refine WPc.region ?_
  refine WP.val rfl rfl rfl (Val.move rfl rfl) ?_
  refine WP.val rfl rfl rfl (Val.conv (z := ((lfN n : Nat) : Int)) rfl Ty.ik94 Ty.un2 rfl (i64_u64 (by omega) (by have := lfN_lt hn; omega))) ?_
  refine WP.val rfl rfl rfl (Val.intK (z := ((n : Nat) : Int)) (Val.and rfl rfl rfl) ((band_low56 (by omega) (by have := lfN_lt hn; omega)).trans (lfN_low hn))) ?_
  refine WP.val rfl rfl rfl (Val.conv (z := ((n : Nat) : Int)) rfl Ty.ik2 Ty.un94 rfl (i64_id (by omega) (by omega))) ?_
  refine WP.val rfl rfl rfl (Val.assign rfl rfl) ?_
  refine WP.nil ?_
  refine Out.next ?_
  refine WPc.seq ?_
  refine WPc.seq ?_
  refine WPc.region ?_
  refine WP.val rfl rfl rfl (Val.move rfl rfl) ?_
  refine WP.val rfl rfl rfl (Val.lss rfl rfl rfl) ?_
  refine WP.nil ?_
  refine Out.next ?_
  refine WPc.ifP rfl (fun h1 => ?_) (fun h1 => ?_)
  · skip
    have h1 : ((IntKind.wrap .i64 ((lfN n : Nat) : Int)) < (0 : Int)) := h1
    have hpl := padn_lt n
    have hpn : padn n ≠ 0 := by
      intro h0
      have : IntKind.wrap .i64 ((lfN n : Nat) : Int) = ((n : Nat) : Int) := by unfold lfN; rw [if_pos h0]; exact i64_id (by omega) (by omega)
      omega
    refine WPc.region ?_
    refine WP.val rfl rfl rfl (Val.move rfl rfl) ?_
    refine WP.val rfl rfl rfl (Val.conv (z := ((lfN n : Nat) : Int)) rfl Ty.ik94 Ty.un2 rfl (i64_u64 (by omega) (by have := lfN_lt hn; omega))) ?_
    refine WP.val rfl rfl rfl (Val.shr rfl rfl rfl (by first | decide | omega)) ?_
    refine WP.val rfl rfl rfl (Val.intK (z := ((padn n : Nat) : Int)) (Val.and rfl rfl rfl) (lfN_pad hn hpn)) ?_
    refine WP.val rfl rfl rfl (Val.conv (z := ((padn n : Nat) : Int)) rfl Ty.ik2 Ty.un94 rfl (i64_id (by omega) (by omega))) ?_
    refine WP.val rfl rfl rfl (Val.assign rfl rfl) ?_
    refine WP.nil ?_
    refine Out.next ?_
    refine WPc.seq ?_
    refine WPc.region ?_
    refine WP.val rfl rfl rfl (Val.move rfl rfl) ?_
    refine WP.val rfl rfl rfl (Val.move rfl rfl) ?_
    refine WP.val rfl rfl rfl (Val.assign rfl rfl) ?_
    refine WP.val rfl rfl rfl (Val.assign rfl rfl) ?_
    refine WP.nil ?_
    refine Out.next ?_
    refine WPc.ret ?_
    exact Out.ret2 (L' := []) Tryd.results77 rfl rfl ⟨rfl, rfl⟩ (fun _ h => h)
  · skip
    have h1 : ¬ ((IntKind.wrap .i64 ((lfN n : Nat) : Int)) < (0 : Int)) := h1
    refine WPc.skip ?_
    refine Out.next ?_
    refine WPc.seq ?_
    refine WPc.region ?_
    refine WP.val rfl rfl rfl (Val.move rfl rfl) ?_
    refine WP.val rfl rfl rfl (Val.move rfl rfl) ?_
    refine WP.val rfl rfl rfl (Val.assign rfl rfl) ?_
    refine WP.val rfl rfl rfl (Val.assign rfl rfl) ?_
    refine WP.nil ?_
    refine Out.next ?_
    refine WPc.ret ?_
    have hpn : padn n = 0 := by
      by_cases hp : padn n = 0
      · exact hp
      · have := i64_hi (lfN_hi hn hp) (by have := lfN_lt hn; omega)
        omega
    exact Out.ret2 (L' := []) Tryd.results77 rfl rfl ⟨by rw [hpn]; rfl, rfl⟩ (fun _ h => h)
set_option maxRecDepth 100000 in
set_option maxHeartbeats 2000000 in
theorem fi_spec (fb : Nat) (bs : List UInt8) (p : Nat) : Does Tryd.prog 70 [.pointer (some ⟨fb, 0, none⟩)] [Rdr fb bs p] (fun v L => v = .agg #[.int .i64 ((bs.length : Nat) : Int)] ∧ L = [Rdr fb bs p]) := by
  refine Does.enter 9 Tryd.func70 rfl rfl rfl fun W F => ?_
  show WPc _ _ _ _ _ [(0, .pointer (some ⟨fb, 0, none⟩))] (Rdr fb bs p :: F)
  refine WPc.seq ?_
  refine WPc.open (fun w h => rdr_open h) ?_
  rintro fv
  show WPc _ _ _ _ _ _ (Blk fb [fv, .int .i64 (((p : Nat) : Int))] 97 :: Byts fv bs :: F)
  refine WPc.region ?_
  refine WP.eff rfl rfl rfl (Eff.alloc rfl Ty.z147) ?_
  rintro _ _ ⟨b1, rfl, rfl⟩
  refine WP.nil ?_
  refine Out.next ?_
  refine WPc.seq ?_
  refine WPc.region ?_
  refine WP.val rfl rfl rfl (Val.move rfl rfl) ?_
  refine WP.val rfl rfl rfl (Val.nilCheck rfl rfl) ?_
  refine WP.val rfl rfl rfl (Val.fieldAddr (j := 0) rfl Ty.fo97_0 rfl rfl) ?_
  refine WP.val rfl rfl rfl (Val.load rfl Ty.sc40 rfl (fun w h => h.cell 1 rfl rfl)) ?_
  refine WP.val rfl rfl rfl (Val.lenByts rfl Ty.sl40 rfl (fun w h => h.at 2 rfl)) ?_
  refine WP.val rfl rfl rfl (Val.mk (cs := [.int .i64 (((bs.length : Nat) : Int))]) rfl rfl (fun _ => by kernel_rfl)) ?_
  refine WP.eff0 rfl rfl (Eff.storeAgg (cs := [.int .i64 (((bs.length : Nat) : Int))]) (C' := [.int .i64 (((bs.length : Nat) : Int))]) rfl Ty.ag147 rfl rfl rfl rfl (by simp) rfl) ?_
  rintro _ _ rfl
  refine WP.nil ?_
  refine Out.next ?_
  refine WPc.ret ?_
  exact Out.retRun (L' := [Rdr fb bs p]) (results_cell (cs := [.int .i64 (((bs.length : Nat) : Int))]) Tryd.results70 Ty.ag147 rfl rfl (fun w h => h.range 0 rfl rfl)) ⟨rfl, rfl⟩ (fun w h => rdr_mk h.drop)
set_option maxRecDepth 100000 in
set_option maxHeartbeats 2000000 in
theorem size_spec (n : Nat) : Does Tryd.prog 78 [.agg #[.int .i64 (((n : Nat) : Int))]] [] (fun v L => v = .int .i64 ((n : Nat) : Int) ∧ L = []) := by
  refine Does.enter 5 Tryd.func78 rfl rfl rfl fun W F => ?_
  show WPc _ _ _ _ _ [(0, .agg #[.int .i64 (((n : Nat) : Int))])] (F)
  refine WPc.seq ?_
  refine WPc.region ?_
  refine WP.eff rfl rfl rfl (Eff.box (C := [.int .i64 (((n : Nat) : Int))]) rfl rfl rfl) ?_
  rintro _ F ⟨b1, rfl, rfl⟩
  refine WP.val rfl rfl rfl (Val.assign rfl rfl) ?_
  refine WP.nil ?_
  refine Out.next ?_
  refine WPc.seq ?_
  refine WPc.region ?_
  refine WP.val rfl rfl rfl (Val.fieldAddr (j := 0) rfl Ty.fo147_0 rfl rfl) ?_
  refine WP.val rfl rfl rfl (Val.load rfl Ty.sc2 rfl (fun w h => h.cell 0 rfl rfl)) ?_
  refine WP.val rfl rfl rfl (Val.assign rfl rfl) ?_
  refine WP.nil ?_
  refine Out.next ?_
  refine WPc.ret ?_
  refine Out.drop ?_
  exact Out.ret1 (L' := []) Tryd.results78 rfl ⟨rfl, rfl⟩ (fun _ h => h)
set_option maxRecDepth 100000 in
set_option maxHeartbeats 2000000 in
theorem nfb_aux (a : Option Addr) (m c : Nat) (bs : List UInt8) : Does Tryd.prog 30 [.slice a m c] [Byts (.slice a m c) bs] (fun v L => ∃ fb, v = .pointer (some ⟨fb, 0, none⟩) ∧ L = [Rdr fb bs 0]) := by
  refine Does.enter 6 Tryd.func30 rfl rfl rfl fun W F => ?_
  show WPc _ _ _ _ _ [(0, .slice a m c)] (Byts (.slice a m c) bs :: F)
  refine WPc.seq ?_
  refine WPc.region ?_
  refine WP.val rfl rfl rfl (Val.assign rfl rfl) ?_
  refine WP.nil ?_
  refine Out.next ?_
  refine WPc.seq ?_
  refine WPc.region ?_
  refine WP.val rfl rfl rfl (Val.move rfl rfl) ?_
  refine WP.val rfl rfl rfl (Val.mk (cs := [.slice a m c, .int .i64 0]) rfl rfl (fun _ => by kernel_rfl)) ?_
  refine WP.eff rfl rfl rfl (Eff.box (C := [.slice a m c, .int .i64 0]) rfl rfl rfl) ?_
  rintro _ _ ⟨b1, rfl, rfl⟩
  refine WP.val rfl rfl rfl (Val.assign rfl rfl) ?_
  refine WP.nil ?_
  refine Out.next ?_
  refine WPc.ret ?_
  exact Out.ret1 (L' := [Rdr b1 bs 0]) Tryd.results30 rfl ⟨b1, rfl, rfl⟩ (fun w h => rdr_mk h)

theorem byts_slice {W w : World} {v : Value} {l : List UInt8} {L : List HProp} (h : Sat W (Byts v l :: L) w) : ∃ a m c, v = .slice a m c := by
  rcases h.byts with ⟨rfl, -, -⟩ | ⟨b, i, c, C, T, rfl, -⟩
  · exact ⟨_, _, _, rfl⟩
  · exact ⟨_, _, _, rfl⟩
theorem nfb_spec (u : Value) (bs : List UInt8) : Does Tryd.prog 30 [u] [Byts u bs] (fun v L => ∃ fb, v = .pointer (some ⟨fb, 0, none⟩) ∧ L = [Rdr fb bs 0]) :=
  Does.fact (fun W w F h => byts_slice (l := bs) h) fun ⟨a, m, c, hu⟩ => by subst hu; exact nfb_aux a m c bs

end Go.Proofs.YthicijpjpijdjaaDoor.Wm
