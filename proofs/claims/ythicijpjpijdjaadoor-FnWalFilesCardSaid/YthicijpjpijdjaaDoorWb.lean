import Derived.Test.YthicijpjpijdjaaDoorWa
namespace Go.Proofs.YthicijpjpijdjaaDoor.Wb
open Go.RowKit Go.Proofs.YthicijpjpijdjaaDoor Go.Proofs.YthicijpjpijdjaaDoor.Sl Go.Proofs.YthicijpjpijdjaaDoor.Wa
set_option linter.unusedVariables false
set_option linter.unusedSimpArgs false
set_option linter.unusedSectionVars false


theorem u64_range (z : Int) : 0 ≤ IntKind.u64.wrap z ∧ IntKind.u64.wrap z < 18446744073709551616 := by
  have h1 : IntKind.u64.wrap z = z % 18446744073709551616 := rfl
  rw [h1]; omega
/-- a byte that is not a number's last -/
def vcont (z : Int) : UInt8 := b8 (((BitVec.ofInt IntKind.u8.bits (IntKind.wrap .u8 z) ||| BitVec.ofInt IntKind.u8.bits 128).toNat : Nat) : Int)
def vintF : Nat → Int → List UInt8
  | 0, z => [b8 z]
  | n + 1, z => if 128 ≤ z then vcont z :: vintF n (bshr .u64 z 7) else [b8 z]
def vint (z : Int) : List UInt8 := vintF 10 z
theorem vintF_len : ∀ (n : Nat) (z : Int), (vintF n z).length ≤ n + 1
  | 0, z => by simp [vintF]
  | n + 1, z => by
    unfold vintF
    split
    · have := vintF_len n (bshr .u64 z 7); simp; omega
    · simp
theorem vint_len (z : Int) : (vint z).length ≤ 11 := vintF_len 10 z
theorem shr_lt {z : Int} {m : Nat} (h0 : 0 ≤ z) (h : z < 128 ^ (m + 2)) : 0 ≤ bshr .u64 z 7 ∧ bshr .u64 z 7 < 128 ^ (m + 1) := by
  have e : bshr .u64 z 7 = z / 128 := by
    unfold bshr
    rw [Int.fdiv_eq_ediv_of_nonneg _ (by decide)]
    rfl
  rw [e]
  refine ⟨Int.ediv_nonneg h0 (by decide), Int.ediv_lt_of_lt_mul (by decide) ?_⟩
  have : (128 : Int) ^ (m + 2) = 128 ^ (m + 1) * 128 := by rw [Int.pow_succ]
  rw [← this]; exact h
theorem vint_more {m : Nat} {z : Int} {bs : List UInt8} (h : 128 ≤ z) : bs ++ vintF (m + 1) z = (bs ++ [vcont z]) ++ vintF m (bshr .u64 z 7) := by
  show bs ++ (if 128 ≤ z then vcont z :: vintF m (bshr .u64 z 7) else [b8 z]) = _
  rw [if_pos h]; simp
theorem vint_last {m : Nat} {z : Int} {bs : List UInt8} (h : ¬ 128 ≤ z) : bs ++ vintF m z = bs ++ [b8 z] := by
  cases m with
  | zero => rfl
  | succ m =>
    show bs ++ (if 128 ≤ z then vcont z :: vintF m (bshr .u64 z 7) else [b8 z]) = _
    rw [if_neg h]
theorem byt_cont (bs : List UInt8) (z : Int) : byt bs ++ [Value.int .u8 (bor .u8 (IntKind.wrap .u8 z) 128)] = byt (bs ++ [vcont z]) := by
  rw [byt_append]; congr 1; exact b8_byt _
theorem byt_last (bs : List UInt8) (z : Int) : byt bs ++ [Value.int .u8 (IntKind.wrap .u8 z)] = byt (bs ++ [b8 z]) := by
  rw [byt_append]; congr 1; exact b8_byt _
def pint (k x : Int) : List UInt8 := if x = 0 then [] else vint (bshl .u64 (IntKind.wrap .u64 k) 3) ++ vint (IntKind.wrap .u64 x)
def pbytes (k : Int) (bs : List UInt8) : List UInt8 := vint (bor .u64 (bshl .u64 (IntKind.wrap .u64 k) 3) 2) ++ vint (IntKind.wrap .u64 ((bs.length : Nat) : Int)) ++ bs
theorem pint_len (k x : Int) : (pint k x).length ≤ 22 := by
  have h1 := vint_len (bshl .u64 (IntKind.wrap .u64 k) 3)
  have h2 := vint_len (IntKind.wrap .u64 x)
  unfold pint; split
  · simp
  · simp; omega
theorem pbytes_len (k : Int) (bs : List UInt8) : (pbytes k bs).length ≤ 22 + bs.length := by
  have h1 := vint_len (bor .u64 (bshl .u64 (IntKind.wrap .u64 k) 3) 2)
  have h2 := vint_len (IntKind.wrap .u64 ((bs.length : Nat) : Int))
  unfold pbytes; simp; omega
set_option maxRecDepth 100000 in
set_option maxHeartbeats 2000000 in
theorem varint_spec (v0 : Value) (bs : List UInt8) (z0 : Int) (hz : 0 ≤ z0 ∧ z0 < 18446744073709551616) (hb : bs.length ≤ 4294967296) : Does Tryd.prog 66 [v0, .int .u64 (z0)] [Own 5 1 v0 ((bs : List UInt8).length) (byt (bs))] (fun v L => L = [Own 5 1 v ((bs ++ vint z0 : List UInt8).length) (byt (bs ++ vint z0))]) := by
  refine Does.enter 20 Tryd.func66 rfl rfl rfl fun W F => ?_
  show WPc _ _ _ _ _ [(0, v0), (1, .int .u64 (z0))] (Own 5 1 v0 ((bs : List UInt8).length) (byt (bs)) :: F)
  refine WPc.seq ?_
  refine WPc.region ?_
  refine WP.val rfl rfl rfl (Val.assign rfl rfl) ?_
  refine WP.nil ?_
  refine Out.next ?_
  refine WPc.seq ?_
  refine WPc.block ?_
  refine WPc.loop (ι := Nat × Int × List UInt8 × Value) (fun ⟨m, z, bs', v⟩ => 0 ≤ z ∧ z < 128 ^ (m + 1) ∧ bs' ++ vintF m z = bs ++ vint z0 ∧ bs'.length + m ≤ bs.length + 10) (fun ⟨m, z, bs', v⟩ => [(0, v), (1, .int .u64 (z))]) (fun ⟨m, z, bs', v⟩ => Own 5 1 v ((bs' : List UInt8).length) (byt (bs')) :: F) (fun ⟨m, z, bs', v⟩ => m) (10, z0, bs, v0) ⟨hz.1, Int.lt_trans hz.2 (by decide), rfl, Nat.le_refl _⟩ ((Sub.cons rfl (Sub.cons rfl Sub.nil))) (fun _ h => h) ?_
  rintro ⟨m, z, bs', v⟩ ⟨hz1, hz2, he, hbl⟩
  show WPc _ _ _ _ _ [(0, v), (1, .int .u64 (z))] (Own 5 1 v ((bs' : List UInt8).length) (byt (bs')) :: F)
  refine WPc.seq ?_
  refine WPc.seq ?_
  refine WPc.region ?_
  refine WP.val rfl rfl rfl (Val.move rfl rfl) ?_
  refine WP.val rfl rfl rfl (Val.geq rfl rfl rfl) ?_
  refine WP.nil ?_
  refine Out.next ?_
  refine WPc.ifP rfl (fun h1 => ?_) (fun h1 => ?_)
  · skip
    have h1 : ((128 : Int) ≤ z) := h1
    refine WPc.skip ?_
    refine Out.next ?_
    refine WPc.block ?_
    refine WPc.seq ?_
    refine WPc.region ?_
    refine WP.val rfl rfl rfl (Val.move rfl rfl) ?_
    refine WP.val rfl rfl rfl (Val.move rfl rfl) ?_
    refine WP.val rfl rfl rfl (Val.conv (z := IntKind.wrap .u8 z) rfl Ty.ik5 Ty.un94 rfl rfl) ?_
    refine WP.val rfl rfl rfl (Val.or rfl rfl rfl) ?_
    refine WP.eff rfl rfl rfl (Eff.mkSlice (C := [.int .u8 (bor .u8 (IntKind.wrap .u8 z) (128 : Int))]) rfl Ty.sl40 rfl (fun _ => by kernel_rfl)) ?_
    rintro _ _ ⟨b1, rfl, rfl⟩
    refine WP.perm pl1 ?_
    refine WP.eff rfl rfl rfl (Eff.append (m := 1) (n0 := (bs' : List UInt8).length) (news := [.int .u8 (bor .u8 (IntKind.wrap .u8 z) (128 : Int))]) rfl Ty.sl40 Ty.z5 rfl rfl rfl (.slice Ty.sl40 rfl rfl (fun w h => cells_range (h.range 1 rfl rfl))) (by omega) (by omega)) ?_
    rintro v2 _ ⟨onev2, rfl⟩
    refine WP.val rfl rfl rfl (Val.assign rfl rfl) ?_
    refine WP.nil ?_
    refine Out.next ?_
    refine WPc.region ?_
    refine WP.val rfl rfl rfl (Val.move rfl rfl) ?_
    refine WP.val rfl rfl rfl (Val.shr rfl rfl rfl (by first | decide | omega)) ?_
    refine WP.val rfl rfl rfl (Val.assign rfl rfl) ?_
    refine WP.nil ?_
    refine Out.block ?_
    obtain ⟨m', rfl⟩ : ∃ k, m = k + 1 := by
      cases m with
      | zero => exfalso; simp at hz2; omega
      | succ k => exact ⟨k, rfl⟩
    have hsh := shr_lt hz1 hz2
    refine Out.perm pl1 ?_
    refine Out.drop ?_
    refine Out.again (m', bshr .u64 z 7, bs' ++ [vcont z], v2) ?_ ?_ ?_ ?_
    · exact ⟨hsh.1, hsh.2, by rw [← vint_more (by omega)]; exact he, by simp; omega⟩
    · (dsimp only; omega)
    · exact (Sub.cons rfl (Sub.cons rfl Sub.nil))
    · exact (fun w h => by dsimp only; rw [← byt_cont, List.length_append]; exact h)
  · skip
    have h1 : ¬ ((128 : Int) ≤ z) := h1
    refine WPc.exit ?_
    refine Out.then_exit ?_
    refine Out.then_exit ?_
    refine Out.block_exit ?_
    refine Out.next ?_
    refine WPc.seq ?_
    refine WPc.region ?_
    refine WP.val rfl rfl rfl (Val.move rfl rfl) ?_
    refine WP.val rfl rfl rfl (Val.move rfl rfl) ?_
    refine WP.val rfl rfl rfl (Val.conv (z := IntKind.wrap .u8 z) rfl Ty.ik5 Ty.un94 rfl rfl) ?_
    refine WP.eff rfl rfl rfl (Eff.mkSlice (C := [.int .u8 (IntKind.wrap .u8 z)]) rfl Ty.sl40 rfl (fun _ => by kernel_rfl)) ?_
    rintro _ _ ⟨b3, rfl, rfl⟩
    refine WP.perm pl1 ?_
    refine WP.eff rfl rfl rfl (Eff.append (m := 1) (n0 := (bs' : List UInt8).length) (news := [.int .u8 (IntKind.wrap .u8 z)]) rfl Ty.sl40 Ty.z5 rfl rfl rfl (.slice Ty.sl40 rfl rfl (fun w h => cells_range (h.range 1 rfl rfl))) (by omega) (by omega)) ?_
    rintro v4 _ ⟨onev4, rfl⟩
    refine WP.val rfl rfl rfl (Val.assign rfl rfl) ?_
    refine WP.nil ?_
    refine Out.next ?_
    refine WPc.ret ?_
    have hv := (vint_last (m := m) (z := z) (bs := bs') (by omega)).symm.trans he
    refine Out.perm pl1 ?_
    refine Out.drop ?_
    exact Out.ret1 (L' := _) Tryd.results66 rfl rfl (fun w h => by rw [byt_last, hv] at h; rw [← hv, List.length_append]; rw [← hv] at h; exact h)
set_option maxRecDepth 100000 in
set_option maxHeartbeats 2000000 in
theorem putbytes_spec (A : HProp) (v0 : Value) (bs : List UInt8) (k : Int) (l : List UInt8) (b0 o0 c0 : Nat) (hr : ∀ w, Holds A w → w.rangeAt b0 o0 (byt l)) (hl : l.length ≤ 4294967) (hlc : l.length ≤ c0) (hb : bs.length ≤ 4294967000) : Does Tryd.prog 67 [v0, .int .i64 (k), .slice (some ⟨b0, o0, none⟩) l.length c0] [Own 5 1 v0 ((bs : List UInt8).length) (byt (bs)), A] (fun v L => L = [Own 5 1 v ((bs ++ pbytes k l : List UInt8).length) (byt (bs ++ pbytes k l)), A]) := by
  refine Does.enter 21 Tryd.func67 rfl rfl rfl fun W F => ?_
  show WPc _ _ _ _ _ [(0, v0), (1, .int .i64 (k)), (2, .slice (some ⟨b0, o0, none⟩) l.length c0)] (Own 5 1 v0 ((bs : List UInt8).length) (byt (bs)) :: A :: F)
  refine WPc.seq ?_
  refine WPc.region ?_
  refine WP.val rfl rfl rfl (Val.assign rfl rfl) ?_
  refine WP.nil ?_
  refine Out.next ?_
  refine WPc.seq ?_
  refine WPc.region ?_
  refine WP.val rfl rfl rfl (Val.move rfl rfl) ?_
  refine WP.val rfl rfl rfl (Val.move rfl rfl) ?_
  refine WP.val rfl rfl rfl (Val.conv (z := IntKind.wrap .u64 k) rfl Ty.ik94 Ty.un3 rfl rfl) ?_
  refine WP.val rfl rfl rfl (Val.shl rfl rfl rfl (by first | decide | omega)) ?_
  refine WP.val rfl rfl rfl (Val.or rfl rfl rfl) ?_
  have hl1 := vint_len (bor .u64 (bshl .u64 (IntKind.wrap .u64 k) (3 : Int)) (2 : Int))
  have hm1 : (bs ++ vint (bor .u64 (bshl .u64 (IntKind.wrap .u64 k) (3 : Int)) (2 : Int))).length = (bs).length + (vint (bor .u64 (bshl .u64 (IntKind.wrap .u64 k) (3 : Int)) (2 : Int))).length := List.length_append
  refine WP.eff rfl rfl rfl (Eff.call rfl rfl Tryd.call66 (varint_spec v0 (bs) (bor .u64 (bshl .u64 (IntKind.wrap .u64 k) (3 : Int)) (2 : Int)) (u64_range _) (by first | omega | (simp <;> omega)))) ?_
  rintro pv1 _ ⟨_, rfl, rfl⟩
  show WP _ _ _ _ _ _ _ (Own 5 1 pv1 ((bs ++ vint (bor .u64 (bshl .u64 (IntKind.wrap .u64 k) (3 : Int)) (2 : Int)) : List UInt8).length) (byt (bs ++ vint (bor .u64 (bshl .u64 (IntKind.wrap .u64 k) (3 : Int)) (2 : Int)))) :: A :: F)
  refine WP.val rfl rfl rfl (Val.assign rfl rfl) ?_
  refine WP.nil ?_
  refine Out.next ?_
  refine WPc.seq ?_
  refine WPc.region ?_
  refine WP.val rfl rfl rfl (Val.move rfl rfl) ?_
  refine WP.val rfl rfl rfl (Val.move rfl rfl) ?_
  refine WP.val rfl rfl rfl (Val.len rfl Ty.sl40 rfl) ?_
  refine WP.val rfl rfl rfl (Val.conv (z := IntKind.wrap .u64 ((l.length : Nat) : Int)) rfl Ty.ik94 Ty.un3 rfl rfl) ?_
  have hl2 := vint_len (IntKind.wrap .u64 ((l.length : Nat) : Int))
  have hm2 : (bs ++ vint (bor .u64 (bshl .u64 (IntKind.wrap .u64 k) (3 : Int)) (2 : Int)) ++ vint (IntKind.wrap .u64 ((l.length : Nat) : Int))).length = (bs ++ vint (bor .u64 (bshl .u64 (IntKind.wrap .u64 k) (3 : Int)) (2 : Int))).length + (vint (IntKind.wrap .u64 ((l.length : Nat) : Int))).length := List.length_append
  refine WP.eff rfl rfl rfl (Eff.call rfl rfl Tryd.call66 (varint_spec pv1 (bs ++ vint (bor .u64 (bshl .u64 (IntKind.wrap .u64 k) (3 : Int)) (2 : Int))) (IntKind.wrap .u64 ((l.length : Nat) : Int)) (u64_range _) (by first | omega | (simp <;> omega)))) ?_
  rintro pv2 _ ⟨_, rfl, rfl⟩
  show WP _ _ _ _ _ _ _ (Own 5 1 pv2 ((bs ++ vint (bor .u64 (bshl .u64 (IntKind.wrap .u64 k) (3 : Int)) (2 : Int)) ++ vint (IntKind.wrap .u64 ((l.length : Nat) : Int)) : List UInt8).length) (byt (bs ++ vint (bor .u64 (bshl .u64 (IntKind.wrap .u64 k) (3 : Int)) (2 : Int)) ++ vint (IntKind.wrap .u64 ((l.length : Nat) : Int)))) :: A :: F)
  refine WP.val rfl rfl rfl (Val.assign rfl rfl) ?_
  refine WP.nil ?_
  refine Out.next ?_
  refine WPc.seq ?_
  refine WPc.region ?_
  refine WP.val rfl rfl rfl (Val.move rfl rfl) ?_
  refine WP.val rfl rfl rfl (Val.move rfl rfl) ?_
  refine WP.eff rfl rfl rfl (Eff.append (m := l.length) (n0 := (bs ++ vint (bor .u64 (bshl .u64 (IntKind.wrap .u64 k) (3 : Int)) (2 : Int)) ++ vint (IntKind.wrap .u64 ((l.length : Nat) : Int)) : List UInt8).length) (news := byt l) rfl Ty.sl40 Ty.z5 rfl rfl rfl (Srcs.slice Ty.sl40 (by simp [byt]) (byt_one _) (fun w h => cells_range (hr w (h.at 1 rfl)))) (by omega) (by omega)) ?_
  rintro v3 _ ⟨onev3, rfl⟩
  refine WP.val rfl rfl rfl (Val.assign rfl rfl) ?_
  refine WP.nil ?_
  refine Out.next ?_
  refine WPc.ret ?_
  exact Out.ret1 (L' := _) Tryd.results67 rfl rfl (fun w h => by unfold pbytes; rw [← List.append_assoc, ← List.append_assoc, List.length_append, byt_append]; exact h)

def str (l : List UInt8) : ByteArray := ⟨l.toArray⟩

theorem own_byts {W w : World} {v : Value} {l : List UInt8} {L : List HProp} (h : Sat W (Own 5 1 v l.length (byt l) :: L) w) : Sat W (Byts v l :: L) w := by
  rcases h.own with ⟨rfl, h0, h1, h2⟩ | ⟨b, cap, sp, rfl, h1, h2, h3, h4, h5⟩
  · obtain rfl := List.eq_nil_of_length_eq_zero h0
    exact Sat.bytsNil h2
  · refine Sat.bytsMk h5.freeze h1 ?_
    have hb : (byt l).length = l.length := by simp [byt]
    rw [List.drop_zero, ← hb, List.take_left]
set_option maxRecDepth 100000 in
set_option maxHeartbeats 2000000 in
theorem svarint_spec (z0 : Int) (hz : 0 ≤ z0 ∧ z0 < 18446744073709551616) : Does Tryd.prog 35 [.int .u64 (z0)] [] (fun v L => v = .string (str (vint z0)) ∧ L = []) := by
  refine Does.enter 20 Tryd.func35 rfl rfl rfl fun W F => ?_
  show WPc _ _ _ _ _ [(0, .int .u64 (z0))] (F)
  refine WPc.seq ?_
  refine WPc.region ?_
  refine WP.val rfl rfl rfl (Val.assign rfl rfl) ?_
  refine WP.nil ?_
  refine Out.next ?_
  refine WPc.seq ?_
  refine WPc.conv (fun w h => h.ownNil (e := 5) (k := 1)) ?_
  show WPc _ _ _ _ _ _ (Own 5 1 (.slice none 0 0) 0 ([]) :: F)
  refine WPc.region ?_
  refine WP.val rfl rfl rfl (Val.assign rfl rfl) ?_
  refine WP.nil ?_
  refine Out.next ?_
  refine WPc.seq ?_
  refine WPc.block ?_
  refine WPc.loop (ι := Nat × Int × List UInt8 × Value) (fun ⟨m, z, bs', v⟩ => 0 ≤ z ∧ z < 128 ^ (m + 1) ∧ bs' ++ vintF m z = vint z0 ∧ bs'.length + m ≤ 10) (fun ⟨m, z, bs', v⟩ => [(0, .int .u64 (z)), (3, v)]) (fun ⟨m, z, bs', v⟩ => Own 5 1 v ((bs' : List UInt8).length) (byt (bs')) :: F) (fun ⟨m, z, bs', v⟩ => m) (10, z0, [], .slice none 0 0) ⟨hz.1, Int.lt_trans hz.2 (by decide), rfl, Nat.le_refl _⟩ ((Sub.cons rfl (Sub.cons rfl Sub.nil))) (fun _ h => h) ?_
  rintro ⟨m, z, bs', v⟩ ⟨hz1, hz2, he, hbl⟩
  show WPc _ _ _ _ _ [(0, .int .u64 (z)), (3, v)] (Own 5 1 v ((bs' : List UInt8).length) (byt (bs')) :: F)
  refine WPc.seq ?_
  refine WPc.seq ?_
  refine WPc.region ?_
  refine WP.val rfl rfl rfl (Val.move rfl rfl) ?_
  refine WP.val rfl rfl rfl (Val.geq rfl rfl rfl) ?_
  refine WP.nil ?_
  refine Out.next ?_
  refine WPc.ifP rfl (fun h1 => ?_) (fun h1 => ?_)
  · skip
    have h1 : ((128 : Int) ≤ z) := h1
    refine WPc.skip ?_
    refine Out.next ?_
    refine WPc.block ?_
    refine WPc.seq ?_
    refine WPc.region ?_
    refine WP.val rfl rfl rfl (Val.move rfl rfl) ?_
    refine WP.val rfl rfl rfl (Val.move rfl rfl) ?_
    refine WP.val rfl rfl rfl (Val.conv (z := IntKind.wrap .u8 z) rfl Ty.ik5 Ty.un94 rfl rfl) ?_
    refine WP.val rfl rfl rfl (Val.or rfl rfl rfl) ?_
    refine WP.eff rfl rfl rfl (Eff.mkSlice (C := [.int .u8 (bor .u8 (IntKind.wrap .u8 z) (128 : Int))]) rfl Ty.sl40 rfl (fun _ => by kernel_rfl)) ?_
    rintro _ _ ⟨b1, rfl, rfl⟩
    refine WP.perm pl1 ?_
    refine WP.eff rfl rfl rfl (Eff.append (m := 1) (n0 := (bs' : List UInt8).length) (news := [.int .u8 (bor .u8 (IntKind.wrap .u8 z) (128 : Int))]) rfl Ty.sl40 Ty.z5 rfl rfl rfl (.slice Ty.sl40 rfl rfl (fun w h => cells_range (h.range 1 rfl rfl))) (by omega) (by omega)) ?_
    rintro v2 _ ⟨onev2, rfl⟩
    refine WP.val rfl rfl rfl (Val.assign rfl rfl) ?_
    refine WP.nil ?_
    refine Out.next ?_
    refine WPc.region ?_
    refine WP.val rfl rfl rfl (Val.move rfl rfl) ?_
    refine WP.val rfl rfl rfl (Val.shr rfl rfl rfl (by first | decide | omega)) ?_
    refine WP.val rfl rfl rfl (Val.assign rfl rfl) ?_
    refine WP.nil ?_
    refine Out.block ?_
    obtain ⟨m', rfl⟩ : ∃ k, m = k + 1 := by
      cases m with
      | zero => exfalso; simp at hz2; omega
      | succ k => exact ⟨k, rfl⟩
    have hsh := shr_lt hz1 hz2
    refine Out.perm pl1 ?_
    refine Out.drop ?_
    refine Out.again (m', bshr .u64 z 7, bs' ++ [vcont z], v2) ?_ ?_ ?_ ?_
    · exact ⟨hsh.1, hsh.2, by rw [← vint_more (by omega)]; exact he, by simp; omega⟩
    · (dsimp only; omega)
    · exact (Sub.cons rfl (Sub.cons rfl Sub.nil))
    · exact (fun w h => by dsimp only; rw [← byt_cont, List.length_append]; exact h)
  · skip
    have h1 : ¬ ((128 : Int) ≤ z) := h1
    refine WPc.exit ?_
    refine Out.then_exit ?_
    refine Out.then_exit ?_
    refine Out.block_exit ?_
    refine Out.next ?_
    refine WPc.seq ?_
    refine WPc.region ?_
    refine WP.val rfl rfl rfl (Val.move rfl rfl) ?_
    refine WP.val rfl rfl rfl (Val.move rfl rfl) ?_
    refine WP.val rfl rfl rfl (Val.conv (z := IntKind.wrap .u8 z) rfl Ty.ik5 Ty.un94 rfl rfl) ?_
    refine WP.eff rfl rfl rfl (Eff.mkSlice (C := [.int .u8 (IntKind.wrap .u8 z)]) rfl Ty.sl40 rfl (fun _ => by kernel_rfl)) ?_
    rintro _ _ ⟨b3, rfl, rfl⟩
    refine WP.perm pl1 ?_
    refine WP.eff rfl rfl rfl (Eff.append (m := 1) (n0 := (bs' : List UInt8).length) (news := [.int .u8 (IntKind.wrap .u8 z)]) rfl Ty.sl40 Ty.z5 rfl rfl rfl (.slice Ty.sl40 rfl rfl (fun w h => cells_range (h.range 1 rfl rfl))) (by omega) (by omega)) ?_
    rintro v4 _ ⟨onev4, rfl⟩
    have hv := (vint_last (m := m) (z := z) (bs := bs') (by omega)).symm.trans he
    refine WP.conv (fun w h => own_byts (l := vint z0) (by rw [byt_last, hv] at h; rw [← hv, List.length_append]; rw [← hv] at h; exact h)) ?_
    show WP _ _ _ _ _ _ _ (Byts v4 ((vint z0)) :: Blk b3 [.int .u8 (IntKind.wrap .u8 z)] 5 :: F)
    refine WP.val rfl rfl rfl (show Val _ _ _ _ _ (.string (str (vint z0))) from Val.str rfl Ty.by40 Ty.st9 rfl (fun w h => h.at 0 rfl)) ?_
    refine WP.val rfl rfl rfl (Val.assign rfl rfl) ?_
    refine WP.nil ?_
    refine Out.next ?_
    refine WPc.ret ?_
    refine Out.drop ?_
    refine Out.drop ?_
    exact Out.ret1 (L' := []) Tryd.results35 rfl ⟨rfl, rfl⟩ (fun _ h => h)

end Go.Proofs.YthicijpjpijdjaaDoor.Wb
