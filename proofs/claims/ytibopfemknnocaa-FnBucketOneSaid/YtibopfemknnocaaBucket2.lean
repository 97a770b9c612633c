import Derived.Test.YtibopfemknnocaaBucket
import Derived.Test.YtibopfemknnocaaEnc
namespace Go.Proofs.Ytibopfemknnocaa.Bucket
open Go.RowKit Go.Lib Go.Proofs.Ytibopfemknnocaa.Open Go.Proofs.Ytibopfemknnocaa.Kept Go.Proofs.Ytibopfemknnocaa.Rev Go.Proofs.Ytibopfemknnocaa.Key Go.Proofs.Ytibopfemknnocaa.Fine Go.Proofs.Ytibopfemknnocaa.Back Go.Proofs.Ytibopfemknnocaa.Live

def encT (m s : Int) (t : Bool) : List UInt8 := enc m s ++ if t then [116] else []
def BucketRow (m s : Int) (t : Bool) (w : World) (e : Ending) (w' : World) : Prop :=
  ∃ b, e = .returned (.slice (some ⟨b, 0, none⟩) (encT m s t).length 18) ∧ b < w'.heap.size ∧ Vr.RowAt w' (some ⟨b, 0, none⟩) (encT m s t) ∧ Below w.heap.size w w'

theorem tomb_row {m s : Int} {b : Nat} {w' : World} (h : w'.heap[b]? = some (.cells ((filled m s zeros18).setIfInBounds 17 (.int .u8 116)) 5 (0, 0))) : Vr.RowAt w' (some ⟨b, 0, none⟩) (encT m s true) := by
  refine .inr ⟨b, 0, rfl, fun i hi => ?_⟩
  have hl : (encT m s true).length = 18 := by simp [encT, enc_length]
  rw [hl] at hi
  rw [Nat.zero_add, cell_of h]
  by_cases h17 : i = 17
  · subst h17
    rw [Array.getElem?_setIfInBounds_self_of_lt (by unfold filled; simp [Put.put8_size, zeros18])]
    have : (encT m s true).getD 17 0 = 116 := by
      simp only [encT, if_true]
      rw [List.getD_eq_getElem?_getD, List.getElem?_append_right (by rw [enc_length]; omega), enc_length]
      rfl
    rw [this]; rfl
  · rw [Array.getElem?_setIfInBounds_ne (by omega), filled_get m s i (by omega)]
    have : (encT m s true).getD i 0 = (enc m s).getD i 0 := by
      simp only [encT, if_true]
      rw [List.getD_eq_getElem?_getD, List.getElem?_append_left (by rw [enc_length]; omega), List.getD_eq_getElem?_getD]
    rw [this]

set_option maxRecDepth 100000 in
theorem bucket_bytes (w : World) (m s : Int) (t : Bool) : Calls Try.prog 27 #[.agg #[.int .i64 m, .int .i64 s], .bool t, .bool false] w (BucketRow m s t w) := by
  go_enter Try.func27, Try.ntmps27
  go_wp2_with fail
  refine (new_rev _).mono ?_
  rintro e w1 ⟨rfl, rfl⟩
  go_wp2_with fail
  refine (rev_in _ _ _).mono ?_
  rintro e w1 ⟨rfl, hb1⟩
  have HB1 : Box _ := ⟨hb1⟩
  clear hb1
  go_wp2_with fail
  refine (zz_key _ _ _ _).mono ?_
  rintro e w2 ⟨rfl, hb2⟩
  have HB2 : Box _ := ⟨hb2⟩
  clear hb2
  have hr := alloc_new (w.alloc (.cells #[.int .i64 m, .int .i64 s] 44)) (.cells zeros18 5)
  rw [show (w.alloc (.cells #[.int .i64 m, .int .i64 s] 44)).heap.size = w.heap.size + 1 by simp] at hr
  have hb12 := HB1.out.more HB2.out
  have hr2 := (hb12.block _ (lt_of_block hr)).trans hr
  have HR : Box _ := ⟨hr2⟩
  have hb0 : Below w.heap.size w w2 := ((Below.new _ _).more (Below.new _ _)).more hb12
  have HB0 : Box _ := ⟨hb0⟩
  clear hr hb12 hr2 hb0
  cases t with
  | false =>
    go_wp2_with fail
    refine (key_bytes_plain _ m s _ zeros18 HR.out rfl).mono ?_
    rintro e w3 ⟨rfl, hk, h3⟩
    have HK : Box _ := ⟨hk⟩
    have H3 : Box _ := ⟨h3⟩
    clear hk h3
    go_wp2_with fail
    go_ret
    refine ⟨w.heap.size + 1, by simp [encT, enc_length], lt_of_block H3.out, by simpa [encT] using rev_row H3.out, ?_⟩
    exact ((Kept.of_below (M := (· = w.heap.size + 1)) HB0.out).trans HK.out).below (Nat.le_refl _) (fun k hk => by omega)
  | true =>
    go_wp2_with fail
    refine (key_bytes_tomb _ m s _ zeros18 HR.out rfl).mono ?_
    rintro e w3 ⟨rfl, hk, h3⟩
    have HK : Box _ := ⟨hk⟩
    have H3 : Box _ := ⟨h3⟩
    clear hk h3
    go_wp2_with fail
    go_ret
    refine ⟨w.heap.size + 1, by simp [encT, enc_length], lt_of_block H3.out, tomb_row H3.out, ?_⟩
    exact ((Kept.of_below (M := (· = w.heap.size + 1)) HB0.out).trans HK.out).below (Nat.le_refl _) (fun k hk => by omega)

/-- what is written is read back -/
theorem nval_congr {x y : Nat → Int} : ∀ k, (∀ i, i < k → x i = y i) → Nval x k = Nval y k
  | 0, _ => rfl
  | k + 1, h => by rw [Nval, Nval, nval_congr k (fun i hi => h i (by omega)), h k (by omega)]
theorem nval_bytes (n : Int) (h0 : 0 ≤ n) (h1 : n < 18446744073709551616) : Nval (Put.byteAt n) 8 = n := by
  simp only [Nval, Put.byteAt]
  simp
  omega
theorem at_be8 (m : Int) (x y : List UInt8) (i : Nat) (hi : i < 8) : at_ (x ++ (be8 m ++ y)) x.length i = Put.byteAt m i := by
  unfold at_
  rw [List.getD_eq_getElem?_getD, List.getElem?_append_right (by omega), show x.length + i - x.length = i by omega, List.getElem?_append_left (by simp [be8]; exact hi), ← List.getD_eq_getElem?_getD, be8_get m i hi, byte_back]
theorem wrap_u (m : Int) (h0 : 0 ≤ m) (h1 : m < 9223372036854775808) : IntKind.u64.wrap m = m := by
  unfold IntKind.wrap; simp [IntKind.bits, IntKind.signed]; omega
theorem wrap_s (m : Int) (h0 : 0 ≤ m) (h1 : m < 9223372036854775808) : wrap64 m = m := by unfold wrap64; omega

theorem parse_enc (m s : Int) (t : Bool) (h0 : 0 ≤ m) (h1 : m < 9223372036854775808) (h2 : 0 ≤ s) (h3 : s < 9223372036854775808) : parse (encT m s t) = some (m, s, t) := by
  have hm : mainOf (encT m s t) = m := by
    unfold mainOf
    have : Nval (at_ (encT m s t) 0) 8 = Nval (Put.byteAt m) 8 := nval_congr 8 fun i hi => by
      have := at_be8 m [] (95 :: be8 (IntKind.u64.wrap s) ++ if t then [116] else []) i hi
      unfold encT enc
      rw [wrap_u m h0 h1]
      simpa using this
    rw [this, nval_bytes m h0 (by omega), wrap_s m h0 h1]
  have hs : subOf (encT m s t) = s := by
    unfold subOf
    have : Nval (at_ (encT m s t) 9) 8 = Nval (Put.byteAt s) 8 := nval_congr 8 fun i hi => by
      have := at_be8 s (be8 (IntKind.u64.wrap m) ++ [95]) (if t then [116] else []) i hi
      have hl : (be8 (IntKind.u64.wrap m) ++ [95]).length = 9 := by simp [be8]
      rw [hl] at this
      unfold encT enc
      rw [wrap_u s h2 h3]
      simpa using this
    rw [this, nval_bytes s h2 (by omega), wrap_s s h2 h3]
  have h8 : at_ (encT m s t) 8 0 = 95 := by
    unfold at_ encT enc
    have hl : (be8 (IntKind.u64.wrap m)).length = 8 := by simp [be8]
    rw [List.getD_eq_getElem?_getD, List.append_assoc, List.getElem?_append_right (by omega), hl]
    rfl
  have ht : ((encT m s t).length == 18 && (encT m s t).getD 17 0 == 116) = t := by
    cases t with
    | false => simp [encT, enc_length]
    | true =>
      have : (encT m s true).getD 17 0 = 116 := by
        simp only [encT, if_true]
        rw [List.getD_eq_getElem?_getD, List.getElem?_append_right (by rw [enc_length]; omega), enc_length]
        rfl
      rw [this]; simp [encT, enc_length]
  unfold parse
  rw [if_pos (by cases t <;> simp [encT, enc_length]), h8, hm, hs, ht, if_neg (by decide), if_neg (by omega)]
theorem parse_pos {l : List UInt8} {m s : Int} {t : Bool} (h : parse l = some (m, s, t)) : 0 ≤ m ∧ 0 ≤ s ∧ m < 9223372036854775808 ∧ s < 9223372036854775808 := by
  unfold parse at h
  split at h
  · split at h
    · cases h
    · split at h
      · cases h
      · rename_i hn
        simp only [Option.some.injEq, Prod.mk.injEq] at h
        obtain ⟨rfl, rfl, _⟩ := h
        unfold mainOf subOf wrap64 at *
        omega
  · cases h
end Go.Proofs.Ytibopfemknnocaa.Bucket
