import Derived.Test.YtibopfemknnocaaLive
namespace Go.Proofs.Ytibopfemknnocaa.Enc
open Go.Proofs.Ytibopfemknnocaa.Live

/-- k digits of base 256, the greatest first -/
def dig : Nat → Nat → List UInt8
  | 0, _ => []
  | k + 1, n => UInt8.ofNat (n / 256 ^ k % 256) :: dig k n

theorem be8_dig (n : Nat) : be8 (n : Int) = dig 8 n := by
  simp only [be8, List.range, List.range.loop, List.map, dig, Put.byteAt]
  simp only [List.cons.injEq, and_true]
  have h : ∀ (j : Nat) (p : Nat), (2 : Int) ^ (8 * (7 - j)) = (p : Int) → UInt8.ofNat ((n : Int) / 2 ^ (8 * (7 - j)) % 256).toNat = UInt8.ofNat (n / p % 256) := by
    intro j p hp
    rw [hp]
    have : ((n : Int) / (p : Int) % 256) = ((n / p % 256 : Nat) : Int) := rfl
    rw [this, Int.toNat_natCast]
  exact ⟨h 0 _ (by decide), h 1 _ (by decide), h 2 _ (by decide), h 3 _ (by decide), h 4 _ (by decide), h 5 _ (by decide), h 6 _ (by decide), h 7 _ (by decide)⟩

theorem mod_succ (a k : Nat) : a % 256 ^ (k + 1) = a / 256 ^ k % 256 * 256 ^ k + a % 256 ^ k := by
  have h := Nat.mod_pow_succ (b := 256) (k := k) (x := a)
  rw [h]; rw [Nat.mul_comm]; omega

theorem lt_split (p q r s B : Nat) (hr : r < B) (hs : s < B) : (p * B + r < q * B + s ↔ p < q ∨ (p = q ∧ r < s)) := by
  constructor
  · intro h
    rcases Nat.lt_trichotomy p q with h1 | h1 | h1
    · exact .inl h1
    · subst h1; exact .inr ⟨rfl, by omega⟩
    · have : (q + 1) * B ≤ p * B := Nat.mul_le_mul_right B h1
      rw [Nat.add_mul] at this; omega
  · rintro (h | ⟨rfl, h⟩)
    · have : (p + 1) * B ≤ q * B := Nat.mul_le_mul_right B h
      rw [Nat.add_mul] at this; omega
    · omega
theorem eq_split (p q r s B : Nat) (hr : r < B) (hs : s < B) : (p * B + r = q * B + s ↔ p = q ∧ r = s) := by
  constructor
  · intro h
    have h1 := not_congr (lt_split p q r s B hr hs)
    have h2 := not_congr (lt_split q p s r B hs hr)
    have a1 := h1.1 (by omega)
    have a2 := h2.1 (by omega)
    have : p = q := by
      rcases Nat.lt_trichotomy p q with h | h | h
      · exact absurd (.inl h) a1
      · exact h
      · exact absurd (.inl h) a2
    subst this
    exact ⟨rfl, by omega⟩
  · rintro ⟨rfl, rfl⟩; rfl

theorem less_dig (x y : List UInt8) : ∀ (k a b : Nat), Op.bytesLess (dig k a ++ x) (dig k b ++ y) = (decide (a % 256 ^ k < b % 256 ^ k) || (decide (a % 256 ^ k = b % 256 ^ k) && Op.bytesLess x y))
  | 0, a, b => by simp [dig, Nat.mod_one]
  | k + 1, a, b => by
    have ih := less_dig x y k a b
    simp only [dig, List.cons_append, Op.bytesLess]
    rw [ih, mod_succ, mod_succ b]
    have hr : a % 256 ^ k < 256 ^ k := Nat.mod_lt _ (Nat.pow_pos (by omega))
    have hs : b % 256 ^ k < 256 ^ k := Nat.mod_lt _ (Nat.pow_pos (by omega))
    have hp : a / 256 ^ k % 256 < 256 := Nat.mod_lt _ (by omega)
    have hq : b / 256 ^ k % 256 < 256 := Nat.mod_lt _ (by omega)
    generalize a / 256 ^ k % 256 = p at *
    generalize b / 256 ^ k % 256 = q at *
    generalize a % 256 ^ k = r at *
    generalize b % 256 ^ k = s at *
    generalize 256 ^ k = B at *
    have e1 : (UInt8.ofNat p < UInt8.ofNat q) ↔ p < q := by
      rw [UInt8.lt_iff_toNat_lt]; simp; omega
    have e2 : (UInt8.ofNat p = UInt8.ofNat q) ↔ p = q := by
      constructor
      · intro h; have := congrArg UInt8.toNat h; simp at this; omega
      · rintro rfl; rfl
    rw [Bool.eq_iff_iff]
    simp only [Bool.or_eq_true, Bool.and_eq_true, decide_eq_true_eq, beq_iff_eq, e1, e2, lt_split p q r s B hr hs, eq_split p q r s B hr hs]
    constructor
    · rintro (h | ⟨h1, h | ⟨h2, h3⟩⟩)
      · exact .inl (.inl h)
      · exact .inl (.inr ⟨h1, h⟩)
      · exact .inr ⟨⟨h1, h2⟩, h3⟩
    · rintro ((h | ⟨h1, h2⟩) | ⟨⟨h1, h2⟩, h3⟩)
      · exact .inl h
      · exact .inr ⟨h1, .inl h2⟩
      · exact .inr ⟨h1, .inr ⟨h2, h3⟩⟩

theorem enc_less (m s m' s' : Int) (h1 : 0 ≤ m) (h2 : 0 ≤ s) (h3 : 0 ≤ m') (h4 : 0 ≤ s') (b1 : m < 9223372036854775808) (b2 : s < 9223372036854775808) (b3 : m' < 9223372036854775808) (b4 : s' < 9223372036854775808) :
    Op.bytesLess (enc m s) (enc m' s') = Rev.lss m s m' s' := by
  obtain ⟨a, rfl⟩ := Int.eq_ofNat_of_zero_le h1
  obtain ⟨b, rfl⟩ := Int.eq_ofNat_of_zero_le h2
  obtain ⟨c, rfl⟩ := Int.eq_ofNat_of_zero_le h3
  obtain ⟨d, rfl⟩ := Int.eq_ofNat_of_zero_le h4
  have w : ∀ n : Nat, (n : Int) < 9223372036854775808 → IntKind.u64.wrap (n : Int) = n := by
    intro n hn; unfold IntKind.wrap; simp [IntKind.bits, IntKind.signed]; omega
  have md : ∀ n : Nat, (n : Int) < 9223372036854775808 → n % 256 ^ 8 = n := fun n hn => Nat.mod_eq_of_lt (by have : (256 : Nat) ^ 8 = 18446744073709551616 := by decide
                                                                                                             omega)
  unfold enc Rev.lss
  rw [w a b1, w b b2, w c b3, w d b4, be8_dig, be8_dig, be8_dig, be8_dig, less_dig]
  have e : ∀ (x y : List UInt8), Op.bytesLess (95 :: x) (95 :: y) = Op.bytesLess x y := fun x y => by simp [Op.bytesLess]
  have t := less_dig [] [] 8 b d
  rw [List.append_nil, List.append_nil] at t
  rw [e, t, md a b1, md b b2, md c b3, md d b4]
  rw [Bool.eq_iff_iff]
  simp [Op.bytesLess]
  omega
end Go.Proofs.Ytibopfemknnocaa.Enc
