import Derived.Test.YtibopfemknnocaaBack2
namespace Go.Proofs.Ytibopfemknnocaa.Live
open Go.RowKit Go.Lib Go.Proofs.Ytibopfemknnocaa.Open Go.Proofs.Ytibopfemknnocaa.Kept Go.Proofs.Ytibopfemknnocaa.Rev Go.Proofs.Ytibopfemknnocaa.Key Go.Proofs.Ytibopfemknnocaa.Fine Go.Proofs.Ytibopfemknnocaa.Back

set_option maxRecDepth 100000 in
theorem rev_to (w : World) (m s : Int) (b : Nat) (C : Array Value) (hb : w.heap[b]? = some (.cells C 5 (0, 0))) (hC : C.size = 18) :
    Calls Try.prog 44 #[.agg #[.int .i64 m, .int .i64 s], .slice (some ⟨b, 0, none⟩) 17 18] w (KeyPost b m s C w) := by
  have HB : Box _ := ⟨hb⟩
  have HC : Box _ := ⟨hC⟩
  clear hb hC
  go_enter Try.func44, Try.ntmps44
  go_wp2_with fail
  refine (new_key _ _ _ _).mono ?_
  rintro e w1 ⟨rfl, hb1⟩
  have hw1 := (hb1.block b (lt_of_block (alloc_at HB.out _))).trans (alloc_at HB.out _)
  have HW1 : Box _ := ⟨hw1⟩
  have HB1 : Box _ := ⟨hb1⟩
  clear hb1 hw1
  go_wp2_with fail
  refine (key_bytes_plain _ m s b C HW1.out HC.out).mono ?_
  rintro e w2 ⟨rfl, hk, h2⟩
  have HK : Box _ := ⟨hk⟩
  have H2 : Box _ := ⟨h2⟩
  clear hk h2
  go_wp2_with fail
  go_ret
  exact ⟨rfl, (Kept.of_below ((Below.new _ _).more HB1.out)).trans HK.out, H2.out⟩

def RevRow (m s : Int) (w : World) (e : Ending) (w' : World) : Prop :=
  ∃ b, e = .returned (.slice (some ⟨b, 0, none⟩) 17 18) ∧ w.heap.size ≤ b ∧ w'.heap[b]? = some (.cells (filled m s zeros18) 5 (0, 0)) ∧ Below w.heap.size w w'

set_option maxRecDepth 100000 in
theorem rev_bytes (w : World) (m s : Int) : Calls Try.prog 25 #[.agg #[.int .i64 m, .int .i64 s]] w (RevRow m s w) := by
  go_enter Try.func25, Try.ntmps25
  go_wp2_with fail
  refine (rev_in _ _ _).mono ?_
  rintro e w1 ⟨rfl, hb1⟩
  have HB1 : Box _ := ⟨hb1⟩
  clear hb1
  go_wp2_with fail
  refine (new_rev _).mono ?_
  rintro e w2 ⟨rfl, rfl⟩
  go_wp2_with fail
  refine (rev_to _ m s w1.heap.size zeros18 (alloc_new _ _) rfl).mono ?_
  rintro e w2 ⟨rfl, hk, h2⟩
  have HK : Box _ := ⟨hk⟩
  have H2 : Box _ := ⟨h2⟩
  clear hk h2
  go_wp2_with fail
  go_ret
  have hb : Below w.heap.size w w1 := (Below.new _ _).more HB1.out
  refine ⟨_, rfl, hb.size, H2.out, ?_⟩
  exact ((Kept.of_below (M := (· = w1.heap.size)) (hb.more (Below.new _ _))).trans HK.out).below (Nat.le_refl _) (fun k hk => by subst hk; exact hb.size)

/-- the seventeen bytes of a revision -/
def be8 (n : Int) : List UInt8 := (List.range 8).map fun k => UInt8.ofNat (Put.byteAt n k).toNat
def enc (m s : Int) : List UInt8 := be8 (IntKind.u64.wrap m) ++ 95 :: be8 (IntKind.u64.wrap s)
theorem enc_length (m s : Int) : (enc m s).length = 17 := by simp [enc, be8]
theorem byteAt_bd (n : Int) (k : Nat) : 0 ≤ Put.byteAt n k ∧ Put.byteAt n k < 256 := by unfold Put.byteAt; omega
theorem be8_get (n : Int) (k : Nat) (h : k < 8) : (be8 n).getD k 0 = UInt8.ofNat (Put.byteAt n k).toNat := by simp [be8, List.getD, h]
theorem byte_back (n : Int) (k : Nat) : ((UInt8.ofNat (Put.byteAt n k).toNat).toNat : Int) = Put.byteAt n k := by
  have := byteAt_bd n k
  simp
  omega
theorem filled_get (m s : Int) (i : Nat) (h : i < 17) : (filled m s zeros18)[i]? = some (.int .u8 ((enc m s).getD i 0).toNat) := by
  unfold filled enc
  by_cases h1 : i < 8
  · rw [Put.put8_out _ _ _ _ _ (by omega), Array.getElem?_setIfInBounds_ne (by omega)]
    have := Put.put8_in (IntKind.u64.wrap m) 0 zeros18 i 8 (by decide) h1
    rw [Nat.zero_add] at this
    rw [this, List.getD_eq_getElem?_getD, List.getElem?_append_left (by simp [be8]; omega), ← List.getD_eq_getElem?_getD, be8_get _ _ h1, byte_back]
  · by_cases h2 : i = 8
    · subst h2
      rw [Put.put8_out _ _ _ _ _ (by omega), Array.getElem?_setIfInBounds_self_of_lt (by rw [Put.put8_size]; decide)]
      simp [be8, List.getD]
    · obtain ⟨j, rfl⟩ : ∃ j, i = 9 + j := ⟨i - 9, by omega⟩
      rw [Put.put8_in _ _ _ _ _ (by simp [Put.put8_size, zeros18]) (by omega)]
      have e : (be8 (IntKind.u64.wrap m) ++ 95 :: be8 (IntKind.u64.wrap s)).getD (9 + j) 0 = (be8 (IntKind.u64.wrap s)).getD j 0 := by
        have hl : (be8 (IntKind.u64.wrap m)).length = 8 := by simp [be8]
        rw [List.getD_eq_getElem?_getD, List.getElem?_append_right (by omega), hl, show 9 + j - 8 = j + 1 by omega, List.getElem?_cons_succ, List.getD_eq_getElem?_getD]
      rw [e, be8_get _ _ (by omega), byte_back]
theorem rev_row {m s : Int} {b : Nat} {w' : World} (h : w'.heap[b]? = some (.cells (filled m s zeros18) 5 (0, 0))) : Vr.RowAt w' (some ⟨b, 0, none⟩) (enc m s) :=
  .inr ⟨b, 0, rfl, fun i hi => by rw [Nat.zero_add, cell_of h]; exact filled_get m s i (by rw [enc_length] at hi; exact hi)⟩

theorem live_back : revOr (enc 1 2) = (1, 2, true) := by decide +kernel

set_option maxRecDepth 100000 in
theorem rv_live (w : World) : Calls Try.prog 24 #[] w (Gives (.bool true) w) := by
  go_enter Try.func24, Try.ntmps24
  go_wp2_with fail
  refine (rev_bytes _ 1 2).mono ?_
  rintro e w1 ⟨b, rfl, hb, hr, hbel⟩
  have HR : Box _ := ⟨rev_row hr⟩
  have HL : Box _ := ⟨lt_of_block hr⟩
  have HB : Box _ := ⟨hbel⟩
  clear hr hbel
  go_wp2_with fail
  refine (bytes_rev w1 _ 17 18 (enc 1 2) (enc_length 1 2) HR.out (fun x hx => by cases hx; exact HL.out) (by omega) 1 2 true live_back).mono ?_
  rintro e w2 ⟨rfl, hb2⟩
  have HB2 : Box _ := ⟨hb2⟩
  clear hb2
  go_wp2_with fail
  go_ret
  exact gives_bool (by rfl) ((HB.out.more HB2.out).more (Below.new _ _))
end Go.Proofs.Ytibopfemknnocaa.Live
