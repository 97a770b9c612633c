import Derived.Test.YtibopfemknnocaaKept
import Derived.Test.YtibopfemknnocaaVr
namespace Go.Proofs.Ytibopfemknnocaa.Put
open Go.RowKit Go.Lib Go.Proofs.Ytibopfemknnocaa.Open Go.Proofs.Ytibopfemknnocaa.Kept

/-- the k-th of eight bytes of a number, the greatest one first -/
def byteAt (n : Int) (k : Nat) : Int := n / 2 ^ (8 * (7 - k)) % 256
/-- the first k of them stored from o on -/
def put8 (n : Int) (o : Nat) (C : Array Value) : Nat → Array Value
  | 0 => C
  | k + 1 => (put8 n o C k).setIfInBounds (o + k) (.int .u8 (byteAt n k))

theorem put8_size (n : Int) (o : Nat) (C : Array Value) : ∀ k, (put8 n o C k).size = C.size
  | 0 => rfl
  | k + 1 => by simp [put8, put8_size n o C k]
theorem put8_out (n : Int) (o : Nat) (C : Array Value) (j : Nat) : ∀ k, (j < o ∨ o + k ≤ j) → (put8 n o C k)[j]? = C[j]?
  | 0, _ => rfl
  | k + 1, h => by
    rw [put8, Array.getElem?_setIfInBounds_ne (by omega)]
    exact put8_out n o C j k (by omega)
theorem put8_in (n : Int) (o : Nat) (C : Array Value) (j : Nat) : ∀ k, o + k ≤ C.size → j < k → (put8 n o C k)[o + j]? = some (.int .u8 (byteAt n j))
  | 0, _, h => by omega
  | k + 1, h, hj => by
    rw [put8]
    by_cases e : j = k
    · subst e
      rw [Array.getElem?_setIfInBounds_self_of_lt (by rw [put8_size]; omega)]
    · rw [Array.getElem?_setIfInBounds_ne (by omega)]
      exact put8_in n o C j k (by omega) (by omega)

def PutPost (b : Nat) (D : Array Value) (w : World) (e : Ending) (w' : World) : Prop := e = .returned (.tuple #[]) ∧ Kept (· = b) w w' ∧ w'.heap[b]? = some (.cells D 5 (0, 0))

set_option maxRecDepth 100000 in
theorem put_uint64 (w : World) (b o len cap : Nat) (n : Int) (C : Array Value) (hb : w.heap[b]? = some (.cells C 5 (0, 0))) (ho : o + 8 ≤ C.size) (hl : 8 ≤ len) (h0 : 0 ≤ n) :
    Calls Try.prog 64 #[.slice (some ⟨b, o, none⟩) len cap, .int .u64 n] w (PutPost b (put8 n o C 8) w) := by
  have HB := Lib.hid hb
  have HO := Lib.hid ho
  clear hb ho
  go_enter Try.func64, Try.ntmps64
  go_wp2_with fail
  go_loopw [4] (fun i wr => ∃ k : Nat, k ≤ 8 ∧ i = .int .i64 k ∧ Kept (· = b) w wr ∧ wr.heap[b]? = some (.cells (put8 n o C k) 5 (0, 0))) (fun i _ => 8 - (intOf i).toNat)
  case atStart => exact ⟨0, by omega, rfl, Kept.refl _ _, HB.out⟩
  case round =>
    obtain ⟨k, hk, rfl, hkept, hbk⟩ := hrel
    have HK := Lib.hid hkept
    have HBK := Lib.hid hbk
    have hf := free_of hbk (o + k)
    have hc := cell_of hbk (o + k)
    clear hkept hbk
    by_cases hlt : k < 8
    · have hsz : (put8 n o C k)[o + k]? = some ((put8 n o C k)[o + k]'(by rw [put8_size]; have := HO.out; omega)) := Array.getElem?_eq_getElem _
      generalize (put8 n o C k)[o + k]'(by rw [put8_size]; have := HO.out; omega) = old at hsz
      rw [hsz] at hc
      clear hsz
      go_wp2_with fail
      exact ⟨⟨k + 1, by omega, by go_num, HK.out.set (fun _ => rfl) _, set_block HBK.out (o + k) _⟩, by simp [intOf]; omega⟩
    · have hk8 : k = 8 := by omega
      go_wp2_with fail
      go_end0
      exact ⟨rfl, HK.out, by subst hk8; exact HBK.out⟩
end Go.Proofs.Ytibopfemknnocaa.Put
