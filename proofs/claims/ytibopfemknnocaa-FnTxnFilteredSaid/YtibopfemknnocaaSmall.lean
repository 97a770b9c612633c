import Derived.Test.YtibopfemknnocaaOpen
import Derived.Test.YtibopfemknnocaaVr
namespace Go.Proofs.Ytibopfemknnocaa.Range
open Go.RowKit Go.Lib Go.Proofs.Ytibopfemknnocaa.Open

theorem kconv (w : World) (s : ByteArray) : (convert 9 47 (.string s)).run Try.prog w = .ok (.slice (some ⟨w.heap.size, 0, none⟩) s.size (grownCap w s.size 0 5)) (bytesWorld w 5 s) :=
  Lib.run_convert_string_bytes (P := Try.prog) w 9 47 5 s Try.underlying9 Try.underlying47 Try.underlying5

/-- what bytesOf hands back -/
def SomeRow (l : List UInt8) (w : World) (e : Ending) (w' : World) : Prop := ∃ a c, e = .returned (.slice a l.length c) ∧ Vr.RowAt w' a l ∧ Below w.heap.size w w' ∧ ∀ x, a = some x → x.block < w'.heap.size

set_option maxRecDepth 100000 in
theorem bytes_of (w : World) (s : ByteArray) : Calls Try.prog 53 #[.string s] w (SomeRow s.data.toList w) := by
  have kc := kconv
  by_cases h : s.toList = []
  · have h0 : s.data.toList = [] := by rw [← ByteArray.toList_eq]; exact h
    have hp : ∀ e w', (e = .returned (.slice none 0 0) ∧ w = w') → SomeRow s.data.toList w e w' := by
      rintro e w' ⟨rfl, rfl⟩
      exact ⟨none, 0, by rw [h0]; rfl, .inl h0, Below.refl _ _, fun x hx => by simp at hx⟩
    refine Calls.mono ?_ hp
    clear hp h0
    go_enter Try.func53, Try.ntmps53
    go_wp2
    go_ret
    exact ⟨rfl, rfl⟩
  · have hp : ∀ e w', (e = .returned (.slice (some ⟨w.heap.size, 0, none⟩) s.size (grownCap w s.size 0 5)) ∧ bytesWorld w 5 s = w') → SomeRow s.data.toList w e w' := by
      rintro e w' ⟨rfl, rfl⟩
      exact ⟨_, grownCap w s.size 0 5, by simp, Vr.bytesWorld_row w 5 s, Vr.bytesWorld_below w 5 s, fun x hx => by cases hx; rw [bytesWorld_size]; simp⟩
    refine Calls.mono ?_ hp
    clear hp
    have h1 : s.toList.isEmpty = false := by simpa using h
    go_enter Try.func53, Try.ntmps53
    go_wp2
    go_ret
    exact ⟨rfl, rfl⟩

def i32of (n : Int) : Int := if n < -2147483648 ∨ 2147483647 < n then -1 else n
set_option maxRecDepth 100000 in
theorem order (w : World) (n : Int) : Calls Try.prog 30 #[.int .i64 n] w fun e w' => e = .returned (.int .i32 (i32of n)) ∧ w = w' := by
  unfold i32of
  by_cases h : n < -2147483648 ∨ 2147483647 < n
  · rw [if_pos h]
    go_enter Try.func30, Try.ntmps30
    go_wp2
    all_goals (first | (exfalso; omega) | (go_ret; exact ⟨rfl, rfl⟩))
  · rw [if_neg h]
    have h1 : -2147483648 ≤ n := by omega
    have h2 : n ≤ 2147483647 := by omega
    clear h
    go_enter Try.func30, Try.ntmps30
    go_wp2
    all_goals (first | (exfalso; omega) | (go_ret; exact ⟨rfl, rfl⟩) | (go_outline; go_show))

end Go.Proofs.Ytibopfemknnocaa.Range
