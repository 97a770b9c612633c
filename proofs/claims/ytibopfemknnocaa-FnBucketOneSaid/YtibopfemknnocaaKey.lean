import Derived.Test.YtibopfemknnocaaRev
namespace Go.Proofs.Ytibopfemknnocaa.Key
open Go.RowKit Go.Lib Go.Proofs.Ytibopfemknnocaa.Open Go.Proofs.Ytibopfemknnocaa.Kept Go.Proofs.Ytibopfemknnocaa.Rev

def at_ (l : List UInt8) (o i : Nat) : Int := (l.getD (o + i) 0).toNat
def mainOf (l : List UInt8) : Int := wrap64 (Nval (at_ l 0) 8)
def subOf (l : List UInt8) : Int := wrap64 (Nval (at_ l 9) 8)
def parse (l : List UInt8) : Option (Int × Int × Bool) :=
  if l.length = 17 ∨ l.length = 18 then
    if (at_ l 8 0 != 95) = true then none
    else if mainOf l < 0 ∨ subOf l < 0 then none
    else some (mainOf l, subOf l, l.length == 18 && l.getD 17 0 == 116)
  else none
def Panics (w : World) (e : Ending) (w' : World) : Prop := ∃ u pv, e = .panicked [{ v := .iface u pv, recovered := false }] ∧ Below w.heap.size w w'
def KeyOr (l : List UInt8) (w : World) (e : Ending) (w' : World) : Prop :=
  (∃ m s t, parse l = some (m, s, t) ∧ Gives (.agg #[.int .i64 m, .int .i64 s, .bool t]) w e w') ∨ (parse l = none ∧ Panics w e w')

theorem at_bd (l : List UInt8) (o i : Nat) : 0 ≤ at_ l o i ∧ at_ l o i < 256 := by
  unfold at_
  have := (l.getD (o + i) 0).toNat_lt
  omega

set_option maxRecDepth 100000 in
theorem key_short (w : World) (a : Option Addr) (c : Nat) (l : List UInt8) (hl : ¬ (l.length = 17 ∨ l.length = 18)) :
    Calls Try.prog 48 #[.slice a l.length c] w (KeyOr l w) := by
  have hp : parse l = none := by unfold parse; rw [if_neg hl]
  have h1 : ((l.length : Int) != 17) = true := by simp; omega
  have h2 : ((l.length : Int) != 18) = true := by simp; omega
  have HP := Lib.hid hp
  have hq : ∀ e w', Panics w e w' → KeyOr l w e w' := fun e w' h => .inr ⟨HP.out, h⟩
  refine Calls.mono ?_ hq
  generalize l.length = n at *
  clear hp hl hq HP
  go_enter Try.func48, Try.ntmps48
  go_wp2
  exact ⟨rfl, _, _, rfl, Below.new _ _⟩

theorem row_tail {w : World} {b o : Nat} {l : List UInt8} (h : ∀ i, i < l.length → w.cell? ⟨b, o + i, none⟩ = some (.int .u8 (l.getD i 0).toNat)) (k : Nat) (hk : k + 8 ≤ l.length) :
    ∀ i, i < 8 → w.cell? ⟨b, o + k + i, none⟩ = some (.int .u8 (at_ l k i)) := by
  intro i hi
  have := h (k + i) (by omega)
  rw [Nat.add_assoc]
  exact this

set_option maxRecDepth 100000 in
set_option maxHeartbeats 1000000 in
theorem key_long (w : World) (b o : Nat) (c : Nat) (l : List UInt8) (n : Nat) (hn : n = 17 ∨ n = 18) (hl : l.length = n) (h : ∀ i, i < l.length → w.cell? ⟨b, o + i, none⟩ = some (.int .u8 (l.getD i 0).toNat)) (hcap : n ≤ c) :
    Calls Try.prog 48 #[.slice (some ⟨b, o, none⟩) n c] w (KeyOr l w) := by
  have hblt : b < w.heap.size := (cell_lt (h 8 (by omega))).1
  have hrow : Vr.RowAt w (some ⟨b, o, none⟩) l := .inr ⟨b, o, rfl, h⟩
  have B1 := Below.new w (.cells #[.int .i64 0, .int .i64 0, .bool false] 81)
  have hrow' := Vr.RowAt.below hrow B1 (fun x hx => by cases hx; exact hblt)
  have HT := Lib.hid (is_tombstone _ _ c l hrow')
  have hc' : ∀ i, i < l.length → (w.alloc (.cells #[.int .i64 0, .int .i64 0, .bool false] 81)).cell? ⟨b, o + i, none⟩ = some (.int .u8 (l.getD i 0).toNat) := fun i hi => (B1.cell (p := ⟨b, o + i, none⟩) hblt).trans (h i hi)
  have HU0 := Lib.hid (fun len cap hl8 => uint64 _ b (o + 0) len cap (at_ l 0) (row_tail hc' 0 (by omega)) (fun i _ => at_bd l 0 i) hl8)
  have HU9 := Lib.hid (fun len cap hl8 => uint64 _ b (o + 9) len cap (at_ l 9) (row_tail hc' 9 (by omega)) (fun i _ => at_bd l 9 i) hl8)
  have h8 := hc' 8 (by omega)
  have hv0 : wrap64 (Nval (at_ l 0) 8) = mainOf l := rfl
  have hv9 : wrap64 (Nval (at_ l 9) 8) = subOf l := rfl
  have hp : parse l = if (at_ l 8 0 != 95) = true then none else if mainOf l < 0 ∨ subOf l < 0 then none else some (mainOf l, subOf l, l.length == 18 && l.getD 17 0 == 116) := by
    unfold parse; rw [if_pos (by rcases hn with rfl | rfl <;> simp [hl])]
  have e8 : ((l.getD 8 0).toNat : Int) = at_ l 8 0 := rfl
  rw [e8] at h8
  have HP := Lib.hid hp
  have hq1 : ∀ e w', parse l = none → Panics w e w' → KeyOr l w e w' := fun e w' h1 h2 => .inr ⟨h1, h2⟩
  have hq2 : ∀ e w' m s t, parse l = some (m, s, t) → Gives (.agg #[.int .i64 m, .int .i64 s, .bool t]) w e w' → KeyOr l w e w' := fun e w' m s t h1 h2 => .inl ⟨m, s, t, h1, h2⟩
  generalize at_ l 8 0 = z at *
  generalize (l.length == 18 && l.getD 17 0 == 116) = T at *
  rw [hl] at HT
  clear h hc' hrow hrow' hl e8 hp
  generalize mainOf l = M at *
  generalize subOf l = S at *
  have h0 : o + 0 = o := rfl
  rw [h0] at HU0
  clear h0
  cases hz : (z != 95) with
  | true =>
    rw [hz] at HP
    have HN : Hid (parse l = none) := by rw [HP.out]; rfl
    refine Calls.mono ?_ (fun e w' => hq1 e w' HN.out)
    clear hq1 hq2 HP HN
    rcases hn with rfl | rfl
    all_goals
      go_enter Try.func48, Try.ntmps48
      go_wp2_with fail
      exact ⟨rfl, _, _, rfl, Below.new _ _⟩
  | false =>
    rw [hz] at HP
    have hcase : (decide (M < 0) = true ∧ parse l = none) ∨ (decide (M < 0) = false ∧ decide (S < 0) = true ∧ parse l = none) ∨ (decide (M < 0) = false ∧ decide (S < 0) = false ∧ parse l = some (M, S, T)) := by
      by_cases h1 : M < 0
      · exact .inl ⟨by simpa using h1, by rw [HP.out]; simp [h1]⟩
      · by_cases h2 : S < 0
        · exact .inr (.inl ⟨by simpa using h1, by simpa using h2, by rw [HP.out]; simp [h2]⟩)
        · exact .inr (.inr ⟨by simpa using h1, by simpa using h2, by rw [HP.out]; simp [h1, h2]⟩)
    clear HP
    rcases hcase with ⟨g1, hN⟩ | ⟨g1, g2, hN⟩ | ⟨g1, g2, hN⟩
    · refine Calls.mono ?_ (fun e w' => hq1 e w' hN)
      clear hq1 hq2 hN
      rcases hn with rfl | rfl
      all_goals
        go_enter Try.func48, Try.ntmps48
        go_wp2_with fail
        refine (HU0.out _ _ (by omega)).mono ?_
        rintro e w2 ⟨rfl, rfl⟩
        go_wp2_with fail
        refine (HU9.out _ _ (by omega)).mono ?_
        rintro e w2 ⟨rfl, rfl⟩
        go_wp2_with fail
        exact ⟨rfl, _, _, rfl, Below.new _ _⟩
    · refine Calls.mono ?_ (fun e w' => hq1 e w' hN)
      clear hq1 hq2 hN
      rcases hn with rfl | rfl
      all_goals
        go_enter Try.func48, Try.ntmps48
        go_wp2_with fail
        refine (HU0.out _ _ (by omega)).mono ?_
        rintro e w2 ⟨rfl, rfl⟩
        go_wp2_with fail
        refine (HU9.out _ _ (by omega)).mono ?_
        rintro e w2 ⟨rfl, rfl⟩
        go_wp2_with fail
        exact ⟨rfl, _, _, rfl, Below.new _ _⟩
    · refine Calls.mono ?_ (fun e w' => hq2 e w' _ _ _ hN)
      clear hq1 hq2 hN
      rcases hn with rfl | rfl
      all_goals
        go_enter Try.func48, Try.ntmps48
        go_wp2_with fail
        refine (HU0.out _ _ (by omega)).mono ?_
        rintro e w2 ⟨rfl, rfl⟩
        go_wp2_with fail
        refine (HU9.out _ _ (by omega)).mono ?_
        rintro e w2 ⟨rfl, rfl⟩
        go_wp2_with fail
        refine HT.out.mono ?_
        rintro e w2 ⟨rfl, rfl⟩
        go_wp2_with fail
        refine bodyPost_ret (v := .agg #[.int .i64 M, .int .i64 S, .bool T]) (by simp [results, Try.results48, go_sem]) rfl (gives ?_)
        exact Below.new _ _

theorem key (w : World) (a : Option Addr) (n c : Nat) (l : List UInt8) (hl : l.length = n) (h : Vr.RowAt w a l) (hcap : n ≤ c) : Calls Try.prog 48 #[.slice a n c] w (KeyOr l w) := by
  by_cases hn : n = 17 ∨ n = 18
  · rcases h with rfl | ⟨b, o, rfl, hc⟩
    · simp at hl; omega
    · exact key_long w b o c l n hn hl hc hcap
  · subst hl
    exact key_short w a c l hn
end Go.Proofs.Ytibopfemknnocaa.Key
