import Derived.Test.YtibopfemknnocaaOpen
namespace Go.Proofs.Ytibopfemknnocaa.Fits
open Go.RowKit Go.Lib Go.Proofs.Ytibopfemknnocaa.Open

def SomeBool (w : World) (e : Ending) (w' : World) : Prop := ∃ b : Bool, e = .returned (.bool b) ∧ Below w.heap.size w w'

theorem some_bool {w w' : World} (b : Bool) (h : Below w.heap.size w w') : SomeBool w (.returned (.bool b)) w' := ⟨b, rfl, h⟩

def IsCmp (v : List Value) : Prop := ∃ (t r : Int) (k e : ByteArray) (n : Int) (x : ByteArray) (b : Bool), v = [.int .i64 t, .int .i64 r, .string k, .string e, .int .i64 n, .string x, .bool b]

set_option maxRecDepth 100000 in
theorem fits10 (w : World) (t r : Int) (k e : ByteArray) (n : Int) (x : ByteArray) (b : Bool) :
    Calls Try.prog 18 #[.agg #[.int .i64 t, .int .i64 r, .string k, .string e, .int .i64 n, .string x, .bool b]] w (SomeBool w) := by
  go_enter Try.func18, Try.ntmps18
  go_wp2
  all_goals (go_ret; exact some_bool _ ((Below.refl _ _).alloc (Nat.le_refl _) _))

/-- a slice of compares -/
def CmpsAt (w : World) (a : Option Addr) (n : Nat) : Prop := ∀ i, i < n → ∃ ds, IsCmp ds ∧ CellsAt w a (i * 7) ds

set_option maxRecDepth 100000 in
theorem fits9 (w : World) (a : Option Addr) (n c : Nat) (h : CmpsAt w a n) (hn : n ≤ 9223372036854775807) :
    Calls Try.prog 28 #[.slice a n c] w (SomeBool w) := by
  have H := Lib.hid h
  clear h
  go_enter Try.func28, Try.ntmps28
  go_wp2_with fail
  all_goals (try (go_ret; exact some_bool _ (Below.refl _ _)))
  go_loopw [10] (fun i wr => ∃ k : Nat, k ≤ n ∧ i = .int .i64 k ∧ Below w.heap.size w wr) (fun i _ => n - (intOf i).toNat)
  case atStart => exact ⟨0, Nat.zero_le _, rfl, Below.refl _ _⟩
  case round =>
    obtain ⟨k, hk, rfl, hb⟩ := hrel
    by_cases hlt : k < n
    · obtain ⟨ds, ⟨t, r, k', e, m, x, b, rfl⟩, hca⟩ := H.out k hlt
      obtain ⟨bb, o, rfl, hbb, _⟩ := id hca
      have hr := hca.row hb hbb
      simp only [RowFrom, Nat.reduceAdd, Nat.add_zero] at hr
      obtain ⟨c0, c1, c2, c3, c4, c5, c6, -⟩ := hr
      clear hca
      go_wp2_with (go_at_call 18; refine (fits10 _ _ _ _ _ _ _ _).mono ?_; rintro e w' ⟨b', rfl, hb'⟩)
      · go_ret
        exact some_bool _ (hb.more1 hb')
      · exact ⟨⟨k + 1, by omega, by go_num, hb.more1 hb'⟩, by simp [intOf]; omega⟩
    · go_wp2_with fail
      go_ret
      exact some_bool _ hb

/-- the cells of a request -/
def IsReq (v : List Value) (ca : Option Addr) (cn cc : Nat) (mm xm mc xc : Int) : Prop :=
  ∃ (kind : Int) (key e val : ByteArray) (lease rev limit so st : Int) (ko co pr iv il : Bool) (ta : Option Addr) (tn tc : Nat) (ea : Option Addr) (en ec : Nat),
    v = [.int .i64 kind, .string key, .string e, .string val, .int .i64 lease, .int .i64 rev, .int .i64 limit, .int .i64 so, .int .i64 st, .int .i64 mm, .int .i64 xm, .int .i64 mc, .int .i64 xc,
      .bool ko, .bool co, .bool pr, .bool iv, .bool il, .slice ca cn cc, .slice ta tn tc, .slice ea en ec]

set_option maxRecDepth 100000 in
theorem fits8 (w : World) (v : List Value) (ca : Option Addr) (cn cc : Nat) (mm xm mc xc : Int) (hv : IsReq v ca cn cc mm xm mc xc) (h : CmpsAt w ca cn) (hn : cn ≤ 9223372036854775807) :
    Calls Try.prog 9 #[.agg v.toArray] w (SomeBool w) := by
  obtain ⟨kind, key, e, val, lease, rev, limit, so, st, ko, co, pr, iv, il, ta, tn, tc, ea, en, ec, rfl⟩ := hv
  have H : Hid (∀ o, Calls Try.prog 28 #[.slice ca cn cc] (w.alloc o) (SomeBool (w.alloc o))) := fun o => fits9 _ _ _ _ (fun i hi => by
    obtain ⟨ds, h1, b, oo, rfl, hb, hc⟩ := h i hi
    exact ⟨ds, h1, b, oo, rfl, by simp; omega, fun j hj => (World.cell?_alloc_old _ _ _ (by simp; omega)).trans (hc j hj)⟩) hn
  clear h hn
  go_enter Try.func9, Try.ntmps9
  go_wp2_with (go_at_call 28; refine (H.out _).mono ?_; rintro e' w' ⟨b', rfl, hb'⟩; obtain ⟨hcc, hff⟩ := bcell hb')
  all_goals (first | (go_ret; first | exact some_bool _ ((Below.refl _ _).more1 hb') | exact some_bool _ (Below.new _ _)) | (go_outline; go_show))
end Go.Proofs.Ytibopfemknnocaa.Fits
