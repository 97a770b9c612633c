import Derived.Test.YtibopfemknnocaaPut
import Derived.Test.YtibopfemknnocaaFlow
import Derived.Deep.RegionHeld3
import Derived.Recover
namespace Go.Proofs.Ytibopfemknnocaa.Rev
open Go.RowKit Go.Lib Go.Proofs.Ytibopfemknnocaa.Open Go.Proofs.Ytibopfemknnocaa.Kept

def Gives (v : Value) (w : World) (e : Ending) (w' : World) : Prop := e = .returned v ∧ Below w.heap.size w w'
theorem gives_bool {a b : Bool} {w w' : World} (e : a = b) (h : Below w.heap.size w w') : Gives (.bool b) w (.returned (.bool a)) w' := ⟨by rw [e], h⟩
theorem gives {v : Value} {w w' : World} (h : Below w.heap.size w w') : Gives v w (.returned v) w' := ⟨rfl, h⟩

set_option maxRecDepth 100000 in
theorem rev_in (w : World) (m s : Int) : Calls Try.prog 41 #[.agg #[.int .i64 m, .int .i64 s]] w (Gives (.agg #[.int .i64 m, .int .i64 s]) w) := by
  go_enter Try.func41, Try.ntmps41
  go_wp2
  refine bodyPost_ret (v := .agg #[.int .i64 m, .int .i64 s]) (by simp [results, Try.results41, go_sem]) rfl (gives ?_)
  exact (Below.new _ _).more (Below.new _ _)
set_option maxRecDepth 100000 in
theorem rev_out (w : World) (m s : Int) : Calls Try.prog 49 #[.agg #[.int .i64 m, .int .i64 s]] w (Gives (.agg #[.int .i64 m, .int .i64 s]) w) := by
  go_enter Try.func49, Try.ntmps49
  go_wp2
  refine bodyPost_ret (v := .agg #[.int .i64 m, .int .i64 s]) (by simp [results, Try.results49, go_sem]) rfl (gives ?_)
  exact (Below.new _ _).more (Below.new _ _)
set_option maxRecDepth 100000 in
theorem new_key (w : World) (m s : Int) (t : Bool) : Calls Try.prog 60 #[.int .i64 m, .int .i64 s, .bool t] w (Gives (.agg #[.int .i64 m, .int .i64 s, .bool t]) w) := by
  go_enter Try.func60, Try.ntmps60
  go_wp2
  refine bodyPost_ret (v := .agg #[.int .i64 m, .int .i64 s, .bool t]) (by simp [results, Try.results60, go_sem]) rfl (gives ?_)
  exact Below.new _ _
set_option maxRecDepth 100000 in
theorem zz_key (w : World) (m s : Int) (t : Bool) : Calls Try.prog 52 #[.agg #[.int .i64 m, .int .i64 s], .bool t] w (Gives (.agg #[.int .i64 m, .int .i64 s, .bool t]) w) := by
  go_enter Try.func52, Try.ntmps52
  go_wp2_with fail
  refine (new_key _ _ _ _).mono ?_
  rintro e w1 ⟨rfl, hb⟩
  obtain ⟨hcc, hff⟩ := bcell hb
  have hz : w.heap.size + 1 < w1.heap.size := by have := hb.size; simp at this; omega
  go_wp2_with fail
  refine bodyPost_ret (v := .agg #[.int .i64 m, .int .i64 s, .bool t]) (by simp [results, Try.results52, go_sem, hcc]) rfl (gives ?_)
  have hb2 := ((Below.new w _).more (Below.new _ _)).more hb
  repeat (refine Below.setCell ?_ (by simp) _)
  exact hb2
set_option maxRecDepth 100000 in
theorem zz_marked (w : World) (m s : Int) (t : Bool) : Calls Try.prog 50 #[.agg #[.int .i64 m, .int .i64 s, .bool t]] w (Gives (.bool t) w) := by
  go_enter Try.func50, Try.ntmps50
  go_wp2
  go_ret
  exact gives (Below.new _ _)

def gtr (m s m' s' : Int) : Bool := decide (m' < m) || (!(decide (m < m')) && decide (s' < s))
set_option maxRecDepth 100000 in
theorem greater_than (w : World) (m s m' s' : Int) : Calls Try.prog 42 #[.agg #[.int .i64 m, .int .i64 s], .agg #[.int .i64 m', .int .i64 s']] w (Gives (.bool (gtr m s m' s')) w) := by
  go_enter Try.func42, Try.ntmps42
  go_wp2
  all_goals
    go_ret
    refine gives_bool ?_ ((Below.new _ _).more (Below.new _ _))
    first | (simp_all [gtr]; done) | (have e : m = m' := by omega
                                      subst e; simp [gtr])
def lss (m s m' s' : Int) : Bool := decide (m < m') || ((m == m') && decide (s < s'))
set_option maxRecDepth 100000 in
theorem spec_less (w : World) (m s m' s' : Int) : Calls Try.prog 23 #[.agg #[.int .i64 m, .int .i64 s], .agg #[.int .i64 m', .int .i64 s']] w (Gives (.bool (lss m s m' s')) w) := by
  go_enter Try.func23, Try.ntmps23
  go_wp2
  all_goals
    go_ret
    refine gives_bool ?_ ((Below.new _ _).more (Below.new _ _))
    simp_all [lss]

def Nval (x : Nat → Int) : Nat → Int
  | 0 => 0
  | k + 1 => Nval x k * 256 + x k
theorem nval_bd (x : Nat → Int) : ∀ k, (∀ i, i < k → 0 ≤ x i ∧ x i < 256) → 0 ≤ Nval x k ∧ Nval x k < 256 ^ k
  | 0, _ => by simp [Nval]
  | k + 1, h => by
    have ih := nval_bd x k (fun i hi => h i (by omega))
    have hk := h k (by omega)
    rw [Nval, Int.pow_succ]
    omega
theorem or_step (a y : Int) (k : Nat) (hk : k < 8) (h0 : 0 ≤ a) (h1 : a < 256 ^ k) (hy0 : 0 ≤ y) (hy1 : y < 256) : bits .or .u64 (IntKind.u64.wrap (a * 256)) y = a * 256 + y := by
  have hb : a < 72057594037927936 := by
    rcases (by omega : k = 0 ∨ k = 1 ∨ k = 2 ∨ k = 3 ∨ k = 4 ∨ k = 5 ∨ k = 6 ∨ k = 7) with rfl | rfl | rfl | rfl | rfl | rfl | rfl | rfl <;> simp at h1 <;> omega
  have hw : IntKind.u64.wrap (a * 256) = a * 256 := by
    unfold IntKind.wrap
    simp [IntKind.bits, IntKind.signed]
    omega
  rw [hw]
  refine bits_join .u64 64 (by decide) (fun n h0 h1 => ?_) 8 (a * 256) y (by omega) (by omega) (by omega) hy0 (by omega) (by omega)
  unfold IntKind.wrap
  simp [IntKind.bits, IntKind.signed]
  omega

set_option maxRecDepth 100000 in
theorem uint64 (w : World) (b o len cap : Nat) (x : Nat → Int) (hx : ∀ i, i < 8 → w.cell? ⟨b, o + i, none⟩ = some (.int .u8 (x i))) (hr : ∀ i, i < 8 → 0 ≤ x i ∧ x i < 256) (hl : 8 ≤ len) :
    Calls Try.prog 62 #[.slice (some ⟨b, o, none⟩) len cap] w fun e w' => e = .returned (.int .u64 (Nval x 8)) ∧ w = w' := by
  have HX := Lib.hid hx
  have HR := Lib.hid hr
  clear hx hr
  go_enter Try.func62, Try.ntmps62
  go_wp2_with fail
  go_loopw [3, 4] (fun n i wr => ∃ k : Nat, k ≤ 8 ∧ i = .int .i64 k ∧ n = .int .u64 (Nval x k) ∧ wr = w) (fun _ i _ => 8 - (intOf i).toNat)
  case atStart => exact ⟨0, by omega, rfl, rfl, rfl⟩
  case round =>
    obtain ⟨k, hk, rfl, rfl, rfl⟩ := hrel
    by_cases hlt : k < 8
    · have hc := HX.out k hlt
      obtain ⟨hr0, hr1⟩ := HR.out k hlt
      obtain ⟨hn0, hn1⟩ := nval_bd x k (fun i hi => HR.out i (by omega))
      have HS := Lib.hid (or_step (Nval x k) (x k) k hlt hn0 hn1 hr0 hr1)
      clear hn0 hn1
      go_wp2_with fail
      exact ⟨⟨k + 1, by omega, by go_num, by rw [HS.out]; rfl, trivial⟩, by simp [intOf]; omega⟩
    · have hk8 : k = 8 := by omega
      subst hk8
      go_wp2_with fail
      go_ret
      exact ⟨rfl, rfl⟩

set_option maxRecDepth 100000 in
theorem is_tombstone (w : World) (a : Option Addr) (c : Nat) (l : List UInt8) (h : Vr.RowAt w a l) :
    Calls Try.prog 63 #[.slice a l.length c] w fun e w' => e = .returned (.bool (l.length == 18 && l.getD 17 0 == 116)) ∧ w = w' := by
  by_cases hl : l.length = 18
  · obtain ⟨b, o, rfl, hc⟩ := h.lt 17 (by omega)
    have e : (l.length == 18 && l.getD 17 0 == 116) = (((l.getD 17 0).toNat : Int) == 116) := by
      rw [hl]
      simp only [BEq.rfl, Bool.true_and]
      rw [Bool.eq_iff_iff]
      simp only [beq_iff_eq]
      constructor
      · intro h; rw [h]; rfl
      · intro h; exact UInt8.toNat.inj (by exact_mod_cast h)
    rw [e, hl]
    generalize (l.getD 17 0).toNat = n at *
    clear h e hl
    go_enter Try.func63, Try.ntmps63
    go_wp2
    go_ret
    exact ⟨rfl, rfl⟩
  · have e : (l.length == 18 && l.getD 17 0 == 116) = false := by simp [hl]
    have hn : ((l.length : Int) == 18) = false := by simp; omega
    rw [e]
    generalize l.length = n at *
    clear h e hl
    go_enter Try.func63, Try.ntmps63
    go_wp2
    go_ret
    exact ⟨rfl, rfl⟩

/-- a new row of bytes -/
def zeros18 : Array Value := #[.int .u8 0, .int .u8 0, .int .u8 0, .int .u8 0, .int .u8 0, .int .u8 0, .int .u8 0, .int .u8 0, .int .u8 0, .int .u8 0, .int .u8 0, .int .u8 0, .int .u8 0, .int .u8 0, .int .u8 0, .int .u8 0, .int .u8 0, .int .u8 0]
theorem mk17 (w : World) : (Instr.makeSlice 47 (.int .i64 17) (.int .i64 18)).run Try.prog w = .ok (.slice (some ⟨w.heap.size, 0, none⟩) 17 18) (w.alloc (.cells zeros18 5)) := by kernel_rfl
theorem mk18 (w : World) : (Instr.makeSlice 47 (.int .i64 18) (.int .i64 18)).run Try.prog w = .ok (.slice (some ⟨w.heap.size, 0, none⟩) 18 18) (w.alloc (.cells zeros18 5)) := by kernel_rfl
set_option maxRecDepth 100000 in
theorem new_rev (w : World) : Calls Try.prog 45 #[] w fun e w' => e = .returned (.slice (some ⟨w.heap.size, 0, none⟩) 17 18) ∧ w.alloc (.cells zeros18 5) = w' := by
  have h17 := mk17
  go_enter Try.func45, Try.ntmps45
  go_wp2
  go_ret
  exact ⟨rfl, rfl⟩
/-- what BucketKeyToBytes leaves in a row of 18 -/
def filled (m s : Int) (C : Array Value) : Array Value := Put.put8 (IntKind.u64.wrap s) 9 ((Put.put8 (IntKind.u64.wrap m) 0 C 8).setIfInBounds 8 (.int .u8 95)) 8
def KeyPost (b : Nat) (m s : Int) (C : Array Value) (w : World) (e : Ending) (w' : World) : Prop :=
  e = .returned (.slice (some ⟨b, 0, none⟩) 17 18) ∧ Kept (· = b) w w' ∧ w'.heap[b]? = some (.cells (filled m s C) 5 (0, 0))

theorem wrap_nonneg (m : Int) : 0 ≤ IntKind.u64.wrap m := by
  unfold IntKind.wrap; simp [IntKind.bits, IntKind.signed]; omega

set_option maxRecDepth 100000 in
theorem key_bytes_plain (w : World) (m s : Int) (b : Nat) (C : Array Value) (hb : w.heap[b]? = some (.cells C 5 (0, 0))) (hC : C.size = 18) :
    Calls Try.prog 51 #[.agg #[.int .i64 m, .int .i64 s, .bool false], .slice (some ⟨b, 0, none⟩) 17 18] w (KeyPost b m s C w) := by
  have hlt := lt_of_block hb
  have HB := Lib.hid (alloc_at hb (.cells #[.int .i64 m, .int .i64 s, .bool false] 81))
  have HC := Lib.hid hC
  have HH := Lib.hid hb
  have hne : ¬ w.heap.size = b := by omega
  clear hb hC hlt
  go_enter Try.func51, Try.ntmps51
  go_wp2_with fail
  refine (Put.put_uint64 _ b 0 17 18 _ C HB.out (by have := HC.out; omega) (by omega) (wrap_nonneg m)).mono ?_
  rintro e w1 ⟨rfl, hk, hb1⟩
  have HK := Lib.hid hk
  have HB1 := Lib.hid hb1
  have k1 : w1.cell? ⟨w.heap.size, 1, none⟩ = some (.int .i64 s) := hk.cell (by simp) hne
  have k2 : w1.cell? ⟨w.heap.size, 2, none⟩ = some (.bool false) := hk.cell (by simp) hne
  have hz : w.heap.size < w1.heap.size := by have := hk.size; simp at this; omega
  have f8 := free_of hb1 8
  have c8 : w1.cell? ⟨b, 8, none⟩ = some ((Put.put8 (IntKind.u64.wrap m) 0 C 8)[8]'(by rw [Put.put8_size]; have := HC.out; omega)) := by rw [cell_of hb1 8]; exact Array.getElem?_eq_getElem _
  generalize (Put.put8 (IntKind.u64.wrap m) 0 C 8)[8]'(by rw [Put.put8_size]; have := HC.out; omega) = old at c8
  clear hk hb1
  go_wp2_with fail
  have HB2 := Lib.hid (set_block HB1.out 8 (.int .u8 95))
  have HK2 := Lib.hid (HK.out.set (p := ⟨b, 8, none⟩) (fun _ => rfl) (.int .u8 95))
  have ks : (w1.setCell ⟨b, 8, none⟩ (.int .u8 95)).cell? ⟨w.heap.size, 1, none⟩ = some (.int .i64 s) := cell_other k1 hne
  have kt : (w1.setCell ⟨b, 8, none⟩ (.int .u8 95)).cell? ⟨w.heap.size, 2, none⟩ = some (.bool false) := cell_other k2 hne
  go_region_held3 (fun w' => w'.cell? ⟨w.heap.size, 1, none⟩ = some (.int .i64 s)) (first | exact ks | exact k3)
    (first | (go_at_call 64; refine (Put.put_uint64 _ b 9 8 9 _ _ (by exact HB2.out) (by have := HC.out; simp [Put.put8_size]; omega) (by omega) (wrap_nonneg s)).mono ?_; rintro e w2 ⟨rfl, hk2, hb2⟩; have k3 := hk2.cell ks hne; have k4 := hk2.cell kt hne))
  have HK3 := Lib.hid (HK2.out.drew.trans hk2)
  have HB3 := Lib.hid hb2
  clear hk2 hb2 k1 k2 f8 c8 ks kt
  go_wp2_with fail
  go_ret
  exact ⟨rfl, ((Kept.refl _ w).new _).trans HK3.out, HB3.out⟩
def TombPost (b : Nat) (m s : Int) (C : Array Value) (w : World) (e : Ending) (w' : World) : Prop :=
  e = .returned (.slice (some ⟨b, 0, none⟩) 18 18) ∧ Kept (· = b) w w' ∧ w'.heap[b]? = some (.cells ((filled m s C).setIfInBounds 17 (.int .u8 116)) 5 (0, 0))
set_option maxRecDepth 100000 in
theorem key_bytes_tomb (w : World) (m s : Int) (b : Nat) (C : Array Value) (hb : w.heap[b]? = some (.cells C 5 (0, 0))) (hC : C.size = 18) :
    Calls Try.prog 51 #[.agg #[.int .i64 m, .int .i64 s, .bool true], .slice (some ⟨b, 0, none⟩) 17 18] w (TombPost b m s C w) := by
  have hlt := lt_of_block hb
  have HB := Lib.hid (alloc_at hb (.cells #[.int .i64 m, .int .i64 s, .bool true] 81))
  have HC := Lib.hid hC
  have HH := Lib.hid hb
  have hne : ¬ w.heap.size = b := by omega
  clear hb hC hlt
  go_enter Try.func51, Try.ntmps51
  go_wp2_with fail
  refine (Put.put_uint64 _ b 0 17 18 _ C HB.out (by have := HC.out; omega) (by omega) (wrap_nonneg m)).mono ?_
  rintro e w1 ⟨rfl, hk, hb1⟩
  have HK := Lib.hid hk
  have HB1 := Lib.hid hb1
  have k1 : w1.cell? ⟨w.heap.size, 1, none⟩ = some (.int .i64 s) := hk.cell (by simp) hne
  have k2 : w1.cell? ⟨w.heap.size, 2, none⟩ = some (.bool true) := hk.cell (by simp) hne
  have hz : w.heap.size < w1.heap.size := by have := hk.size; simp at this; omega
  have f8 := free_of hb1 8
  have c8 : w1.cell? ⟨b, 8, none⟩ = some ((Put.put8 (IntKind.u64.wrap m) 0 C 8)[8]'(by rw [Put.put8_size]; have := HC.out; omega)) := by rw [cell_of hb1 8]; exact Array.getElem?_eq_getElem _
  generalize (Put.put8 (IntKind.u64.wrap m) 0 C 8)[8]'(by rw [Put.put8_size]; have := HC.out; omega) = old at c8
  clear hk hb1
  go_wp2_with fail
  have HB2 := Lib.hid (set_block HB1.out 8 (.int .u8 95))
  have HK2 := Lib.hid (HK.out.set (p := ⟨b, 8, none⟩) (fun _ => rfl) (.int .u8 95))
  have ks : (w1.setCell ⟨b, 8, none⟩ (.int .u8 95)).cell? ⟨w.heap.size, 1, none⟩ = some (.int .i64 s) := cell_other k1 hne
  have kt : (w1.setCell ⟨b, 8, none⟩ (.int .u8 95)).cell? ⟨w.heap.size, 2, none⟩ = some (.bool true) := cell_other k2 hne
  go_region_held3 (fun w' => w'.cell? ⟨w.heap.size, 1, none⟩ = some (.int .i64 s)) (first | exact ks | exact k3)
    (first | (go_at_call 64; refine (Put.put_uint64 _ b 9 8 9 _ _ (by exact HB2.out) (by have := HC.out; simp [Put.put8_size]; omega) (by omega) (wrap_nonneg s)).mono ?_; rintro e w2 ⟨rfl, hk2, hb2⟩; have k3 := hk2.cell ks hne; have k4 := hk2.cell kt hne))
  have HK3 := Lib.hid (HK2.out.drew.trans hk2)
  have HB3 := Lib.hid hb2
  clear hk2 hb2 k1 k2 f8 c8 ks kt
  have HB4 := Lib.hid (alloc_at HB3.out (.cells #[.int .u8 116] 5))
  have f17 := free_of HB4.out 17
  have c17 : (w2.alloc (.cells #[.int .u8 116] 5)).cell? ⟨b, 17, none⟩ = some ((filled m s C)[17]'(by unfold filled; simp [Put.put8_size]; have := HC.out; omega)) := by rw [cell_of HB4.out 17]; exact Array.getElem?_eq_getElem _
  generalize (filled m s C)[17]'(by unfold filled; simp [Put.put8_size]; have := HC.out; omega) = old at c17
  have hn2 : ¬ b = w2.heap.size := by have := lt_of_block HB3.out; omega
  go_wp2_with fail
  go_ret
  refine ⟨rfl, ?_, ?_⟩
  · exact ((((Kept.refl _ w).new _).trans HK3.out).new _).set (fun _ => rfl) _
  · exact set_block HB4.out 17 _
end Go.Proofs.Ytibopfemknnocaa.Rev
