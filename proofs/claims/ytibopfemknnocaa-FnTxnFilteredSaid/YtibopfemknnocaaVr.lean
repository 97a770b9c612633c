import Derived.Test.YtibopfemknnocaaProg
import Derived.WalkKit
import Derived.WalkLawsBesides
import Derived.WalkSpells
import Derived.Lib.BytesEntry
import Derived.Lib.ConvBytes
import Derived.Lib.Hide
namespace Go.Proofs.Ytibopfemknnocaa.Vr
open Go.RowKit Go.Lib

/-- A row of bytes: what a slice of bytes with address a reads as. -/
def RowAt (w : World) (a : Option Addr) (l : List UInt8) : Prop :=
  l = [] ∨ ∃ b o, a = some ⟨b, o, none⟩ ∧ ∀ i, i < l.length → w.cell? ⟨b, o + i, none⟩ = some (.int .u8 (l.getD i 0).toNat)

theorem run_loadB {P : Program} (w : World) (a : Option Addr) (l : List UInt8) (c : Nat) (h : RowAt w a l) :
    (Extern.Bytes.bytesOf (.slice a l.length c)).run P w = .ok ⟨l.toArray⟩ w := by
  rcases h with rfl | ⟨b, o, rfl, h⟩
  · cases a <;> rfl
  · have hl1 := run_loadBytesX (P := P) w (l.map fun (x : UInt8) => (x.toNat : Int)) ⟨b, o, none⟩ .empty (fun j x hj => by
      rw [List.getElem?_map] at hj
      have e : (⟨b, o, none⟩ : Addr).add j = ⟨b, o + j, none⟩ := by unfold Addr.add; split <;> simp_all
      cases hx : l[j]? with
      | none => simp [hx] at hj
      | some y =>
        have hjl : j < l.length := (List.getElem?_eq_some_iff.1 hx).1
        rw [e, h j hjl, List.getD_eq_getElem?_getD, hx]
        simp [hx] at hj
        simp [hj])
    have he : (bytesOf (l.map fun (x : UInt8) => (x.toNat : Int))) = l := by
      unfold bytesOf; rw [List.map_map]
      conv => rhs; rw [← List.map_id l]
      apply List.map_congr_left
      intro x _
      simp
    rw [he, List.length_map] at hl1
    simp only [Extern.Bytes.bytesOf]
    refine hl1.trans ?_
    congr 1
    apply ByteArray.ext
    show (#[] : Array UInt8) ++ l.toArray = l.toArray
    simp

theorem run_compareRows {P : Program} (w : World) (a b : Option Addr) (c d : Nat) (xs ys : List UInt8) (h1 : RowAt w a xs) (h2 : RowAt w b ys) :
    (Extern.BytealgCompare.compare #[.slice a xs.length c, .slice b ys.length d]).run P w = .ok (.int .i64 (compareBytes xs ys)) w := by
  have hs := run_compareString (P := P) ⟨xs.toArray⟩ ⟨ys.toArray⟩ w
  change Sem.run P (do pure (goInt (Extern.BytealgCompare.cmp (← Extern.Bytes.bytesOf (.slice a xs.length c)) (← Extern.Bytes.bytesOf (.slice b ys.length d))))) w = _
  change Sem.run P (do pure (goInt (Extern.BytealgCompare.cmp (← Extern.Bytes.bytesOf (.string ⟨xs.toArray⟩)) (← Extern.Bytes.bytesOf (.string ⟨ys.toArray⟩))))) w = _ at hs
  simp only [Sem.run_bind, run_loadB w _ _ _ h1, run_loadB w _ _ _ h2, Result.andThen] at hs ⊢
  exact hs

theorem bytes_compare (w : World) (a b : Option Addr) (c d : Nat) (xs ys : List UInt8) (h1 : RowAt w a xs) (h2 : RowAt w b ys) :
    Calls Try.prog 72 #[.slice a xs.length c, .slice b ys.length d] w fun e w' => e = .returned (.int .i64 (compareBytes xs ys)) ∧ w = w' := by
  have hr := run_compareRows (P := Try.prog) w a b c d xs ys h1 h2
  have H := Lib.hid hr
  clear hr h1 h2
  go_enter Try.func72, Try.ntmps72
  go_wp2
  rw [run_callFunc_extern Try.func74 (by kernel_rfl) (by kernel_rfl) (by kernel_rfl) (e := Extern.BytealgCompare.compare) (by kernel_rfl), H.out]
  simp only [Result.andThen]
  rw [Oper.upon_value]
  go_wp2
  go_ret
  exact ⟨rfl, rfl⟩

def affine (xs ys : List UInt8) : Int := if xs = [] then (if ys = [] then 0 else 1) else if ys = [] then -1 else compareBytes xs ys

theorem ta121 (v : Value) (w : World) : (Instr.typeAssert (.iface 121 v) 134 121 false).run Try.prog w = .ok v w := by kernel_rfl

set_option maxRecDepth 100000 in
theorem affine_compare (w : World) (a b : Option Addr) (c d : Nat) (xs ys : List UInt8) (h1 : RowAt w a xs) (h2 : RowAt w b ys) :
    Calls Try.prog 65 #[.slice a xs.length c, .iface 121 (.slice b ys.length d)] w fun e w' => e = .returned (.int .i64 (affine xs ys)) ∧ w = w' := by
  have hc := bytes_compare w a b c d xs ys h1 h2
  have H := Lib.hid hc
  have hta := ta121
  clear hc h1 h2
  cases xs with
  | nil =>
    cases ys with
    | nil => go_enter Try.func65, Try.ntmps65; go_wp2; go_ret; exact ⟨rfl, rfl⟩
    | cons y ys => go_enter Try.func65, Try.ntmps65; go_wp2; go_ret; exact ⟨rfl, rfl⟩
  | cons x xs =>
    cases ys with
    | nil => go_enter Try.func65, Try.ntmps65; go_wp2; go_ret; exact ⟨rfl, rfl⟩
    | cons y ys =>
      go_enter Try.func65, Try.ntmps65
      go_wp2_with (go_at_call 72; refine H.out.mono ?_; rintro e w' ⟨rfl, rfl⟩)
      go_ret; exact ⟨rfl, rfl⟩

theorem RowAt.lt {w : World} {a : Option Addr} {l : List UInt8} (h : RowAt w a l) (i : Nat) (hi : i < l.length) : ∃ b o, a = some ⟨b, o, none⟩ ∧ w.cell? ⟨b, o + i, none⟩ = some (.int .u8 (l.getD i 0).toNat) := by
  rcases h with rfl | ⟨b, o, rfl, h⟩
  · simp at hi
  · exact ⟨b, o, rfl, h i hi⟩

def isOpen : List UInt8 → Bool
  | [x] => ((x.toNat : Int) == 0)
  | _ => false

set_option maxRecDepth 100000 in
theorem open_ended (w : World) (a : Option Addr) (c : Nat) (xs : List UInt8) (h1 : RowAt w a xs) :
    Calls Try.prog 66 #[.slice a xs.length c] w fun e w' => e = .returned (.bool (isOpen xs)) ∧ w = w' := by
  match xs, h1 with
  | [], h1 => go_enter Try.func66, Try.ntmps66; go_wp2; go_ret; exact ⟨rfl, rfl⟩
  | [x], h1 =>
    obtain ⟨b, o, rfl, hc⟩ := h1.lt 0 (by simp)
    simp at hc
    clear h1
    go_enter Try.func66, Try.ntmps66; go_wp2; go_ret; exact ⟨rfl, rfl⟩
  | x :: y :: l, h1 =>
    have hn : ((((x :: y :: l).length : Nat) : Int) == 1) = false := by simp; omega
    generalize (x :: y :: l).length = n at *
    clear h1
    go_enter Try.func66, Try.ntmps66; go_wp2; go_ret; exact ⟨rfl, rfl⟩

def validB (xs ys : List UInt8) : Bool := !xs.isEmpty && (ys.isEmpty || (affine xs ys == -1) || isOpen ys)

set_option maxRecDepth 100000 in
theorem is_valid (w : World) (a b : Option Addr) (c d : Nat) (xs ys : List UInt8) (h1 : RowAt w a xs) (h2 : RowAt w b ys) :
    Calls Try.prog 54 #[.slice a xs.length c, .slice b ys.length d] w fun e w' => e = .returned (.bool (validB xs ys)) ∧ w = w' := by
  have H1 := Lib.hid (affine_compare w a b c d xs ys h1 h2)
  have H2 := Lib.hid (open_ended w b d ys h2)
  clear h1 h2
  cases xs with
  | nil => go_enter Try.func54, Try.ntmps54; go_wp2; go_ret; exact ⟨rfl, rfl⟩
  | cons x xs =>
    cases ys with
    | nil => go_enter Try.func54, Try.ntmps54; go_wp2; go_ret; exact ⟨rfl, rfl⟩
    | cons y ys =>
      cases hb : (affine (x :: xs) (y :: ys) == -1) with
      | false =>
        have hv : validB (x :: xs) (y :: ys) = isOpen (y :: ys) := by simp [validB, hb]
        rw [hv]
        clear hv
        go_enter Try.func54, Try.ntmps54
        go_wp2_with (first | (go_at_call 65; refine H1.out.mono ?_; rintro e w' ⟨rfl, rfl⟩) | (go_at_call 66; refine H2.out.mono ?_; rintro e w' ⟨rfl, rfl⟩))
        go_ret; exact ⟨rfl, rfl⟩
      | true =>
        have hv : validB (x :: xs) (y :: ys) = true := by simp [validB, hb]
        rw [hv]
        clear hv
        go_enter Try.func54, Try.ntmps54
        go_wp2_with (first | (go_at_call 65; refine H1.out.mono ?_; rintro e w' ⟨rfl, rfl⟩) | (go_at_call 66; refine H2.out.mono ?_; rintro e w' ⟨rfl, rfl⟩))
        go_ret; exact ⟨rfl, rfl⟩

theorem bytesWorld_below (w : World) (e : TypeId) (s : ByteArray) : Below w.heap.size w (bytesWorld w e s) := by
  refine ⟨?_, ?_, ?_, ?_, fun k hk => bytesWorld_at_old w e s k hk⟩
  · unfold bytesWorld World.freeze; split <;> rfl
  · unfold bytesWorld World.freeze; split <;> rfl
  · unfold bytesWorld World.freeze; split <;> rfl
  · rw [bytesWorld_size]; omega

theorem bytesWorld_row (w : World) (e : TypeId) (s : ByteArray) : RowAt (bytesWorld w e s) (some ⟨w.heap.size, 0, none⟩) s.data.toList :=
  .inr ⟨_, _, rfl, fun i hi => by rw [Nat.zero_add]; exact bytesWorld_cell w e s i (by simpa using hi)⟩

theorem RowAt.below {B : Nat} {w w' : World} {a : Option Addr} {l : List UInt8} (h : RowAt w a l) (hb : Below B w w') (ha : ∀ x, a = some x → x.block < B) : RowAt w' a l := by
  rcases h with rfl | ⟨b, o, rfl, h⟩
  · exact .inl rfl
  · exact .inr ⟨b, o, rfl, fun i hi => (hb.cell (p := ⟨b, o + i, none⟩) (ha ⟨b, o, none⟩ rfl)).trans (h i hi)⟩

set_option maxRecDepth 100000 in
theorem valid_range (w : World) (s t : ByteArray) :
    Calls Try.prog 12 #[.string s, .string t] w fun e w' => e = .returned (.bool (validB s.data.toList t.data.toList)) ∧ Below w.heap.size w w' := by
  have kc := fun (w : World) (s : ByteArray) => Lib.run_convert_string_bytes (P := Try.prog) w 9 47 5 s Try.underlying9 Try.underlying47 Try.underlying5
  have b1 := bytesWorld_below w 5 s
  have b2 := bytesWorld_below (bytesWorld w 5 s) 5 t
  have r2 := bytesWorld_row (bytesWorld w 5 s) 5 t
  have r1 := (bytesWorld_row w 5 s).below b2 (fun x hx => by cases hx; rw [bytesWorld_size]; simp)
  have hb : Below w.heap.size w (bytesWorld (bytesWorld w 5 s) 5 t) := b1.trans (b2.mono (by rw [bytesWorld_size]; omega))
  have hc := is_valid _ _ _ (grownCap w s.size 0 5) (grownCap (bytesWorld w 5 s) t.size 0 5) _ _ r1 r2
  have e1 : s.data.toList.length = s.size := by simp
  have e2 : t.data.toList.length = t.size := by simp
  rw [e1, e2] at hc
  have H := Lib.hid hc
  have HB := Lib.hid hb
  clear hc hb b1 b2 r1 r2 e1 e2
  go_enter Try.func12, Try.ntmps12
  go_wp2_with (first | (go_at_call 33; go_in) | (go_at_call 54; refine H.out.mono ?_; rintro e w' ⟨rfl, rfl⟩))
  go_ret
  exact ⟨rfl, HB.out⟩

theorem compare_less : ∀ (xs ys : List UInt8), (compareBytes xs ys == -1) = Op.bytesLess xs ys
  | [], [] => rfl
  | [], _ :: _ => rfl
  | _ :: _, [] => rfl
  | a :: xs, b :: ys => by
    have ih := compare_less xs ys
    unfold compareBytes Op.bytesLess
    by_cases h : a < b
    · simp [h]
    · by_cases h' : b < a
      · have : ¬ (a = b) := fun e => by subst e; exact h h'
        simp [h, h', this]
      · have e : a = b := by
          apply UInt8.le_antisymm
          · exact UInt8.not_lt.1 h'
          · exact UInt8.not_lt.1 h
        subst e
        simp [h, ih]

/-- what spec.ValidRange says -/
def specB (xs ys : List UInt8) : Bool := !xs.isEmpty && (ys.isEmpty || (ys == [0]) || Op.bytesLess xs ys)

theorem isOpen_eq (ys : List UInt8) : isOpen ys = (ys == [0]) := by
  match ys with
  | [] => rfl
  | [x] =>
    unfold isOpen
    rw [Bool.eq_iff_iff]
    simp
    constructor
    · intro h; exact UInt8.toNat.inj (by simpa using h)
    · rintro rfl; rfl
  | x :: y :: l => simp [isOpen]

theorem valid_spec (xs ys : List UInt8) : validB xs ys = specB xs ys := by
  unfold validB specB affine
  rw [isOpen_eq]
  cases xs with
  | nil => rfl
  | cons x xs =>
    cases ys with
    | nil => rfl
    | cons y ys =>
      simp only [reduceCtorEq, if_false, compare_less]
      simp
      rw [Bool.or_comm]

set_option maxRecDepth 100000 in
theorem spec_valid (w : World) (s t : ByteArray) :
    Calls Try.prog 13 #[.string s, .string t] w fun e w' => e = .returned (.bool (specB s.data.toList t.data.toList)) ∧ w = w' := by
  rw [← ByteArray.toList_eq, ← ByteArray.toList_eq]
  have key : specB s.toList t.toList = (!s.toList.isEmpty && (t.toList.isEmpty || t.toList == [0] || Op.bytesLess s.toList t.toList)) := rfl
  by_cases h1 : s.toList = []
  · have hv : specB s.toList t.toList = false := by rw [key, h1]; rfl
    rw [hv]; clear key hv
    go_enter Try.func13, Try.ntmps13
    go_wp2
    go_ret
    exact ⟨rfl, rfl⟩
  · by_cases h2 : t.toList = []
    · have hv : specB s.toList t.toList = true := by rw [key, h2]; simp [h1]
      rw [hv]; clear key hv
      go_enter Try.func13, Try.ntmps13
      go_wp2
      go_ret
      exact ⟨by simp [h1], rfl⟩
    · by_cases h3 : t.toList = [0]
      · have hv : specB s.toList t.toList = true := by rw [key, h3]; simp [h1]
        rw [hv]; clear key hv
        go_enter Try.func13, Try.ntmps13
        go_wp2
        go_ret
        exact ⟨by simp [h1], rfl⟩
      · rw [key]; clear key
        go_enter Try.func13, Try.ntmps13
        go_wp2
        go_ret
        exact ⟨rfl, rfl⟩

theorem validB_const : validB [97] [98] = true := by decide +kernel

set_option maxRecDepth 100000 in
theorem law (w : World) (s t : ByteArray) :
    Calls Try.prog 4 #[.string s, .string t] w fun e w' => e = .returned (.bool true) ∧ Below w.heap.size w w' := by
  have H1 := Lib.hid (fun w => valid_range w s t)
  have H2 := Lib.hid (fun w => spec_valid w s t)
  have H3 := Lib.hid (fun w => valid_range w ⟨#[97]⟩ ⟨#[98]⟩)
  have E := Lib.hid (valid_spec s.data.toList t.data.toList)
  by_cases h1 : s.size > 1000 ∨ t.size > 1000
  · go_enter Try.func4, Try.ntmps4
    go_wp2_with fail
    all_goals (first | (exfalso; omega) | (go_ret; exact ⟨rfl, Below.refl _ _⟩))
  · have h2 : s.size ≤ 1000 := by omega
    have h3 : t.size ≤ 1000 := by omega
    clear h1
    go_enter Try.func4, Try.ntmps4
    go_wp2_with fail
    refine (H1.out _).mono ?_
    rintro e w1 ⟨rfl, hb⟩
    go_wp2_with fail
    refine (H2.out _).mono ?_
    rintro e w2 ⟨rfl, rfl⟩
    rw [E.out]
    go_wp2_with fail
    refine (H3.out _).mono ?_
    rintro e w2 ⟨rfl, hb2⟩
    rw [validB_const]
    go_wp2_with fail
    go_ret
    exact ⟨rfl, hb.trans (hb2.mono hb.size)⟩
end Go.Proofs.Ytibopfemknnocaa.Vr
