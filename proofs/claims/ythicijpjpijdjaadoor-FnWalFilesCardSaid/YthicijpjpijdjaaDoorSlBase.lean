import Derived.Test.YthicijpjpijdjaaDoorSlDraw
import Derived.WalkKit
import Derived.Orders
import Derived.OrdersHeld
import Derived.RegionTactic
import Derived.Below
import Derived.Deep.MidRow
import Derived.Deep.AppendSrc
import Derived.Deep.RegionHeld
import Derived.Laws.MakeOwn
import Derived.Laws.CopyRow
namespace Go.Proofs.YthicijpjpijdjaaDoor.Sl
open Go.RowKit
set_option linter.unusedVariables false

/-! ## memory in parts: what is said of blocks that one owns (s) and of blocks that nobody writes any more (r) -/
structure HProp where
  p : (Nat → Prop) → (Nat → Prop) → Array Obj → Prop
  mono : ∀ (r r' s s' : Nat → Prop) (h h' : Array Obj), (∀ b, r b → r' b) → (∀ b, s b → s' b) → (∀ b, r b ∨ s b → h'[b]? = h[b]?) → p r s h → p r' s' h'

/-- a block of one's own -/
def Obk (b : Nat) (o : Obj) : HProp := ⟨fun _ s h => s b ∧ h[b]? = some o, fun _ _ _ _ _ _ _ hs ha ⟨h1, h2⟩ => ⟨hs _ h1, (ha b (.inr h1)).trans h2⟩⟩
/-- a row of cells of one's own -/
def Blk (b : Nat) (C : List Value) (T : TypeId) : HProp := ⟨fun _ s h => s b ∧ ∃ fr : Nat × Nat, h[b]? = some (.cells C.toArray T fr) ∧ ∀ i, i < C.length → ¬ (fr.1 ≤ i ∧ i < fr.2),
  fun _ _ _ _ _ _ _ hs ha ⟨h1, fr, h2, h3⟩ => ⟨hs _ h1, fr, (ha b (.inr h1)).trans h2, h3⟩⟩
/-- a map of one's own -/
def Mpk (b : Nat) (es : Array MapEntry) (clock : Nat) : HProp := Obk b (.map es clock)
def Pure (φ : Prop) : HProp := ⟨fun _ _ _ => φ, fun _ _ _ _ _ _ _ _ _ h => h⟩
def Ex {α : Type} (f : α → HProp) : HProp := ⟨fun r s h => ∃ x, (f x).p r s h, fun _ _ _ _ _ _ hr hs ha ⟨x, hx⟩ => ⟨x, (f x).mono _ _ _ _ _ _ hr hs ha hx⟩⟩
/-- what stays for good -/
def Ro (A : HProp) : HProp := ⟨fun r _ h => ∃ s0, (∀ b, s0 b → r b) ∧ A.p r s0 h, fun _ _ _ _ _ _ hr _ ha ⟨s0, h0, hx⟩ =>
  ⟨s0, fun b hb => hr b (h0 b hb), A.mono _ _ _ _ _ _ hr (fun _ h => h) (fun b hb => ha b (.inl (hb.elim id (h0 b)))) hx⟩⟩
/-- all that was there at W, as it was -/
def Old (W : World) : HProp := ⟨fun r _ h => ∀ b, b < W.heap.size → r b ∧ h[b]? = W.heap[b]?, fun _ _ _ _ _ _ hr _ ha h b hb => ⟨hr b (h b hb).1, (ha b (.inl (h b hb).1)).trans (h b hb).2⟩⟩

def parts : List HProp → (Nat → Prop) → (Nat → Prop) → Array Obj → Prop
  | [], _, _, _ => True
  | A :: L, r, s, h => ∃ s1 s2 : Nat → Prop, (∀ b, s1 b → s b) ∧ (∀ b, s2 b → s b) ∧ (∀ b, s1 b → ¬ s2 b) ∧ A.p r s1 h ∧ parts L r s2 h
theorem parts_mono : ∀ (L : List HProp) (r r' s s' : Nat → Prop) (h h' : Array Obj), (∀ b, r b → r' b) → (∀ b, s b → s' b) → (∀ b, r b ∨ s b → h'[b]? = h[b]?) → parts L r s h → parts L r' s' h'
  | [], _, _, _, _, _, _, _, _, _, _ => True.intro
  | A :: L, _, _, _, _, _, _, hr, hs, ha, ⟨s1, s2, h1, h2, hd, hA, hL⟩ =>
    ⟨s1, s2, fun b hb => hs b (h1 b hb), fun b hb => hs b (h2 b hb), hd, A.mono _ _ _ _ _ _ hr (fun _ h => h) (fun b hb => ha b (hb.imp id (h1 b))) hA,
      parts_mono L _ _ _ _ _ _ hr (fun _ h => h) (fun b hb => ha b (hb.imp id (h2 b))) hL⟩
def Sep (L : List HProp) : HProp := ⟨parts L, parts_mono L⟩

theorem parts_append : ∀ (L M : List HProp) (r s : Nat → Prop) (h : Array Obj), parts (L ++ M) r s h ↔ ∃ s1 s2 : Nat → Prop, (∀ b, s1 b → s b) ∧ (∀ b, s2 b → s b) ∧ (∀ b, s1 b → ¬ s2 b) ∧ parts L r s1 h ∧ parts M r s2 h
  | [], M, r, s, h => ⟨fun hM => ⟨fun _ => False, s, fun _ h => h.elim, fun _ h => h, fun _ h => h.elim, True.intro, hM⟩, fun ⟨_, _, _, h2, _, _, hM⟩ => parts_mono M _ _ _ _ _ _ (fun _ h => h) h2 (fun _ _ => rfl) hM⟩
  | A :: L, M, r, s, h => by
    constructor
    · rintro ⟨s1, s2, h1, h2, hd, hA, hr⟩
      obtain ⟨t1, t2, k1, k2, kd, hL, hM⟩ := (parts_append L M r s2 h).1 hr
      refine ⟨fun b => s1 b ∨ t1 b, t2, fun b hb => hb.elim (h1 b) (fun x => h2 b (k1 b x)), fun b hb => h2 b (k2 b hb), fun b hb hb2 => hb.elim (fun x => hd b x (k2 b hb2)) (fun x => kd b x hb2), ⟨s1, t1, fun _ h => .inl h, fun _ h => .inr h, fun b hb hb2 => hd b hb (k1 b hb2), hA, hL⟩, hM⟩
    · rintro ⟨s1, s2, h1, h2, hd, ⟨t1, t2, k1, k2, kd, hA, hL⟩, hM⟩
      refine ⟨t1, fun b => t2 b ∨ s2 b, fun b hb => h1 b (k1 b hb), fun b hb => hb.elim (fun x => h1 b (k2 b x)) (h2 b), fun b hb hb2 => hb2.elim (fun x => kd b hb x) (fun x => hd b (k1 b hb) x), hA, ?_⟩
      exact (parts_append L M r _ h).2 ⟨t2, s2, fun _ h => .inl h, fun _ h => .inr h, fun b hb hb2 => hd b (k2 b hb) hb2, hL, hM⟩

theorem parts_perm {L M : List HProp} (hp : L.Perm M) : ∀ (r s : Nat → Prop) (h : Array Obj), parts L r s h → parts M r s h := by
  induction hp with
  | nil => exact fun _ _ _ h => h
  | cons A _ ih => rintro r s h ⟨s1, s2, h1, h2, hd, hA, hL⟩; exact ⟨s1, s2, h1, h2, hd, hA, ih _ _ _ hL⟩
  | swap A B L =>
    rintro r s h ⟨s1, s2, h1, h2, hd, hA, t1, t2, k1, k2, kd, hB, hL⟩
    exact ⟨t1, fun b => s1 b ∨ t2 b, fun b hb => h2 b (k1 b hb), fun b hb => hb.elim (h1 b) (fun x => h2 b (k2 b x)), fun b hb hb2 => hb2.elim (fun x => hd b x (k1 b hb)) (kd b hb), hB,
      s1, t2, fun _ h => .inl h, fun _ h => .inr h, fun b hb hb2 => hd b hb (k2 b hb2), hA, hL⟩
  | trans _ _ i1 i2 => exact fun r s h hh => i2 r s h (i1 r s h hh)

/-- The world w: what L says, and the streams as at W. -/
structure Sat (W : World) (L : List HProp) (w : World) : Prop where
  os : w.os = W.os
  tape : w.tape = W.tape
  output : w.output = W.output
  mem : ∃ r s : Nat → Prop, (∀ b, r b → ¬ s b) ∧ (∀ b, r b ∨ s b → b < w.heap.size) ∧ parts L r s w.heap

theorem Sat.perm {W w : World} {L M : List HProp} (h : Sat W L w) (hp : L.Perm M) : Sat W M w := by
  obtain ⟨r, s, hd, hlt, hm⟩ := h.mem
  exact ⟨h.os, h.tape, h.output, r, s, hd, hlt, parts_perm hp r s _ hm⟩
theorem Sat.drop {W w : World} {A : HProp} {L : List HProp} (h : Sat W (A :: L) w) : Sat W L w := by
  obtain ⟨r, s, hd, hlt, s1, s2, h1, h2, -, -, hL⟩ := h.mem
  exact ⟨h.os, h.tape, h.output, r, s, hd, hlt, parts_mono L _ _ _ _ _ _ (fun _ h => h) h2 (fun _ _ => rfl) hL⟩
theorem Sat.dropEnd {W w : World} {L M : List HProp} (h : Sat W (L ++ M) w) : Sat W L w := by
  obtain ⟨r, s, hd, hlt, hm⟩ := h.mem
  obtain ⟨s1, s2, h1, h2, -, hL, -⟩ := (parts_append L M r s _).1 hm
  exact ⟨h.os, h.tape, h.output, r, s, hd, hlt, parts_mono L _ _ _ _ _ _ (fun _ h => h) h1 (fun _ _ => rfl) hL⟩
/-- the head holds of the world -/
def Holds (A : HProp) (w : World) : Prop := ∃ r s : Nat → Prop, (∀ b, r b ∨ s b → b < w.heap.size) ∧ A.p r s w.heap
theorem Sat.head {W w : World} {A : HProp} {L : List HProp} (h : Sat W (A :: L) w) : Holds A w := by
  obtain ⟨r, s, hd, hlt, s1, s2, h1, h2, -, hA, -⟩ := h.mem
  exact ⟨r, s1, fun b hb => hlt b (hb.imp id (h1 b)), hA⟩
theorem Sat.at {W w : World} : ∀ {L : List HProp} {A : HProp} (i : Nat), L[i]? = some A → Sat W L w → Holds A w
  | _ :: _, _, 0, hi, h => by
    simp only [List.getElem?_cons_zero, Option.some.injEq] at hi
    subst hi
    exact h.head
  | _ :: _, _, i + 1, hi, h => Sat.at i (by simpa using hi) h.drop
theorem Holds.ro {A : HProp} {w : World} (h : Holds (Ro A) w) : Holds A w := by
  obtain ⟨r, s, hlt, s0, h0, hA⟩ := h
  exact ⟨r, s0, fun b hb => hlt b (.inl (hb.elim id (h0 b))), hA⟩
theorem Holds.obk {b : Nat} {o : Obj} {w : World} (h : Holds (Obk b o) w) : w.heap[b]? = some o := by obtain ⟨_, _, _, _, h⟩ := h; exact h
theorem Holds.blk {b : Nat} {C : List Value} {T : TypeId} {w : World} (h : Holds (Blk b C T) w) : ∃ fr : Nat × Nat, w.heap[b]? = some (.cells C.toArray T fr) ∧ ∀ i, i < C.length → ¬ (fr.1 ≤ i ∧ i < fr.2) := by obtain ⟨_, _, _, _, h⟩ := h; exact h
theorem Holds.cell {b : Nat} {C : List Value} {T : TypeId} {w : World} (h : Holds (Blk b C T) w) (i : Nat) : w.cell? ⟨b, i, none⟩ = C[i]? := by
  obtain ⟨fr, h1, h2⟩ := h.blk
  simp [World.cell?, h1]
theorem Holds.free {b : Nat} {C : List Value} {T : TypeId} {w : World} (h : Holds (Blk b C T) w) {i : Nat} (hi : i < C.length) : w.frozen? ⟨b, i, none⟩ = false := by
  obtain ⟨⟨lo, hi'⟩, h1, h2⟩ := h.blk
  have := h2 i hi
  simp only [World.frozen?, h1]
  rw [Bool.and_eq_false_iff]
  simp only [decide_eq_false_iff_not]
  omega
theorem Holds.old {W w : World} (h : Holds (Old W) w) : ∀ b, b < W.heap.size → w.heap[b]? = W.heap[b]? := by obtain ⟨_, _, _, h⟩ := h; exact fun b hb => (h b hb).2
theorem Holds.old_size {W w : World} (h : Holds (Old W) w) : W.heap.size ≤ w.heap.size := by
  obtain ⟨r, s, hlt, h⟩ := h
  cases hz : W.heap.size with
  | zero => omega
  | succ n => have := hlt n (.inl (h n (by omega)).1); omega
theorem Sat.start (W : World) : Sat W [Old W] W :=
  ⟨rfl, rfl, rfl, fun b => b < W.heap.size, fun _ => False, fun _ _ h => h, fun _ h => h.elim id False.elim, fun _ => False, fun _ => False, fun _ h => h, fun _ h => h, fun _ h => h.elim, fun _ hb => ⟨hb, rfl⟩, True.intro⟩
theorem Sat.below {W w : World} {L : List HProp} (h : Sat W (Old W :: L) w) : Below W.heap.size W w :=
  ⟨h.os, h.tape, h.output, h.head.old_size, fun k hk => h.head.old k hk⟩
theorem Sat.heap {W w w' : World} {L : List HProp} (h : Sat W L w) (ho : w'.os = w.os) (ht : w'.tape = w.tape) (hu : w'.output = w.output) (hh : w'.heap = w.heap) : Sat W L w' := by
  obtain ⟨r, s, hd, hlt, hm⟩ := h.mem
  exact ⟨ho.trans h.os, ht.trans h.tape, hu.trans h.output, r, s, hd, hh ▸ hlt, hh ▸ hm⟩
theorem Sat.drew {W w : World} {L : List HProp} (h : Sat W L w) : Sat W L w.drew := h.heap rfl rfl rfl rfl

/-- one part turns, the others stay -/
theorem Sat.upd {W w : World} {A A' : HProp} {L : List HProp} (h : Sat W (A :: L) w) (w' : World) (ho : w'.os = w.os) (ht : w'.tape = w.tape) (hu : w'.output = w.output) (hz : w.heap.size ≤ w'.heap.size)
    (hA : ∀ r s : Nat → Prop, (∀ b, r b → ¬ s b) → (∀ b, r b ∨ s b → b < w.heap.size) → A.p r s w.heap →
      ∃ s' : Nat → Prop, (∀ b, s' b → s b ∨ w.heap.size ≤ b) ∧ (∀ b, s' b → b < w'.heap.size) ∧ A'.p r s' w'.heap ∧ ∀ b, ¬ s b → b < w.heap.size → w'.heap[b]? = w.heap[b]?) : Sat W (A' :: L) w' := by
  obtain ⟨r, s, hd, hlt, s1, s2, h1, h2, hs, hA1, hL⟩ := h.mem
  obtain ⟨s', k1, k2, hA', hb⟩ := hA r s1 (fun b hr hs1 => hd b hr (h1 b hs1)) (fun b hb => hlt b (hb.imp id (h1 b))) hA1
  refine ⟨ho.trans h.os, ht.trans h.tape, hu.trans h.output, r, fun b => s' b ∨ s2 b, ?_, ?_, s', s2, fun _ h => .inl h, fun _ h => .inr h, ?_, hA', ?_⟩
  · intro b hr hb2
    rcases hb2 with hb2 | hb2
    · rcases k1 b hb2 with h | h
      · exact hd b hr (h1 b h)
      · have := hlt b (.inl hr); omega
    · exact hd b hr (h2 b hb2)
  · intro b hb2
    rcases hb2 with hr | hb2 | hb2
    · exact Nat.lt_of_lt_of_le (hlt b (.inl hr)) hz
    · exact k2 b hb2
    · exact Nat.lt_of_lt_of_le (hlt b (.inr (h2 b hb2))) hz
  · intro b hb2 hb3
    rcases k1 b hb2 with h | h
    · exact hs b h hb3
    · have := hlt b (.inr (h2 b hb3)); omega
  · refine parts_mono L _ _ _ _ _ _ (fun _ h => h) (fun _ h => h) ?_ hL
    intro b hb2
    rcases hb2 with hr | hb2
    · exact hb b (fun h => hd b hr (h1 b h)) (hlt b (.inl hr))
    · exact hb b (fun h => hs b h hb2) (hlt b (.inr (h2 b hb2)))
/-- a new block -/
theorem Sat.alloc {W w : World} {L : List HProp} (h : Sat W L w) (o : Obj) : Sat W (Obk w.heap.size o :: L) (w.alloc o) := by
  have h0 : Sat W (Pure True :: L) w := by
    obtain ⟨r, s, hd, hlt, hm⟩ := h.mem
    exact ⟨h.os, h.tape, h.output, r, s, hd, hlt, fun _ => False, s, fun _ h => h.elim, fun _ h => h, fun _ h => h.elim, True.intro, hm⟩
  refine h0.upd (w.alloc o) rfl rfl rfl (by simp) fun r s hd hlt _ => ⟨fun b => b = w.heap.size, fun b hb => .inr (by omega), fun b hb => by simp; omega, ⟨rfl, heap_alloc_new w o⟩, fun b _ hb => Below.heap_alloc w o b hb⟩
theorem Sat.imp {W w : World} {A B : HProp} {L : List HProp} (h : Sat W (A :: L) w) (hi : ∀ r s h, A.p r s h → B.p r s h) : Sat W (B :: L) w := by
  obtain ⟨r, s, hd, hlt, s1, s2, h1, h2, hs, hA, hL⟩ := h.mem
  exact ⟨h.os, h.tape, h.output, r, s, hd, hlt, s1, s2, h1, h2, hs, hi _ _ _ hA, hL⟩
theorem Sat.blk {W w : World} {L : List HProp} (h : Sat W L w) (C : List Value) (T : TypeId) : Sat W (Blk w.heap.size C T :: L) (w.alloc (.cells C.toArray T)) :=
  (h.alloc (.cells C.toArray T)).imp fun _ _ _ ⟨h1, h2⟩ => ⟨h1, (0, 0), h2, fun _ _ => by simp⟩
/-- the head's block is written -/
theorem Sat.write {W w : World} {b : Nat} {o o' : Obj} {L : List HProp} (h : Sat W (Obk b o :: L) w) (w' : World) (ho : w'.os = w.os) (ht : w'.tape = w.tape) (hu : w'.output = w.output)
    (hz : w'.heap.size = w.heap.size) (hb : w'.heap[b]? = some o') (hne : ∀ k, k ≠ b → w'.heap[k]? = w.heap[k]?) : Sat W (Obk b o' :: L) w' :=
  h.upd w' ho ht hu (by omega) fun r s hd hlt ⟨hs, hbo⟩ => ⟨s, fun _ h => .inl h, fun b hb => by have := hlt b (.inr hb); omega, ⟨hs, hb⟩, fun k hk _ => hne k (fun e => hk (e ▸ hs))⟩
theorem Sat.set {W w : World} {b i : Nat} {C : List Value} {T : TypeId} {L : List HProp} (h : Sat W (Blk b C T :: L) w) (v : Value) : Sat W (Blk b (C.set i v) T :: L) (w.setCell ⟨b, i, none⟩ v) :=
  h.upd _ rfl rfl rfl (by simp) fun r s hd hlt ⟨hs, fr, hb, hf⟩ => ⟨s, fun _ h => .inl h, fun b hb => by simp; exact hlt b (.inr hb), ⟨hs, fr, by simp [World.setCell, Array.getElem?_modify, hb], by simpa using hf⟩,
    fun k hk _ => heap_setCell_other w ⟨b, i, none⟩ k v (fun e => hk (by subst e; exact hs))⟩

theorem Sat.freeze {W w : World} {A : HProp} {L : List HProp} (h : Sat W (A :: L) w) : Sat W (Ro A :: L) w := by
  obtain ⟨r, s, hd, hlt, s1, s2, h1, h2, hs, hA, hL⟩ := h.mem
  refine ⟨h.os, h.tape, h.output, fun b => r b ∨ s1 b, s2, ?_, ?_, fun _ => False, s2, fun _ h => h.elim, fun _ h => h, fun _ h => h.elim, ⟨s1, fun _ h => .inr h, ?_⟩, ?_⟩
  · intro b hb hb2
    exact hb.elim (fun x => hd b x (h2 b hb2)) (fun x => hs b x hb2)
  · intro b hb
    rcases hb with (hb | hb) | hb
    · exact hlt b (.inl hb)
    · exact hlt b (.inr (h1 b hb))
    · exact hlt b (.inr (h2 b hb))
  · exact A.mono _ _ _ _ _ _ (fun _ h => .inl h) (fun _ h => h) (fun _ _ => rfl) hA
  · exact parts_mono L _ _ _ _ _ _ (fun _ h => .inl h) (fun _ h => h) (fun _ _ => rfl) hL
theorem Sat.ro_dup {W w : World} {A : HProp} {L : List HProp} (h : Sat W (Ro A :: L) w) : Sat W (Ro A :: Ro A :: L) w := by
  obtain ⟨r, s, hd, hlt, s1, s2, h1, h2, hs, hA, hL⟩ := h.mem
  exact ⟨h.os, h.tape, h.output, r, s, hd, hlt, fun _ => False, s, fun _ h => h.elim, fun _ h => h, fun _ h => h.elim, hA, s1, s2, h1, h2, hs, hA, hL⟩
theorem Sat.old_dup {W W0 w : World} {L : List HProp} (h : Sat W (Old W0 :: L) w) : Sat W (Old W0 :: Old W0 :: L) w := by
  obtain ⟨r, s, hd, hlt, s1, s2, h1, h2, hs, hA, hL⟩ := h.mem
  exact ⟨h.os, h.tape, h.output, r, s, hd, hlt, fun _ => False, s, fun _ h => h.elim, fun _ h => h, fun _ h => h.elim, hA, s1, s2, h1, h2, hs, hA, hL⟩
theorem Sat.ex {W w : World} {α : Type} {f : α → HProp} {L : List HProp} (h : Sat W (Ex f :: L) w) : ∃ x, Sat W (f x :: L) w := by
  obtain ⟨r, s, hd, hlt, s1, s2, h1, h2, hs, ⟨x, hA⟩, hL⟩ := h.mem
  exact ⟨x, h.os, h.tape, h.output, r, s, hd, hlt, s1, s2, h1, h2, hs, hA, hL⟩
theorem Sat.ex_mk {W w : World} {α : Type} {f : α → HProp} {L : List HProp} (x : α) (h : Sat W (f x :: L) w) : Sat W (Ex f :: L) w := h.imp fun _ _ _ h => ⟨x, h⟩
theorem Sat.pure {W w : World} {φ : Prop} {L : List HProp} (h : Sat W (Pure φ :: L) w) : φ := by obtain ⟨r, s, hd, hlt, s1, s2, h1, h2, hs, hA, hL⟩ := h.mem; exact hA
theorem Sat.pure_mk {W w : World} {φ : Prop} {L : List HProp} (hφ : φ) (h : Sat W L w) : Sat W (Pure φ :: L) w := by
  obtain ⟨r, s, hd, hlt, hm⟩ := h.mem
  exact ⟨h.os, h.tape, h.output, r, s, hd, hlt, fun _ => False, s, fun _ h => h.elim, fun _ h => h, fun _ h => h.elim, hφ, hm⟩
theorem Sat.sep {W w : World} {M L : List HProp} (h : Sat W (Sep M :: L) w) : Sat W (M ++ L) w := by
  obtain ⟨r, s, hd, hlt, s1, s2, h1, h2, hs, hA, hL⟩ := h.mem
  exact ⟨h.os, h.tape, h.output, r, s, hd, hlt, (parts_append M L r s _).2 ⟨s1, s2, h1, h2, hs, hA, hL⟩⟩
theorem Sat.sep_mk {W w : World} {M L : List HProp} (h : Sat W (M ++ L) w) : Sat W (Sep M :: L) w := by
  obtain ⟨r, s, hd, hlt, hm⟩ := h.mem
  obtain ⟨s1, s2, h1, h2, hs, hA, hL⟩ := (parts_append M L r s _).1 hm
  exact ⟨h.os, h.tape, h.output, r, s, hd, hlt, s1, s2, h1, h2, hs, hA, hL⟩
theorem Sat.apart {W w : World} {b : Nat} {C : List Value} {T : TypeId} {b' : Nat} {C' : List Value} {T' : TypeId} {L : List HProp} (h : Sat W (Blk b C T :: Blk b' C' T' :: L) w) : b ≠ b' := by
  obtain ⟨r, s, hd, hlt, s1, s2, h1, h2, hs, hA, t1, t2, k1, k2, kd, hB, hL⟩ := h.mem
  intro e; subst e
  exact hs b hA.1 (k1 b hB.1)
theorem Ro.imp {A B : HProp} (hi : ∀ r s h, A.p r s h → B.p r s h) : ∀ r s h, (Ro A).p r s h → (Ro B).p r s h := fun _ _ _ ⟨s0, h0, hA⟩ => ⟨s0, h0, hi _ _ _ hA⟩
theorem Ro.of_ex {α : Type} {f : α → HProp} : ∀ r s h, (Ro (Ex f)).p r s h → (Ex fun x => Ro (f x)).p r s h := fun _ _ _ ⟨s0, h0, x, hA⟩ => ⟨x, s0, h0, hA⟩
theorem Ro.of_pure {φ : Prop} : ∀ r s h, (Ro (Pure φ)).p r s h → φ := fun _ _ _ ⟨_, _, hA⟩ => hA
theorem Ro.of_sep : ∀ (L : List HProp) (r s : Nat → Prop) (h : Array Obj), (Ro (Sep L)).p r s h → (Sep (L.map Ro)).p r s h
  | [], _, _, _, _ => True.intro
  | A :: L, r, s, h, ⟨s0, h0, s1, s2, h1, h2, hd, hA, hL⟩ =>
    ⟨fun _ => False, s, fun _ h => h.elim, fun _ h => h, fun _ h => h.elim, ⟨s1, fun b hb => h0 b (h1 b hb), hA⟩, Ro.of_sep L r s h ⟨s2, fun b hb => h0 b (h2 b hb), hL⟩⟩

/-! ## the frame -/
def look : List (Nat × Value) → Nat → Option Value
  | [], _ => none
  | (t', v) :: l, t => match Nat.beq t' t with | true => some v | false => look l t
/-- the calls that the frame has deferred so far: none, unless a local one of this class says so -/
class Dfs where
  ds : List Deferred
instance (priority := 10) Dfs.none : Dfs := ⟨[]⟩
structure Fr [D : Dfs] (n : Nat) (a : Act) (l : List (Nat × Value)) : Prop where
  size : a.tmps.size = n
  defers : a.defers = D.ds
  at_ : ∀ t v, look l t = some v → a.tmps.getD t undef = v
def ev (l : List (Nat × Value)) : Operand → Option Value
  | .tmp t => look l t
  | .const v => some v
  | .global g => some (.pointer (some ⟨g, 0, none⟩))
  | .func f => some (.func (.func f) #[] #[])
section DfsOf
variable [Dfs]
theorem Fr.ev {n : Nat} {a : Act} {l : List (Nat × Value)} (h : Fr n a l) {x : Operand} {v : Value} (hx : ev l x = some v) : a.eval x = v := by
  cases x with
  | tmp t => exact h.at_ t v hx
  | const c => exact Option.some.inj hx
  | global g => exact Option.some.inj hx
  | func f => exact Option.some.inj hx
omit [Dfs] in
theorem look_cons {t t' : Nat} {v : Value} {l : List (Nat × Value)} : look ((t', v) :: l) t = if t' = t then some v else look l t := by
  show (match Nat.beq t' t with | true => some v | false => look l t) = _
  by_cases h : t' = t
  · subst h; simp
  · have : Nat.beq t' t = false := Bool.eq_false_iff.2 (fun e => h (Nat.eq_of_beq_eq_true e))
    rw [this, if_neg h]
theorem Fr.put {n : Nat} {a : Act} {l : List (Nat × Value)} (h : Fr n a l) {d : Nat} (hd : d < n) (v : Value) : Fr n (a.put (some d) v) ((d, v) :: l) := by
  refine ⟨by simp [Act.put, h.size], h.defers, fun t u hu => ?_⟩
  rw [look_cons] at hu
  have hlt : d < a.tmps.size := by rw [h.size]; exact hd
  by_cases e : d = t
  · subst e
    simp only [if_true, Option.some.injEq] at hu
    subst hu
    simp [Act.put, hlt]
  · rw [if_neg e] at hu
    rw [← h.at_ t u hu]
    simp [Act.put, Array.getElem?_setIfInBounds_ne e]
theorem Fr.put_none {n : Nat} {a : Act} {l : List (Nat × Value)} (h : Fr n a l) (v : Value) : Fr n (a.put none v) l := h
def Sub (l l' : List (Nat × Value)) : Prop := ∀ t v, look l' t = some v → look l t = some v
omit [Dfs] in
theorem Sub.nil {l : List (Nat × Value)} : Sub l [] := fun _ _ h => by cases h
omit [Dfs] in
theorem Sub.cons {l l' : List (Nat × Value)} {t : Nat} {v : Value} (h : look l t = some v) (hs : Sub l l') : Sub l ((t, v) :: l') := fun t' v' h' => by
  rw [look_cons] at h'
  by_cases e : t = t'
  · subst e; simp only [if_true] at h'; exact h' ▸ h
  · rw [if_neg e] at h'; exact hs _ _ h'
theorem Fr.sub {n : Nat} {a : Act} {l l' : List (Nat × Value)} (h : Fr n a l) (hs : Sub l l') : Fr n a l' := ⟨h.size, h.defers, fun t v hv => h.at_ t v (hs t v hv)⟩

/-! ## what is to be shown of a piece of code -/
section
variable (P : Program) (W : World)
def WP (ops : Array Oper) (Q : Exit → Act → World → Prop) (rest : List Oper) (n : Nat) (l : List (Nat × Value)) (L : List HProp) : Prop :=
  ∀ a w, Fr n a l → Sat W L w → wpList P ops Q rest a w
def WPc (c : Code) (Q : Exit → Act → World → Prop) (n : Nat) (l : List (Nat × Value)) (L : List HProp) : Prop :=
  ∀ a w, Fr n a l → Sat W L w → c.wp P Q a w
def Out (Q : Exit → Act → World → Prop) (e : Exit) (n : Nat) (l : List (Nat × Value)) (L : List HProp) : Prop :=
  ∀ a w, Fr n a l → Sat W L w → Q e a w
def WPD (ops : Array Oper) (Q : Exit → Act → World → Prop) (S : World → Prop) (fuel : Nat) (listed : Array Bool) (n : Nat) (l : List (Nat × Value)) (L : List HProp) : Prop :=
  ∀ a w, Fr n a l → Sat W L w → wpF P ops Q fuel S listed a w
/-- an operation that yields v and turns nothing -/
def Val (n : Nat) (l : List (Nat × Value)) (G : World → Prop) (o : Oper) (v : Value) : Prop :=
  ∀ a w, Fr n a l → G w → (execOp a.eval o).run P w = .ok (.value v) w
/-- an operation that yields some v, and makes L' out of L -/
def Eff (Q : Exit → Act → World → Prop) (n : Nat) (l : List (Nat × Value)) (L : List HProp) (o : Oper) (R : Value → List HProp → Prop) : Prop :=
  ∀ a w, Fr n a l → Sat W L w → ∀ K : Act → World → Prop, (∀ v L' w', R v L' → Sat W L' w' → K (a.put o.dst v) w') → o.wp P a w K Q
end

section
variable {P : Program} {W : World} {ops : Array Oper} {Q : Exit → Act → World → Prop} {rest : List Oper} {n : Nat} {l : List (Nat × Value)} {L : List HProp} {o : Oper}

theorem WP.nil (h : Out W Q .normal n l L) : WP P W ops Q [] n l L := h
theorem WP.val {d : Tmp} {v : Value} (hg : o.guard = none) (hd : o.dst = some d) (hlt : Nat.ble (d + 1) n = true) (hv : Val P n l (Sat W L) o v) (h : WP P W ops Q rest n ((d, v) :: l) L) : WP P W ops Q (o :: rest) n l L := by
  intro a w hf hs
  refine wpList_plain hg fun K hK => ?_
  unfold Oper.wp
  rw [hv a w hf hs, Oper.upon_value, hd]
  exact hK _ _ (h _ _ (hf.put (Nat.le_of_ble_eq_true hlt) v) hs)
theorem WP.eff {d : Tmp} {R : Value → List HProp → Prop} (hg : o.guard = none) (hd : o.dst = some d) (hlt : Nat.ble (d + 1) n = true) (he : Eff P W Q n l L o R)
    (h : ∀ v L', R v L' → WP P W ops Q rest n ((d, v) :: l) L') : WP P W ops Q (o :: rest) n l L := by
  intro a w hf hs
  refine wpList_plain hg fun K hK => he a w hf hs K fun v L' w' hR hs' => ?_
  rw [hd]
  exact hK _ _ (h v L' hR _ _ (hf.put (Nat.le_of_ble_eq_true hlt) v) hs')
theorem WP.eff0 {R : Value → List HProp → Prop} (hg : o.guard = none) (hd : o.dst = none) (he : Eff P W Q n l L o R)
    (h : ∀ v L', R v L' → WP P W ops Q rest n l L') : WP P W ops Q (o :: rest) n l L := by
  intro a w hf hs
  refine wpList_plain hg fun K hK => he a w hf hs K fun v L' w' hR hs' => ?_
  rw [hd]
  exact hK _ _ (h v L' hR _ _ hf hs')

/-! guards -/
def slotAt (ops : Array Oper) (i : Nat) : Option Tmp := (ops[i]?).bind (·.dst)
theorem wanted_of {a : Act} {g : Nat} {want : Bool} {t : Tmp} {b : Bool} (hg : o.guard = some (g, want)) (ht : slotAt ops g = some t) (hn : Nat.ble (t + 1) n = true) (hf : Fr n a l) (hb : look l t = some (.bool b)) :
    Region.wanted o (yielded ops a.tmps) = (b == want) := by
  have h := hf.at_ t _ hb
  have hlt : t < a.tmps.size := by rw [hf.size]; exact Nat.le_of_ble_eq_true hn
  unfold slotAt at ht
  simp only [Region.wanted, hg, yielded, ht, Option.bind_some]
  have : a.tmps[t]? = some (.bool b) := by
    rw [Array.getElem?_eq_getElem hlt]
    simpa [hlt] using h
  rw [this]
  cases b <;> cases want <;> rfl
theorem wanted_undef {a : Act} {g : Nat} {want : Bool} {t : Tmp} (hg : o.guard = some (g, want)) (ht : slotAt ops g = some t) (hn : Nat.ble (t + 1) n = true) (hf : Fr n a l) (hb : look l t = some undef) : Region.wanted o (yielded ops a.tmps) = false := by
  have h := hf.at_ t _ hb
  have hlt : t < a.tmps.size := by rw [hf.size]; exact Nat.le_of_ble_eq_true hn
  unfold slotAt at ht
  simp only [Region.wanted, hg, yielded, ht, Option.bind_some]
  have : a.tmps[t]? = some undef := by
    rw [Array.getElem?_eq_getElem hlt]
    simpa [hlt] using h
  rw [this]
  cases want <;> rfl
theorem WP.skipU {d : Tmp} {g : Nat} {want : Bool} {t : Tmp} (hg : o.guard = some (g, want)) (ht : slotAt ops g = some t) (hn : Nat.ble (t + 1) n = true) (hb : look l t = some undef)
    (hd : o.dst = some d) (hlt : Nat.ble (d + 1) n = true) (h : WP P W ops Q rest n ((d, undef) :: l) L) : WP P W ops Q (o :: rest) n l L := by
  intro a w hf hs
  refine wpList_step fun K hK => ?_
  rw [wanted_undef hg ht hn hf hb, hd]
  exact hK _ _ (h _ _ (hf.put (Nat.le_of_ble_eq_true hlt) _) hs)
theorem WP.skip {d : Tmp} {g : Nat} {want : Bool} {t : Tmp} {b : Bool} (hg : o.guard = some (g, want)) (ht : slotAt ops g = some t) (hn : Nat.ble (t + 1) n = true) (hb : look l t = some (.bool b)) (hne : (b == want) = false)
    (hd : o.dst = some d) (hlt : Nat.ble (d + 1) n = true) (h : WP P W ops Q rest n ((d, undef) :: l) L) : WP P W ops Q (o :: rest) n l L := by
  intro a w hf hs
  refine wpList_step fun K hK => ?_
  rw [wanted_of hg ht hn hf hb, hne, hd]
  exact hK _ _ (h _ _ (hf.put (Nat.le_of_ble_eq_true hlt) _) hs)
theorem WP.skip0 {g : Nat} {want : Bool} {t : Tmp} {b : Bool} (hg : o.guard = some (g, want)) (ht : slotAt ops g = some t) (hn : Nat.ble (t + 1) n = true) (hb : look l t = some (.bool b)) (hne : (b == want) = false)
    (hd : o.dst = none) (h : WP P W ops Q rest n l L) : WP P W ops Q (o :: rest) n l L := by
  intro a w hf hs
  refine wpList_step fun K hK => ?_
  rw [wanted_of hg ht hn hf hb, hne, hd]
  exact hK _ _ (h _ _ hf hs)
theorem WP.valG {d : Tmp} {v : Value} {g : Nat} {want : Bool} {t : Tmp} {b : Bool} (hg : o.guard = some (g, want)) (ht : slotAt ops g = some t) (hn : Nat.ble (t + 1) n = true) (hb : look l t = some (.bool b)) (hne : (b == want) = true)
    (hd : o.dst = some d) (hlt : Nat.ble (d + 1) n = true) (hv : Val P n l (Sat W L) o v) (h : WP P W ops Q rest n ((d, v) :: l) L) : WP P W ops Q (o :: rest) n l L := by
  intro a w hf hs
  refine wpList_step fun K hK => ?_
  rw [wanted_of hg ht hn hf hb, hne]
  show Oper.wp P o a w K Q
  unfold Oper.wp
  rw [hv a w hf hs, Oper.upon_value, hd]
  exact hK _ _ (h _ _ (hf.put (Nat.le_of_ble_eq_true hlt) v) hs)
theorem WP.effG {d : Tmp} {R : Value → List HProp → Prop} {g : Nat} {want : Bool} {t : Tmp} {b : Bool} (hg : o.guard = some (g, want)) (ht : slotAt ops g = some t) (hn : Nat.ble (t + 1) n = true) (hb : look l t = some (.bool b)) (hne : (b == want) = true)
    (hd : o.dst = some d) (hlt : Nat.ble (d + 1) n = true) (he : Eff P W Q n l L o R) (h : ∀ v L', R v L' → WP P W ops Q rest n ((d, v) :: l) L') : WP P W ops Q (o :: rest) n l L := by
  intro a w hf hs
  refine wpList_step fun K hK => ?_
  rw [wanted_of hg ht hn hf hb, hne]
  refine he a w hf hs K fun v L' w' hR hs' => ?_
  rw [hd]
  exact hK _ _ (h v L' hR _ _ (hf.put (Nat.le_of_ble_eq_true hlt) v) hs')

/-! the parts in another order -/
theorem WP.perm {M : List HProp} (hp : L.Perm M) (h : WP P W ops Q rest n l M) : WP P W ops Q rest n l L := fun a w hf hs => h a w hf (hs.perm hp)
theorem WP.conv {M : List HProp} (hi : ∀ w, Sat W L w → Sat W M w) (h : WP P W ops Q rest n l M) : WP P W ops Q rest n l L := fun a w hf hs => h a w hf (hi w hs)
theorem WP.ex {α : Type} {f : α → HProp} (h : ∀ x, WP P W ops Q rest n l (f x :: L)) : WP P W ops Q rest n l (Ex f :: L) := fun a w hf hs => let ⟨x, hx⟩ := hs.ex; h x a w hf hx
theorem WP.pure {φ : Prop} (h : φ → WP P W ops Q rest n l L) : WP P W ops Q rest n l (Pure φ :: L) := fun a w hf hs => h hs.pure a w hf hs.drop
theorem WP.fact {φ : Prop} (hi : ∀ w, Sat W L w → φ) (h : φ → WP P W ops Q rest n l L) : WP P W ops Q rest n l L := fun a w hf hs => h (hi w hs) a w hf hs
theorem WPD.pure {S : World → Prop} {fuel : Nat} {listed : Array Bool} {φ : Prop} (h : φ → WPD P W ops Q S fuel listed n l L) : WPD P W ops Q S fuel listed n l (Pure φ :: L) := fun a w hf hs => h hs.pure a w hf hs.drop
theorem WPc.perm {c : Code} {M : List HProp} (hp : L.Perm M) (h : WPc P W c Q n l M) : WPc P W c Q n l L := fun a w hf hs => h a w hf (hs.perm hp)
theorem WPc.conv {c : Code} {M : List HProp} (hi : ∀ w, Sat W L w → Sat W M w) (h : WPc P W c Q n l M) : WPc P W c Q n l L := fun a w hf hs => h a w hf (hi w hs)
theorem WPc.sub {c : Code} {l' : List (Nat × Value)} (hl : Sub l l') (h : WPc P W c Q n l' L) : WPc P W c Q n l L := fun a w hf hs => h a w (hf.sub hl) hs
theorem WPc.ex {c : Code} {α : Type} {f : α → HProp} (h : ∀ x, WPc P W c Q n l (f x :: L)) : WPc P W c Q n l (Ex f :: L) := fun a w hf hs => let ⟨x, hx⟩ := hs.ex; h x a w hf hx
theorem WPc.pure {c : Code} {φ : Prop} (h : φ → WPc P W c Q n l L) : WPc P W c Q n l (Pure φ :: L) := fun a w hf hs => h hs.pure a w hf hs.drop
theorem WPc.fact {c : Code} {φ : Prop} (hi : ∀ w, Sat W L w → φ) (h : φ → WPc P W c Q n l L) : WPc P W c Q n l L := fun a w hf hs => h (hi w hs) a w hf hs
theorem Out.conv {e : Exit} {M : List HProp} (hi : ∀ w, Sat W L w → Sat W M w) (h : Out W Q e n l M) : Out W Q e n l L := fun a w hf hs => h a w hf (hi w hs)
theorem Out.perm {e : Exit} {M : List HProp} (hp : L.Perm M) (h : Out W Q e n l M) : Out W Q e n l L := fun a w hf hs => h a w hf (hs.perm hp)
theorem Out.fact {e : Exit} {φ : Prop} (hi : ∀ w, Sat W L w → φ) (h : φ → Out W Q e n l L) : Out W Q e n l L := fun a w hf hs => h (hi w hs) a w hf hs
theorem WPD.conv {S : World → Prop} {M : List HProp} {fuel : Nat} {listed : Array Bool} (hi : ∀ w, Sat W L w → Sat W M w) (h : WPD P W ops Q S fuel listed n l M) : WPD P W ops Q S fuel listed n l L := fun a w hf hs => h a w hf (hi w hs)
theorem WPD.perm {S : World → Prop} {M : List HProp} {fuel : Nat} {listed : Array Bool} (hp : L.Perm M) (h : WPD P W ops Q S fuel listed n l M) : WPD P W ops Q S fuel listed n l L := fun a w hf hs => h a w hf (hs.perm hp)

/-! code -/
theorem WPc.seq {x y : Code} (h : WPc P W x (Exit.then (y.wp P Q) Q) n l L) : WPc P W (.seq x y) Q n l L := fun a w hf hs => wp_seq (h a w hf hs)
theorem WPc.region {id : Nat} {l0 : List Oper} (h : WP P W l0.toArray Q l0 n l L) : WPc P W (.region id l0.toArray false) Q n l L := fun a w hf hs => wp_region_lit (h a w hf hs)
theorem WPc.block {id : Nat} {c : Code} (h : WPc P W c (Exit.inBlock id Q) n l L) : WPc P W (.block id c) Q n l L := fun a w hf hs => wp_block (h a w hf hs)
theorem WPc.skip (h : Out W Q .normal n l L) : WPc P W .skip Q n l L := fun a w hf hs => wp_skip (h a w hf hs)
theorem WPc.label {i : Nat} (h : Out W Q .normal n l L) : WPc P W (.label i) Q n l L := fun a w hf hs => wp_label (h a w hf hs)
theorem WPc.exit {id : Nat} (h : Out W Q (.exit id) n l L) : WPc P W (.exit id) Q n l L := fun a w hf hs => wp_exit (h a w hf hs)
theorem WPc.ret (h : Out W Q .ret n l L) : WPc P W .ret Q n l L := fun a w hf hs => wp_ret (h a w hf hs)
theorem WPc.cond {c : Operand} {x y : Code} {b : Bool} (hc : ev l c = some (.bool b)) (ht : b = true → WPc P W x Q n l L) (hf : b = false → WPc P W y Q n l L) : WPc P W (.cond c x y) Q n l L :=
  fun a w hfr hs => wp_cond_split (hfr.ev hc) (fun h => ht h a w hfr hs) (fun h => hf h a w hfr hs)
theorem WPc.ifP {c : Operand} {x y : Code} {p : Prop} [Decidable p] (hc : ev l c = some (.bool (decide p))) (ht : p → WPc P W x Q n l L) (hf : ¬ p → WPc P W y Q n l L) : WPc P W (.cond c x y) Q n l L :=
  .cond hc (fun h => ht (of_decide_eq_true h)) (fun h => hf (of_decide_eq_false h))
theorem WPc.condT {c : Operand} {x y : Code} {b : Bool} (hc : ev l c = some (.bool b)) (hb : b = true) (h : WPc P W x Q n l L) : WPc P W (.cond c x y) Q n l L := .cond hc (fun _ => h) (fun h0 => by rw [hb] at h0; cases h0)
theorem WPc.condF {c : Operand} {x y : Code} {b : Bool} (hc : ev l c = some (.bool b)) (hb : b = false) (h : WPc P W y Q n l L) : WPc P W (.cond c x y) Q n l L := .cond hc (fun h0 => by rw [hb] at h0; cases h0) (fun _ => h)

theorem Out.next {y : Code} (h : WPc P W y Q n l L) : Out W (Exit.then (y.wp P Q) Q) .normal n l L := h
theorem Out.then_exit {nx : Act → World → Prop} {id : Nat} (h : Out W Q (.exit id) n l L) : Out W (Exit.then nx Q) (.exit id) n l L := h
theorem Out.then_ret {nx : Act → World → Prop} (h : Out W Q .ret n l L) : Out W (Exit.then nx Q) .ret n l L := h
theorem Out.block {id : Nat} (h : Out W Q .normal n l L) : Out W (Exit.inBlock id Q) .normal n l L := h
theorem Out.block_exit {id : Nat} (h : Out W Q .normal n l L) : Out W (Exit.inBlock id Q) (.exit id) n l L := fun a w hf hs => by simp only [Exit.inBlock, if_true]; exact h a w hf hs
theorem Out.block_other {id id' : Nat} (hne : Nat.beq id' id = false) (h : Out W Q (.exit id') n l L) : Out W (Exit.inBlock id Q) (.exit id') n l L := fun a w hf hs => by
  have : id' ≠ id := fun e => by subst e; simp at hne
  simp only [Exit.inBlock, if_neg this]; exact h a w hf hs
theorem Out.block_ret {id : Nat} (h : Out W Q .ret n l L) : Out W (Exit.inBlock id Q) .ret n l L := h

open Classical in
noncomputable def leastOf (p : Nat → Prop) : Nat := if h : ∃ k, p k ∧ ∀ j, p j → k ≤ j then h.choose else 0
omit [Dfs] in
theorem least_ex {p : Nat → Prop} : ∀ k, p k → ∃ m, p m ∧ ∀ j, p j → m ≤ j := by
  intro k
  induction k using Nat.strongRecOn with
  | _ k ih =>
    intro hk
    by_cases h : ∃ j, j < k ∧ p j
    · obtain ⟨j, hj, hp⟩ := h
      exact ih j hj hp
    · exact ⟨k, hk, fun j hj => by
        rcases Nat.lt_or_ge j k with hlt | hge
        · exact absurd ⟨j, hlt, hj⟩ h
        · exact hge⟩
omit [Dfs] in
theorem leastOf_spec {p : Nat → Prop} {k : Nat} (hk : p k) : p (leastOf p) ∧ ∀ j, p j → leastOf p ≤ j := by
  have h := least_ex k hk
  unfold leastOf
  rw [dif_pos h]
  exact h.choose_spec
/-- what is so where ways meet, or at a round's end -/
def Meet (W : World) (n : Nat) {ι : Type} (I : ι → Prop) (lf : ι → List (Nat × Value)) (Lf : ι → List HProp) : Act → World → Prop := fun a w => ∃ j, I j ∧ Fr n a (lf j) ∧ Sat W (Lf j) w
def Again (W : World) (n : Nat) {ι : Type} (I : ι → Prop) (lf : ι → List (Nat × Value)) (Lf : ι → List HProp) (μ : ι → Nat) (m : Nat) : Act → World → Prop := fun a w => ∃ j, I j ∧ μ j < m ∧ Fr n a (lf j) ∧ Sat W (Lf j) w
/-- a loop: what is so at each round's head, with a number that goes down -/
theorem WPc.loop {c : Code} {ι : Type} (I : ι → Prop) (lf : ι → List (Nat × Value)) (Lf : ι → List HProp) (μ : ι → Nat) (i0 : ι) (h0 : I i0) (hl : Sub l (lf i0)) (hL : ∀ w, Sat W L w → Sat W (Lf i0) w)
    (round : ∀ i, I i → WPc P W c (Exit.then (Again W n I lf Lf μ (μ i)) Q) n (lf i) (Lf i)) : WPc P W (.loop c) Q n l L := by
  intro a w hf hs
  refine wp_loop (fun a w => ∃ i, I i ∧ Fr n a (lf i) ∧ Sat W (Lf i) w) (fun a w => leastOf fun k => ∃ i, μ i = k ∧ I i ∧ Fr n a (lf i) ∧ Sat W (Lf i) w) ⟨i0, h0, hf.sub hl, hL w hs⟩ ?_
  rintro a w ⟨i, hI, hfi, hsi⟩
  obtain ⟨⟨i', e, hI', hf', hs'⟩, -⟩ := leastOf_spec (p := fun k => ∃ i, μ i = k ∧ I i ∧ Fr n a (lf i) ∧ Sat W (Lf i) w) ⟨i, rfl, hI, hfi, hsi⟩
  refine Code.wp_mono ?_ (round i' hI' a w hf' hs')
  intro e' a' w' hq
  cases e' with
  | normal =>
    obtain ⟨j, hj, hlt, hfj, hsj⟩ := hq
    refine ⟨⟨j, hj, hfj, hsj⟩, ?_⟩
    have := (leastOf_spec (p := fun k => ∃ i, μ i = k ∧ I i ∧ Fr n a' (lf i) ∧ Sat W (Lf i) w') ⟨j, rfl, hj, hfj, hsj⟩).2 _ ⟨j, rfl, hj, hfj, hsj⟩
    show leastOf _ < leastOf _
    omega
  | _ => exact hq
theorem Out.again {ι : Type} {I : ι → Prop} {lf : ι → List (Nat × Value)} {Lf : ι → List HProp} {μ : ι → Nat} {m : Nat} (j : ι) (hI : I j) (hμ : μ j < m) (hl : Sub l (lf j)) (hL : ∀ w, Sat W L w → Sat W (Lf j) w) :
    Out W (Exit.then (Again W n I lf Lf μ m) Q) .normal n l L := fun _ w hf hs => ⟨j, hI, hμ, hf.sub hl, hL w hs⟩
/-- ways meet: what is so there -/
theorem WPc.cut {x y : Code} {ι : Type} (I : ι → Prop) (lf : ι → List (Nat × Value)) (Lf : ι → List HProp)
    (first : WPc P W x (Exit.then (Meet W n I lf Lf) Q) n l L) (second : ∀ j, I j → WPc P W y Q n (lf j) (Lf j)) : WPc P W (.seq x y) Q n l L := by
  intro a w hf hs
  refine wp_seq (Code.wp_mono ?_ (first a w hf hs))
  intro e' a' w' hq
  cases e' with
  | normal =>
    obtain ⟨j, hj, hfj, hsj⟩ := hq
    exact second j hj a' w' hfj hsj
  | _ => exact hq
theorem Out.meet {ι : Type} {I : ι → Prop} {lf : ι → List (Nat × Value)} {Lf : ι → List HProp} (j : ι) (hI : I j) (hl : Sub l (lf j)) (hL : ∀ w, Sat W L w → Sat W (Lf j) w) :
    Out W (Exit.then (Meet W n I lf Lf) Q) .normal n l L := fun _ w hf hs => ⟨j, hI, hf.sub hl, hL w hs⟩

/-! a region that draws its order -/
theorem WPD.start {id : Nat} {ops : Array Oper} (S : World → Prop) (hm : P.follows .mixedOrders = true) (h : WPD P W ops Q S ops.size (Array.replicate ops.size false) n l L) : WPc P W (.region id ops true) Q n l L :=
  fun a w hf hs => wpF_start hm (h a _ hf hs.drew)
theorem WPD.take {S : World → Prop} {fuel : Nat} {listed : Array Bool} {d : Tmp} {v : Value} (i : Nat) (hi : ops[i]? = some o) (hg : o.guard = none) (hd : o.dst = some d) (hlt : Nat.ble (d + 1) n = true)
    (hns : Region.noSelect ops = true) (hfree : Region.free .any ops listed i = true) (hcl : closedB ops listed = true) (hr : (Region.ready .any ops listed).contains i = true)
    (hQ : ∀ c a w, Q (.panic c) (a.put (some d) v) w → Q (.panic c) a w) (hmf : memFree ops i = false) (hS : ∀ w, Sat W L w → S w) (hv : Val P n l S o v)
    (h : WPD P W ops Q S fuel (listed.setIfInBounds i true) n ((d, v) :: l) L) : WPD P W ops Q S (fuel + 1) listed n l L := by
  intro a w hf hs
  refine wpF_take hi hns hfree hcl hr (by rw [hd]; exact hQ) (.inl ⟨.inl ⟨by simp [Region.wanted, hg], fun w' hS' => hv a w' hf hS'⟩, hmf⟩) (hS w hs) ?_
  rw [hd]
  exact h _ _ (hf.put (Nat.le_of_ble_eq_true hlt) v) hs
theorem WPD.takeG {S : World → Prop} {fuel : Nat} {listed : Array Bool} {d : Tmp} {v : Value} {g : Nat} {want : Bool} {t : Tmp} {b : Bool} (i : Nat) (hi : ops[i]? = some o) (hg : o.guard = some (g, want))
    (ht : slotAt ops g = some t) (hn : Nat.ble (t + 1) n = true) (hb : look l t = some (.bool b)) (hne : (b == want) = true) (hd : o.dst = some d) (hlt : Nat.ble (d + 1) n = true)
    (hns : Region.noSelect ops = true) (hfree : Region.free .any ops listed i = true) (hcl : closedB ops listed = true) (hr : (Region.ready .any ops listed).contains i = true)
    (hQ : ∀ c a w, Q (.panic c) (a.put (some d) v) w → Q (.panic c) a w) (hmf : memFree ops i = false) (hS : ∀ w, Sat W L w → S w) (hv : Val P n l S o v)
    (h : WPD P W ops Q S fuel (listed.setIfInBounds i true) n ((d, v) :: l) L) : WPD P W ops Q S (fuel + 1) listed n l L := by
  intro a w hf hs
  refine wpF_take hi hns hfree hcl hr (by rw [hd]; exact hQ) (.inl ⟨.inl ⟨by rw [wanted_of hg ht hn hf hb, hne], fun w' hS' => hv a w' hf hS'⟩, hmf⟩) (hS w hs) ?_
  rw [hd]
  exact h _ _ (hf.put (Nat.le_of_ble_eq_true hlt) v) hs
theorem WPD.takeM {S : World → Prop} {fuel : Nat} {listed : Array Bool} {d : Tmp} {v : Value} (i : Nat) (hi : ops[i]? = some o) (hg : o.guard = none) (hd : o.dst = some d) (hlt : Nat.ble (d + 1) n = true)
    (hns : Region.noSelect ops = true) (hfree : Region.free .any ops listed i = true) (hcl : closedB ops listed = true) (hr : (Region.ready .any ops listed).contains i = true)
    (hQ : ∀ c a w, Q (.panic c) (a.put (some d) v) w → Q (.panic c) a w) (hS : ∀ w, Sat W L w → S w) (hv : Val P n l (fun _ => True) o v)
    (h : WPD P W ops Q S fuel (listed.setIfInBounds i true) n ((d, v) :: l) L) : WPD P W ops Q S (fuel + 1) listed n l L := by
  intro a w hf hs
  refine wpF_take hi hns hfree hcl hr (by rw [hd]; exact hQ) (.inr (.inl ⟨by simp [Region.wanted, hg], fun w' hS' => hv a w' hf hS'⟩)) (hS w hs) ?_
  rw [hd]
  exact h _ _ (hf.put (Nat.le_of_ble_eq_true hlt) v) hs
theorem WPD.takeGM {S : World → Prop} {fuel : Nat} {listed : Array Bool} {d : Tmp} {v : Value} {g : Nat} {want : Bool} {t : Tmp} {b : Bool} (i : Nat) (hi : ops[i]? = some o) (hg : o.guard = some (g, want))
    (ht : slotAt ops g = some t) (hn : Nat.ble (t + 1) n = true) (hb : look l t = some (.bool b)) (hne : (b == want) = true) (hd : o.dst = some d) (hlt : Nat.ble (d + 1) n = true)
    (hns : Region.noSelect ops = true) (hfree : Region.free .any ops listed i = true) (hcl : closedB ops listed = true) (hr : (Region.ready .any ops listed).contains i = true)
    (hQ : ∀ c a w, Q (.panic c) (a.put (some d) v) w → Q (.panic c) a w) (hS : ∀ w, Sat W L w → S w) (hv : Val P n l (fun _ => True) o v)
    (h : WPD P W ops Q S fuel (listed.setIfInBounds i true) n ((d, v) :: l) L) : WPD P W ops Q S (fuel + 1) listed n l L := by
  intro a w hf hs
  refine wpF_take hi hns hfree hcl hr (by rw [hd]; exact hQ) (.inr (.inl ⟨by rw [wanted_of hg ht hn hf hb, hne], fun w' hS' => hv a w' hf hS'⟩)) (hS w hs) ?_
  rw [hd]
  exact h _ _ (hf.put (Nat.le_of_ble_eq_true hlt) v) hs
theorem WPD.skip {S : World → Prop} {fuel : Nat} {listed : Array Bool} {d : Tmp} {g : Nat} {want : Bool} {t : Tmp} {b : Bool} (i : Nat) (hi : ops[i]? = some o) (hg : o.guard = some (g, want))
    (ht : slotAt ops g = some t) (hn : Nat.ble (t + 1) n = true) (hb : look l t = some (.bool b)) (hne : (b == want) = false) (hd : o.dst = some d) (hlt : Nat.ble (d + 1) n = true)
    (hns : Region.noSelect ops = true) (hfree : Region.free .any ops listed i = true) (hcl : closedB ops listed = true) (hr : (Region.ready .any ops listed).contains i = true)
    (hQ : ∀ c a w, Q (.panic c) (a.put (some d) undef) w → Q (.panic c) a w) (hS : ∀ w, Sat W L w → S w)
    (h : WPD P W ops Q S fuel (listed.setIfInBounds i true) n ((d, undef) :: l) L) : WPD P W ops Q S (fuel + 1) listed n l L := by
  intro a w hf hs
  refine wpF_take (v := undef) hi hns hfree hcl hr (by rw [hd]; exact hQ) (.inr (.inr ⟨by rw [wanted_of hg ht hn hf hb, hne], rfl⟩)) (hS w hs) ?_
  rw [hd]
  exact h _ _ (hf.put (Nat.le_of_ble_eq_true hlt) _) hs
theorem WPD.skipU {S : World → Prop} {fuel : Nat} {listed : Array Bool} {d : Tmp} {g : Nat} {want : Bool} {t : Tmp} (i : Nat) (hi : ops[i]? = some o) (hg : o.guard = some (g, want))
    (ht : slotAt ops g = some t) (hn : Nat.ble (t + 1) n = true) (hb : look l t = some undef) (hd : o.dst = some d) (hlt : Nat.ble (d + 1) n = true)
    (hns : Region.noSelect ops = true) (hfree : Region.free .any ops listed i = true) (hcl : closedB ops listed = true) (hr : (Region.ready .any ops listed).contains i = true)
    (hQ : ∀ c a w, Q (.panic c) (a.put (some d) undef) w → Q (.panic c) a w) (hS : ∀ w, Sat W L w → S w)
    (h : WPD P W ops Q S fuel (listed.setIfInBounds i true) n ((d, undef) :: l) L) : WPD P W ops Q S (fuel + 1) listed n l L := by
  intro a w hf hs
  refine wpF_take (v := undef) hi hns hfree hcl hr (by rw [hd]; exact hQ) (.inr (.inr ⟨wanted_undef hg ht hn hf hb, rfl⟩)) (hS w hs) ?_
  rw [hd]
  exact h _ _ (hf.put (Nat.le_of_ble_eq_true hlt) _) hs
/-- the one operation that may come up now -/
theorem WPD.step {S : World → Prop} {fuel : Nat} {listed : Array Bool} {d : Tmp} {R : Value → List HProp → Prop} (i : Nat) (hr : Region.ready .any ops listed = [i]) (hi : ops[i]? = some o) (hg : o.guard = none) (hd : o.dst = some d) (hlt : Nat.ble (d + 1) n = true)
    (he : Eff P W Q n l L o R) (h : ∀ v L', R v L' → (∀ w, Sat W L' w → S w) ∧ WPD P W ops Q S fuel (listed.setIfInBounds i true) n ((d, v) :: l) L') : WPD P W ops Q S (fuel + 1) listed n l L := by
  intro a w hf hs
  refine wpF_all hr (by simp) fun j hj => ?_
  obtain rfl : j = i := by simpa using hj
  refine wpOp_step hi fun K hK => ?_
  rw [if_pos (by simp [Region.wanted, hg])]
  refine he a w hf hs K fun v L' w' hR hs' => ?_
  rw [hd]
  exact hK _ _ ⟨S, .inl rfl, (h v L' hR).1 w' hs', (h v L' hR).2 _ _ (hf.put (Nat.le_of_ble_eq_true hlt) v) hs'⟩
theorem WPD.step0 {S : World → Prop} {fuel : Nat} {listed : Array Bool} {R : Value → List HProp → Prop} (i : Nat) (hr : Region.ready .any ops listed = [i]) (hi : ops[i]? = some o) (hg : o.guard = none) (hd : o.dst = none)
    (he : Eff P W Q n l L o R) (h : ∀ v L', R v L' → (∀ w, Sat W L' w → S w) ∧ WPD P W ops Q S fuel (listed.setIfInBounds i true) n l L') : WPD P W ops Q S (fuel + 1) listed n l L := by
  intro a w hf hs
  refine wpF_all hr (by simp) fun j hj => ?_
  obtain rfl : j = i := by simpa using hj
  refine wpOp_step hi fun K hK => ?_
  rw [if_pos (by simp [Region.wanted, hg])]
  refine he a w hf hs K fun v L' w' hR hs' => ?_
  rw [hd]
  exact hK _ _ ⟨S, .inl rfl, (h v L' hR).1 w' hs', (h v L' hR).2 _ _ hf hs'⟩
theorem WPD.stepC {S : World → Prop} {fuel : Nat} {listed : Array Bool} {d : Tmp} {R : Value → List HProp → Prop} (i : Nat) (hr : Region.ready .any ops listed = [i]) (hi : ops[i]? = some o) (hg : o.guard = none) (hd : o.dst = some d) (hlt : Nat.ble (d + 1) n = true) (hcut : cutB ops i = true)
    (he : Eff P W Q n l L o R) (h : ∀ v L', R v L' → ∃ S', (∀ w, Sat W L' w → S' w) ∧ WPD P W ops Q S' fuel (listed.setIfInBounds i true) n ((d, v) :: l) L') : WPD P W ops Q S (fuel + 1) listed n l L := by
  intro a w hf hs
  refine wpF_all hr (by simp) fun j hj => ?_
  obtain rfl : j = i := by simpa using hj
  refine wpOp_step hi fun K hK => ?_
  rw [if_pos (by simp [Region.wanted, hg])]
  refine he a w hf hs K fun v L' w' hR hs' => ?_
  rw [hd]
  obtain ⟨S', h1, h2⟩ := h v L' hR
  exact hK _ _ ⟨S', .inr (.inl hcut), h1 w' hs', h2 _ _ (hf.put (Nat.le_of_ble_eq_true hlt) v) hs'⟩
/-- more is known of memory from here on -/
theorem WPD.stepS {S : World → Prop} {fuel : Nat} {listed : Array Bool} {d : Tmp} {R : Value → List HProp → Prop} (i : Nat) (hr : Region.ready .any ops listed = [i]) (hi : ops[i]? = some o) (hg : o.guard = none) (hd : o.dst = some d) (hlt : Nat.ble (d + 1) n = true)
    (he : Eff P W Q n l L o R) (h : ∀ v L', R v L' → ∃ S', (∀ w, S' w → S w) ∧ (∀ w, Sat W L' w → S' w) ∧ WPD P W ops Q S' fuel (listed.setIfInBounds i true) n ((d, v) :: l) L') : WPD P W ops Q S (fuel + 1) listed n l L := by
  intro a w hf hs
  refine wpF_all hr (by simp) fun j hj => ?_
  obtain rfl : j = i := by simpa using hj
  refine wpOp_step hi fun K hK => ?_
  rw [if_pos (by simp [Region.wanted, hg])]
  refine he a w hf hs K fun v L' w' hR hs' => ?_
  rw [hd]
  obtain ⟨S', h0, h1, h2⟩ := h v L' hR
  exact hK _ _ ⟨S', .inr (.inr h0), h1 w' hs', h2 _ _ (hf.put (Nat.le_of_ble_eq_true hlt) v) hs'⟩
theorem WPD.stepC0 {S : World → Prop} {fuel : Nat} {listed : Array Bool} {R : Value → List HProp → Prop} (i : Nat) (hr : Region.ready .any ops listed = [i]) (hi : ops[i]? = some o) (hg : o.guard = none) (hd : o.dst = none) (hcut : cutB ops i = true)
    (he : Eff P W Q n l L o R) (h : ∀ v L', R v L' → ∃ S', (∀ w, Sat W L' w → S' w) ∧ WPD P W ops Q S' fuel (listed.setIfInBounds i true) n l L') : WPD P W ops Q S (fuel + 1) listed n l L := by
  intro a w hf hs
  refine wpF_all hr (by simp) fun j hj => ?_
  obtain rfl : j = i := by simpa using hj
  refine wpOp_step hi fun K hK => ?_
  rw [if_pos (by simp [Region.wanted, hg])]
  refine he a w hf hs K fun v L' w' hR hs' => ?_
  rw [hd]
  obtain ⟨S', h1, h2⟩ := h v L' hR
  exact hK _ _ ⟨S', .inr (.inl hcut), h1 w' hs', h2 _ _ hf hs'⟩
/-- one of two operations that may come up now -/
def WPO (P : Program) (W : World) (ops : Array Oper) (Q : Exit → Act → World → Prop) (S : World → Prop) (fuel : Nat) (listed : Array Bool) (n : Nat) (l : List (Nat × Value)) (L : List HProp) (i : Nat) : Prop :=
  ∀ a w, Fr n a l → Sat W L w → wpOp P ops Q i (fun a' w' => ∃ S', (S' = S ∨ cutB ops i = true ∨ ∀ w, S' w → S w) ∧ S' w' ∧ wpF P ops Q fuel S' (listed.setIfInBounds i true) a' w') a w
theorem WPD.pick2 {S : World → Prop} {fuel : Nat} {listed : Array Bool} (i j : Nat) (hr : Region.ready .any ops listed = [i, j]) (h1 : WPO P W ops Q S fuel listed n l L i) (h2 : WPO P W ops Q S fuel listed n l L j) : WPD P W ops Q S (fuel + 1) listed n l L := by
  intro a w hf hs
  refine wpF_all hr (by simp) fun k hk => ?_
  rcases List.mem_cons.1 hk with rfl | hk
  · exact h1 a w hf hs
  · obtain rfl : k = j := by simpa using hk
    exact h2 a w hf hs
theorem WPO.perm {S : World → Prop} {fuel : Nat} {listed : Array Bool} {M : List HProp} {i : Nat} (hp : L.Perm M) (h : WPO P W ops Q S fuel listed n l M i) : WPO P W ops Q S fuel listed n l L i := fun a w hf hs => h a w hf (hs.perm hp)
theorem WPO.step {S : World → Prop} {fuel : Nat} {listed : Array Bool} {d : Tmp} {R : Value → List HProp → Prop} {i : Nat} (hi : ops[i]? = some o) (hg : o.guard = none) (hd : o.dst = some d) (hlt : Nat.ble (d + 1) n = true)
    (he : Eff P W Q n l L o R) (h : ∀ v L', R v L' → (∀ w, Sat W L' w → S w) ∧ WPD P W ops Q S fuel (listed.setIfInBounds i true) n ((d, v) :: l) L') : WPO P W ops Q S fuel listed n l L i := by
  intro a w hf hs
  refine wpOp_step hi fun K hK => ?_
  rw [if_pos (by simp [Region.wanted, hg])]
  refine he a w hf hs K fun v L' w' hR hs' => ?_
  rw [hd]
  exact hK _ _ ⟨S, .inl rfl, (h v L' hR).1 w' hs', (h v L' hR).2 _ _ (hf.put (Nat.le_of_ble_eq_true hlt) v) hs'⟩
theorem WPO.step0 {S : World → Prop} {fuel : Nat} {listed : Array Bool} {R : Value → List HProp → Prop} {i : Nat} (hi : ops[i]? = some o) (hg : o.guard = none) (hd : o.dst = none)
    (he : Eff P W Q n l L o R) (h : ∀ v L', R v L' → (∀ w, Sat W L' w → S w) ∧ WPD P W ops Q S fuel (listed.setIfInBounds i true) n l L') : WPO P W ops Q S fuel listed n l L i := by
  intro a w hf hs
  refine wpOp_step hi fun K hK => ?_
  rw [if_pos (by simp [Region.wanted, hg])]
  refine he a w hf hs K fun v L' w' hR hs' => ?_
  rw [hd]
  exact hK _ _ ⟨S, .inl rfl, (h v L' hR).1 w' hs', (h v L' hR).2 _ _ hf hs'⟩
theorem WPO.stepC {S : World → Prop} {fuel : Nat} {listed : Array Bool} {d : Tmp} {R : Value → List HProp → Prop} {i : Nat} (hi : ops[i]? = some o) (hg : o.guard = none) (hd : o.dst = some d) (hlt : Nat.ble (d + 1) n = true) (hcut : cutB ops i = true)
    (he : Eff P W Q n l L o R) (h : ∀ v L', R v L' → ∃ S', (∀ w, Sat W L' w → S' w) ∧ WPD P W ops Q S' fuel (listed.setIfInBounds i true) n ((d, v) :: l) L') : WPO P W ops Q S fuel listed n l L i := by
  intro a w hf hs
  refine wpOp_step hi fun K hK => ?_
  rw [if_pos (by simp [Region.wanted, hg])]
  refine he a w hf hs K fun v L' w' hR hs' => ?_
  rw [hd]
  obtain ⟨S', h1, h2⟩ := h v L' hR
  exact hK _ _ ⟨S', .inr (.inl hcut), h1 w' hs', h2 _ _ (hf.put (Nat.le_of_ble_eq_true hlt) v) hs'⟩
theorem WPO.stepS {S : World → Prop} {fuel : Nat} {listed : Array Bool} {d : Tmp} {R : Value → List HProp → Prop} {i : Nat} (hi : ops[i]? = some o) (hg : o.guard = none) (hd : o.dst = some d) (hlt : Nat.ble (d + 1) n = true)
    (he : Eff P W Q n l L o R) (h : ∀ v L', R v L' → ∃ S', (∀ w, S' w → S w) ∧ (∀ w, Sat W L' w → S' w) ∧ WPD P W ops Q S' fuel (listed.setIfInBounds i true) n ((d, v) :: l) L') : WPO P W ops Q S fuel listed n l L i := by
  intro a w hf hs
  refine wpOp_step hi fun K hK => ?_
  rw [if_pos (by simp [Region.wanted, hg])]
  refine he a w hf hs K fun v L' w' hR hs' => ?_
  rw [hd]
  obtain ⟨S', h0, h1, h2⟩ := h v L' hR
  exact hK _ _ ⟨S', .inr (.inr h0), h1 w' hs', h2 _ _ (hf.put (Nat.le_of_ble_eq_true hlt) v) hs'⟩
theorem WPO.stepC0 {S : World → Prop} {fuel : Nat} {listed : Array Bool} {R : Value → List HProp → Prop} {i : Nat} (hi : ops[i]? = some o) (hg : o.guard = none) (hd : o.dst = none) (hcut : cutB ops i = true)
    (he : Eff P W Q n l L o R) (h : ∀ v L', R v L' → ∃ S', (∀ w, Sat W L' w → S' w) ∧ WPD P W ops Q S' fuel (listed.setIfInBounds i true) n l L') : WPO P W ops Q S fuel listed n l L i := by
  intro a w hf hs
  refine wpOp_step hi fun K hK => ?_
  rw [if_pos (by simp [Region.wanted, hg])]
  refine he a w hf hs K fun v L' w' hR hs' => ?_
  rw [hd]
  obtain ⟨S', h1, h2⟩ := h v L' hR
  exact hK _ _ ⟨S', .inr (.inl hcut), h1 w' hs', h2 _ _ hf hs'⟩
theorem WPD.done {S : World → Prop} {fuel : Nat} {listed : Array Bool} (hr : Region.ready .any ops listed = []) (h : Out W Q .normal n l L) : WPD P W ops Q S fuel listed n l L := fun a w hf hs => wpF_done hr (h a w hf hs) fuel

end
end DfsOf
/-! ## functions -/
section
variable {P : Program} {W : World} {ops : Array Oper} {Q : Exit → Act → World → Prop} {rest : List Oper} {n : Nat} {l : List (Nat × Value)} {L : List HProp} {o : Oper}
/-- what a function does: out of L, what R says of its answer and of what is there then -/
def Does (P : Program) (f : FuncId) (args : List Value) (L : List HProp) (R : Value → List HProp → Prop) : Prop :=
  ∀ (W : World) (F : List HProp) (w : World), Sat W (L ++ F) w → Calls P f args.toArray w fun e w' => ∃ v L', e = .returned v ∧ R v L' ∧ Sat W (L' ++ F) w'
def Ends (W : World) (F : List HProp) (R : Value → List HProp → Prop) : Ending → World → Prop := fun e w' => ∃ v L', e = .returned v ∧ R v L' ∧ Sat W (L' ++ F) w'
def argsFrom : Nat → List Value → List (Nat × Value)
  | _, [] => []
  | i, v :: l => (i, v) :: argsFrom (i + 1) l
theorem look_args : ∀ (as : List Value) (i t : Nat) (v : Value), look (argsFrom i as) t = some v → i ≤ t ∧ as[t - i]? = some v
  | [], _, _, _, h => by cases h
  | x :: as, i, t, v, h => by
    simp only [argsFrom] at h
    rw [look_cons] at h
    by_cases e : i = t
    · subst e; simp only [if_true] at h; simpa using h
    · rw [if_neg e] at h
      obtain ⟨h1, h2⟩ := look_args as (i + 1) t v h
      refine ⟨by omega, ?_⟩
      rw [show t - i = (t - (i + 1)) + 1 by omega]
      simpa using h2
theorem Does.enter {f : FuncId} {fn : Func} {c : Code} {args : List Value} {R : Value → List HProp → Prop} (n : Nat) (hf : P.funcs[f]? = some fn) (hb : fn.body = some c) (hn : fn.ntmps = n) (hle : Nat.ble args.length n = true)
    (h : ∀ (W : World) (F : List HProp), WPc P W c (bodyPost P fn (Ends W F R)) n (argsFrom 0 args) (L ++ F)) : Does P f args L R := by
  intro W F w hs
  have hle' : args.length ≤ n := Nat.le_of_ble_eq_true hle
  refine calls_of_wp hf hb (h W F _ w ⟨by simp [hn]; omega, rfl, fun t v hv => ?_⟩ hs)
  obtain ⟨-, h2⟩ := look_args args 0 t v hv
  have hlt := (List.getElem?_eq_some_iff.1 h2).1
  simp only [Nat.sub_zero] at h2 hlt
  rw [Array.getD_eq_getD_getElem?, Array.getElem?_append_left (by simpa using hlt)]
  simp [h2]
theorem Out.ret1 {fn : Func} {F : List HProp} {R : Value → List HProp → Prop} {t : Tmp} {v : Value} {L' : List HProp} (hr : fn.results = #[.tmp t]) (hv : look l t = some v) (hR : R v L') (hL : ∀ w, Sat W L w → Sat W (L' ++ F) w) :
    Out W (bodyPost P fn (Ends W F R)) .ret n l L := fun a w hf hs => ⟨hf.defers, v, by rw [results_tmp hr, hf.at_ t v hv], v, L', rfl, hR, hL w hs⟩
theorem Out.ret0 {fn : Func} {F : List HProp} {R : Value → List HProp → Prop} {L' : List HProp} (hr : fn.results = #[]) (hR : R (.tuple #[]) L') (hL : ∀ w, Sat W L w → Sat W (L' ++ F) w) :
    Out W (bodyPost P fn (Ends W F R)) .ret n l L := fun a w hf hs => ⟨hf.defers, _, results_none hr _ _ _, _, L', rfl, hR, hL w hs⟩
theorem Out.end0 {fn : Func} {F : List HProp} {R : Value → List HProp → Prop} {L' : List HProp} (hr : fn.results = #[]) (hR : R (.tuple #[]) L') (hL : ∀ w, Sat W L w → Sat W (L' ++ F) w) :
    Out W (bodyPost P fn (Ends W F R)) .normal n l L := fun a w hf hs => ⟨hf.defers, _, results_none hr _ _ _, _, L', rfl, hR, hL w hs⟩
theorem Out.ret2 {fn : Func} {F : List HProp} {R : Value → List HProp → Prop} {t u : Tmp} {v x : Value} {L' : List HProp} (hr : fn.results = #[.tmp t, .tmp u]) (hv : look l t = some v) (hx : look l u = some x)
    (hR : R (.tuple #[v, x]) L') (hL : ∀ w, Sat W L w → Sat W (L' ++ F) w) :
    Out W (bodyPost P fn (Ends W F R)) .ret n l L := fun a w hf hs => ⟨hf.defers, _, by rw [results_tmp2 hr, hf.at_ t v hv, hf.at_ u x hx], _, L', rfl, hR, hL w hs⟩
theorem Out.retRun {fn : Func} {F : List HProp} {R : Value → List HProp → Prop} {v : Value} {L' : List HProp} (hv : ∀ a w, Fr n a l → Sat W L w → (results fn a.tmps).run P w = .ok v w) (hR : R v L') (hL : ∀ w, Sat W L w → Sat W (L' ++ F) w) :
    Out W (bodyPost P fn (Ends W F R)) .ret n l L := fun a w hf hs => ⟨hf.defers, v, hv a w hf hs, v, L', rfl, hR, hL w hs⟩
theorem Does.calls {f : FuncId} {args : List Value} {R : Value → List HProp → Prop} {F : List HProp} {w : World} (h : Does P f args L R) (hs : Sat W (L ++ F) w) : Calls P f args.toArray w (Ends W F R) := h W F w hs
theorem Does.mono {f : FuncId} {args : List Value} {R R' : Value → List HProp → Prop} (h : Does P f args L R) (hi : ∀ v L', R v L' → ∃ L'', R' v L'' ∧ ∀ (W w : World) (F : List HProp), Sat W (L' ++ F) w → Sat W (L'' ++ F) w) : Does P f args L R' :=
  fun W F w hs => (h W F w hs).mono fun _ w' ⟨v, L', he, hR, hs'⟩ => let ⟨L'', h1, h2⟩ := hi v L' hR; ⟨v, L'', he, h1, h2 W w' F hs'⟩
variable [Dfs]
/-- A call. -/
theorem Eff.enter {f : FuncId} {args : List Value} {L0 F : List HProp} {R : Value → List HProp → Prop} (h : Does P f args L0 R)
    (ho : ∀ a w, Fr n a l → Sat W (L0 ++ F) w → (execOp a.eval o).run P w = .ok (.enter f args.toArray) w) : Eff P W Q n l (L0 ++ F) o (fun v L' => ∃ M, R v M ∧ L' = M ++ F) := by
  intro a w hf hs K hK
  unfold Oper.wp
  rw [ho a w hf hs, Oper.upon_enter]
  refine (h W F w hs).mono ?_
  rintro e w' ⟨v, L', rfl, hR, hs'⟩
  exact hK v (L' ++ F) w' ⟨L', hR, rfl⟩ hs'
end

/-! places in a list -/
theorem pl0 {α : Type} {L : List α} : List.Perm L L := List.Perm.refl _
theorem pl1 {α : Type} {a0 a1 : α} {L : List α} : List.Perm (a0 :: a1 :: L) (a1 :: a0 :: L) := List.Perm.swap _ _ _
theorem pl2 {α : Type} {a0 a1 a2 : α} {L : List α} : List.Perm (a0 :: a1 :: a2 :: L) (a2 :: a0 :: a1 :: L) := (List.Perm.cons _ pl1).trans (List.Perm.swap _ _ _)
theorem pl3 {α : Type} {a0 a1 a2 a3 : α} {L : List α} : List.Perm (a0 :: a1 :: a2 :: a3 :: L) (a3 :: a0 :: a1 :: a2 :: L) := (List.Perm.cons _ pl2).trans (List.Perm.swap _ _ _)
theorem pl4 {α : Type} {a0 a1 a2 a3 a4 : α} {L : List α} : List.Perm (a0 :: a1 :: a2 :: a3 :: a4 :: L) (a4 :: a0 :: a1 :: a2 :: a3 :: L) := (List.Perm.cons _ pl3).trans (List.Perm.swap _ _ _)
theorem pl5 {α : Type} {a0 a1 a2 a3 a4 a5 : α} {L : List α} : List.Perm (a0 :: a1 :: a2 :: a3 :: a4 :: a5 :: L) (a5 :: a0 :: a1 :: a2 :: a3 :: a4 :: L) := (List.Perm.cons _ pl4).trans (List.Perm.swap _ _ _)
theorem pl6 {α : Type} {a0 a1 a2 a3 a4 a5 a6 : α} {L : List α} : List.Perm (a0 :: a1 :: a2 :: a3 :: a4 :: a5 :: a6 :: L) (a6 :: a0 :: a1 :: a2 :: a3 :: a4 :: a5 :: L) := (List.Perm.cons _ pl5).trans (List.Perm.swap _ _ _)
theorem pl7 {α : Type} {a0 a1 a2 a3 a4 a5 a6 a7 : α} {L : List α} : List.Perm (a0 :: a1 :: a2 :: a3 :: a4 :: a5 :: a6 :: a7 :: L) (a7 :: a0 :: a1 :: a2 :: a3 :: a4 :: a5 :: a6 :: L) := (List.Perm.cons _ pl6).trans (List.Perm.swap _ _ _)
theorem pl8 {α : Type} {a0 a1 a2 a3 a4 a5 a6 a7 a8 : α} {L : List α} : List.Perm (a0 :: a1 :: a2 :: a3 :: a4 :: a5 :: a6 :: a7 :: a8 :: L) (a8 :: a0 :: a1 :: a2 :: a3 :: a4 :: a5 :: a6 :: a7 :: L) := (List.Perm.cons _ pl7).trans (List.Perm.swap _ _ _)
theorem pl9 {α : Type} {a0 a1 a2 a3 a4 a5 a6 a7 a8 a9 : α} {L : List α} : List.Perm (a0 :: a1 :: a2 :: a3 :: a4 :: a5 :: a6 :: a7 :: a8 :: a9 :: L) (a9 :: a0 :: a1 :: a2 :: a3 :: a4 :: a5 :: a6 :: a7 :: a8 :: L) := (List.Perm.cons _ pl8).trans (List.Perm.swap _ _ _)
theorem pl10 {α : Type} {a0 a1 a2 a3 a4 a5 a6 a7 a8 a9 a10 : α} {L : List α} : List.Perm (a0 :: a1 :: a2 :: a3 :: a4 :: a5 :: a6 :: a7 :: a8 :: a9 :: a10 :: L) (a10 :: a0 :: a1 :: a2 :: a3 :: a4 :: a5 :: a6 :: a7 :: a8 :: a9 :: L) := (List.Perm.cons _ pl9).trans (List.Perm.swap _ _ _)
theorem pl11 {α : Type} {a0 a1 a2 a3 a4 a5 a6 a7 a8 a9 a10 a11 : α} {L : List α} : List.Perm (a0 :: a1 :: a2 :: a3 :: a4 :: a5 :: a6 :: a7 :: a8 :: a9 :: a10 :: a11 :: L) (a11 :: a0 :: a1 :: a2 :: a3 :: a4 :: a5 :: a6 :: a7 :: a8 :: a9 :: a10 :: L) := (List.Perm.cons _ pl10).trans (List.Perm.swap _ _ _)
theorem pl12 {α : Type} {a0 a1 a2 a3 a4 a5 a6 a7 a8 a9 a10 a11 a12 : α} {L : List α} : List.Perm (a0 :: a1 :: a2 :: a3 :: a4 :: a5 :: a6 :: a7 :: a8 :: a9 :: a10 :: a11 :: a12 :: L) (a12 :: a0 :: a1 :: a2 :: a3 :: a4 :: a5 :: a6 :: a7 :: a8 :: a9 :: a10 :: a11 :: L) := (List.Perm.cons _ pl11).trans (List.Perm.swap _ _ _)
theorem pl13 {α : Type} {a0 a1 a2 a3 a4 a5 a6 a7 a8 a9 a10 a11 a12 a13 : α} {L : List α} : List.Perm (a0 :: a1 :: a2 :: a3 :: a4 :: a5 :: a6 :: a7 :: a8 :: a9 :: a10 :: a11 :: a12 :: a13 :: L) (a13 :: a0 :: a1 :: a2 :: a3 :: a4 :: a5 :: a6 :: a7 :: a8 :: a9 :: a10 :: a11 :: a12 :: L) := (List.Perm.cons _ pl12).trans (List.Perm.swap _ _ _)
theorem pl14 {α : Type} {a0 a1 a2 a3 a4 a5 a6 a7 a8 a9 a10 a11 a12 a13 a14 : α} {L : List α} : List.Perm (a0 :: a1 :: a2 :: a3 :: a4 :: a5 :: a6 :: a7 :: a8 :: a9 :: a10 :: a11 :: a12 :: a13 :: a14 :: L) (a14 :: a0 :: a1 :: a2 :: a3 :: a4 :: a5 :: a6 :: a7 :: a8 :: a9 :: a10 :: a11 :: a12 :: a13 :: L) := (List.Perm.cons _ pl13).trans (List.Perm.swap _ _ _)
theorem pl15 {α : Type} {a0 a1 a2 a3 a4 a5 a6 a7 a8 a9 a10 a11 a12 a13 a14 a15 : α} {L : List α} : List.Perm (a0 :: a1 :: a2 :: a3 :: a4 :: a5 :: a6 :: a7 :: a8 :: a9 :: a10 :: a11 :: a12 :: a13 :: a14 :: a15 :: L) (a15 :: a0 :: a1 :: a2 :: a3 :: a4 :: a5 :: a6 :: a7 :: a8 :: a9 :: a10 :: a11 :: a12 :: a13 :: a14 :: L) := (List.Perm.cons _ pl14).trans (List.Perm.swap _ _ _)
theorem pl16 {α : Type} {a0 a1 a2 a3 a4 a5 a6 a7 a8 a9 a10 a11 a12 a13 a14 a15 a16 : α} {L : List α} : List.Perm (a0 :: a1 :: a2 :: a3 :: a4 :: a5 :: a6 :: a7 :: a8 :: a9 :: a10 :: a11 :: a12 :: a13 :: a14 :: a15 :: a16 :: L) (a16 :: a0 :: a1 :: a2 :: a3 :: a4 :: a5 :: a6 :: a7 :: a8 :: a9 :: a10 :: a11 :: a12 :: a13 :: a14 :: a15 :: L) := (List.Perm.cons _ pl15).trans (List.Perm.swap _ _ _)
theorem pl17 {α : Type} {a0 a1 a2 a3 a4 a5 a6 a7 a8 a9 a10 a11 a12 a13 a14 a15 a16 a17 : α} {L : List α} : List.Perm (a0 :: a1 :: a2 :: a3 :: a4 :: a5 :: a6 :: a7 :: a8 :: a9 :: a10 :: a11 :: a12 :: a13 :: a14 :: a15 :: a16 :: a17 :: L) (a17 :: a0 :: a1 :: a2 :: a3 :: a4 :: a5 :: a6 :: a7 :: a8 :: a9 :: a10 :: a11 :: a12 :: a13 :: a14 :: a15 :: a16 :: L) := (List.Perm.cons _ pl16).trans (List.Perm.swap _ _ _)
theorem pl18 {α : Type} {a0 a1 a2 a3 a4 a5 a6 a7 a8 a9 a10 a11 a12 a13 a14 a15 a16 a17 a18 : α} {L : List α} : List.Perm (a0 :: a1 :: a2 :: a3 :: a4 :: a5 :: a6 :: a7 :: a8 :: a9 :: a10 :: a11 :: a12 :: a13 :: a14 :: a15 :: a16 :: a17 :: a18 :: L) (a18 :: a0 :: a1 :: a2 :: a3 :: a4 :: a5 :: a6 :: a7 :: a8 :: a9 :: a10 :: a11 :: a12 :: a13 :: a14 :: a15 :: a16 :: a17 :: L) := (List.Perm.cons _ pl17).trans (List.Perm.swap _ _ _)
theorem pl19 {α : Type} {a0 a1 a2 a3 a4 a5 a6 a7 a8 a9 a10 a11 a12 a13 a14 a15 a16 a17 a18 a19 : α} {L : List α} : List.Perm (a0 :: a1 :: a2 :: a3 :: a4 :: a5 :: a6 :: a7 :: a8 :: a9 :: a10 :: a11 :: a12 :: a13 :: a14 :: a15 :: a16 :: a17 :: a18 :: a19 :: L) (a19 :: a0 :: a1 :: a2 :: a3 :: a4 :: a5 :: a6 :: a7 :: a8 :: a9 :: a10 :: a11 :: a12 :: a13 :: a14 :: a15 :: a16 :: a17 :: a18 :: L) := (List.Perm.cons _ pl18).trans (List.Perm.swap _ _ _)
theorem pl20 {α : Type} {a0 a1 a2 a3 a4 a5 a6 a7 a8 a9 a10 a11 a12 a13 a14 a15 a16 a17 a18 a19 a20 : α} {L : List α} : List.Perm (a0 :: a1 :: a2 :: a3 :: a4 :: a5 :: a6 :: a7 :: a8 :: a9 :: a10 :: a11 :: a12 :: a13 :: a14 :: a15 :: a16 :: a17 :: a18 :: a19 :: a20 :: L) (a20 :: a0 :: a1 :: a2 :: a3 :: a4 :: a5 :: a6 :: a7 :: a8 :: a9 :: a10 :: a11 :: a12 :: a13 :: a14 :: a15 :: a16 :: a17 :: a18 :: a19 :: L) := (List.Perm.cons _ pl19).trans (List.Perm.swap _ _ _)
theorem pl21 {α : Type} {a0 a1 a2 a3 a4 a5 a6 a7 a8 a9 a10 a11 a12 a13 a14 a15 a16 a17 a18 a19 a20 a21 : α} {L : List α} : List.Perm (a0 :: a1 :: a2 :: a3 :: a4 :: a5 :: a6 :: a7 :: a8 :: a9 :: a10 :: a11 :: a12 :: a13 :: a14 :: a15 :: a16 :: a17 :: a18 :: a19 :: a20 :: a21 :: L) (a21 :: a0 :: a1 :: a2 :: a3 :: a4 :: a5 :: a6 :: a7 :: a8 :: a9 :: a10 :: a11 :: a12 :: a13 :: a14 :: a15 :: a16 :: a17 :: a18 :: a19 :: a20 :: L) := (List.Perm.cons _ pl20).trans (List.Perm.swap _ _ _)
theorem pl22 {α : Type} {a0 a1 a2 a3 a4 a5 a6 a7 a8 a9 a10 a11 a12 a13 a14 a15 a16 a17 a18 a19 a20 a21 a22 : α} {L : List α} : List.Perm (a0 :: a1 :: a2 :: a3 :: a4 :: a5 :: a6 :: a7 :: a8 :: a9 :: a10 :: a11 :: a12 :: a13 :: a14 :: a15 :: a16 :: a17 :: a18 :: a19 :: a20 :: a21 :: a22 :: L) (a22 :: a0 :: a1 :: a2 :: a3 :: a4 :: a5 :: a6 :: a7 :: a8 :: a9 :: a10 :: a11 :: a12 :: a13 :: a14 :: a15 :: a16 :: a17 :: a18 :: a19 :: a20 :: a21 :: L) := (List.Perm.cons _ pl21).trans (List.Perm.swap _ _ _)
theorem pl23 {α : Type} {a0 a1 a2 a3 a4 a5 a6 a7 a8 a9 a10 a11 a12 a13 a14 a15 a16 a17 a18 a19 a20 a21 a22 a23 : α} {L : List α} : List.Perm (a0 :: a1 :: a2 :: a3 :: a4 :: a5 :: a6 :: a7 :: a8 :: a9 :: a10 :: a11 :: a12 :: a13 :: a14 :: a15 :: a16 :: a17 :: a18 :: a19 :: a20 :: a21 :: a22 :: a23 :: L) (a23 :: a0 :: a1 :: a2 :: a3 :: a4 :: a5 :: a6 :: a7 :: a8 :: a9 :: a10 :: a11 :: a12 :: a13 :: a14 :: a15 :: a16 :: a17 :: a18 :: a19 :: a20 :: a21 :: a22 :: L) := (List.Perm.cons _ pl22).trans (List.Perm.swap _ _ _)
theorem pl24 {α : Type} {a0 a1 a2 a3 a4 a5 a6 a7 a8 a9 a10 a11 a12 a13 a14 a15 a16 a17 a18 a19 a20 a21 a22 a23 a24 : α} {L : List α} : List.Perm (a0 :: a1 :: a2 :: a3 :: a4 :: a5 :: a6 :: a7 :: a8 :: a9 :: a10 :: a11 :: a12 :: a13 :: a14 :: a15 :: a16 :: a17 :: a18 :: a19 :: a20 :: a21 :: a22 :: a23 :: a24 :: L) (a24 :: a0 :: a1 :: a2 :: a3 :: a4 :: a5 :: a6 :: a7 :: a8 :: a9 :: a10 :: a11 :: a12 :: a13 :: a14 :: a15 :: a16 :: a17 :: a18 :: a19 :: a20 :: a21 :: a22 :: a23 :: L) := (List.Perm.cons _ pl23).trans (List.Perm.swap _ _ _)
theorem st0 {α : Type} {a0 v : α} {L : List α} : List.set (a0 :: L) 0 v = v :: L := rfl
theorem st1 {α : Type} {a0 a1 v : α} {L : List α} : List.set (a0 :: a1 :: L) 1 v = a0 :: v :: L := rfl
theorem st2 {α : Type} {a0 a1 a2 v : α} {L : List α} : List.set (a0 :: a1 :: a2 :: L) 2 v = a0 :: a1 :: v :: L := rfl
theorem st3 {α : Type} {a0 a1 a2 a3 v : α} {L : List α} : List.set (a0 :: a1 :: a2 :: a3 :: L) 3 v = a0 :: a1 :: a2 :: v :: L := rfl
theorem st4 {α : Type} {a0 a1 a2 a3 a4 v : α} {L : List α} : List.set (a0 :: a1 :: a2 :: a3 :: a4 :: L) 4 v = a0 :: a1 :: a2 :: a3 :: v :: L := rfl
theorem st5 {α : Type} {a0 a1 a2 a3 a4 a5 v : α} {L : List α} : List.set (a0 :: a1 :: a2 :: a3 :: a4 :: a5 :: L) 5 v = a0 :: a1 :: a2 :: a3 :: a4 :: v :: L := rfl
theorem st6 {α : Type} {a0 a1 a2 a3 a4 a5 a6 v : α} {L : List α} : List.set (a0 :: a1 :: a2 :: a3 :: a4 :: a5 :: a6 :: L) 6 v = a0 :: a1 :: a2 :: a3 :: a4 :: a5 :: v :: L := rfl
theorem st7 {α : Type} {a0 a1 a2 a3 a4 a5 a6 a7 v : α} {L : List α} : List.set (a0 :: a1 :: a2 :: a3 :: a4 :: a5 :: a6 :: a7 :: L) 7 v = a0 :: a1 :: a2 :: a3 :: a4 :: a5 :: a6 :: v :: L := rfl
theorem st8 {α : Type} {a0 a1 a2 a3 a4 a5 a6 a7 a8 v : α} {L : List α} : List.set (a0 :: a1 :: a2 :: a3 :: a4 :: a5 :: a6 :: a7 :: a8 :: L) 8 v = a0 :: a1 :: a2 :: a3 :: a4 :: a5 :: a6 :: a7 :: v :: L := rfl
theorem st9 {α : Type} {a0 a1 a2 a3 a4 a5 a6 a7 a8 a9 v : α} {L : List α} : List.set (a0 :: a1 :: a2 :: a3 :: a4 :: a5 :: a6 :: a7 :: a8 :: a9 :: L) 9 v = a0 :: a1 :: a2 :: a3 :: a4 :: a5 :: a6 :: a7 :: a8 :: v :: L := rfl
theorem st10 {α : Type} {a0 a1 a2 a3 a4 a5 a6 a7 a8 a9 a10 v : α} {L : List α} : List.set (a0 :: a1 :: a2 :: a3 :: a4 :: a5 :: a6 :: a7 :: a8 :: a9 :: a10 :: L) 10 v = a0 :: a1 :: a2 :: a3 :: a4 :: a5 :: a6 :: a7 :: a8 :: a9 :: v :: L := rfl
theorem st11 {α : Type} {a0 a1 a2 a3 a4 a5 a6 a7 a8 a9 a10 a11 v : α} {L : List α} : List.set (a0 :: a1 :: a2 :: a3 :: a4 :: a5 :: a6 :: a7 :: a8 :: a9 :: a10 :: a11 :: L) 11 v = a0 :: a1 :: a2 :: a3 :: a4 :: a5 :: a6 :: a7 :: a8 :: a9 :: a10 :: v :: L := rfl
theorem st12 {α : Type} {a0 a1 a2 a3 a4 a5 a6 a7 a8 a9 a10 a11 a12 v : α} {L : List α} : List.set (a0 :: a1 :: a2 :: a3 :: a4 :: a5 :: a6 :: a7 :: a8 :: a9 :: a10 :: a11 :: a12 :: L) 12 v = a0 :: a1 :: a2 :: a3 :: a4 :: a5 :: a6 :: a7 :: a8 :: a9 :: a10 :: a11 :: v :: L := rfl
theorem st13 {α : Type} {a0 a1 a2 a3 a4 a5 a6 a7 a8 a9 a10 a11 a12 a13 v : α} {L : List α} : List.set (a0 :: a1 :: a2 :: a3 :: a4 :: a5 :: a6 :: a7 :: a8 :: a9 :: a10 :: a11 :: a12 :: a13 :: L) 13 v = a0 :: a1 :: a2 :: a3 :: a4 :: a5 :: a6 :: a7 :: a8 :: a9 :: a10 :: a11 :: a12 :: v :: L := rfl
theorem st14 {α : Type} {a0 a1 a2 a3 a4 a5 a6 a7 a8 a9 a10 a11 a12 a13 a14 v : α} {L : List α} : List.set (a0 :: a1 :: a2 :: a3 :: a4 :: a5 :: a6 :: a7 :: a8 :: a9 :: a10 :: a11 :: a12 :: a13 :: a14 :: L) 14 v = a0 :: a1 :: a2 :: a3 :: a4 :: a5 :: a6 :: a7 :: a8 :: a9 :: a10 :: a11 :: a12 :: a13 :: v :: L := rfl
theorem st15 {α : Type} {a0 a1 a2 a3 a4 a5 a6 a7 a8 a9 a10 a11 a12 a13 a14 a15 v : α} {L : List α} : List.set (a0 :: a1 :: a2 :: a3 :: a4 :: a5 :: a6 :: a7 :: a8 :: a9 :: a10 :: a11 :: a12 :: a13 :: a14 :: a15 :: L) 15 v = a0 :: a1 :: a2 :: a3 :: a4 :: a5 :: a6 :: a7 :: a8 :: a9 :: a10 :: a11 :: a12 :: a13 :: a14 :: v :: L := rfl
theorem st16 {α : Type} {a0 a1 a2 a3 a4 a5 a6 a7 a8 a9 a10 a11 a12 a13 a14 a15 a16 v : α} {L : List α} : List.set (a0 :: a1 :: a2 :: a3 :: a4 :: a5 :: a6 :: a7 :: a8 :: a9 :: a10 :: a11 :: a12 :: a13 :: a14 :: a15 :: a16 :: L) 16 v = a0 :: a1 :: a2 :: a3 :: a4 :: a5 :: a6 :: a7 :: a8 :: a9 :: a10 :: a11 :: a12 :: a13 :: a14 :: a15 :: v :: L := rfl
theorem st17 {α : Type} {a0 a1 a2 a3 a4 a5 a6 a7 a8 a9 a10 a11 a12 a13 a14 a15 a16 a17 v : α} {L : List α} : List.set (a0 :: a1 :: a2 :: a3 :: a4 :: a5 :: a6 :: a7 :: a8 :: a9 :: a10 :: a11 :: a12 :: a13 :: a14 :: a15 :: a16 :: a17 :: L) 17 v = a0 :: a1 :: a2 :: a3 :: a4 :: a5 :: a6 :: a7 :: a8 :: a9 :: a10 :: a11 :: a12 :: a13 :: a14 :: a15 :: a16 :: v :: L := rfl
theorem st18 {α : Type} {a0 a1 a2 a3 a4 a5 a6 a7 a8 a9 a10 a11 a12 a13 a14 a15 a16 a17 a18 v : α} {L : List α} : List.set (a0 :: a1 :: a2 :: a3 :: a4 :: a5 :: a6 :: a7 :: a8 :: a9 :: a10 :: a11 :: a12 :: a13 :: a14 :: a15 :: a16 :: a17 :: a18 :: L) 18 v = a0 :: a1 :: a2 :: a3 :: a4 :: a5 :: a6 :: a7 :: a8 :: a9 :: a10 :: a11 :: a12 :: a13 :: a14 :: a15 :: a16 :: a17 :: v :: L := rfl
theorem st19 {α : Type} {a0 a1 a2 a3 a4 a5 a6 a7 a8 a9 a10 a11 a12 a13 a14 a15 a16 a17 a18 a19 v : α} {L : List α} : List.set (a0 :: a1 :: a2 :: a3 :: a4 :: a5 :: a6 :: a7 :: a8 :: a9 :: a10 :: a11 :: a12 :: a13 :: a14 :: a15 :: a16 :: a17 :: a18 :: a19 :: L) 19 v = a0 :: a1 :: a2 :: a3 :: a4 :: a5 :: a6 :: a7 :: a8 :: a9 :: a10 :: a11 :: a12 :: a13 :: a14 :: a15 :: a16 :: a17 :: a18 :: v :: L := rfl
theorem st20 {α : Type} {a0 a1 a2 a3 a4 a5 a6 a7 a8 a9 a10 a11 a12 a13 a14 a15 a16 a17 a18 a19 a20 v : α} {L : List α} : List.set (a0 :: a1 :: a2 :: a3 :: a4 :: a5 :: a6 :: a7 :: a8 :: a9 :: a10 :: a11 :: a12 :: a13 :: a14 :: a15 :: a16 :: a17 :: a18 :: a19 :: a20 :: L) 20 v = a0 :: a1 :: a2 :: a3 :: a4 :: a5 :: a6 :: a7 :: a8 :: a9 :: a10 :: a11 :: a12 :: a13 :: a14 :: a15 :: a16 :: a17 :: a18 :: a19 :: v :: L := rfl
theorem st21 {α : Type} {a0 a1 a2 a3 a4 a5 a6 a7 a8 a9 a10 a11 a12 a13 a14 a15 a16 a17 a18 a19 a20 a21 v : α} {L : List α} : List.set (a0 :: a1 :: a2 :: a3 :: a4 :: a5 :: a6 :: a7 :: a8 :: a9 :: a10 :: a11 :: a12 :: a13 :: a14 :: a15 :: a16 :: a17 :: a18 :: a19 :: a20 :: a21 :: L) 21 v = a0 :: a1 :: a2 :: a3 :: a4 :: a5 :: a6 :: a7 :: a8 :: a9 :: a10 :: a11 :: a12 :: a13 :: a14 :: a15 :: a16 :: a17 :: a18 :: a19 :: a20 :: v :: L := rfl
theorem st22 {α : Type} {a0 a1 a2 a3 a4 a5 a6 a7 a8 a9 a10 a11 a12 a13 a14 a15 a16 a17 a18 a19 a20 a21 a22 v : α} {L : List α} : List.set (a0 :: a1 :: a2 :: a3 :: a4 :: a5 :: a6 :: a7 :: a8 :: a9 :: a10 :: a11 :: a12 :: a13 :: a14 :: a15 :: a16 :: a17 :: a18 :: a19 :: a20 :: a21 :: a22 :: L) 22 v = a0 :: a1 :: a2 :: a3 :: a4 :: a5 :: a6 :: a7 :: a8 :: a9 :: a10 :: a11 :: a12 :: a13 :: a14 :: a15 :: a16 :: a17 :: a18 :: a19 :: a20 :: a21 :: v :: L := rfl
theorem st23 {α : Type} {a0 a1 a2 a3 a4 a5 a6 a7 a8 a9 a10 a11 a12 a13 a14 a15 a16 a17 a18 a19 a20 a21 a22 a23 v : α} {L : List α} : List.set (a0 :: a1 :: a2 :: a3 :: a4 :: a5 :: a6 :: a7 :: a8 :: a9 :: a10 :: a11 :: a12 :: a13 :: a14 :: a15 :: a16 :: a17 :: a18 :: a19 :: a20 :: a21 :: a22 :: a23 :: L) 23 v = a0 :: a1 :: a2 :: a3 :: a4 :: a5 :: a6 :: a7 :: a8 :: a9 :: a10 :: a11 :: a12 :: a13 :: a14 :: a15 :: a16 :: a17 :: a18 :: a19 :: a20 :: a21 :: a22 :: v :: L := rfl
theorem st24 {α : Type} {a0 a1 a2 a3 a4 a5 a6 a7 a8 a9 a10 a11 a12 a13 a14 a15 a16 a17 a18 a19 a20 a21 a22 a23 a24 v : α} {L : List α} : List.set (a0 :: a1 :: a2 :: a3 :: a4 :: a5 :: a6 :: a7 :: a8 :: a9 :: a10 :: a11 :: a12 :: a13 :: a14 :: a15 :: a16 :: a17 :: a18 :: a19 :: a20 :: a21 :: a22 :: a23 :: a24 :: L) 24 v = a0 :: a1 :: a2 :: a3 :: a4 :: a5 :: a6 :: a7 :: a8 :: a9 :: a10 :: a11 :: a12 :: a13 :: a14 :: a15 :: a16 :: a17 :: a18 :: a19 :: a20 :: a21 :: a22 :: a23 :: v :: L := rfl

section
variable [Dfs]
theorem WP.drop {P : Program} {W : World} {ops : Array Oper} {Q : Exit → Act → World → Prop} {rest : List Oper} {n : Nat} {l : List (Nat × Value)} {A : HProp} {L : List HProp} (h : WP P W ops Q rest n l L) : WP P W ops Q rest n l (A :: L) := fun a w hf hs => h a w hf hs.drop
theorem WPc.drop {P : Program} {W : World} {c : Code} {Q : Exit → Act → World → Prop} {n : Nat} {l : List (Nat × Value)} {A : HProp} {L : List HProp} (h : WPc P W c Q n l L) : WPc P W c Q n l (A :: L) := fun a w hf hs => h a w hf hs.drop
theorem WPD.drop {P : Program} {W : World} {ops : Array Oper} {Q : Exit → Act → World → Prop} {S : World → Prop} {fuel : Nat} {listed : Array Bool} {n : Nat} {l : List (Nat × Value)} {A : HProp} {L : List HProp} (h : WPD P W ops Q S fuel listed n l L) : WPD P W ops Q S fuel listed n l (A :: L) := fun a w hf hs => h a w hf hs.drop
theorem Out.drop {W : World} {Q : Exit → Act → World → Prop} {e : Exit} {n : Nat} {l : List (Nat × Value)} {A : HProp} {L : List HProp} (h : Out W Q e n l L) : Out W Q e n l (A :: L) := fun a w hf hs => h a w hf hs.drop
theorem Fr.know {n : Nat} {a : Act} {l : List (Nat × Value)} {t : Nat} {v u : Value} (h : Fr n a l) (hl : look l t = some v) (e : v = u) : Fr n a ((t, u) :: l) := h.sub (Sub.cons (by rw [hl, e]) fun _ _ h => h)
/-- a test in a slot, both ways -/
theorem WP.split {P : Program} {W : World} {ops : Array Oper} {Q : Exit → Act → World → Prop} {rest : List Oper} {n : Nat} {l : List (Nat × Value)} {L : List HProp} (t : Nat) {p : Prop} [Decidable p] (hl : look l t = some (.bool (decide p)))
    (h1 : p → WP P W ops Q rest n ((t, .bool true) :: l) L) (h2 : ¬ p → WP P W ops Q rest n ((t, .bool false) :: l) L) : WP P W ops Q rest n l L := fun a w hf hs => by
  by_cases hp : p
  · exact h1 hp a w (hf.know hl (by simp [hp])) hs
  · exact h2 hp a w (hf.know hl (by simp [hp])) hs
theorem WPD.split {P : Program} {W : World} {ops : Array Oper} {Q : Exit → Act → World → Prop} {S : World → Prop} {fuel : Nat} {listed : Array Bool} {n : Nat} {l : List (Nat × Value)} {L : List HProp} (t : Nat) {p : Prop} [Decidable p] (hl : look l t = some (.bool (decide p)))
    (h1 : p → WPD P W ops Q S fuel listed n ((t, .bool true) :: l) L) (h2 : ¬ p → WPD P W ops Q S fuel listed n ((t, .bool false) :: l) L) : WPD P W ops Q S fuel listed n l L := fun a w hf hs => by
  by_cases hp : p
  · exact h1 hp a w (hf.know hl (by simp [hp])) hs
  · exact h2 hp a w (hf.know hl (by simp [hp])) hs
theorem WP.splitB {P : Program} {W : World} {ops : Array Oper} {Q : Exit → Act → World → Prop} {rest : List Oper} {n : Nat} {l : List (Nat × Value)} {L : List HProp} (t : Nat) {b : Bool} (hl : look l t = some (.bool b))
    (h1 : b = true → WP P W ops Q rest n ((t, .bool true) :: l) L) (h2 : b = false → WP P W ops Q rest n ((t, .bool false) :: l) L) : WP P W ops Q rest n l L := fun a w hf hs => by
  cases b
  · exact h2 rfl a w (hf.know hl rfl) hs
  · exact h1 rfl a w (hf.know hl rfl) hs
theorem WPD.splitB {P : Program} {W : World} {ops : Array Oper} {Q : Exit → Act → World → Prop} {S : World → Prop} {fuel : Nat} {listed : Array Bool} {n : Nat} {l : List (Nat × Value)} {L : List HProp} (t : Nat) {b : Bool} (hl : look l t = some (.bool b))
    (h1 : b = true → WPD P W ops Q S fuel listed n ((t, .bool true) :: l) L) (h2 : b = false → WPD P W ops Q S fuel listed n ((t, .bool false) :: l) L) : WPD P W ops Q S fuel listed n l L := fun a w hf hs => by
  cases b
  · exact h2 rfl a w (hf.know hl rfl) hs
  · exact h1 rfl a w (hf.know hl rfl) hs
/-- a slot's value, spelled otherwise -/
theorem WP.know {P : Program} {W : World} {ops : Array Oper} {Q : Exit → Act → World → Prop} {rest : List Oper} {n : Nat} {l : List (Nat × Value)} {L : List HProp} (t : Nat) (u : Value) {v : Value} (hl : look l t = some v) (e : v = u) (h : WP P W ops Q rest n ((t, u) :: l) L) : WP P W ops Q rest n l L := fun a w hf hs => h a w (hf.know hl e) hs
theorem WPc.know {P : Program} {W : World} {c : Code} {Q : Exit → Act → World → Prop} {n : Nat} {l : List (Nat × Value)} {L : List HProp} (t : Nat) (u : Value) {v : Value} (hl : look l t = some v) (e : v = u) (h : WPc P W c Q n ((t, u) :: l) L) : WPc P W c Q n l L := fun a w hf hs => h a w (hf.know hl e) hs
theorem WPD.know {P : Program} {W : World} {ops : Array Oper} {Q : Exit → Act → World → Prop} {S : World → Prop} {fuel : Nat} {listed : Array Bool} {n : Nat} {l : List (Nat × Value)} {L : List HProp} (t : Nat) (u : Value) {v : Value} (hl : look l t = some v) (e : v = u) (h : WPD P W ops Q S fuel listed n ((t, u) :: l) L) : WPD P W ops Q S fuel listed n l L := fun a w hf hs => h a w (hf.know hl e) hs
omit [Dfs] in
theorem wpList_seg {P : Program} {ops : Array Oper} {Q : Exit → Act → World → Prop} {rest : List Oper} : ∀ (l1 : List Oper) (a : Act) (w : World), wpList P ops (Exit.then (wpList P ops Q rest) Q) l1 a w → wpList P ops Q (l1 ++ rest) a w
  | [], _, _, h => h
  | o :: l1, a, w, h => by
    have hlo : LetsOut (Exit.then (wpList P ops Q rest) Q) → LetsOut Q := fun ⟨a, w, h⟩ => ⟨a, w, h⟩
    simp only [wpList, List.cons_append] at h ⊢
    split
    · rename_i hw
      rw [if_pos hw] at h
      rcases h with h | ⟨h1, h2⟩
      · refine .inl ?_
        unfold Oper.wp at *
        generalize (execOp a.eval o).run P w = r at *
        cases r with
        | ok n w' =>
          cases n <;> simp only [Oper.upon] at h ⊢ <;> first
            | exact wpList_seg l1 _ _ h
            | exact Calls.mono h (fun e w'' he => by cases e <;> first | exact wpList_seg l1 _ _ he | exact hlo he | exact he)
            | exact Rows.mono h (fun _ _ he => wpList_seg l1 _ _ he)
        | halt x w' => cases x <;> simp only [Oper.upon] at h ⊢ <;> exact h
      · exact .inr ⟨h1, hlo h2⟩
    · rename_i hw
      rw [if_neg hw] at h
      exact wpList_seg l1 _ _ h
/-- the first m operations by themselves: ways meet behind them -/
theorem WP.seg {P : Program} {W : World} {ops : Array Oper} {Q : Exit → Act → World → Prop} {rest : List Oper} {n : Nat} {l : List (Nat × Value)} {L : List HProp} (m : Nat) {ι : Type} (I : ι → Prop) (lf : ι → List (Nat × Value)) (Lf : ι → List HProp)
    (first : WP P W ops (Exit.then (Meet W n I lf Lf) Q) (rest.take m) n l L) (second : ∀ j, I j → WP P W ops Q (rest.drop m) n (lf j) (Lf j)) : WP P W ops Q rest n l L := by
  intro a w hf hs
  have h := first a w hf hs
  have hm : ∀ l1 a w, wpList P ops (Exit.then (Meet W n I lf Lf) Q) l1 a w → wpList P ops (Exit.then (wpList P ops Q (rest.drop m)) Q) l1 a w := by
    intro l1
    induction l1 with
    | nil => rintro a w ⟨j, hj, hfj, hsj⟩; exact second j hj a w hfj hsj
    | cons o l1 ih =>
      intro a w h
      have hlo : LetsOut (Exit.then (Meet W n I lf Lf) Q) → LetsOut (Exit.then (wpList P ops Q (rest.drop m)) Q) := fun ⟨a, w, h⟩ => ⟨a, w, h⟩
      simp only [wpList] at h ⊢
      split
      · rename_i hw
        rw [if_pos hw] at h
        rcases h with h | ⟨h1, h2⟩
        · refine .inl ?_
          unfold Oper.wp at *
          generalize (execOp a.eval o).run P w = r at *
          cases r with
          | ok n w' =>
            cases n <;> simp only [Oper.upon] at h ⊢ <;> first
              | exact ih _ _ h
              | exact Calls.mono h (fun e w'' he => by cases e <;> first | exact ih _ _ he | exact hlo he | exact he)
              | exact Rows.mono h (fun _ _ he => ih _ _ he)
          | halt x w' => cases x <;> simp only [Oper.upon] at h ⊢ <;> exact h
        · exact .inr ⟨h1, hlo h2⟩
      · rename_i hw
        rw [if_neg hw] at h
        exact ih _ _ h
  have := wpList_seg (rest.take m) a w (hm _ a w h)
  rwa [List.take_append_drop] at this
theorem WP.open {P : Program} {W : World} {ops : Array Oper} {Q : Exit → Act → World → Prop} {rest : List Oper} {n : Nat} {l : List (Nat × Value)} {L : List HProp} {α : Type} {f : α → List HProp} (hi : ∀ w, Sat W L w → ∃ x, Sat W (f x) w) (h : ∀ x, WP P W ops Q rest n l (f x)) : WP P W ops Q rest n l L := fun a w hf hs => let ⟨x, hx⟩ := hi w hs; h x a w hf hx
theorem WPc.open {P : Program} {W : World} {c : Code} {Q : Exit → Act → World → Prop} {n : Nat} {l : List (Nat × Value)} {L : List HProp} {α : Type} {f : α → List HProp} (hi : ∀ w, Sat W L w → ∃ x, Sat W (f x) w) (h : ∀ x, WPc P W c Q n l (f x)) : WPc P W c Q n l L := fun a w hf hs => let ⟨x, hx⟩ := hi w hs; h x a w hf hx
theorem WPD.open {P : Program} {W : World} {ops : Array Oper} {Q : Exit → Act → World → Prop} {S : World → Prop} {fuel : Nat} {listed : Array Bool} {n : Nat} {l : List (Nat × Value)} {L : List HProp} {α : Type} {f : α → List HProp} (hi : ∀ w, Sat W L w → ∃ x, Sat W (f x) w) (h : ∀ x, WPD P W ops Q S fuel listed n l (f x)) : WPD P W ops Q S fuel listed n l L := fun a w hf hs => let ⟨x, hx⟩ := hi w hs; h x a w hf hx
theorem WPD.fact {P : Program} {W : World} {ops : Array Oper} {Q : Exit → Act → World → Prop} {S : World → Prop} {fuel : Nat} {listed : Array Bool} {n : Nat} {l : List (Nat × Value)} {L : List HProp} {φ : Prop} (hi : ∀ w, Sat W L w → φ) (h : φ → WPD P W ops Q S fuel listed n l L) : WPD P W ops Q S fuel listed n l L := fun a w hf hs => h (hi w hs) a w hf hs
theorem Out.open {W : World} {Q : Exit → Act → World → Prop} {e : Exit} {n : Nat} {l : List (Nat × Value)} {L : List HProp} {α : Type} {f : α → List HProp} (hi : ∀ w, Sat W L w → ∃ x, Sat W (f x) w) (h : ∀ x, Out W Q e n l (f x)) : Out W Q e n l L := fun a w hf hs => let ⟨x, hx⟩ := hi w hs; h x a w hf hx
/-- one of two -/
theorem WPc.or {P : Program} {W : World} {c : Code} {Q : Exit → Act → World → Prop} {n : Nat} {l : List (Nat × Value)} {L : List HProp} {A B : Prop} {M M' : List HProp} (hi : ∀ w, Sat W L w → (A ∧ Sat W M w) ∨ (B ∧ Sat W M' w)) (h1 : A → WPc P W c Q n l M) (h2 : B → WPc P W c Q n l M') : WPc P W c Q n l L :=
  fun a w hf hs => (hi w hs).elim (fun ⟨x, y⟩ => h1 x a w hf y) (fun ⟨x, y⟩ => h2 x a w hf y)
theorem Out.or {W : World} {e : Exit} {Q : Exit → Act → World → Prop} {n : Nat} {l : List (Nat × Value)} {L : List HProp} {A B : Prop} {M M' : List HProp} (hi : ∀ w, Sat W L w → (A ∧ Sat W M w) ∨ (B ∧ Sat W M' w)) (h1 : A → Out W Q e n l M) (h2 : B → Out W Q e n l M') : Out W Q e n l L :=
  fun a w hf hs => (hi w hs).elim (fun ⟨x, y⟩ => h1 x a w hf y) (fun ⟨x, y⟩ => h2 x a w hf y)
end
/-- what is so ahead of a call, case by case -/
theorem Does.or {P : Program} {f : FuncId} {args : List Value} {L : List HProp} {R : Value → List HProp → Prop} {A B : Prop} {M M' : List HProp} (hi : ∀ W w F, Sat W (L ++ F) w → (A ∧ Sat W (M ++ F) w) ∨ (B ∧ Sat W (M' ++ F) w)) (h1 : A → Does P f args M R) (h2 : B → Does P f args M' R) : Does P f args L R :=
  fun W F w hs => (hi W w F hs).elim (fun ⟨x, y⟩ => h1 x W F w y) (fun ⟨x, y⟩ => h2 x W F w y)
theorem Does.open {P : Program} {f : FuncId} {args : List Value} {L : List HProp} {R : Value → List HProp → Prop} {α : Type} {g : α → List HProp} (hi : ∀ W w F, Sat W (L ++ F) w → ∃ x, Sat W (g x ++ F) w) (h : ∀ x, Does P f args (g x) R) : Does P f args L R :=
  fun W F w hs => let ⟨x, hx⟩ := hi W w F hs; h x W F w hx
theorem Does.fact {P : Program} {f : FuncId} {args : List Value} {L : List HProp} {R : Value → List HProp → Prop} {A : Prop} (hi : ∀ W w F, Sat W (L ++ F) w → A) (h : A → Does P f args L R) : Does P f args L R := fun W F w hs => h (hi W w F hs) W F w hs
theorem Does.conv {P : Program} {f : FuncId} {args : List Value} {L M : List HProp} {R : Value → List HProp → Prop} (hi : ∀ W w F, Sat W (L ++ F) w → Sat W (M ++ F) w) (h : Does P f args M R) : Does P f args L R := fun W F w hs => h W F w (hi W w F hs)
end Go.Proofs.YthicijpjpijdjaaDoor.Sl
