import Derived.Test.YtibopfemknnocaaOpen
namespace Go.Proofs.Ytibopfemknnocaa.Kept
open Go.RowKit Go.Lib Go.Proofs.Ytibopfemknnocaa.Open

/-- a fact that no tactic looks into -/
structure Box (p : Prop) : Prop where
  out : p

/-- The world w' is w, but for the blocks of M, and for new ones. -/
structure Kept (M : Nat → Prop) (w w' : World) : Prop where
  os : w'.os = w.os
  tape : w'.tape = w.tape
  output : w'.output = w.output
  size : w.heap.size ≤ w'.heap.size
  block : ∀ k, k < w.heap.size → ¬ M k → w'.heap[k]? = w.heap[k]?

theorem Kept.refl (M : Nat → Prop) (w : World) : Kept M w w := ⟨rfl, rfl, rfl, Nat.le_refl _, fun _ _ _ => rfl⟩
theorem Kept.trans {M : Nat → Prop} {a b c : World} (h : Kept M a b) (k : Kept M b c) : Kept M a c :=
  ⟨k.os.trans h.os, k.tape.trans h.tape, k.output.trans h.output, Nat.le_trans h.size k.size, fun i hi hm => (k.block i (Nat.lt_of_lt_of_le hi h.size) hm).trans (h.block i hi hm)⟩
theorem Kept.mono {M M' : Nat → Prop} {a b : World} (h : Kept M a b) (hm : ∀ k, k < a.heap.size → M k → M' k) : Kept M' a b :=
  ⟨h.os, h.tape, h.output, h.size, fun i hi hn => h.block i hi fun x => hn (hm i hi x)⟩
theorem Kept.of_below {M : Nat → Prop} {a b : World} (h : Below a.heap.size a b) : Kept M a b := ⟨h.os, h.tape, h.output, h.size, fun i hi _ => h.block i hi⟩
theorem Kept.below {M : Nat → Prop} {B : Nat} {a b : World} (h : Kept M a b) (hB : B ≤ a.heap.size) (hm : ∀ k, M k → B ≤ k) : Below B a b :=
  ⟨h.os, h.tape, h.output, h.size, fun i hi => h.block i (Nat.lt_of_lt_of_le hi hB) fun x => by have := hm i x; omega⟩
/-- a step behind one that only made blocks -/
theorem Kept.after {M M' : Nat → Prop} {a b c : World} (h : Kept M a b) (k : Kept M' b c) (hm : ∀ i, i < a.heap.size → M' i → M i) : Kept M a c :=
  ⟨k.os.trans h.os, k.tape.trans h.tape, k.output.trans h.output, Nat.le_trans h.size k.size, fun i hi hn => (k.block i (Nat.lt_of_lt_of_le hi h.size) fun x => hn (hm i hi x)).trans (h.block i hi hn)⟩
theorem Kept.drew {M : Nat → Prop} {a b : World} (h : Kept M a b) : Kept M a b.drew := ⟨h.os, h.tape, h.output, h.size, h.block⟩
theorem Kept.new {M : Nat → Prop} {a b : World} (h : Kept M a b) (o : Obj) : Kept M a (b.alloc o) := h.trans (.of_below (Below.new _ _))
theorem lt_of_block {w : World} {b : Nat} {o : Obj} (h : w.heap[b]? = some o) : b < w.heap.size := (Array.getElem?_eq_some_iff.1 h).1
theorem Kept.set {M : Nat → Prop} {a w : World} {p : Addr} (h : Kept M a w) (hp : p.block < a.heap.size → M p.block) (v : Value) : Kept M a (w.setCell p v) := by
  refine ⟨h.os, h.tape, h.output, ?_, fun k hk hn => ?_⟩
  · rw [World.size_setCell]; exact h.size
  · rw [heap_setCell_other _ _ _ _ (fun e => hn (by subst e; exact hp hk))]; exact h.block k hk hn
theorem Kept.at {M : Nat → Prop} {a w : World} {b : Nat} {o : Obj} (h : Kept M a w) (hb : a.heap[b]? = some o) (hm : ¬ M b) : w.heap[b]? = some o := (h.block b (lt_of_block hb) hm).trans hb

/-- a block of cells that may be written -/
theorem cell_of {w : World} {b : Nat} {C : Array Value} {t : TypeId} {fr : Nat × Nat} (h : w.heap[b]? = some (.cells C t fr)) (i : Nat) : w.cell? ⟨b, i, none⟩ = C[i]? := by simp [World.cell?, h]
theorem free_of {w : World} {b : Nat} {C : Array Value} {t : TypeId} (h : w.heap[b]? = some (.cells C t (0, 0))) (i : Nat) : w.frozen? ⟨b, i, none⟩ = false := by simp [World.frozen?, h]
theorem set_block {w : World} {b : Nat} {C : Array Value} {t : TypeId} {fr : Nat × Nat} (h : w.heap[b]? = some (.cells C t fr)) (i : Nat) (v : Value) : (w.setCell ⟨b, i, none⟩ v).heap[b]? = some (.cells (C.setIfInBounds i v) t fr) := by
  simp [World.setCell, Array.getElem?_modify, h]
theorem alloc_at {w : World} {b : Nat} {o : Obj} (h : w.heap[b]? = some o) (x : Obj) : (w.alloc x).heap[b]? = some o := (Below.new w x).block b (lt_of_block h) |>.trans h
theorem alloc_new (w : World) (x : Obj) : (w.alloc x).heap[w.heap.size]? = some x := heap_alloc_new w x
theorem Kept.cell {M : Nat → Prop} {a w : World} (h : Kept M a w) {b o : Nat} {v : Value} (hc : a.cell? ⟨b, o, none⟩ = some v) (hm : ¬ M b) : w.cell? ⟨b, o, none⟩ = some v := by
  have hlt := (cell_lt hc).1
  have e : w.cell? ⟨b, o, none⟩ = a.cell? ⟨b, o, none⟩ := World.cell?_of_block (h.block b hlt hm)
  exact e.trans hc
theorem set_other {w : World} {b k : Nat} {o : Obj} (h : w.heap[b]? = some o) (hne : b ≠ k) (i : Nat) (v : Value) : (w.setCell ⟨k, i, none⟩ v).heap[b]? = some o := (heap_setCell_other w ⟨k, i, none⟩ b v hne).trans h
theorem cell_other {w : World} {b o k i : Nat} {x v : Value} (h : w.cell? ⟨b, o, none⟩ = some x) (hne : b ≠ k) : (w.setCell ⟨k, i, none⟩ v).cell? ⟨b, o, none⟩ = some x := by
  have e : (w.setCell ⟨k, i, none⟩ v).cell? ⟨b, o, none⟩ = w.cell? ⟨b, o, none⟩ := World.cell?_of_block (heap_setCell_other w ⟨k, i, none⟩ b v hne)
  exact e.trans h
end Go.Proofs.Ytibopfemknnocaa.Kept
