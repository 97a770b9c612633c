import Derived.Test.YtibopfemknnocaaProg
import Derived.WalkKit
import Derived.WalkLawsBesides
import Derived.WalkSpells
import Derived.ProofKit
import Derived.Deep.Slices
import Derived.Deep.Fields
import Derived.Lib.Hide
namespace Go.Proofs.Ytibopfemknnocaa.Open
open Go.RowKit Go.Lib Go.ChangeShapes Go.WideShapes Go.Deep

/-- The cells read as data of a type, in some way of reading. -/
def Reads (P : Program) (w : World) (t : TypeId) (cs : List Value) : Prop :=
  ∃ (H : Type) (enc : TypeId × Value → H) (base : Nat) (spare : Nat → Bool) (held : Bool) (fuel : Nat) (x : DataW H × List MemPlace), DataW.trod enc P w base spare held fuel t cs = some x

section
variable {P : Program} {w : World}
theorem Reads.int {t : TypeId} {cs : List Value} {k : IntKind} (ht : P.underlying t = some (.int k)) (h : Reads P w t cs) : ∃ n, cs = [.int k n] ∧ (Lit.int k n).wf = true := by
  obtain ⟨H, enc, base, spare, held, fuel, x, h⟩ := h
  obtain ⟨n, h1, _, h2⟩ := DataW.trod_int ht h
  exact ⟨n, h1, h2⟩
theorem Reads.bool {t : TypeId} {cs : List Value} (ht : P.underlying t = some .bool) (h : Reads P w t cs) : ∃ b, cs = [.bool b] := by
  obtain ⟨H, enc, base, spare, held, fuel, x, h⟩ := h
  obtain ⟨n, h1, _⟩ := DataW.trod_bool ht h
  exact ⟨n, h1⟩
theorem Reads.string {t : TypeId} {cs : List Value} (ht : P.underlying t = some .string) (h : Reads P w t cs) : ∃ s : ByteArray, cs = [.string s] ∧ s.size ≤ maxLen := by
  obtain ⟨H, enc, base, spare, held, fuel, x, h⟩ := h
  obtain ⟨n, h1, _, h2⟩ := DataW.trod_string ht h
  exact ⟨n, h1, h2⟩
theorem Reads.struct {t : TypeId} {cs : List Value} {fs : Array Field} (ht : P.underlying t = some (.struct fs)) (h : Reads P w t cs) :
    cs.length = P.cellsOf t ∧ ∀ (i : Nat) (f : Field), fs[i]? = some f → Reads P w f.type ((cs.drop f.offset).take (P.cellsOf f.type)) := by
  obtain ⟨H, enc, base, spare, held, fuel, x, h⟩ := h
  obtain ⟨xs, n, _, _, h1, h2, h3⟩ := DataW.trod_struct ht h
  refine ⟨h1, fun i f hf => ?_⟩
  have := h3 i f hf
  have hi : i < xs.length := by rw [h2]; exact (Array.getElem?_eq_some_iff.1 hf).1
  rw [List.getElem?_eq_getElem hi] at this
  exact ⟨H, enc, base, spare, held, n, _, this⟩
/-- a struct of one-cell fields, field by field -/
theorem Reads.fields {t : TypeId} {cs : List Value} {fs : Array Field} (ht : P.underlying t = some (.struct fs)) (hone : oneCellFields P fs = true) (hC : P.cellsOf t = fs.size) (h : Reads P w t cs) :
    cs.length = fs.size ∧ ∀ (j : Nat) (f : Field), fs[j]? = some f → ∀ v, cs[j]? = some v → Reads P w f.type [v] := by
  obtain ⟨h1, h2⟩ := h.struct ht
  refine ⟨by rw [h1, hC], fun j f hj v hv => ?_⟩
  obtain ⟨ho, hk⟩ := hone_of hone j f hj
  have h3 := h2 j f hj
  rw [ho, hk] at h3
  have hjl : j < cs.length := (List.getElem?_eq_some_iff.1 hv).1
  have e : (cs.drop j).take 1 = [v] := by
    rw [List.drop_eq_getElem_cons hjl]
    have := (List.getElem?_eq_some_iff.1 hv).2
    simp [this]
  rw [e] at h3
  exact h3
/-- the row of cells at an address -/
def CellsAt (w : World) (a : Option Addr) (k : Nat) (cs : List Value) : Prop :=
  ∃ b o, a = some ⟨b, o, none⟩ ∧ b < w.heap.size ∧ ∀ j, j < cs.length → w.cell? ⟨b, o + (k + j), none⟩ = cs[j]?
theorem cell_lt {a : Addr} {v : Value} (h : w.cell? a = some v) : a.block < w.heap.size ∧ a.spot = none := by
  unfold World.cell? at h
  split at h
  · rename_i hb
    refine ⟨(Array.getElem?_eq_some_iff.1 hb).1, ?_⟩
    split at h
    · simp at h
    · rename_i hs; simpa using hs
  · simp at h
theorem Reads.slice {t e : TypeId} {cs : List Value} (ht : P.underlying t = some (.slice e)) (hc : 0 < P.cellsOf e) (h : Reads P w t cs) :
    ∃ a n c, cs = [.slice a n c] ∧ n ≤ c ∧ c ≤ maxLen ∧ (a = none → n = 0 ∧ c = 0) ∧ ∀ i, i < n → ∃ ds, ds.length = P.cellsOf e ∧ CellsAt w a (i * P.cellsOf e) ds ∧ Reads P w e ds := by
  obtain ⟨H, enc, base, spare, held, fuel, x, h⟩ := h
  rcases open_slice ht h with ⟨h1, _⟩ | ⟨a, len, cap, m, n, D, Pl, hcs, hb, hl, hm, hmm, hx, hi⟩
  · exact ⟨none, 0, 0, h1, Nat.le_refl _, Nat.zero_le _, fun _ => ⟨rfl, rfl⟩, fun i hi => by omega⟩
  · refine ⟨some a, len, cap, hcs, hl, hm, fun h => by simp at h, fun i him => ?_⟩
    have him' : i < m := by rw [hmm]; split <;> omega
    obtain ⟨cs', hc', ht'⟩ := hi i him'
    obtain ⟨_, hcl, hat⟩ := World.cells?_some hc'
    refine ⟨cs', hcl, ?_, H, enc, base, spare, held, n, _, ht'⟩
    have h0 := hat 0 hc
    have hv : cs'[0]? = some (cs'[0]'(by omega)) := List.getElem?_eq_getElem (by omega)
    rw [hv] at h0
    obtain ⟨hlt, hsp⟩ := cell_lt h0
    have hadd : ∀ j, ((a.add (i * P.cellsOf e)).add j).block = a.block := by intro j; unfold Addr.add; split <;> split <;> rfl
    have hsp' : a.spot = none ∨ i * P.cellsOf e ≠ 0 := by
      by_cases hz : i * P.cellsOf e = 0
      · left; simpa [Addr.add, hz] using hsp
      · exact .inr hz
    by_cases hsa : a.spot = none
    · obtain ⟨b, o, sp⟩ := a
      simp only at hsa
      subst hsa
      refine ⟨b, o, rfl, by rw [hadd] at hlt; exact hlt, fun j hj => ?_⟩
      rw [← hat j (by omega)]
      congr 1
      unfold Addr.add
      split <;> split <;> simp_all <;> omega
    · exfalso
      have hl0 : 0 < m := by omega
      obtain ⟨cs0, hc0, _⟩ := hi 0 hl0
      obtain ⟨_, hcl0, hat0⟩ := World.cells?_some hc0
      have h00 := hat0 0 hc
      have hv0 : cs0[0]? = some (cs0[0]'(by omega)) := List.getElem?_eq_getElem (by omega)
      rw [hv0] at h00
      have := (cell_lt h00).2
      simp [Addr.add] at this
      exact hsa this
end
/-- cells one behind the other, as the walk spells them -/
def RowFrom (w : World) (b o : Nat) : Nat → List Value → Prop
  | _, [] => True
  | j, v :: l => w.cell? ⟨b, o + j, none⟩ = some v ∧ RowFrom w b o (j + 1) l
theorem rowFrom_of {w : World} {b o : Nat} : ∀ {l : List Value} {j : Nat}, (∀ i, i < l.length → w.cell? ⟨b, o + (j + i), none⟩ = l[i]?) → RowFrom w b o j l
  | [], _, _ => True.intro
  | v :: l, j, h => ⟨by simpa using h 0 (by simp), rowFrom_of fun i hi => by
      have := h (i + 1) (by simpa using hi)
      rw [show j + 1 + i = j + (i + 1) by omega]
      simpa using this⟩
theorem CellsAt.row {w wr : World} {b o k B : Nat} {cs : List Value} (h : CellsAt w (some ⟨b, o, none⟩) k cs) (hb : Below B w wr) (hB : b < B) : RowFrom wr b (o + k) 0 cs := by
  obtain ⟨b', o', he, _, hc⟩ := h
  cases he
  refine rowFrom_of fun i hi => ?_
  rw [Nat.zero_add, Nat.add_assoc, hb.cell (p := ⟨b, o + (k + i), none⟩) hB]
  exact hc i hi
/-- one step more -/
theorem _root_.Go.RowKit.Below.more {w a b : World} (h : Below w.heap.size w a) (h2 : Below a.heap.size a b) : Below w.heap.size w b := h.trans (h2.mono h.size)
theorem _root_.Go.RowKit.Below.more1 {w a b : World} {o : Obj} (h : Below w.heap.size w a) (h2 : Below (a.alloc o).heap.size (a.alloc o) b) : Below w.heap.size w b := (h.alloc h.size o).more h2
theorem _root_.Go.RowKit.Below.new (w : World) (o : Obj) : Below w.heap.size w (w.alloc o) := (Below.refl _ _).alloc (Nat.le_refl _) _
theorem bcell {W w1 : World} (hb : Below W.heap.size W w1) : (∀ b o, b < W.heap.size → w1.cell? ⟨b, o, none⟩ = W.cell? ⟨b, o, none⟩) ∧ (∀ b o, b < W.heap.size → w1.frozen? ⟨b, o, none⟩ = W.frozen? ⟨b, o, none⟩) :=
  ⟨fun b o h => hb.cell (p := ⟨b, o, none⟩) h, fun b o h => hb.frozen (p := ⟨b, o, none⟩) h⟩
/-- A load of a whole block, guarded or not. -/
theorem wpList_load_block {P : Program} {ops : Array Oper} {rest : List Oper} {o : Oper} {a : Act} {w : World} {Q : Exit → Act → World → Prop} (hw : Region.wanted o (yielded ops a.tmps) = true) (ty : TypeId) (x : Operand) (ho : o.op = .load ty x)
    (g : Nat) (hx : a.eval x = .pointer (some ⟨g, 0, none⟩)) (t : TypeId) (cs : Array Value) (fr : Nat × Nat) (d : TypeDesc) (hg : w.heap[g]? = some (.cells cs t fr))
    (hu : P.underlying ty = some d) (hd : (match d with | .struct _ | .array _ _ => true | _ => false) = true) (hi : (P.info? ty).map (·.size) = some cs.size)
    (h : wpList P ops Q rest (a.put o.dst (.agg cs)) w) : wpList P ops Q (o :: rest) a w :=
  wpList_step fun _ hK => by rw [if_pos hw]; exact wp_load_row ty x ho g hx t cs fr d hg hu hd hi (hK _ _ h)
end Go.Proofs.Ytibopfemknnocaa.Open
