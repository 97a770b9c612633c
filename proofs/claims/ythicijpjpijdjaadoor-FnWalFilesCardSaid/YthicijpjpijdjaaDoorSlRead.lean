import Derived.Test.YthicijpjpijdjaaDoorSlData
import Derived.WalkKit
import Derived.WalkLawsBesides
import Derived.WalkSpells
import Derived.ProofKit
import Derived.Deep.Slices
import Derived.Deep.Fields
import Derived.Lib.Hide
namespace Go.Proofs.YthicijpjpijdjaaDoor.SlRead
open Go.RowKit Go.Lib Go.ChangeShapes Go.WideShapes Go.Deep

/-- The cells read as data of a type, in some way of reading. -/
def Reads (P : Program) (w : World) (t : TypeId) (cs : List Value) : Prop :=
  ∃ (H : Type) (enc : TypeId × Value → H) (base : Nat) (spare : Nat → Bool) (held : Bool) (fuel : Nat) (x : DataW H × List MemPlace), DataW.trod enc P w base spare held fuel t cs = some x

section
variable {P : Program} {w : World}
theorem Reads.int {t : TypeId} {cs : List Value} {k : IntKind} (ht : P.underlying t = some (.int k)) (h : Reads P w t cs) : ∃ n, cs = [.int k n] ∧ (Lit.int k n).wf = true := by
  obtain ⟨H, enc, base, spare, held, fuel, x, h⟩ := h
  obtain ⟨n, h1, _, h2⟩ := DataW.trod_int ht h
  exact ⟨n, h1, h2⟩
theorem Reads.bool {t : TypeId} {cs : List Value} (ht : P.underlying t = some .bool) (h : Reads P w t cs) : ∃ b, cs = [.bool b] := by
  obtain ⟨H, enc, base, spare, held, fuel, x, h⟩ := h
  obtain ⟨n, h1, _⟩ := DataW.trod_bool ht h
  exact ⟨n, h1⟩
theorem Reads.string {t : TypeId} {cs : List Value} (ht : P.underlying t = some .string) (h : Reads P w t cs) : ∃ s : ByteArray, cs = [.string s] ∧ s.size ≤ maxLen := by
  obtain ⟨H, enc, base, spare, held, fuel, x, h⟩ := h
  obtain ⟨n, h1, _, h2⟩ := DataW.trod_string ht h
  exact ⟨n, h1, h2⟩
theorem Reads.struct {t : TypeId} {cs : List Value} {fs : Array Field} (ht : P.underlying t = some (.struct fs)) (h : Reads P w t cs) :
    cs.length = P.cellsOf t ∧ ∀ (i : Nat) (f : Field), fs[i]? = some f → Reads P w f.type ((cs.drop f.offset).take (P.cellsOf f.type)) := by
  obtain ⟨H, enc, base, spare, held, fuel, x, h⟩ := h
  obtain ⟨xs, n, _, _, h1, h2, h3⟩ := DataW.trod_struct ht h
  refine ⟨h1, fun i f hf => ?_⟩
  have := h3 i f hf
  have hi : i < xs.length := by rw [h2]; exact (Array.getElem?_eq_some_iff.1 hf).1
  rw [List.getElem?_eq_getElem hi] at this
  exact ⟨H, enc, base, spare, held, n, _, this⟩
/-- a struct of one-cell fields, field by field -/
theorem Reads.fields {t : TypeId} {cs : List Value} {fs : Array Field} (ht : P.underlying t = some (.struct fs)) (hone : oneCellFields P fs = true) (hC : P.cellsOf t = fs.size) (h : Reads P w t cs) :
    cs.length = fs.size ∧ ∀ (j : Nat) (f : Field), fs[j]? = some f → ∀ v, cs[j]? = some v → Reads P w f.type [v] := by
  obtain ⟨h1, h2⟩ := h.struct ht
  refine ⟨by rw [h1, hC], fun j f hj v hv => ?_⟩
  obtain ⟨ho, hk⟩ := hone_of hone j f hj
  have h3 := h2 j f hj
  rw [ho, hk] at h3
  have hjl : j < cs.length := (List.getElem?_eq_some_iff.1 hv).1
  have e : (cs.drop j).take 1 = [v] := by
    rw [List.drop_eq_getElem_cons hjl]
    have := (List.getElem?_eq_some_iff.1 hv).2
    simp [this]
  rw [e] at h3
  exact h3
/-- the row of cells at an address -/
def CellsAt (w : World) (a : Option Addr) (k : Nat) (cs : List Value) : Prop :=
  ∃ b o, a = some ⟨b, o, none⟩ ∧ b < w.heap.size ∧ ∀ j, j < cs.length → w.cell? ⟨b, o + (k + j), none⟩ = cs[j]?
theorem cell_lt {a : Addr} {v : Value} (h : w.cell? a = some v) : a.block < w.heap.size ∧ a.spot = none := by
  unfold World.cell? at h
  split at h
  · rename_i hb
    refine ⟨(Array.getElem?_eq_some_iff.1 hb).1, ?_⟩
    split at h
    · simp at h
    · rename_i hs; simpa using hs
  · simp at h
theorem Reads.slice {t e : TypeId} {cs : List Value} (ht : P.underlying t = some (.slice e)) (hc : 0 < P.cellsOf e) (h : Reads P w t cs) :
    ∃ a n c, cs = [.slice a n c] ∧ n ≤ c ∧ c ≤ maxLen ∧ (a = none → n = 0 ∧ c = 0) ∧ ∀ i, i < n → ∃ ds, ds.length = P.cellsOf e ∧ CellsAt w a (i * P.cellsOf e) ds ∧ Reads P w e ds := by
  obtain ⟨H, enc, base, spare, held, fuel, x, h⟩ := h
  rcases open_slice ht h with ⟨h1, _⟩ | ⟨a, len, cap, m, n, D, Pl, hcs, hb, hl, hm, hmm, hx, hi⟩
  · exact ⟨none, 0, 0, h1, Nat.le_refl _, Nat.zero_le _, fun _ => ⟨rfl, rfl⟩, fun i hi => by omega⟩
  · refine ⟨some a, len, cap, hcs, hl, hm, fun h => by simp at h, fun i him => ?_⟩
    have him' : i < m := by rw [hmm]; split <;> omega
    obtain ⟨cs', hc', ht'⟩ := hi i him'
    obtain ⟨_, hcl, hat⟩ := World.cells?_some hc'
    refine ⟨cs', hcl, ?_, H, enc, base, spare, held, n, _, ht'⟩
    have h0 := hat 0 hc
    have hv : cs'[0]? = some (cs'[0]'(by omega)) := List.getElem?_eq_getElem (by omega)
    rw [hv] at h0
    obtain ⟨hlt, hsp⟩ := cell_lt h0
    have hadd : ∀ j, ((a.add (i * P.cellsOf e)).add j).block = a.block := by intro j; unfold Addr.add; split <;> split <;> rfl
    have hsp' : a.spot = none ∨ i * P.cellsOf e ≠ 0 := by
      by_cases hz : i * P.cellsOf e = 0
      · left; simpa [Addr.add, hz] using hsp
      · exact .inr hz
    by_cases hsa : a.spot = none
    · obtain ⟨b, o, sp⟩ := a
      simp only at hsa
      subst hsa
      refine ⟨b, o, rfl, by rw [hadd] at hlt; exact hlt, fun j hj => ?_⟩
      rw [← hat j (by omega)]
      congr 1
      unfold Addr.add
      split <;> split <;> simp_all <;> omega
    · exfalso
      have hl0 : 0 < m := by omega
      obtain ⟨cs0, hc0, _⟩ := hi 0 hl0
      obtain ⟨_, hcl0, hat0⟩ := World.cells?_some hc0
      have h00 := hat0 0 hc
      have hv0 : cs0[0]? = some (cs0[0]'(by omega)) := List.getElem?_eq_getElem (by omega)
      rw [hv0] at h00
      have := (cell_lt h00).2
      simp [Addr.add] at this
      exact hsa this
end
/-- a slice of elements of k cells each, which reads as l -/
def RowsAt {α : Type} (w : World) (k : Nat) (cf : α → List Value) (a : Option Addr) (l : List α) : Prop := l = [] ∨ ∃ b o, a = some ⟨b, o, none⟩ ∧ b < w.heap.size ∧ ∀ i x, l[i]? = some x → w.rangeAt b (o + i * k) (cf x)
theorem Reads.rows {α : Type} {P : Program} {w : World} {t e : TypeId} {k : Nat} {cs : List Value} (cf : α → List Value) (p : α → Prop) (ht : P.underlying t = some (.slice e)) (hk : P.cellsOf e = k) (hk0 : 0 < k) (h : Reads P w t cs)
    (he : ∀ ds, Reads P w e ds → ∃ x, ds = cf x ∧ p x) : ∃ a n c l, cs = [.slice a n c] ∧ n ≤ c ∧ c ≤ maxLen ∧ (a = none → n = 0 ∧ c = 0) ∧ l.length = n ∧ RowsAt w k cf a l ∧ ∀ x ∈ l, p x := by
  obtain ⟨a, n, c, h1, h2, h3, h4, h5⟩ := h.slice ht (by omega)
  rw [hk] at h5
  have hx : ∀ i, i < n → ∃ x : α, (cf x).length = k ∧ CellsAt w a (i * k) (cf x) ∧ p x := by
    intro i hi
    obtain ⟨ds, hl, hat, hr⟩ := h5 i hi
    obtain ⟨x, rfl, hp⟩ := he ds hr
    exact ⟨x, hl, hat, hp⟩
  have : ∀ m, m ≤ n → ∃ l : List α, l.length = m ∧ (∀ i x, l[i]? = some x → (cf x).length = k ∧ CellsAt w a (i * k) (cf x)) ∧ ∀ x ∈ l, p x := by
    intro m
    induction m with
    | zero => intro _; exact ⟨[], rfl, by simp, by simp⟩
    | succ m ih =>
      intro hm
      obtain ⟨l, hl, hl2, hl3⟩ := ih (by omega)
      obtain ⟨x, hx1, hx2, hx3⟩ := hx m (by omega)
      refine ⟨l ++ [x], by simp [hl], fun i y hy => ?_, fun y hy => ?_⟩
      · rcases Nat.lt_or_ge i l.length with h | h
        · rw [List.getElem?_append_left h] at hy
          exact hl2 i y hy
        · rw [List.getElem?_append_right h] at hy
          have h0 : i - l.length = 0 := by
            rcases Nat.eq_zero_or_pos (i - l.length) with h | h
            · exact h
            · rw [List.getElem?_eq_none (by simp; omega)] at hy; cases hy
          rw [h0] at hy
          obtain rfl : x = y := by simpa using hy
          rw [show i = m by omega]
          exact ⟨hx1, hx2⟩
      · rcases List.mem_append.1 hy with h | h
        · exact hl3 y h
        · obtain rfl : y = x := by simpa using h
          exact hx3
  obtain ⟨l, hl, hl2, hl3⟩ := this n (Nat.le_refl _)
  refine ⟨a, n, c, l, h1, h2, h3, h4, hl, ?_, hl3⟩
  cases l with
  | nil => exact .inl rfl
  | cons x l =>
    obtain ⟨-, b, o, rfl, hb, -⟩ := hl2 0 x rfl
    refine .inr ⟨b, o, rfl, hb, fun i y hy j v hj => ?_⟩
    obtain ⟨-, b', o', he', hb', hat⟩ := hl2 i y hy
    cases he'
    have hjl : j < (cf y).length := (List.getElem?_eq_some_iff.1 hj).1
    rw [Nat.add_assoc, hat j hjl]
    exact hj
end Go.Proofs.YthicijpjpijdjaaDoor.SlRead
namespace Go.Proofs.YthicijpjpijdjaaDoor.Sl
open Go.Proofs.YthicijpjpijdjaaDoor.SlRead
/-- the slice va reads as l as long as A holds -/
def Rd {α : Type} (A : HProp) (k : Nat) (cf : α → List Value) (va : Value) (l : List α) : Prop :=
  (∃ b o c, va = .slice (some ⟨b, o, none⟩) l.length c ∧ ∀ w, Holds A w → ∀ i x, l[i]? = some x → w.rangeAt b (o + i * k) (cf x)) ∨ (l = [] ∧ ∃ a c, va = .slice a 0 c)
theorem rd_old {α : Type} {W0 : World} {k c : Nat} {cf : α → List Value} {a : Option Addr} {l : List α} (h : RowsAt W0 k cf a l) : Rd (Old W0) k cf (.slice a l.length c) l := by
  rcases h with rfl | ⟨b, o, rfl, hb, h⟩
  · exact .inr ⟨rfl, a, c, rfl⟩
  · refine .inl ⟨b, o, c, rfl, fun w ho i x hx j v hj => ?_⟩
    exact (World.cell?_of_block (ho.old b hb)).trans (h i x hx j v hj)
def flatOf {α : Type} (cf : α → List Value) (l : List α) : List Value := l.flatMap cf
theorem flatOf_length {α : Type} {cf : α → List Value} {k : Nat} (hk : ∀ x, (cf x).length = k) : ∀ l : List α, (flatOf cf l).length = l.length * k
  | [] => by simp [flatOf]
  | x :: l => by
    have := flatOf_length hk l
    simp only [flatOf, List.flatMap_cons, List.length_append, List.length_cons, hk] at *
    rw [this, Nat.add_mul]; omega
theorem flatOf_snoc {α : Type} (cf : α → List Value) (l : List α) (x : α) : flatOf cf (l ++ [x]) = flatOf cf l ++ cf x := by simp [flatOf]
theorem flatOf_at {α : Type} {cf : α → List Value} {k : Nat} (hk : ∀ x, (cf x).length = k) : ∀ (l : List α) (i j : Nat) (x : α), l[i]? = some x → j < k → (flatOf cf l)[i * k + j]? = (cf x)[j]?
  | y :: l, 0, j, x, h, hj => by
    obtain rfl : y = x := by simpa using h
    simp only [flatOf, List.flatMap_cons, Nat.zero_mul, Nat.zero_add]
    rw [List.getElem?_append_left (by rw [hk]; exact hj)]
  | y :: l, i + 1, j, x, h, hj => by
    have ih := flatOf_at hk l i j x (by simpa using h) hj
    simp only [flatOf, List.flatMap_cons] at *
    rw [List.getElem?_append_right (by rw [hk, Nat.add_mul]; omega), ← ih, hk]
    congr 1
    rw [Nat.add_mul]; omega
theorem flatOf_range {α : Type} {cf : α → List Value} {k : Nat} (hk : ∀ x, (cf x).length = k) {l : List α} {sp : List Value} {i : Nat} {x : α} (hx : l[i]? = some x) : ((flatOf cf l ++ sp).drop (i * k)).take (cf x).length = cf x := by
  apply List.ext_getElem?
  intro j
  rw [List.getElem?_take]
  have hlt := (List.getElem?_eq_some_iff.1 hx).1
  split
  · rename_i hj
    rw [hk] at hj
    rw [List.getElem?_drop, List.getElem?_append_left (by
      rw [flatOf_length hk]
      have := Nat.mul_le_mul_right k (show i + 1 ≤ l.length by omega)
      rw [Nat.add_mul] at this; omega)]
    exact flatOf_at hk l i j x hx hj
  · rename_i hj
    rw [List.getElem?_eq_none (by omega)]
theorem rd_blk {α : Type} {cf : α → List Value} {k : Nat} (hk : ∀ x, (cf x).length = k) (b c : Nat) (T : TypeId) (l : List α) : Rd (Blk b (flatOf cf l) T) k cf (.slice (some ⟨b, 0, none⟩) l.length c) l := by
  refine .inl ⟨b, 0, c, rfl, fun w h i x hx => ?_⟩
  have := flatOf_range hk (sp := []) hx
  rw [List.append_nil] at this
  rw [Nat.zero_add]
  exact h.cell_range this
theorem Rd.len {α : Type} {P : Program} {n : Nat} {l0 : List (Nat × Value)} {G : World → Prop} {o : Oper} {x : Operand} {A : HProp} {k k' by_ : Nat} {t e : TypeId} {cf : α → List Value} {va : Value} {l : List α} (h : Rd A k cf va l) (ho : o.op = .call { callee := .builtin .len, args := #[x], argTypes := #[t] }) (ht : slcE P t = some (e, k', by_)) (hx : ev l0 x = some va) : Val P n l0 G o (.int .i64 ((l.length : Nat) : Int)) := by
  rcases h with ⟨b, o', c, rfl, -⟩ | ⟨rfl, a, c, rfl⟩
  · exact Val.len ho ht hx
  · exact Val.len ho ht hx
theorem take_more {α : Type} {l : List α} {i : Nat} {x : α} (h : l[i]? = some x) : l.take (i + 1) = l.take i ++ [x] := by
  rw [List.take_add_one, h]; rfl
/-- v is a slice of n elements, whose cells are xs, for good -/
def Seq (v : Value) (n : Nat) (xs : List Value) : HProp :=
  Ex fun q : Option (Nat × Nat × List Value × TypeId) => match q with
    | none => Pure (v = .slice none 0 0 ∧ n = 0 ∧ xs = [])
    | some (b, c, sp, T) => Sep [Pure (v = .slice (some ⟨b, 0, none⟩) n c ∧ n ≤ c), Ro (Blk b (xs ++ sp) T)]
theorem Seq.pers {v : Value} {n : Nat} {xs : List Value} : Pers (Seq v n xs) := Pers.ex fun q => by
  cases q with
  | none => exact Pers.pure
  | some q => obtain ⟨b, c, sp, T⟩ := q; exact Pers.sep (by simp only [List.mem_cons, List.not_mem_nil, or_false]; rintro A (rfl | rfl); exact Pers.pure; exact Pers.ro)
theorem Sat.seqMk {W w : World} {v : Value} {n k : Nat} {xs : List Value} {e : TypeId} {L : List HProp} (h : Sat W (Own e k v n xs :: L) w) : Sat W (Seq v n xs :: L) w := by
  rcases h.own with ⟨rfl, h1, h2, h3⟩ | ⟨b, cap, sp, rfl, h1, h2, h3, h4, h5⟩
  · exact Sat.ex_mk none (Sat.pure_mk ⟨rfl, h1, h2⟩ h3)
  · exact Sat.ex_mk (some (b, cap, sp, e)) (Sat.sep_mk (Sat.pure_mk ⟨rfl, h1⟩ h5.freeze))
theorem seq_oneCell {W w : World} {v : Value} {n : Nat} {xs : List Value} {L : List HProp} (h : Sat W (Seq v n xs :: L) w) : v.oneCell' = true := by
  obtain ⟨q, h⟩ := h.ex
  cases q with
  | none => rw [h.pure.1]; rfl
  | some q => rw [h.sep.pure.1]; rfl
/-- where there is an element, there is a row -/
theorem Sat.seqOpen {W w : World} {v : Value} {n : Nat} {xs : List Value} {L : List HProp} (hn : 0 < n) (h : Sat W (Seq v n xs :: L) w) :
    ∃ q : Nat × Nat × List Value × TypeId, Sat W (Pure (v = .slice (some ⟨q.1, 0, none⟩) n q.2.1 ∧ n ≤ q.2.1) :: Ro (Blk q.1 (xs ++ q.2.2.1) q.2.2.2) :: Seq v n xs :: L) w := by
  obtain ⟨q, h⟩ := (Sat.dup (A := Seq v n xs) Seq.pers h).ex
  cases q with
  | none => exact absurd h.pure.2.1 (by omega)
  | some q => exact ⟨q, h.sep⟩
theorem Val.lenSeq {P : Program} {n : Nat} {l : List (Nat × Value)} {G : World → Prop} {o : Oper} {t e : TypeId} {k by_ m : Nat} {x : Operand} {v : Value} {xs : List Value} (ho : o.op = .call { callee := .builtin .len, args := #[x], argTypes := #[t] }) (ht : slcE P t = some (e, k, by_)) (hx : ev l x = some v)
    (hc : ∀ w, G w → Holds (Seq v m xs) w) : Val P n l G o (.int .i64 ((m : Nat) : Int)) := fun a w hf hs => by
  obtain ⟨r, s, -, q, hq⟩ := hc w hs
  cases q with
  | none => obtain ⟨rfl, rfl, -⟩ := hq; exact Val.len (G := G) ho ht hx a w hf hs
  | some q =>
    obtain ⟨b, c, sp, T⟩ := q
    obtain ⟨s1, s2, -, -, -, ⟨rfl, -⟩, -⟩ := hq
    exact Val.len (G := G) ho ht hx a w hf hs
/-- a slice of strings, for good -/
abbrev Strs (v : Value) (ss : List ByteArray) : HProp := Seq v ss.length (ss.map .string)
end Go.Proofs.YthicijpjpijdjaaDoor.Sl
