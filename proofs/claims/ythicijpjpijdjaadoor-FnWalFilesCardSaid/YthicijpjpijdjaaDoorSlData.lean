import Derived.Test.YthicijpjpijdjaaDoorSlMore
import Derived.Laws.Strings
import Derived.WideShapes
namespace Go.Proofs.YthicijpjpijdjaaDoor.Sl
open Go.RowKit Go.Lib
set_option linter.unusedVariables false

/-! ## what may be had twice -/
def Pers (A : HProp) : Prop := ∀ r s h, A.p r s h → A.p r (fun _ => False) h
theorem Pers.ro {A : HProp} : Pers (Ro A) := fun _ _ _ h => h
theorem Pers.pure {φ : Prop} : Pers (Pure φ) := fun _ _ _ h => h
theorem Pers.old {W : World} : Pers (Old W) := fun _ _ _ h => h
theorem Pers.ex {α : Type} {f : α → HProp} (hf : ∀ x, Pers (f x)) : Pers (Ex f) := fun _ _ _ ⟨x, hx⟩ => ⟨x, hf x _ _ _ hx⟩
theorem Pers.sep : ∀ {L : List HProp}, (∀ A ∈ L, Pers A) → Pers (Sep L)
  | [], _ => fun _ _ _ _ => True.intro
  | A :: L, hL => fun r s h ⟨s1, s2, h1, h2, hd, hA, hp⟩ =>
    ⟨fun _ => False, fun _ => False, fun _ h => h, fun _ h => h, fun _ h => h.elim, hL A List.mem_cons_self _ _ _ hA, Pers.sep (fun B hB => hL B (List.mem_cons_of_mem _ hB)) r s2 h hp⟩
theorem Sat.dup {W w : World} {A : HProp} {L : List HProp} (hp : Pers A) (h : Sat W (A :: L) w) : Sat W (A :: A :: L) w := by
  obtain ⟨r, s, hd, hlt, s1, s2, h1, h2, hs, hA, hL⟩ := h.mem
  exact ⟨h.os, h.tape, h.output, r, s, hd, hlt, fun _ => False, s, fun _ h => h.elim, fun _ h => h, fun _ h => h.elim, hp _ _ _ hA, s1, s2, h1, h2, hs, hA, hL⟩
/-- each of l -/
def AllP {α : Type} (f : α → HProp) (l : List α) : HProp := ⟨fun r _ h => ∀ x ∈ l, (f x).p r (fun _ => False) h, fun _ _ _ _ _ _ hr _ ha h x hx => (f x).mono _ _ _ _ _ _ hr (fun _ h => h) (fun b hb => ha b (hb.imp id False.elim)) (h x hx)⟩
theorem Pers.all {α : Type} {f : α → HProp} {l : List α} : Pers (AllP f l) := fun _ _ _ h => h
theorem Sat.allNil {W w : World} {α : Type} {f : α → HProp} {L : List HProp} (h : Sat W L w) : Sat W (AllP f [] :: L) w := by
  obtain ⟨r, s, hd, hlt, hm⟩ := h.mem
  exact ⟨h.os, h.tape, h.output, r, s, hd, hlt, fun _ => False, s, fun _ h => h.elim, fun _ h => h, fun _ h => h.elim, (fun _ h => by cases h), hm⟩
theorem Sat.allGet {W w : World} {α : Type} {f : α → HProp} {l : List α} {L : List HProp} {x : α} (hx : x ∈ l) (h : Sat W (AllP f l :: L) w) : Sat W (f x :: AllP f l :: L) w := by
  obtain ⟨r, s, hd, hlt, s1, s2, h1, h2, hs, hA, hL⟩ := h.mem
  exact ⟨h.os, h.tape, h.output, r, s, hd, hlt, fun _ => False, s, fun _ h => h.elim, fun _ h => h, fun _ h => h.elim, hA x hx, s1, s2, h1, h2, hs, hA, hL⟩
theorem Sat.allSub {W w : World} {α : Type} {f : α → HProp} {l l' : List α} {L : List HProp} (hl : ∀ x ∈ l', x ∈ l) (h : Sat W (AllP f l :: L) w) : Sat W (AllP f l' :: L) w := h.imp fun _ _ _ hA x hx => hA x (hl x hx)
theorem Sat.allAdd {W w : World} {α : Type} {f : α → HProp} {l l' : List α} {L : List HProp} {x : α} (hp : Pers (f x)) (hl : ∀ y ∈ l', y = x ∨ y ∈ l) (h : Sat W (f x :: AllP f l :: L) w) : Sat W (AllP f l' :: L) w := by
  obtain ⟨r, s, hd, hlt, s1, s2, h1, h2, hs, hA, t1, t2, k1, k2, kd, hB, hL⟩ := h.mem
  refine ⟨h.os, h.tape, h.output, r, s, hd, hlt, fun _ => False, t2, fun _ h => h.elim, fun b hb => h2 b (k2 b hb), fun _ h => h.elim, fun y hy => ?_, hL⟩
  rcases hl y hy with rfl | hy
  · exact hp _ _ _ hA
  · exact hB y hy

/-- a cell that nobody writes any more -/
def Cel (b i : Nat) (v : Value) : HProp := ⟨fun r _ h => r b ∧ ∃ C T fr, h[b]? = some (.cells C T fr) ∧ C[i]? = some v, fun _ _ _ _ _ _ hr _ ha ⟨h1, C, T, fr, h2, h3⟩ => ⟨hr _ h1, C, T, fr, (ha b (.inl h1)).trans h2, h3⟩⟩
theorem Pers.cel {b i : Nat} {v : Value} : Pers (Cel b i v) := fun _ _ _ h => h
theorem Holds.cel {b i : Nat} {v : Value} {w : World} (h : Holds (Cel b i v) w) : w.cell? ⟨b, i, none⟩ = some v := by
  obtain ⟨r, s, -, -, C, T, fr, h1, h2⟩ := h
  simp [World.cell?, h1, h2]
/-- behind a call that only made blocks: cells of a block that it made -/
theorem Sat.fresh {W w w' : World} {L : List HProp} (h : Sat W L w) (hb : Below w.heap.size w w') {b : Nat} (hge : w.heap.size ≤ b) {ps : List (Nat × Value)} (hc : ∀ p ∈ ps, w'.cell? ⟨b, p.1, none⟩ = some p.2) (hne : ps ≠ []) :
    Sat W (AllP (fun p : Nat × Value => Cel b p.1 p.2) ps :: L) w' := by
  obtain ⟨r, s, hd, hlt, hm⟩ := h.mem
  have hbs : b < w'.heap.size := by
    cases ps with
    | nil => exact absurd rfl hne
    | cons p ps => exact World.block_lt_of_cell? w' _ (hc p List.mem_cons_self)
  refine ⟨hb.os.trans h.os, hb.tape.trans h.tape, hb.output.trans h.output, fun k => r k ∨ k = b, s, ?_, ?_, fun _ => False, s, fun _ h => h.elim, fun _ h => h, fun _ h => h.elim, ?_, ?_⟩
  · rintro k (hk | rfl) hs
    · exact hd k hk hs
    · have := hlt _ (.inr hs); omega
  · rintro k ((hk | rfl) | hk)
    · exact Nat.lt_of_lt_of_le (hlt k (.inl hk)) hb.size
    · exact hbs
    · exact Nat.lt_of_lt_of_le (hlt k (.inr hk)) hb.size
  · intro p hp
    refine ⟨.inr rfl, ?_⟩
    have := hc p hp
    unfold World.cell? at this
    split at this
    · rename_i C T fr hC
      exact ⟨C, T, fr, hC, by simpa using this⟩
    · cases this
  · exact parts_mono L _ _ _ _ _ _ (fun _ h => .inl h) (fun _ h => h) (fun k hk => hb.block k (hlt k hk)) hm
theorem Sat.kept {W w w' : World} {L : List HProp} (h : Sat W L w) (hb : Below w.heap.size w w') : Sat W L w' := by
  obtain ⟨r, s, hd, hlt, hm⟩ := h.mem
  exact ⟨hb.os.trans h.os, hb.tape.trans h.tape, hb.output.trans h.output, r, s, hd, fun k hk => Nat.lt_of_lt_of_le (hlt k hk) hb.size, parts_mono L _ _ _ _ _ _ (fun _ h => h) (fun _ h => h) (fun k hk => hb.block k (hlt k hk)) hm⟩
theorem Holds.allGet {α : Type} {f : α → HProp} {l : List α} {w : World} (h : Holds (AllP f l) w) {x : α} (hx : x ∈ l) : Holds (f x) w := by
  obtain ⟨r, s, hlt, hA⟩ := h
  exact ⟨r, fun _ => False, fun b hb => hlt b (hb.imp id False.elim), hA x hx⟩

/-! ## bytes that nobody writes any more -/
def byt (l : List UInt8) : List Value := l.map fun c => .int .u8 c.toNat
@[simp] theorem byt_length (l : List UInt8) : (byt l).length = l.length := by simp [byt]
theorem byt_one (l : List UInt8) : (byt l).all (·.oneCell') = true := by
  rw [List.all_eq_true]; intro x hx; obtain ⟨_, _, rfl⟩ := List.mem_map.1 hx; rfl
theorem byteCells_eq (s : ByteArray) : byteCells s = byt s.data.toList := rfl
/-- the slice v reads as l, for good -/
def Byts (v : Value) (l : List UInt8) : HProp :=
  Ex fun q : Option (Nat × Nat × Nat × List Value × TypeId) => match q with
    | none => Pure (v = .slice none 0 0 ∧ l = [])
    | some (b, i, c, C, T) => Sep [Pure (v = .slice (some ⟨b, i, none⟩) l.length c ∧ l.length ≤ c ∧ (C.drop i).take l.length = byt l), Ro (Blk b C T)]
theorem Byts.pers {v : Value} {l : List UInt8} : Pers (Byts v l) := Pers.ex fun q => by
  cases q with
  | none => exact Pers.pure
  | some q => obtain ⟨b, i, c, C, T⟩ := q; exact Pers.sep (by simp only [List.mem_cons, List.not_mem_nil, or_false]; rintro A (rfl | rfl); exact Pers.pure; exact Pers.ro)
theorem Sat.byts {W w : World} {v : Value} {l : List UInt8} {L : List HProp} (h : Sat W (Byts v l :: L) w) :
    (v = .slice none 0 0 ∧ l = [] ∧ Sat W L w) ∨ ∃ b i c C T, v = .slice (some ⟨b, i, none⟩) l.length c ∧ l.length ≤ c ∧ (C.drop i).take l.length = byt l ∧ Sat W (Ro (Blk b C T) :: L) w := by
  obtain ⟨q, h⟩ := h.ex
  cases q with
  | none => exact .inl ⟨h.pure.1, h.pure.2, h.drop⟩
  | some q =>
    obtain ⟨b, i, c, C, T⟩ := q
    have h2 := h.sep
    exact .inr ⟨b, i, c, C, T, h2.pure.1, h2.pure.2.1, h2.pure.2.2, h2.drop⟩
theorem Sat.bytsMk {W w : World} {b i c : Nat} {C : List Value} {T : TypeId} {l : List UInt8} {L : List HProp} (h : Sat W (Ro (Blk b C T) :: L) w) (hc : l.length ≤ c) (hC : (C.drop i).take l.length = byt l) :
    Sat W (Byts (.slice (some ⟨b, i, none⟩) l.length c) l :: L) w := Sat.ex_mk (some (b, i, c, C, T)) (Sat.sep_mk (Sat.pure_mk ⟨rfl, hc, hC⟩ h))
theorem Sat.bytsNil {W w : World} {L : List HProp} (h : Sat W L w) : Sat W (Byts (.slice none 0 0) [] :: L) w := Sat.ex_mk none (Sat.pure_mk ⟨rfl, rfl⟩ h)
theorem Sat.bytsStr {W w : World} {b c : Nat} {sp : List Value} {T : TypeId} {s : ByteArray} {L : List HProp} (h : Sat W (Blk b (byteCells s ++ sp) T :: L) w) (hc : s.size ≤ c) :
    Sat W (Byts (.slice (some ⟨b, 0, none⟩) s.size c) s.data.toList :: L) w := by
  have e : s.data.toList.length = s.size := by rw [Array.length_toList]; rfl
  have := Sat.bytsMk (i := 0) (l := s.data.toList) (c := c) h.freeze (by omega) (by simp [byteCells_eq])
  rwa [e] at this
/-- 'string(b)' -/
theorem Val.str {P : Program} {n : Nat} {l : List (Nat × Value)} {G : World → Prop} {o : Oper} {u t e : TypeId} {x : Operand} {v : Value} {bs : List UInt8} (ho : o.op = .convert u t x) (hu : isBytes P u = some e) (ht : isStr P t = true) (hx : ev l x = some v)
    (hc : ∀ w, G w → Holds (Byts v bs) w) : Val P n l G o (.string ⟨bs.toArray⟩) := fun a w hf hs => by
  obtain ⟨h1, h2⟩ := isBytes_of hu
  obtain ⟨r, s, hlt, q, hq⟩ := hc w hs
  cases q with
  | none =>
    obtain ⟨rfl, rfl⟩ := hq
    have hr : (convert u t (.slice none 0 0)).run P w = .ok (.string ⟨#[]⟩) w := by
      simp [convert, run_underlying h1 w, run_underlying h2 w, run_underlying (isStr_of ht) w, Conv.bytesToString]
      rfl
    simp only [execOp, ho, hf.ev hx, Sem.run_bind, hr]
    rfl
  | some q =>
    obtain ⟨b, i, c, C, T⟩ := q
    obtain ⟨s1, s2, -, k2, -, ⟨rfl, -, hC⟩, t1, t2, -, -, -, hro, -⟩ := hq
    have hold : Holds (Ro (Blk b C T)) w := ⟨r, fun _ => False, fun b hb => hlt b (hb.imp id False.elim), hro⟩
    have hr := run_convert_bytes_back (P := P) w u t e ⟨b, i, none⟩ c bs h1 h2 (isStr_of ht) (fun j hj => by
      rw [Addr.add_mid, hold.ro.cell]
      have hj2 : (byt bs)[j]? = some (.int .u8 (bs[j].toNat : Int)) := by simp [byt, hj]
      rw [← hC, List.getElem?_take, if_pos hj] at hj2
      simpa using hj2)
    simp only [execOp, ho, hf.ev hx, Sem.run_bind, hr]
    rfl
theorem bytesAt {w : World} {b i : Nat} {bs : List UInt8} (h : w.rangeAt b i (byt bs)) : ∀ j (hj : j < bs.length), w.cell? ((⟨b, i, none⟩ : Addr).add j) = some (.int .u8 (bs[j].toNat : Int)) := fun j hj => by
  rw [Addr.add_mid]
  exact h j _ (by simp [byt, hj])
theorem rangeAt_drop {w : World} {b i k : Nat} {bs : List UInt8} (h : w.rangeAt b i (byt bs)) : w.rangeAt b (i + k) (byt (bs.drop k)) := fun j v hj => by
  rw [Nat.add_assoc]
  refine h (k + j) v ?_
  simpa [byt] using hj
theorem rangeAt_take {w : World} {b i k : Nat} {bs : List UInt8} (h : w.rangeAt b i (byt bs)) : w.rangeAt b i (byt (bs.take k)) := fun j v hj => by
  refine h j v ?_
  simp only [byt, List.map_take] at hj ⊢
  rw [List.getElem?_take] at hj
  split at hj
  · exact hj
  · cases hj
theorem rangeAt_cut {w : World} {b i c k : Nat} {bs : List UInt8} (h : w.rangeAt b i (byt bs)) (hc : bs.length ≤ c) : w.rangeAt b (if c = k then i else i + k) (byt (bs.drop k)) := by
  split
  · rename_i e
    have : bs.drop k = [] := List.drop_eq_nil_of_le (by omega)
    rw [this]
    intro j v hj
    simp [byt] at hj
  · exact rangeAt_drop h
theorem byt_copy {pend junk p : List UInt8} (h : p.length ≤ junk.length) : (byt pend ++ byt junk).take pend.length ++ byt p ++ (byt pend ++ byt junk).drop (pend.length + p.length) = byt (pend ++ p) ++ byt (junk.drop p.length) := by
  have e : pend.length = (byt pend).length := by simp
  rw [List.take_append_of_le_length (by simp), e, List.take_length, List.drop_append]
  simp [byt]
theorem byt_append (x y : List UInt8) : byt (x ++ y) = byt x ++ byt y := by simp [byt]
theorem seq_eq (x y : ByteArray) : seq x y = decide (x = y) := by
  have h : seq x y = true ↔ x = y := by
    unfold seq
    rw [beq_iff_eq]
    constructor
    · intro h
      rw [ByteArray.toList_eq, ByteArray.toList_eq] at h
      exact Go.WideShapes.bytes_inj h
    · rintro rfl; rfl
  by_cases hxy : x = y
  · rw [decide_eq_true hxy]; exact h.2 hxy
  · rw [decide_eq_false hxy]; exact Bool.eq_false_iff.2 (fun e => hxy (h.1 e))
end Go.Proofs.YthicijpjpijdjaaDoor.Sl
