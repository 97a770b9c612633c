import Derived.Test.YthicijpjpijdjaaDoorSlBase
import Derived.IntWalk
namespace Go.Proofs.YthicijpjpijdjaaDoor.Sl
open Go.RowKit
set_option linter.unusedSectionVars false
set_option linter.unusedVariables false
set_option linter.unusedSimpArgs false

/-! ## closed facts on types (each is reckoned by the kernel) -/
def scal (P : Program) (t : TypeId) : Bool := match P.underlying t with | some (.struct _) | some (.array _ _) | none => false | _ => (P.info? t).map (·.size) == some 1
def aggS (P : Program) (t : TypeId) : Option Nat := match P.underlying t with | some (.struct _) | some (.array _ _) => (P.info? t).map (·.size) | _ => none
def fldO (P : Program) (s : TypeId) (f : Nat) : Option Nat := match P.underlying s with
  | some (.struct fs) => (fs[f]?).bind fun fl => (P.info? fl.type).bind fun i => if i.size = 0 then none else some fl.offset
  | _ => none
def fldS (P : Program) (s : TypeId) (f : Nat) : Option Nat := match P.underlying s with
  | some (.struct fs) => match fs[f]? with | some fl => if scal P fl.type then some fl.offset else none | none => none
  | _ => none
def fldA (P : Program) (s : TypeId) (f : Nat) : Option (Nat × Nat) := match P.underlying s with
  | some (.struct fs) => (fs[f]?).bind fun fl => (aggS P fl.type).map fun k => (fl.offset, k)
  | _ => none
def slcE (P : Program) (t : TypeId) : Option (TypeId × Nat × Nat) := match P.underlying t with | some (.slice e) => (P.info? e).map fun i => (e, i.size, i.bytes) | _ => none
def arrE (P : Program) (t : TypeId) : Option (Nat × Nat) := match P.underlying t with | some (.array len e) => (P.info? e).map fun i => (len, i.size) | _ => none
def zeroC (P : Program) (t : TypeId) : Option (List Value) := (P.info? t).bind fun i => i.zero.map fun z => z.cells.toList
def intK (P : Program) (t : TypeId) : Option IntKind := match P.underlying t with | some (.int k) => some k | _ => none
def isStr (P : Program) (t : TypeId) : Bool := match P.underlying t with | some .string => true | _ => false

theorem w64 {z : Int} (h1 : -9223372036854775808 ≤ z) (h2 : z ≤ 9223372036854775807) : IntKind.i64.wrap z = z := by
  exact IntWalk.i64_in _ ⟨by omega, by omega⟩
theorem scal_agg {P : Program} {t : TypeId} (h : scal P t = true) (w : World) : (isAgg t).run P w = .ok false w := by
  unfold scal at h
  cases hu : P.underlying t with
  | none => rw [hu] at h; cases h
  | some d => rw [hu] at h; unfold isAgg; rw [Sem.run_bind, run_underlying hu w]; cases d <;> first | rfl | cases h
theorem scal_size {P : Program} {t : TypeId} (h : scal P t = true) : (P.info? t).map (·.size) = some 1 := by
  unfold scal at h
  cases hu : P.underlying t with
  | none => rw [hu] at h; cases h
  | some d => rw [hu] at h; cases d <;> first | exact eq_of_beq h | cases h
theorem aggS_row {P : Program} {t : TypeId} {k : Nat} (h : aggS P t = some k) : ∃ d, P.underlying t = some d ∧ d.isRow = true ∧ (P.info? t).map (·.size) = some k := by
  unfold aggS at h
  cases hu : P.underlying t with
  | none => rw [hu] at h; cases h
  | some d => rw [hu] at h; cases d <;> first | exact ⟨_, rfl, rfl, h⟩ | cases h

section
variable [Dfs]
variable {P : Program} {W : World} {n : Nat} {l : List (Nat × Value)} {L : List HProp} {o : Oper} {Q : Exit → Act → World → Prop} {G : World → Prop}

/-! ## cells -/
theorem Sat.cell {w : World} {b : Nat} {C : List Value} {T : TypeId} {i : Nat} {v : Value} (k : Nat) (hk : L[k]? = some (Blk b C T)) (hi : C[i]? = some v) (h : Sat W L w) : w.cell? ⟨b, i, none⟩ = some v := by
  exact ((h.at k hk).cell i).trans hi
theorem Sat.cellRo {w : World} {b : Nat} {C : List Value} {T : TypeId} {i : Nat} {v : Value} (k : Nat) (hk : L[k]? = some (Ro (Blk b C T))) (hi : C[i]? = some v) (h : Sat W L w) : w.cell? ⟨b, i, none⟩ = some v := by
  exact ((h.at k hk).ro.cell i).trans hi
theorem old_lt {W0 : World} {a : Addr} {v : Value} (h : W0.cell? a = some v) : a.block < W0.heap.size := World.block_lt_of_cell? W0 a h
theorem Sat.cellOld {w W0 : World} {a : Addr} {v : Value} (k : Nat) (hk : L[k]? = some (Old W0)) (hv : W0.cell? a = some v) (h : Sat W L w) : w.cell? a = some v := by
  have := (h.at k hk).old a.block (old_lt hv)
  exact (World.cell?_of_block this).trans hv
theorem Holds.cell_range {w : World} {b o0 : Nat} {C cs : List Value} {T : TypeId} (h : Holds (Blk b C T) w) (hc : (C.drop o0).take cs.length = cs) : w.rangeAt b o0 cs := by
  intro j v hj
  rw [h.cell]
  rw [← hc, List.getElem?_take] at hj
  split at hj
  · simpa using hj
  · cases hj
theorem Sat.range {w : World} {b o0 : Nat} {C cs : List Value} {T : TypeId} (k : Nat) (hk : L[k]? = some (Blk b C T)) (hc : (C.drop o0).take cs.length = cs) (h : Sat W L w) : w.rangeAt b o0 cs := by
  intro j v hj
  refine h.cell k hk ?_
  rw [← hc, List.getElem?_take] at hj
  split at hj
  · simpa using hj
  · cases hj
theorem Sat.rangeRo {w : World} {b o0 : Nat} {C cs : List Value} {T : TypeId} (k : Nat) (hk : L[k]? = some (Ro (Blk b C T))) (hc : (C.drop o0).take cs.length = cs) (h : Sat W L w) : w.rangeAt b o0 cs := by
  intro j v hj
  refine h.cellRo k hk ?_
  rw [← hc, List.getElem?_take] at hj
  split at hj
  · simpa using hj
  · cases hj
theorem Sat.rangeOld {w W0 : World} {b o0 : Nat} {cs : List Value} (k : Nat) (hk : L[k]? = some (Old W0)) (hc : W0.rangeAt b o0 cs) (h : Sat W L w) : w.rangeAt b o0 cs :=
  fun j v hj => h.cellOld k hk (hc j v hj)

/-! ## operations that only yield -/
theorem Val.move {x : Operand} {v : Value} (ho : o.op = .move x) (hx : ev l x = some v) : Val P n l G o v := fun a w hf hs => by
  simp only [execOp, ho, hf.ev hx]; rfl
theorem Val.assign {x : Operand} {v : Value} (ho : o.op = .assign x) (hx : ev l x = some v) : Val P n l G o v := fun a w hf hs => by
  simp only [execOp, ho, hf.ev hx]; rfl
theorem Val.pick {c x y : Operand} {b : Bool} {u v r : Value} (ho : o.op = .pick c x y) (hc : ev l c = some (.bool b)) (hx : ev l (bif b then x else y) = some r) : Val P n l G o r := fun a w hf hs => by
  have e : (bif b then a.eval x else a.eval y) = r := by cases b <;> exact hf.ev hx
  simp only [execOp, ho, hf.ev hc, asBool]
  cases b <;> (simp at e; simp [e])
theorem Val.pickT {c x y : Operand} {r : Value} (ho : o.op = .pick c x y) (hc : ev l c = some (.bool true)) (hx : ev l x = some r) : Val P n l G o r := fun a w hf hs => by
  simp [execOp, ho, hf.ev hc, asBool, hf.ev hx]
theorem Val.pickF {c x y : Operand} {r : Value} (ho : o.op = .pick c x y) (hc : ev l c = some (.bool false)) (hx : ev l y = some r) : Val P n l G o r := fun a w hf hs => by
  simp [execOp, ho, hf.ev hc, asBool, hf.ev hx]
theorem Val.load {t : TypeId} {x : Operand} {p : Addr} {v : Value} (ho : o.op = .load t x) (ht : scal P t = true) (hx : ev l x = some (.pointer (some p))) (hc : ∀ w, G w → w.cell? p = some v) : Val P n l G o v := fun a w hf hs => by
  simp [execOp, ho, hf.ev hx, Instr.loadAt, Instr.sureAddr, loadVar, Sem.run_bind, scal_agg ht, Go.load, Sem.run, hc w hs]
theorem Val.loadAgg {t : TypeId} {x : Operand} {b i k : Nat} {cs : List Value} (ho : o.op = .load t x) (ht : aggS P t = some k) (hx : ev l x = some (.pointer (some ⟨b, i, none⟩))) (hk : cs.length = k)
    (hc : ∀ w, G w → w.rangeAt b i cs) : Val P n l G o (.agg cs.toArray) := fun a w hf hs => by
  obtain ⟨d, h1, h2, h3⟩ := aggS_row ht
  have := run_loadAt_mid (P := P) w b i t cs d (hc w hs) h1 h2 (by rw [h3, hk])
  simp only [execOp, ho, hf.ev hx, Sem.run_bind, this]
  rfl
theorem Val.nilCheck {x : Operand} {p : Addr} (ho : o.op = .nilCheck x) (hx : ev l x = some (.pointer (some p))) : Val P n l G o (.pointer (some p)) := fun a w hf hs => by
  simp only [execOp, ho, hf.ev hx]; rfl
theorem Val.nilCheckF {x : Operand} {f : FuncId} {xs cs : Array Value} (ho : o.op = .nilCheck x) (hx : ev l x = some (.func (.func f) xs cs)) : Val P n l G o (.func (.func f) xs cs) := fun a w hf hs => by
  simp only [execOp, ho, hf.ev hx]; rfl
theorem Val.nilCheckI {x : Operand} {t : TypeId} {v : Value} (ho : o.op = .nilCheck x) (hx : ev l x = some (.iface t v)) : Val P n l G o (.iface t v) := fun a w hf hs => by
  simp only [execOp, ho, hf.ev hx]; rfl
theorem Val.fieldAddr {s : TypeId} {x : Operand} {f b i k j : Nat} (ho : o.op = .fieldAddr s x f) (ht : fldO P s f = some k) (hx : ev l x = some (.pointer (some ⟨b, i, none⟩))) (hj : i + k = j) :
    Val P n l G o (.pointer (some ⟨b, j, none⟩)) := fun a w hf hs => by
  subst hj
  unfold fldO at ht
  cases hu : P.underlying s with
  | none => rw [hu] at ht; cases ht
  | some d =>
    rw [hu] at ht
    cases d with
    | struct fs =>
      simp only at ht
      cases hfl : fs[f]? with
      | none => rw [hfl] at ht; cases ht
      | some fl =>
        rw [hfl] at ht
        simp only [Option.bind_some] at ht
        cases hi : P.info? fl.type with
        | none => rw [hi] at ht; cases ht
        | some inf =>
          rw [hi] at ht
          simp only [Option.bind_some] at ht
          split at ht
          · cases ht
          · rename_i hz
            simp only [Option.some.injEq] at ht
            subst ht
            simp [execOp, ho, hf.ev hx, Instr.fieldAt, Instr.sureAddr, run_underlying hu w, hfl, fieldPlace, sizeOf, typeInfo, hi, hz, Addr.add_mid]
    | _ => cases ht
theorem Val.field {s : TypeId} {x : Operand} {f k : Nat} {cs : Array Value} {v : Value} (ho : o.op = .field s x f) (ht : fldS P s f = some k) (hx : ev l x = some (.agg cs)) (hv : cs[k]? = some v) : Val P n l G o v := fun a w hf hs => by
  unfold fldS at ht
  cases hu : P.underlying s with
  | none => rw [hu] at ht; cases ht
  | some d =>
    rw [hu] at ht
    cases d with
    | struct fs =>
      simp only at ht
      cases hfl : fs[f]? with
      | none => rw [hfl] at ht; cases ht
      | some fl =>
        rw [hfl] at ht
        simp only at ht
        split at ht
        · rename_i hz
          simp only [Option.some.injEq] at ht
          subst ht
          simp [execOp, ho, hf.ev hx, Instr.field, run_underlying hu w, hfl, asAgg, part, scal_agg hz, hv]
        · cases ht
    | _ => cases ht
theorem Val.fieldAgg {s : TypeId} {x : Operand} {f k m : Nat} {cs : Array Value} {ds : List Value} (ho : o.op = .field s x f) (ht : fldA P s f = some (k, m)) (hx : ev l x = some (.agg cs)) (hv : cs.extract k (k + m) = ds.toArray) :
    Val P n l G o (.agg ds.toArray) := fun a w hf hs => by
  unfold fldA at ht
  cases hu : P.underlying s with
  | none => rw [hu] at ht; cases ht
  | some d =>
    rw [hu] at ht
    cases d with
    | struct fs =>
      simp only at ht
      cases hfl : fs[f]? with
      | none => rw [hfl] at ht; cases ht
      | some fl =>
        rw [hfl] at ht
        simp only [Option.bind_some] at ht
        cases hz : aggS P fl.type with
        | none => rw [hz] at ht; cases ht
        | some q =>
          rw [hz] at ht
          simp only [Option.map_some, Option.some.injEq, Prod.mk.injEq] at ht
          obtain ⟨rfl, rfl⟩ := ht
          obtain ⟨d', h1, h2, h3⟩ := aggS_row hz
          have hagg : (isAgg fl.type).run P w = .ok true w := by
            unfold isAgg
            rw [Sem.run_bind, run_underlying h1 w]
            cases d' <;> simp_all
          cases hi : P.info? fl.type with
          | none => rw [hi] at h3; cases h3
          | some inf =>
            have hsz : inf.size = q := by rw [hi] at h3; simpa using h3
            simp [execOp, ho, hf.ev hx, Instr.field, run_underlying hu w, hfl, asAgg, part, hagg, sizeOf, typeInfo, hi, hsz, hv]
    | _ => cases ht
theorem slcE_of {t e : TypeId} {k by_ : Nat} (ht : slcE P t = some (e, k, by_)) : ∃ i, P.underlying t = some (.slice e) ∧ P.info? e = some i ∧ i.size = k ∧ i.bytes = by_ := by
  unfold slcE at ht
  cases hu : P.underlying t with
  | none => rw [hu] at ht; cases ht
  | some d =>
    rw [hu] at ht
    cases d with
    | slice e' =>
      simp only at ht
      cases hi : P.info? e' with
      | none => rw [hi] at ht; cases ht
      | some i =>
        rw [hi] at ht
        simp only [Option.map_some, Option.some.injEq, Prod.mk.injEq] at ht
        obtain ⟨rfl, rfl, rfl⟩ := ht
        exact ⟨i, rfl, hi, rfl, rfl⟩
    | _ => cases ht
theorem Val.indexAddr {t e : TypeId} {x y : Operand} {k by_ b i len cap j q : Nat} {ki : IntKind} {z : Int} (ho : o.op = .indexAddr t x y) (ht : slcE P t = some (e, k, by_)) (hx : ev l x = some (.slice (some ⟨b, i, none⟩) len cap))
    (hy : ev l y = some (.int ki z)) (hz : z = (j : Int)) (hj : j < len) (hq : i + j * k = q) : Val P n l G o (.pointer (some ⟨b, q, none⟩)) := fun a w hf hs => by
  subst hq hz
  obtain ⟨inf, hu, hi, rfl, rfl⟩ := slcE_of ht
  have h1 : (0 : Int) ≤ (j : Int) ∧ (j : Int) < (len : Int) := by omega
  simp [execOp, ho, hf.ev hx, hf.ev hy, Instr.indexAt, asIntOf, run_underlying hu w, sizeOf, typeInfo, hi, h1, hj, Addr.add_mid]
  try (intro h; omega)
theorem Val.indexAddrA {t : TypeId} {x y : Operand} {k b i len j q : Nat} {ki : IntKind} {z : Int} (ho : o.op = .indexAddr t x y) (ht : arrE P t = some (len, k)) (hx : ev l x = some (.pointer (some ⟨b, i, none⟩)))
    (hy : ev l y = some (.int ki z)) (hz : z = (j : Int)) (hj : j < len) (hq : i + j * k = q) : Val P n l G o (.pointer (some ⟨b, q, none⟩)) := fun a w hf hs => by
  subst hq hz
  unfold arrE at ht
  cases hu : P.underlying t with
  | none => rw [hu] at ht; cases ht
  | some d =>
    rw [hu] at ht
    cases d with
    | array len' e =>
      simp only at ht
      cases hi : P.info? e with
      | none => rw [hi] at ht; cases ht
      | some inf =>
        rw [hi] at ht
        simp only [Option.map_some, Option.some.injEq, Prod.mk.injEq] at ht
        obtain ⟨rfl, rfl⟩ := ht
        have h1 : (0 : Int) ≤ (j : Int) ∧ (j : Int) < (len' : Int) := by omega
        simp [execOp, ho, hf.ev hx, hf.ev hy, Instr.indexAt, asIntOf, run_underlying hu w, sizeOf, typeInfo, hi, h1, hj, Addr.add_mid, Instr.sureAddr]
        try (intro h; omega)
    | _ => cases ht
theorem Val.indexStr {t : TypeId} {x y : Operand} {s : ByteArray} {ki : IntKind} {z : Int} {j : Nat} {c : UInt8} (ho : o.op = .index t x y) (ht : isStr P t = true) (hx : ev l x = some (.string s)) (hy : ev l y = some (.int ki z))
    (hz : z = (j : Int)) (hc : s.data.toList[j]? = some c) : Val P n l G o (.int .u8 c.toNat) := fun a w hf hs => by
  subst hz
  have hu : P.underlying t = some .string := by
    unfold isStr at ht
    split at ht
    · assumption
    · cases ht
  have hlt : j < s.size := by
    have := (List.getElem?_eq_some_iff.1 hc).1
    simpa using this
  have hg : s[j]? = some c := by
    rw [getElem?_pos s j hlt]
    obtain ⟨h1, h2⟩ := List.getElem?_eq_some_iff.1 hc
    rw [← h2]; rfl
  simp [execOp, ho, hf.ev hx, hf.ev hy, Instr.index, asIntOf, run_underlying hu w, hg]
theorem Val.extract {x : Operand} {i : Nat} {vs : Array Value} {v : Value} (ho : o.op = .extract x i) (hx : ev l x = some (.tuple vs)) (hv : vs[i]? = some v) : Val P n l G o v := fun a w hf hs => by
  simp [execOp, ho, hf.ev hx, Instr.extract, hv]
theorem Val.iface {t : TypeId} {x : Operand} {v : Value} (ho : o.op = .makeInterface t x) (hx : ev l x = some v) (ht : (match P.underlying t with | some (.interface _) => false | none => false | _ => true) = true) : Val P n l G o (.iface t v) := fun a w hf hs => by
  cases hu : P.underlying t with
  | none => rw [hu] at ht; cases ht
  | some d =>
    rw [hu] at ht
    cases d <;> first | (simp [execOp, ho, hf.ev hx, Instr.makeInterface, run_underlying hu w]; done) | cases ht
theorem Val.makeFunc {fn : Fn} {xs ys : Array Operand} {us vs : Array Value} (ho : o.op = .makeFunc fn xs ys) (hx : ∀ a, Fr n a l → xs.map a.eval = us) (hy : ∀ a, Fr n a l → ys.map a.eval = vs) : Val P n l G o (.func fn us vs) := fun a w hf hs => by
  simp [execOp, ho, hx a hf, hy a hf, Instr.makeFunc]

/-! numbers -/
theorem Val.add {t u : TypeId} {x y : Operand} {k : IntKind} {p q z : Int} (ho : o.op = .binOp .add t x y u) (hx : ev l x = some (.int k p)) (hy : ev l y = some (.int k q)) (hz : k.wrap (p + q) = z) : Val P n l G o (.int k z) := fun a w hf hs => by
  subst hz; simp [execOp, ho, hf.ev hx, hf.ev hy, eqGuard, binOp, Op.intArith]
theorem Val.sub {t u : TypeId} {x y : Operand} {k : IntKind} {p q z : Int} (ho : o.op = .binOp .sub t x y u) (hx : ev l x = some (.int k p)) (hy : ev l y = some (.int k q)) (hz : k.wrap (p - q) = z) : Val P n l G o (.int k z) := fun a w hf hs => by
  subst hz; simp [execOp, ho, hf.ev hx, hf.ev hy, eqGuard, binOp, Op.intArith]
theorem Val.mul {t u : TypeId} {x y : Operand} {k : IntKind} {p q z : Int} (ho : o.op = .binOp .mul t x y u) (hx : ev l x = some (.int k p)) (hy : ev l y = some (.int k q)) (hz : k.wrap (p * q) = z) : Val P n l G o (.int k z) := fun a w hf hs => by
  subst hz; simp [execOp, ho, hf.ev hx, hf.ev hy, eqGuard, binOp, Op.intArith]
theorem Val.quo {t u : TypeId} {x y : Operand} {k : IntKind} {p q z : Int} (ho : o.op = .binOp .quo t x y u) (hx : ev l x = some (.int k p)) (hy : ev l y = some (.int k q)) (h0 : q ≠ 0) (hz : k.wrap (p.tdiv q) = z) : Val P n l G o (.int k z) := fun a w hf hs => by
  subst hz; simp [execOp, ho, hf.ev hx, hf.ev hy, eqGuard, binOp, Op.intDiv, h0]
theorem Val.rem {t u : TypeId} {x y : Operand} {k : IntKind} {p q z : Int} (ho : o.op = .binOp .rem t x y u) (hx : ev l x = some (.int k p)) (hy : ev l y = some (.int k q)) (h0 : q ≠ 0) (hz : p.tmod q = z) : Val P n l G o (.int k z) := fun a w hf hs => by
  subst hz; simp [execOp, ho, hf.ev hx, hf.ev hy, eqGuard, binOp, Op.intDiv, h0]
theorem Val.lss {t u : TypeId} {x y : Operand} {k : IntKind} {p q : Int} (ho : o.op = .binOp .lss t x y u) (hx : ev l x = some (.int k p)) (hy : ev l y = some (.int k q)) : Val P n l G o (.bool (decide (p < q))) := fun a w hf hs => by
  simp [execOp, ho, hf.ev hx, hf.ev hy, eqGuard, binOp, Op.intCmp]
theorem Val.leq {t u : TypeId} {x y : Operand} {k : IntKind} {p q : Int} (ho : o.op = .binOp .leq t x y u) (hx : ev l x = some (.int k p)) (hy : ev l y = some (.int k q)) : Val P n l G o (.bool (decide (p ≤ q))) := fun a w hf hs => by
  simp [execOp, ho, hf.ev hx, hf.ev hy, eqGuard, binOp, Op.intCmp]
theorem Val.gtr {t u : TypeId} {x y : Operand} {k : IntKind} {p q : Int} (ho : o.op = .binOp .gtr t x y u) (hx : ev l x = some (.int k p)) (hy : ev l y = some (.int k q)) : Val P n l G o (.bool (decide (q < p))) := fun a w hf hs => by
  simp [execOp, ho, hf.ev hx, hf.ev hy, eqGuard, binOp, Op.intCmp]
theorem Val.geq {t u : TypeId} {x y : Operand} {k : IntKind} {p q : Int} (ho : o.op = .binOp .geq t x y u) (hx : ev l x = some (.int k p)) (hy : ev l y = some (.int k q)) : Val P n l G o (.bool (decide (q ≤ p))) := fun a w hf hs => by
  simp [execOp, ho, hf.ev hx, hf.ev hy, eqGuard, binOp, Op.intCmp]
theorem Val.eql {t u : TypeId} {x y : Operand} {k : IntKind} {p q : Int} (ho : o.op = .binOp .eql t x y u) (hx : ev l x = some (.int k p)) (hy : ev l y = some (.int k q)) : Val P n l G o (.bool (decide (p = q))) := fun a w hf hs => by
  simp [execOp, ho, hf.ev hx, hf.ev hy, eqGuard, binOp, Op.intCmp]
  rfl
theorem Val.neq {t u : TypeId} {x y : Operand} {k : IntKind} {p q : Int} (ho : o.op = .binOp .neq t x y u) (hx : ev l x = some (.int k p)) (hy : ev l y = some (.int k q)) : Val P n l G o (.bool (decide (p ≠ q))) := fun a w hf hs => by
  have e : (p != q) = decide (p ≠ q) := by rw [Bool.eq_iff_iff]; simp
  simp [execOp, ho, hf.ev hx, hf.ev hy, eqGuard, binOp, Op.intCmp, e]
theorem Val.not {t : TypeId} {x : Operand} {b : Bool} (ho : o.op = .unOp .not t x) (hx : ev l x = some (.bool b)) : Val P n l G o (.bool (!b)) := fun a w hf hs => by
  simp [execOp, ho, hf.ev hx, Op.unary]
theorem Val.notP {t : TypeId} {x : Operand} {p : Prop} [Decidable p] (ho : o.op = .unOp .not t x) (hx : ev l x = some (.bool (decide p))) : Val P n l G o (.bool (decide (¬ p))) := by
  have h := Val.not (P := P) (n := n) (G := G) ho hx
  rwa [← decide_not] at h
theorem Val.neg {t : TypeId} {x : Operand} {k : IntKind} {p z : Int} (ho : o.op = .unOp .neg t x) (hx : ev l x = some (.int k p)) (hz : k.wrap (0 - p) = z) : Val P n l G o (.int k z) := fun a w hf hs => by
  subst hz; simp [execOp, ho, hf.ev hx, Op.unary, Op.intArith]
theorem Val.conv {s t : TypeId} {x : Operand} {k k' : IntKind} {p z : Int} (ho : o.op = .convert s t x) (ht : intK P t = some k) (hs' : (P.underlying s).isSome = true) (hx : ev l x = some (.int k' p)) (hz : k.wrap p = z) : Val P n l G o (.int k z) := fun a w hf hs => by
  subst hz
  have hu : P.underlying t = some (.int k) := by
    unfold intK at ht
    split at ht
    · rename_i h; simp at ht; subst ht; exact h
    · cases ht
  obtain ⟨d, hd⟩ := Option.isSome_iff_exists.1 hs'
  simp [execOp, ho, hf.ev hx, convert, run_underlying hu w, run_underlying hd w, Conv.intToInt]

/-! strings -/
def seq (x y : ByteArray) : Bool := x.toList == y.toList
theorem Val.eqlS {t u : TypeId} {x y : Operand} {p q : ByteArray} (ho : o.op = .binOp .eql t x y u) (hx : ev l x = some (.string p)) (hy : ev l y = some (.string q)) : Val P n l G o (.bool (seq p q)) := fun a w hf hs => by
  simp [execOp, ho, hf.ev hx, hf.ev hy, eqGuard, binOp, Op.stringOp, seq]
theorem Val.neqS {t u : TypeId} {x y : Operand} {p q : ByteArray} (ho : o.op = .binOp .neq t x y u) (hx : ev l x = some (.string p)) (hy : ev l y = some (.string q)) : Val P n l G o (.bool (!seq p q)) := fun a w hf hs => by
  simp [execOp, ho, hf.ev hx, hf.ev hy, eqGuard, binOp, Op.stringOp, seq]
theorem Val.lssS {t u : TypeId} {x y : Operand} {p q : ByteArray} (ho : o.op = .binOp .lss t x y u) (hx : ev l x = some (.string p)) (hy : ev l y = some (.string q)) : Val P n l G o (.bool (Op.bytesLess p.toList q.toList)) := fun a w hf hs => by
  simp [execOp, ho, hf.ev hx, hf.ev hy, eqGuard, binOp, Op.stringOp]
theorem Val.addS {t u : TypeId} {x y : Operand} {p q : ByteArray} (ho : o.op = .binOp .add t x y u) (hx : ev l x = some (.string p)) (hy : ev l y = some (.string q)) (hz : p.size + q.size ≤ 9223372036854775807) : Val P n l G o (.string (p ++ q)) := fun a w hf hs => by
  have h : ¬ ((IntKind.i64.max : Int) < (p.size : Int) + (q.size : Int)) := by
    have : IntKind.i64.max = 9223372036854775807 := rfl
    omega
  simp [execOp, ho, hf.ev hx, hf.ev hy, eqGuard, binOp, Op.stringOp, h]
  omega
theorem Val.lenS {x : Operand} {t : TypeId} {s : ByteArray} (ho : o.op = .call { callee := .builtin .len, args := #[x], argTypes := #[t] }) (ht : isStr P t = true) (hx : ev l x = some (.string s)) : Val P n l G o (.int .i64 s.size) := fun a w hf hs => by
  have hu : P.underlying t = some .string := by
    unfold isStr at ht
    split at ht
    · assumption
    · cases ht
  simp [execOp, ho, resolve, invoke, builtin, Builtin.len_, hf.ev hx, run_underlying hu w, goInt]
theorem Val.len {x : Operand} {t e : TypeId} {k by_ m c : Nat} {p : Option Addr} (ho : o.op = .call { callee := .builtin .len, args := #[x], argTypes := #[t] }) (ht : slcE P t = some (e, k, by_)) (hx : ev l x = some (.slice p m c)) : Val P n l G o (.int .i64 m) := fun a w hf hs => by
  obtain ⟨inf, hu, hi, rfl, rfl⟩ := slcE_of ht
  simp [execOp, ho, resolve, invoke, builtin, Builtin.len_, hf.ev hx, run_underlying hu w, goInt]
theorem Val.cap {x : Operand} {t e : TypeId} {k by_ m c : Nat} {p : Option Addr} (ho : o.op = .call { callee := .builtin .cap, args := #[x], argTypes := #[t] }) (ht : slcE P t = some (e, k, by_)) (hx : ev l x = some (.slice p m c)) : Val P n l G o (.int .i64 c) := fun a w hf hs => by
  obtain ⟨inf, hu, hi, rfl, rfl⟩ := slcE_of ht
  simp [execOp, ho, resolve, invoke, builtin, Builtin.cap_, hf.ev hx, run_underlying hu w, goInt]

/-! x[lo:hi] -/
def bnd : Option Int → Nat → Int
  | some z, _ => z
  | none, d => d
theorem Val.slice {t e : TypeId} {x : Operand} {k by_ m c lo hi j : Nat} {b i : Nat} {ylo yhi : Option Operand} {vlo vhi : Option (IntKind × Int)} (ho : o.op = .slice t x ylo yhi none) (ht : slcE P t = some (e, k, by_)) (hx : ev l x = some (.slice (some ⟨b, i, none⟩) m c))
    (hlo : ylo.map (ev l) = vlo.map fun p => some (.int p.1 p.2)) (hhi : yhi.map (ev l) = vhi.map fun p => some (.int p.1 p.2)) (h1 : bnd (vlo.map (·.2)) 0 = (lo : Int)) (h2 : bnd (vhi.map (·.2)) m = (hi : Int)) (h3 : lo ≤ hi) (h4 : hi ≤ c) (hm : m ≤ c)
    (hj : (if c = lo then i else i + lo * k) = j) : Val P n l G o (.slice (some ⟨b, j, none⟩) (hi - lo) (c - lo)) := fun a w hf hs => by
  subst hj
  obtain ⟨inf, hu, hinf, rfl, rfl⟩ := slcE_of ht
  have elo : ylo.map a.eval = vlo.map fun p => .int p.1 p.2 := by
    cases ylo <;> cases vlo <;> simp at hlo ⊢
    exact hf.ev hlo
  have ehi : yhi.map a.eval = vhi.map fun p => .int p.1 p.2 := by
    cases yhi <;> cases vhi <;> simp at hhi ⊢
    exact hf.ev hhi
  have key : (Instr.sliceBounds true m c (vlo.map fun p => .int p.1 p.2) (vhi.map fun p => .int p.1 p.2) none).run P w = .ok (lo, hi, c) w := by
    cases vlo with
    | none =>
      cases vhi with
      | none =>
        simp [bnd] at h1 h2
        have e1 : lo = 0 := by omega
        have e2 : hi = m := by omega
        subst e1 e2
        simp [Instr.sliceBounds]
      | some q =>
        simp [bnd] at h1 h2
        have e1 : lo = 0 := by omega
        subst e1
        have b1 : (0 : Int) ≤ (hi : Int) ∧ (hi : Int) ≤ (c : Int) := by omega
        simp [Instr.sliceBounds, Instr.sliceBound, asIntOf, h2, b1, h4]
        try (intro h; omega)
    | some p =>
      cases vhi with
      | none =>
        simp [bnd] at h1 h2
        have e2 : hi = m := by omega
        subst e2
        have b1 : (0 : Int) ≤ (lo : Int) ∧ (lo : Int) ≤ (hi : Int) := by omega
        simp [Instr.sliceBounds, Instr.sliceBound, asIntOf, h1, b1, h3]
        try (intro h; omega)
      | some q =>
        simp [bnd] at h1 h2
        have b1 : (0 : Int) ≤ (hi : Int) ∧ (hi : Int) ≤ (c : Int) := by omega
        have b2 : (0 : Int) ≤ (lo : Int) ∧ (lo : Int) ≤ (hi : Int) := by omega
        simp [Instr.sliceBounds, Instr.sliceBound, asIntOf, h1, h2, b1, b2, h3, h4]
  have hnu : ∀ n' e', P.underlying t ≠ some (.array n' e') := fun n' e' h => by rw [hu] at h; cases h
  simp only [execOp, ho, hf.ev hx, elo, ehi, Option.map_none, Instr.sliceAt, Sem.run_bind, run_underlying hu w, Result.andThen_ok, Instr.slice, key, sizeOf, typeInfo, hinf]
  by_cases hcl : c = lo
  · subst hcl; simp [hinf]
  · simp [hinf, hcl, Addr.add_mid]
theorem Val.sliceNil {t e : TypeId} {x : Operand} {k by_ : Nat} {ylo yhi : Option Operand} {vlo vhi : Option (IntKind × Int)} (ho : o.op = .slice t x ylo yhi none) (ht : slcE P t = some (e, k, by_)) (hx : ev l x = some (.slice none 0 0))
    (hlo : ylo.map (ev l) = vlo.map fun p => some (.int p.1 p.2)) (hhi : yhi.map (ev l) = vhi.map fun p => some (.int p.1 p.2)) (h1 : bnd (vlo.map (·.2)) 0 = 0) (h2 : bnd (vhi.map (·.2)) 0 = 0) : Val P n l G o (.slice none 0 0) := fun a w hf hs => by
  obtain ⟨inf, hu, hinf, rfl, rfl⟩ := slcE_of ht
  have elo : ylo.map a.eval = vlo.map fun p => .int p.1 p.2 := by
    cases ylo <;> cases vlo <;> simp at hlo ⊢
    exact hf.ev hlo
  have ehi : yhi.map a.eval = vhi.map fun p => .int p.1 p.2 := by
    cases yhi <;> cases vhi <;> simp at hhi ⊢
    exact hf.ev hhi
  have key : (Instr.sliceBounds true 0 0 (vlo.map fun p => .int p.1 p.2) (vhi.map fun p => .int p.1 p.2) none).run P w = .ok (0, 0, 0) w := by
    cases vlo <;> cases vhi <;> simp [bnd] at h1 h2 <;> simp [Instr.sliceBounds, Instr.sliceBound, asIntOf, h1, h2]
  simp only [execOp, ho, hf.ev hx, elo, ehi, Option.map_none, Instr.sliceAt, Sem.run_bind, run_underlying hu w, Result.andThen_ok, Instr.slice, key, sizeOf, typeInfo, hinf]
  simp [hinf]
theorem Val.sliceS {t : TypeId} {x : Operand} {s : ByteArray} {lo hi : Nat} {ylo yhi : Option Operand} {vlo vhi : Option (IntKind × Int)} (ho : o.op = .slice t x ylo yhi none) (ht : isStr P t = true) (hx : ev l x = some (.string s))
    (hlo : ylo.map (ev l) = vlo.map fun p => some (.int p.1 p.2)) (hhi : yhi.map (ev l) = vhi.map fun p => some (.int p.1 p.2)) (h1 : bnd (vlo.map (·.2)) 0 = (lo : Int)) (h2 : bnd (vhi.map (·.2)) s.size = (hi : Int)) (h3 : lo ≤ hi) (h4 : hi ≤ s.size) :
    Val P n l G o (.string (s.extract lo hi)) := fun a w hf hs => by
  have hu : P.underlying t = some .string := by
    unfold isStr at ht
    split at ht
    · assumption
    · cases ht
  have elo : ylo.map a.eval = vlo.map fun p => .int p.1 p.2 := by
    cases ylo <;> cases vlo <;> simp at hlo ⊢
    exact hf.ev hlo
  have ehi : yhi.map a.eval = vhi.map fun p => .int p.1 p.2 := by
    cases yhi <;> cases vhi <;> simp at hhi ⊢
    exact hf.ev hhi
  have key : (Instr.sliceBounds false s.size s.size (vlo.map fun p => .int p.1 p.2) (vhi.map fun p => .int p.1 p.2) none).run P w = .ok (lo, hi, s.size) w := by
    cases vlo with
    | none =>
      cases vhi with
      | none =>
        simp [bnd] at h1 h2
        have e1 : lo = 0 := by omega
        have e2 : hi = s.size := by omega
        subst e1 e2
        simp [Instr.sliceBounds]
      | some q =>
        simp [bnd] at h1 h2
        have e1 : lo = 0 := by omega
        subst e1
        have b1 : (0 : Int) ≤ (hi : Int) ∧ (hi : Int) ≤ (s.size : Int) := by omega
        simp [Instr.sliceBounds, Instr.sliceBound, asIntOf, h2, b1, h4]
        try (intro h; omega)
    | some p =>
      cases vhi with
      | none =>
        simp [bnd] at h1 h2
        have e2 : hi = s.size := by omega
        subst e2
        have b1 : (0 : Int) ≤ (lo : Int) ∧ (lo : Int) ≤ (s.size : Int) := by omega
        simp [Instr.sliceBounds, Instr.sliceBound, asIntOf, h1, b1, h3]
        try (intro h; omega)
      | some q =>
        simp [bnd] at h1 h2
        have b1 : (0 : Int) ≤ (hi : Int) ∧ (hi : Int) ≤ (s.size : Int) := by omega
        have b2 : (0 : Int) ≤ (lo : Int) ∧ (lo : Int) ≤ (hi : Int) := by omega
        simp [Instr.sliceBounds, Instr.sliceBound, asIntOf, h1, h2, b1, b2, h3, h4]
  simp [execOp, ho, hf.ev hx, elo, ehi, Instr.sliceAt, run_underlying hu w, Instr.slice, key]

/-! nil or not -/
def isPtr (P : Program) (t : TypeId) : Bool := match P.underlying t with | some (.pointer _) => true | _ => false
def isSlc (P : Program) (t : TypeId) : Bool := match P.underlying t with | some (.slice _) => true | _ => false
theorem isPtr_of {t : TypeId} (h : isPtr P t = true) : ∃ e, P.underlying t = some (.pointer e) := by
  unfold isPtr at h
  split at h
  · rename_i e he; exact ⟨e, he⟩
  · cases h
theorem isSlc_of {t : TypeId} (h : isSlc P t = true) : ∃ e, P.underlying t = some (.slice e) := by
  unfold isSlc at h
  split at h
  · rename_i e he; exact ⟨e, he⟩
  · cases h
theorem equal_nilP {t : TypeId} (ht : isPtr P t = true) (p : Option Addr) (w : World) : (Op.equal t (.pointer p) (.pointer none)).run P w = .ok p.isNone w := by
  obtain ⟨e, hu⟩ := isPtr_of ht
  have h : Op.maxDepth = 9999 + 1 := rfl
  unfold Op.equal
  rw [h]
  unfold Op.equalIn
  cases p <;> simp [run_underlying hu w]
theorem equal_nilP' {t : TypeId} (ht : isPtr P t = true) (p : Option Addr) (w : World) : (Op.equal t (.pointer none) (.pointer p)).run P w = .ok p.isNone w := by
  obtain ⟨e, hu⟩ := isPtr_of ht
  have h : Op.maxDepth = 9999 + 1 := rfl
  unfold Op.equal
  rw [h]
  unfold Op.equalIn
  cases p <;> simp [run_underlying hu w]
theorem equal_nilS {t : TypeId} (ht : isSlc P t = true) (p : Option Addr) (m c m' c' : Nat) (w : World) : (Op.equal t (.slice p m c) (.slice none m' c')).run P w = .ok p.isNone w := by
  obtain ⟨e, hu⟩ := isSlc_of ht
  have h : Op.maxDepth = 9999 + 1 := rfl
  unfold Op.equal
  rw [h]
  unfold Op.equalIn
  cases p <;> simp [run_underlying hu w]
theorem Val.nilP {t u : TypeId} {x y : Operand} {p : Option Addr} (ho : o.op = .binOp .eql t x y u) (ht : isPtr P t = true) (hx : ev l x = some (.pointer p)) (hy : ev l y = some (.pointer none)) :
    Val P n l G o (.bool p.isNone) := fun a w hf hs => by
  simp [execOp, ho, hf.ev hx, hf.ev hy, eqGuard, binOp, equal_nilP ht p w]
theorem Val.nilPn {t u : TypeId} {x y : Operand} {p : Option Addr} (ho : o.op = .binOp .neq t x y u) (ht : isPtr P t = true) (hx : ev l x = some (.pointer p)) (hy : ev l y = some (.pointer none)) :
    Val P n l G o (.bool p.isSome) := fun a w hf hs => by
  simp [execOp, ho, hf.ev hx, hf.ev hy, eqGuard, binOp, equal_nilP ht p w]
def isIfc (P : Program) (t : TypeId) : Bool := match P.underlying t with | some (.interface _) => true | _ => false
theorem equal_nilI {t : TypeId} (ht : isIfc P t = true) (w : World) : (Op.equal t .nilIface .nilIface).run P w = .ok true w := by
  unfold isIfc at ht
  split at ht
  · rename_i e hu
    have h : Op.maxDepth = 9999 + 1 := rfl
    unfold Op.equal
    rw [h]
    unfold Op.equalIn
    simp [run_underlying hu w]
  · cases ht
theorem equal_someI {t u : TypeId} {v : Value} (ht : isIfc P t = true) (w : World) : (Op.equal t (.iface u v) .nilIface).run P w = .ok false w := by
  unfold isIfc at ht
  split at ht
  · rename_i e hu
    have h : Op.maxDepth = 9999 + 1 := rfl
    unfold Op.equal
    rw [h]
    unfold Op.equalIn
    simp [run_underlying hu w]
  · cases ht
theorem Val.nilI {t u : TypeId} {x : Operand} (ho : o.op = .binOp .eql t x (.const .nilIface) u) (ht : isIfc P t = true) (hx : ev l x = some .nilIface) : Val P n l G o (.bool true) := fun a w hf hs => by
  have hc : a.eval (.const .nilIface) = .nilIface := rfl
  simp [execOp, ho, hf.ev hx, hc, eqGuard, binOp, equal_nilI ht w]
theorem Val.nilIn {t u : TypeId} {x : Operand} (ho : o.op = .binOp .neq t x (.const .nilIface) u) (ht : isIfc P t = true) (hx : ev l x = some .nilIface) : Val P n l G o (.bool false) := fun a w hf hs => by
  have hc : a.eval (.const .nilIface) = .nilIface := rfl
  simp [execOp, ho, hf.ev hx, hc, eqGuard, binOp, equal_nilI ht w]
theorem Val.someI {t u s : TypeId} {v : Value} {x : Operand} (ho : o.op = .binOp .eql t x (.const .nilIface) u) (ht : isIfc P t = true) (hx : ev l x = some (.iface s v)) : Val P n l G o (.bool false) := fun a w hf hs => by
  have hc : a.eval (.const .nilIface) = .nilIface := rfl
  simp [execOp, ho, hf.ev hx, hc, eqGuard, binOp, equal_someI ht w]
theorem Val.someIn {t u s : TypeId} {v : Value} {x : Operand} (ho : o.op = .binOp .neq t x (.const .nilIface) u) (ht : isIfc P t = true) (hx : ev l x = some (.iface s v)) : Val P n l G o (.bool true) := fun a w hf hs => by
  have hc : a.eval (.const .nilIface) = .nilIface := rfl
  simp [execOp, ho, hf.ev hx, hc, eqGuard, binOp, equal_someI ht w]
theorem Val.min2 {t t' : TypeId} {x y : Operand} {k : IntKind} {p q z : Int} (ho : o.op = .call { callee := .builtin .min, args := #[x, y], argTypes := #[t, t'] }) (hx : ev l x = some (.int k p)) (hy : ev l y = some (.int k q)) (hz : (if q < p then q else p) = z) : Val P n l G o (.int k z) := fun a w hf hs => by
  subst hz; simp [execOp, ho, resolve, invoke, builtin, Builtin.min_, Builtin.min2, hf.ev hx, hf.ev hy]
theorem Val.max2 {t t' : TypeId} {x y : Operand} {k : IntKind} {p q z : Int} (ho : o.op = .call { callee := .builtin .max, args := #[x, y], argTypes := #[t, t'] }) (hx : ev l x = some (.int k p)) (hy : ev l y = some (.int k q)) (hz : (if p < q then q else p) = z) : Val P n l G o (.int k z) := fun a w hf hs => by
  subst hz; simp [execOp, ho, resolve, invoke, builtin, Builtin.max_, Builtin.max2, hf.ev hx, hf.ev hy]
theorem Val.nilS {t u : TypeId} {x y : Operand} {p : Option Addr} {m c m' c' : Nat} (ho : o.op = .binOp .eql t x y u) (ht : isSlc P t = true) (hx : ev l x = some (.slice p m c)) (hy : ev l y = some (.slice none m' c')) :
    Val P n l G o (.bool p.isNone) := fun a w hf hs => by
  simp [execOp, ho, hf.ev hx, hf.ev hy, eqGuard, binOp, equal_nilS ht p m c m' c' w]
theorem Val.nilSn {t u : TypeId} {x y : Operand} {p : Option Addr} {m c m' c' : Nat} (ho : o.op = .binOp .neq t x y u) (ht : isSlc P t = true) (hx : ev l x = some (.slice p m c)) (hy : ev l y = some (.slice none m' c')) :
    Val P n l G o (.bool p.isSome) := fun a w hf hs => by
  simp [execOp, ho, hf.ev hx, hf.ev hy, eqGuard, binOp, equal_nilS ht p m c m' c' w]
/-- structs and arrays by parts -/
theorem Val.build {t : TypeId} {ps : Array (Nat × Operand)} {vs : Array (Nat × Value)} {cs : List Value} (ho : o.op = .build t ps) (hv : ∀ a, Fr n a l → (ps.map fun p => (p.1, a.eval p.2)) = vs) (hb : ∀ w, (Instr.build t vs).run P w = .ok (.agg cs.toArray) w) :
    Val P n l G o (.agg cs.toArray) := fun a w hf hs => by
  have := hv a hf
  simp only [execOp, ho]
  have e : (ps.map fun x => match x with | (i, y) => (i, a.eval y)) = vs := by rw [← this]
  simp only [e, Sem.run_bind, hb w]
  rfl

/-! ## what a function hands back out of memory -/
theorem results_cell {fn : Func} {t : Tmp} {ty : TypeId} {b k : Nat} {cs : List Value} (hr : fn.results = #[.cell t ty]) (ht : aggS P ty = some k) (hv : look l t = some (.pointer (some ⟨b, 0, none⟩))) (hk : cs.length = k)
    (hc : ∀ w, Sat W L w → w.rangeAt b 0 cs) : ∀ a w, Fr n a l → Sat W L w → (results fn a.tmps).run P w = .ok (.agg cs.toArray) w := fun a w hf hs => by
  obtain ⟨d, h1, h2, h3⟩ := aggS_row ht
  have := run_loadVar_mid (P := P) w b 0 ty cs d (hc w hs) h1 h2 (by rw [h3, hk])
  have e := hf.at_ t _ hv
  rw [Array.getD_eq_getD_getElem?] at e
  simp [results, hr, e, asAddr, this]
theorem results_cell1 {fn : Func} {t : Tmp} {ty : TypeId} {p : Addr} {v : Value} (hr : fn.results = #[.cell t ty]) (ht : scal P ty = true) (hv : look l t = some (.pointer (some p)))
    (hc : ∀ w, Sat W L w → w.cell? p = some v) : ∀ a w, Fr n a l → Sat W L w → (results fn a.tmps).run P w = .ok v w := fun a w hf hs => by
  have e := hf.at_ t _ hv
  rw [Array.getD_eq_getD_getElem?] at e
  simp [results, hr, e, asAddr, loadVar, scal_agg ht, Go.load, Sem.run, hc w hs]

/-! ## operations that make or write -/
def One (v : Value) (L : List HProp) : Value → List HProp → Prop := fun u M => u = v ∧ M = L
theorem Eff.val {v : Value} (h : Val P n l (Sat W L) o v) : Eff P W Q n l L o (One v L) := fun a w hf hs K hK => by
  unfold Oper.wp
  rw [h a w hf hs, Oper.upon_value]
  exact hK v L w ⟨rfl, rfl⟩ hs
def New (T : TypeId) (C : List Value) (L : List HProp) : Value → List HProp → Prop := fun u M => ∃ b, u = .pointer (some ⟨b, 0, none⟩) ∧ M = Blk b C T :: L
theorem Eff.new {v : World → Value} {T : TypeId} {C : List Value} (f : Nat → Value) (R : Value → List HProp → Prop) (hR : ∀ b, R (f b) (Blk b C T :: L))
    (h : ∀ a w, Fr n a l → Sat W L w → (execOp a.eval o).run P w = .ok (.value (f w.heap.size)) (w.alloc (.cells C.toArray T))) : Eff P W Q n l L o R := fun a w hf hs K hK => by
  unfold Oper.wp
  rw [h a w hf hs, Oper.upon_value]
  exact hK _ _ _ (hR _) (hs.blk C T)
theorem zeroC_of {t : TypeId} {C : List Value} (ht : zeroC P t = some C) : ∃ i z, P.info? t = some i ∧ i.zero = some z ∧ z.cells = C.toArray := by
  unfold zeroC at ht
  cases hi : P.info? t with
  | none => rw [hi] at ht; cases ht
  | some i =>
    rw [hi] at ht
    simp only [Option.bind_some] at ht
    cases hz : i.zero with
    | none => rw [hz] at ht; cases ht
    | some z =>
      rw [hz] at ht
      simp only [Option.map_some, Option.some.injEq] at ht
      exact ⟨i, z, rfl, hz, by rw [← ht]⟩
theorem Eff.alloc {t : TypeId} {C : List Value} (ho : o.op = .alloc t) (ht : zeroC P t = some C) : Eff P W Q n l L o (New t C L) :=
  Eff.new (v := fun _ => .nilFunc) (fun b => .pointer (some ⟨b, 0, none⟩)) _ (fun b => ⟨b, rfl, rfl⟩) fun a w hf hs => by
    obtain ⟨i, z, hi, hz, hc⟩ := zeroC_of ht
    simp [execOp, ho, Instr.alloc, zeroValue, typeInfo, hi, hz, newVar, newRow, hc]
theorem Eff.box {t : TypeId} {x : Operand} {v : Value} {C : List Value} (ho : o.op = .box t x) (hx : ev l x = some v) (hc : v.cells = C.toArray) : Eff P W Q n l L o (New t C L) :=
  Eff.new (v := fun _ => .nilFunc) (fun b => .pointer (some ⟨b, 0, none⟩)) _ (fun b => ⟨b, rfl, rfl⟩) fun a w hf hs => by
    simp [execOp, ho, Instr.box, hf.ev hx, newVar, newRow, hc]
def NewS (T : TypeId) (m c : Nat) (C : List Value) (L : List HProp) : Value → List HProp → Prop := fun u M => ∃ b, u = .slice (some ⟨b, 0, none⟩) m c ∧ M = Blk b C T :: L
theorem Eff.buildSlice {t e : TypeId} {k by_ m : Nat} {ps : Array (Nat × Operand)} {vs : Array (Nat × Value)} {C : List Value} (ho : o.op = .buildSlice t m ps) (ht : slcE P t = some (e, k, by_)) (hv : ∀ a, Fr n a l → (ps.map fun p => (p.1, a.eval p.2)) = vs)
    (hb : ∀ w, (Instr.buildSlice t m vs).run P w = .ok (.slice (some ⟨w.heap.size, 0, none⟩) m m) (w.alloc (.cells C.toArray e))) : Eff P W Q n l L o (NewS e m m C L) :=
  Eff.new (v := fun _ => .nilFunc) (fun b => .slice (some ⟨b, 0, none⟩) m m) _ (fun b => ⟨b, rfl, rfl⟩) fun a w hf hs => by
    have := hv a hf
    simp only [execOp, ho]
    have e : (ps.map fun x => match x with | (i, y) => (i, a.eval y)) = vs := by rw [← this]
    simp only [e, Sem.run_bind, hb w]
    rfl
theorem madeCells_list (z : List Value) (k m : Nat) (hz : z.length = k) : madeCells z.toArray (m * k) = ((List.replicate m z).flatten).toArray := by
  subst hz
  apply Array.ext'
  simp only [madeCells, Array.toList_map, Array.toList_range]
  induction m with
  | zero => simp
  | succ m ih =>
    rw [List.replicate_succ', List.flatten_append, Nat.succ_mul, List.range_add, List.map_append, ih]
    congr 1
    simp only [List.flatten_singleton, List.map_map]
    apply List.ext_getElem?
    intro i
    rw [List.getElem?_map]
    by_cases hi : i < z.length
    · rw [List.getElem?_range hi, List.getElem?_eq_getElem hi]
      simp [Nat.mul_add_mod_of_lt hi, hi, Nat.add_comm, Nat.mod_eq_of_lt hi]
    · rw [List.getElem?_eq_none (by simpa using hi), List.getElem?_eq_none (by simpa using hi)]; rfl
theorem Eff.makeSlice {t e : TypeId} {k by_ m c : Nat} {x y : Operand} {kl kc : IntKind} {zl zc : Int} {z : List Value} (ho : o.op = .makeSlice t x y) (ht : slcE P t = some (e, k, by_)) (hz : zeroC P e = some z) (hk : z.length = k) (hx : ev l x = some (.int kl zl)) (hy : ev l y = some (.int kc zc))
    (hm : zl = (m : Int)) (hc : zc = (c : Int)) (hmc : m ≤ c) (hb : by_ * c ≤ 281474976710656) (h63 : c ≤ 9223372036854775807) : Eff P W Q n l L o (NewS e m c ((List.replicate c z).flatten) L) :=
  Eff.new (v := fun _ => .nilFunc) (fun b => .slice (some ⟨b, 0, none⟩) m c) _ (fun b => ⟨b, rfl, rfl⟩) fun a w hf hs => by
    subst hm hc
    obtain ⟨inf, hu, hi, rfl, rfl⟩ := slcE_of ht
    obtain ⟨i2, z2, hi2, hz2, hc2⟩ := zeroC_of hz
    rw [hi] at hi2
    obtain rfl : inf = i2 := by simpa using hi2
    have := run_make (P := P) w t e inf z2 hu hi hz2 kl kc (m : Int) (c : Int) (by omega) (by omega) (by
      have h : ((inf.bytes * c : Nat) : Int) ≤ 281474976710656 := by omega
      rwa [Int.natCast_mul] at h) (by omega)
    simp only [Int.toNat_natCast, hc2] at this
    rw [madeCells_list z inf.size c hk] at this
    simp only [execOp, ho, hf.ev hx, hf.ev hy, Sem.run_bind, this]
    rfl

/-! stores -/
def Sets (M : List HProp) : Value → List HProp → Prop := fun _ L' => L' = M
theorem one_cell {v : Value} (h : v.oneCell' = true) : v.cells = #[v] := by cases v <;> first | rfl | cases h
theorem Eff.store {t : TypeId} {x y : Operand} {b i : Nat} {v : Value} {C C' : List Value} {T : TypeId} (ho : o.op = .store t x y) (ht : scal P t = true) (hx : ev l x = some (.pointer (some ⟨b, i, none⟩))) (hy : ev l y = some v)
    (h1 : v.oneCell' = true) (hi : i < C.length) (hC : C.set i v = C') : Eff P W Q n l (Blk b C T :: L) o (Sets (Blk b C' T :: L)) := fun a w hf hs K hK => by
  subst hC
  have hc : w.cell? ⟨b, i, none⟩ = some C[i] := by rw [hs.head.cell, List.getElem?_eq_getElem hi]
  have hfz : w.frozen? ⟨b, i, none⟩ = false := hs.head.free hi
  have hsz := scal_size ht
  have hrun : (Instr.storeAt t (.pointer (some ⟨b, i, none⟩)) v).run P w = .ok () (w.setCell ⟨b, i, none⟩ v) := by
    cases hinf : P.info? t with
    | none => rw [hinf] at hsz; cases hsz
    | some inf =>
      have : inf.size = 1 := by rw [hinf] at hsz; simpa using hsz
      have hst : (Go.store ⟨b, i, none⟩ v).run P w = .ok () (w.setCell ⟨b, i, none⟩ v) := by
        unfold Go.store
        cases v <;> first | (cases h1; done) | (simp [Sem.run, hc, hfz])
      simp [Instr.storeAt, Instr.sureAddr, storeVar, sizeOf, typeInfo, hinf, one_cell h1, this, storeCells, Addr.add, hst]
  unfold Oper.wp
  simp only [execOp, ho, hf.ev hx, hf.ev hy, Sem.run_bind, hrun]
  exact hK undef _ _ rfl (hs.set v)
theorem setCells_blk {w : World} {b : Nat} {T : TypeId} : ∀ (vs : List Value) (C : List Value) (i : Nat), i + vs.length ≤ C.length → Sat W (Blk b C T :: L) w → Sat W (Blk b (C.take i ++ vs ++ C.drop (i + vs.length)) T :: L) (w.setCells b i vs) := by
  intro vs
  induction vs generalizing w with
  | nil => intro C i hl hs; simpa [World.setCells] using hs
  | cons v vs ih =>
    intro C i hl hs
    simp only [List.length_cons] at hl
    have h := ih (C.set i v) (i + 1) (by simp; omega) (hs.set (i := i) v)
    simp only [World.setCells]
    have e : (C.set i v).take (i + 1) ++ vs ++ (C.set i v).drop (i + 1 + vs.length) = C.take i ++ (v :: vs) ++ C.drop (i + (v :: vs).length) := by
      have e1 : (C.set i v).take (i + 1) = C.take i ++ [v] := by
        rw [List.take_add_one, List.getElem?_set_self (by omega), List.take_set_of_le (Nat.le_refl _)]
        rfl
      have e2 : (C.set i v).drop (i + 1 + vs.length) = C.drop (i + (v :: vs).length) := by
        rw [List.drop_set_of_lt (by omega), List.length_cons]
        congr 1
        omega
      rw [e1, e2]
      simp
    rw [e] at h
    exact h
theorem Eff.storeAgg {t : TypeId} {x y : Operand} {b i k : Nat} {cs : List Value} {C C' : List Value} {T : TypeId} (ho : o.op = .store t x y) (ht : aggS P t = some k) (hx : ev l x = some (.pointer (some ⟨b, i, none⟩))) (hy : ev l y = some (.agg cs.toArray))
    (hk : cs.length = k) (h1 : cs.all (·.oneCell') = true) (hi : i + k ≤ C.length) (hC : C.take i ++ cs ++ C.drop (i + k) = C') : Eff P W Q n l (Blk b C T :: L) o (Sets (Blk b C' T :: L)) := fun a w hf hs K hK => by
  subst hC hk
  obtain ⟨d, -, -, h3⟩ := aggS_row ht
  have hth : w.there b i cs.length := fun j hj => by
    have hlt : i + j < C.length := by omega
    exact ⟨by rw [hs.head.cell, List.getElem?_eq_getElem hlt]; rfl, hs.head.free hlt⟩
  have hrun := run_storeAt_mid (P := P) w b i t cs.toArray (by simpa using hth) (by simpa using h3) (by simpa using h1)
  unfold Oper.wp
  simp only [execOp, ho, hf.ev hx, hf.ev hy, Sem.run_bind, hrun]
  exact hK undef _ _ rfl (setCells_blk cs C i hi hs)
end
end Go.Proofs.YthicijpjpijdjaaDoor.Sl
