import Derived.Test.YthicijpjpijdjaaDoorSlMap
import Derived.Laws.Entries
namespace Go.Proofs.YthicijpjpijdjaaDoor.Sl
open Go.RowKit Go.Lib
set_option linter.unusedSectionVars false
set_option linter.unusedVariables false
set_option linter.unusedSimpArgs false

/-! ## bits -/
section
variable [Dfs]
variable {P : Program} {n : Nat} {l : List (Nat × Value)} {G : World → Prop} {o : Oper}
def band (k : IntKind) (x y : Int) : Int := k.wrap ((BitVec.ofInt k.bits x &&& BitVec.ofInt k.bits y).toNat : Nat)
def bor (k : IntKind) (x y : Int) : Int := k.wrap ((BitVec.ofInt k.bits x ||| BitVec.ofInt k.bits y).toNat : Nat)
def bxor (k : IntKind) (x y : Int) : Int := k.wrap ((BitVec.ofInt k.bits x ^^^ BitVec.ofInt k.bits y).toNat : Nat)
def bcom (k : IntKind) (x : Int) : Int := bxor k (if k.signed then -1 else k.max) x
def bshl (k : IntKind) (x y : Int) : Int := k.wrap (x * 2 ^ min y.toNat k.bits)
def bshr (k : IntKind) (x y : Int) : Int := x.fdiv (2 ^ min y.toNat k.bits)
theorem Val.and {t u : TypeId} {x y : Operand} {k : IntKind} {p q : Int} (ho : o.op = .binOp .and t x y u) (hx : ev l x = some (.int k p)) (hy : ev l y = some (.int k q)) : Val P n l G o (.int k (band k p q)) := fun a w hf hs => by
  simp [execOp, ho, hf.ev hx, hf.ev hy, eqGuard, binOp, Op.intBits, band]
theorem Val.or {t u : TypeId} {x y : Operand} {k : IntKind} {p q : Int} (ho : o.op = .binOp .or t x y u) (hx : ev l x = some (.int k p)) (hy : ev l y = some (.int k q)) : Val P n l G o (.int k (bor k p q)) := fun a w hf hs => by
  simp [execOp, ho, hf.ev hx, hf.ev hy, eqGuard, binOp, Op.intBits, bor]
theorem Val.xor {t u : TypeId} {x y : Operand} {k : IntKind} {p q : Int} (ho : o.op = .binOp .xor t x y u) (hx : ev l x = some (.int k p)) (hy : ev l y = some (.int k q)) : Val P n l G o (.int k (bxor k p q)) := fun a w hf hs => by
  simp [execOp, ho, hf.ev hx, hf.ev hy, eqGuard, binOp, Op.intBits, bxor]
theorem Val.com {t : TypeId} {x : Operand} {k : IntKind} {p : Int} (ho : o.op = .unOp .xor t x) (hx : ev l x = some (.int k p)) : Val P n l G o (.int k (bcom k p)) := fun a w hf hs => by
  simp [execOp, ho, hf.ev hx, Op.unary, Op.intBits, bcom, bxor]
theorem Val.shl {t u : TypeId} {x y : Operand} {k k' : IntKind} {p q : Int} (ho : o.op = .binOp .shl t x y u) (hx : ev l x = some (.int k p)) (hy : ev l y = some (.int k' q)) (h0 : 0 ≤ q) : Val P n l G o (.int k (bshl k p q)) := fun a w hf hs => by
  have : ¬ q < 0 := by omega
  simp [execOp, ho, hf.ev hx, hf.ev hy, eqGuard, binOp, Op.shift, bshl, this]
theorem Val.shr {t u : TypeId} {x y : Operand} {k k' : IntKind} {p q : Int} (ho : o.op = .binOp .shr t x y u) (hx : ev l x = some (.int k p)) (hy : ev l y = some (.int k' q)) (h0 : 0 ≤ q) : Val P n l G o (.int k (bshr k p q)) := fun a w hf hs => by
  have : ¬ q < 0 := by omega
  simp [execOp, ho, hf.ev hx, hf.ev hy, eqGuard, binOp, Op.shift, bshr, this]
end
/-! ## bytes of numbers -/
theorem u8_range (z : Int) : 0 ≤ IntKind.u8.wrap z ∧ IntKind.u8.wrap z < 256 := by
  have h1 : IntKind.u8.wrap z = z % 256 := rfl
  rw [h1]; omega
def b8 (z : Int) : UInt8 := UInt8.ofNat (IntKind.u8.wrap z).toNat
theorem b8_nat (z : Int) : (((b8 z).toNat : Nat) : Int) = IntKind.u8.wrap z := by
  have := u8_range z
  unfold b8
  rw [UInt8.toNat_ofNat', Nat.mod_eq_of_lt (by omega)]
  omega
theorem b8_byt (z : Int) : [Value.int .u8 (IntKind.u8.wrap z)] = byt [b8 z] := by simp only [byt, List.map_cons, List.map_nil, b8_nat]
theorem byt_at {l : List UInt8} {i : Nat} {c : UInt8} (h : l[i]? = some c) : (byt l)[i]? = some (.int .u8 (c.toNat : Int)) := by simp [byt, h]
end Go.Proofs.YthicijpjpijdjaaDoor.Sl
