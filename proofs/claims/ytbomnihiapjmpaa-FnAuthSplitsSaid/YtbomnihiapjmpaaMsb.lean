import Derived.Test.YtbomnihiapjmpaaMsa
import Derived.MapKept
import Derived.Test.YtbomnihiapjmpaaProg
namespace Go.Proofs.Ytbomnihiapjmpaa.TrP
open Go.RowKit Go.Lib Go.Proofs.Ytbomnihiapjmpaa Go.Proofs.Ytbomnihiapjmpaa.Sl
set_option linter.unusedVariables false
set_option linter.unusedSimpArgs false
set_option linter.unusedSectionVars false

/-! ## the order of ends -/
/-- what an end stands for -/
structure Ky where
  n : Int
  t : Int
  l : List UInt8
  deriving DecidableEq
theorem Ky.ext' {x y : Ky} (h1 : x.n = y.n) (h2 : x.t = y.t) (h3 : x.l = y.l) : x = y := by cases x; cases y; simp_all
def klt (x y : Ky) : Prop := x.n < y.n ∨ (x.n = y.n ∧ (x.t < y.t ∨ (x.t = y.t ∧ Op.bytesLess x.l y.l = true)))
instance : DecidableRel klt := fun x y => by unfold klt; exact inferInstance
theorem klt_irrefl (x : Ky) : ¬ klt x x := by
  unfold klt
  rw [bl_irrefl]
  simp
theorem klt_trans {x y z : Ky} (h1 : klt x y) (h2 : klt y z) : klt x z := by
  unfold klt at *
  rcases h1 with h1 | ⟨e1, h1 | ⟨e2, h1⟩⟩ <;> rcases h2 with h2 | ⟨f1, h2 | ⟨f2, h2⟩⟩
  · left; omega
  · left; omega
  · left; omega
  · left; omega
  · right; exact ⟨by omega, .inl (by omega)⟩
  · right; exact ⟨by omega, .inl (by omega)⟩
  · left; omega
  · right; exact ⟨by omega, .inl (by omega)⟩
  · right; exact ⟨by omega, .inr ⟨by omega, bl_trans h1 h2⟩⟩
theorem klt_tri (x y : Ky) : klt x y ∨ x = y ∨ klt y x := by
  unfold klt
  by_cases h1 : x.n < y.n
  · exact .inl (.inl h1)
  · by_cases h2 : y.n < x.n
    · exact .inr (.inr (.inl h2))
    · have e1 : x.n = y.n := by omega
      by_cases h3 : x.t < y.t
      · exact .inl (.inr ⟨e1, .inl h3⟩)
      · by_cases h4 : y.t < x.t
        · exact .inr (.inr (.inr ⟨e1.symm, .inl h4⟩))
        · have e2 : x.t = y.t := by omega
          rcases bl_tri x.l y.l with h | h | h
          · exact .inl (.inr ⟨e1, .inr ⟨e2, h⟩⟩)
          · exact .inr (.inl (Ky.ext' e1 e2 h))
          · exact .inr (.inr (.inr ⟨e1.symm, .inr ⟨e2.symm, h⟩⟩))
theorem klt_asymm {x y : Ky} (h : klt x y) : ¬ klt y x := fun h2 => klt_irrefl x (klt_trans h h2)
theorem kle_trans {x y z : Ky} (h1 : ¬ klt y x) (h2 : ¬ klt z y) : ¬ klt z x := fun h => by
  rcases klt_tri x y with h3 | rfl | h3
  · exact h2 (klt_trans h h3)
  · exact h2 h
  · exact h1 h3
theorem klt_of_lt_of_le {x y z : Ky} (h1 : klt x y) (h2 : ¬ klt z y) : klt x z := by
  rcases klt_tri y z with h | rfl | h
  · exact klt_trans h1 h
  · exact h1
  · exact absurd h h2
theorem klt_of_le_of_lt {x y z : Ky} (h1 : ¬ klt y x) (h2 : klt y z) : klt x z := by
  rcases klt_tri x y with h | rfl | h
  · exact klt_trans h h2
  · exact h2
  · exact absurd h h1
theorem keq_of_not {x y : Ky} (h1 : ¬ klt x y) (h2 : ¬ klt y x) : x = y := by
  rcases klt_tri x y with h | h | h
  · exact absurd h h1
  · exact h
  · exact absurd h h2
/-- -1, 0, 1 -/
def kcmp (x y : Ky) : Int := if klt x y then -1 else if klt y x then 1 else 0
theorem kcmp_lt {x y : Ky} : kcmp x y < 0 ↔ klt x y := by
  unfold kcmp
  split
  · rename_i h; simp [h]
  · rename_i h; split <;> simp [h]
theorem kcmp_gt {x y : Ky} : 0 < kcmp x y ↔ klt y x := by
  unfold kcmp
  split
  · rename_i h; simp [klt_asymm h]
  · split
    · rename_i h2; simp [h2]
    · rename_i h2; simp [h2]
theorem kcmp_eq {x y : Ky} : kcmp x y = 0 ↔ x = y := by
  constructor
  · intro h
    exact keq_of_not (fun h2 => by have := kcmp_lt.2 h2; omega) (fun h2 => by have := kcmp_gt.2 h2; omega)
  · rintro rfl
    unfold kcmp
    rw [if_neg (klt_irrefl x), if_neg (klt_irrefl x)]
/-! the four kinds of ends -/
def ka (x : ByteArray) : Ky := if x.size = 0 then ⟨0, 1, []⟩ else ⟨0, 0, x.toList⟩
def kb (x : List UInt8) : Ky := if x.length = 0 then ⟨0, 1, []⟩ else ⟨0, 0, x⟩
def ks (x : ByteArray) : Ky := ⟨0, 0, x.toList⟩
def ki (x : Int) : Ky := ⟨x, 0, []⟩
theorem ka_kb (x : ByteArray) : kb x.data.toList = ka x := by
  unfold ka kb
  have e : x.data.toList.length = x.size := Array.length_toList
  rw [e, ByteArray.toList_eq]
/-! greatest ones -/
def kmax (x y : Ky) : Ky := if klt x y then y else x
theorem kmax_comm (x y : Ky) : kmax x y = kmax y x := by
  unfold kmax
  split
  · rename_i h; rw [if_neg (klt_asymm h)]
  · rename_i h
    split
    · rfl
    · rename_i h2; exact keq_of_not h h2
theorem kmax_assoc (x y z : Ky) : kmax (kmax x y) z = kmax x (kmax y z) := by
  unfold kmax
  by_cases h1 : klt x y <;> by_cases h2 : klt y z
  · simp [h1, h2, klt_trans h1 h2]
  · simp [h1, h2]
  · simp [h1, h2]
  · have h3 : ¬ klt x z := kle_trans h2 h1
    simp [h1, h2, h3]
def omax : Option Ky → Option Ky → Option Ky
  | none, y => y
  | some x, none => some x
  | some x, some y => some (kmax x y)
theorem omax_none (x : Option Ky) : omax x none = x := by cases x <;> rfl
theorem omax_comm (x y : Option Ky) : omax x y = omax y x := by
  cases x <;> cases y <;> simp [omax, kmax_comm]
theorem omax_assoc (x y z : Option Ky) : omax (omax x y) z = omax x (omax y z) := by
  cases x <;> cases y <;> cases z <;> simp [omax, kmax_assoc]
/-- a greatest one and perhaps another one -/
def kmo (x : Ky) : Option Ky → Ky
  | none => x
  | some y => kmax x y
theorem some_kmo (x : Ky) (y : Option Ky) : some (kmo x y) = omax (some x) y := by cases y <;> rfl

/-! ## trees in memory -/
structure En where
  k : Ky
  t : TypeId
  u : Value
def En.v (e : En) : Value := .iface e.t e.u
structure It where
  b : En
  e : En
  vt : TypeId
  vu : Value
def It.v (x : It) : Value := .iface x.vt x.vu
structure NR where
  it : It
  m : En
  l : Nat
  r : Nat
  p : Nat
  c : Int
def ptv (b : Nat) : Value := .pointer (some ⟨b, 0, none⟩)
def NR.cells (x : NR) : List Value := [x.it.b.v, x.it.e.v, x.it.v, x.m.v, ptv x.l, ptv x.r, ptv x.p, .int .i64 x.c]
theorem NR.len (x : NR) : x.cells.length = 8 := rfl
inductive T where
  | leaf
  | node (i : Nat) (l : T) (x : It) (c : Bool) (r : T)
def T.mx : T → Option Ky
  | .leaf => none
  | .node _ l x _ r => some (kmo (kmo x.e.k l.mx) r.mx)
def T.ids : T → List Nat
  | .leaf => []
  | .node i l _ _ r => i :: (l.ids ++ r.ids)
def T.ino : T → List It
  | .leaf => []
  | .node _ l x _ r => l.ino ++ x :: r.ino
def col (c : Bool) : Int := if c then 1 else 0
abbrev St := Nat → NR
def upd (S : St) (i : Nat) (x : NR) : St := fun j => if j = i then x else S j
theorem upd_same (S : St) (i : Nat) (x : NR) : upd S i x i = x := by simp [upd]
theorem upd_other (S : St) {i j : Nat} (x : NR) (h : j ≠ i) : upd S i x j = S j := by simp [upd, h]
/-- a tree at a pointer, below another one -/
def RM (s : Nat) (S : St) : T → Nat → Nat → Prop
  | .leaf, q, _ => q = s
  | .node i l x c r, q, p => q = i ∧ i ≠ s ∧ (S i).it = x ∧ (S i).c = col c ∧ (S i).p = p ∧ (S i).m.k = kmo (kmo x.e.k l.mx) r.mx ∧ RM s S l (S i).l i ∧ RM s S r (S i).r i
/-! one field is written -/
def setL (S : St) (x : Nat) (q : Nat) : St := upd S x { S x with l := q }
theorem setL_same (S : St) (x : Nat) (q : Nat) : (setL S x q x).l = q := by unfold setL; rw [upd_same]
theorem setL_oth (S : St) {x y : Nat} (q : Nat) (h : y ≠ x) : setL S x q y = S y := by unfold setL; rw [upd_other _ _ h]
theorem setL_r (S : St) (x : Nat) (q : Nat) (y : Nat) : (setL S x q y).r = (S y).r := by
  unfold setL upd; split
  · rename_i e; rw [e]
  · rfl
theorem setL_p (S : St) (x : Nat) (q : Nat) (y : Nat) : (setL S x q y).p = (S y).p := by
  unfold setL upd; split
  · rename_i e; rw [e]
  · rfl
theorem setL_m (S : St) (x : Nat) (q : Nat) (y : Nat) : (setL S x q y).m = (S y).m := by
  unfold setL upd; split
  · rename_i e; rw [e]
  · rfl
theorem setL_c (S : St) (x : Nat) (q : Nat) (y : Nat) : (setL S x q y).c = (S y).c := by
  unfold setL upd; split
  · rename_i e; rw [e]
  · rfl
theorem setL_it (S : St) (x : Nat) (q : Nat) (y : Nat) : (setL S x q y).it = (S y).it := by
  unfold setL upd; split
  · rename_i e; rw [e]
  · rfl
def setR (S : St) (x : Nat) (q : Nat) : St := upd S x { S x with r := q }
theorem setR_same (S : St) (x : Nat) (q : Nat) : (setR S x q x).r = q := by unfold setR; rw [upd_same]
theorem setR_oth (S : St) {x y : Nat} (q : Nat) (h : y ≠ x) : setR S x q y = S y := by unfold setR; rw [upd_other _ _ h]
theorem setR_l (S : St) (x : Nat) (q : Nat) (y : Nat) : (setR S x q y).l = (S y).l := by
  unfold setR upd; split
  · rename_i e; rw [e]
  · rfl
theorem setR_p (S : St) (x : Nat) (q : Nat) (y : Nat) : (setR S x q y).p = (S y).p := by
  unfold setR upd; split
  · rename_i e; rw [e]
  · rfl
theorem setR_m (S : St) (x : Nat) (q : Nat) (y : Nat) : (setR S x q y).m = (S y).m := by
  unfold setR upd; split
  · rename_i e; rw [e]
  · rfl
theorem setR_c (S : St) (x : Nat) (q : Nat) (y : Nat) : (setR S x q y).c = (S y).c := by
  unfold setR upd; split
  · rename_i e; rw [e]
  · rfl
theorem setR_it (S : St) (x : Nat) (q : Nat) (y : Nat) : (setR S x q y).it = (S y).it := by
  unfold setR upd; split
  · rename_i e; rw [e]
  · rfl
def setP (S : St) (x : Nat) (q : Nat) : St := upd S x { S x with p := q }
theorem setP_same (S : St) (x : Nat) (q : Nat) : (setP S x q x).p = q := by unfold setP; rw [upd_same]
theorem setP_oth (S : St) {x y : Nat} (q : Nat) (h : y ≠ x) : setP S x q y = S y := by unfold setP; rw [upd_other _ _ h]
theorem setP_l (S : St) (x : Nat) (q : Nat) (y : Nat) : (setP S x q y).l = (S y).l := by
  unfold setP upd; split
  · rename_i e; rw [e]
  · rfl
theorem setP_r (S : St) (x : Nat) (q : Nat) (y : Nat) : (setP S x q y).r = (S y).r := by
  unfold setP upd; split
  · rename_i e; rw [e]
  · rfl
theorem setP_m (S : St) (x : Nat) (q : Nat) (y : Nat) : (setP S x q y).m = (S y).m := by
  unfold setP upd; split
  · rename_i e; rw [e]
  · rfl
theorem setP_c (S : St) (x : Nat) (q : Nat) (y : Nat) : (setP S x q y).c = (S y).c := by
  unfold setP upd; split
  · rename_i e; rw [e]
  · rfl
theorem setP_it (S : St) (x : Nat) (q : Nat) (y : Nat) : (setP S x q y).it = (S y).it := by
  unfold setP upd; split
  · rename_i e; rw [e]
  · rfl
def setM (S : St) (x : Nat) (q : En) : St := upd S x { S x with m := q }
theorem setM_same (S : St) (x : Nat) (q : En) : (setM S x q x).m = q := by unfold setM; rw [upd_same]
theorem setM_oth (S : St) {x y : Nat} (q : En) (h : y ≠ x) : setM S x q y = S y := by unfold setM; rw [upd_other _ _ h]
theorem setM_l (S : St) (x : Nat) (q : En) (y : Nat) : (setM S x q y).l = (S y).l := by
  unfold setM upd; split
  · rename_i e; rw [e]
  · rfl
theorem setM_r (S : St) (x : Nat) (q : En) (y : Nat) : (setM S x q y).r = (S y).r := by
  unfold setM upd; split
  · rename_i e; rw [e]
  · rfl
theorem setM_p (S : St) (x : Nat) (q : En) (y : Nat) : (setM S x q y).p = (S y).p := by
  unfold setM upd; split
  · rename_i e; rw [e]
  · rfl
theorem setM_c (S : St) (x : Nat) (q : En) (y : Nat) : (setM S x q y).c = (S y).c := by
  unfold setM upd; split
  · rename_i e; rw [e]
  · rfl
theorem setM_it (S : St) (x : Nat) (q : En) (y : Nat) : (setM S x q y).it = (S y).it := by
  unfold setM upd; split
  · rename_i e; rw [e]
  · rfl
def setC (S : St) (x : Nat) (q : Int) : St := upd S x { S x with c := q }
theorem setC_same (S : St) (x : Nat) (q : Int) : (setC S x q x).c = q := by unfold setC; rw [upd_same]
theorem setC_oth (S : St) {x y : Nat} (q : Int) (h : y ≠ x) : setC S x q y = S y := by unfold setC; rw [upd_other _ _ h]
theorem setC_l (S : St) (x : Nat) (q : Int) (y : Nat) : (setC S x q y).l = (S y).l := by
  unfold setC upd; split
  · rename_i e; rw [e]
  · rfl
theorem setC_r (S : St) (x : Nat) (q : Int) (y : Nat) : (setC S x q y).r = (S y).r := by
  unfold setC upd; split
  · rename_i e; rw [e]
  · rfl
theorem setC_p (S : St) (x : Nat) (q : Int) (y : Nat) : (setC S x q y).p = (S y).p := by
  unfold setC upd; split
  · rename_i e; rw [e]
  · rfl
theorem setC_m (S : St) (x : Nat) (q : Int) (y : Nat) : (setC S x q y).m = (S y).m := by
  unfold setC upd; split
  · rename_i e; rw [e]
  · rfl
theorem setC_it (S : St) (x : Nat) (q : Int) (y : Nat) : (setC S x q y).it = (S y).it := by
  unfold setC upd; split
  · rename_i e; rw [e]
  · rfl
/-! which blocks there are -/
def Is (s : Nat) (D : List Nat) (i : Nat) : Prop := i = s ∨ i ∈ D
theorem Is.mem {s i : Nat} {D : List Nat} (h : Is s D i) (hn : i ≠ s) : i ∈ D := h.resolve_left hn
structure Ok (s : Nat) (EL : List En) (D : List Nat) (S : St) : Prop where
  l : ∀ {i}, i ∈ D → Is s D (S i).l
  r : ∀ {i}, i ∈ D → Is s D (S i).r
  p : ∀ {i}, i ∈ D → Is s D (S i).p
  b : ∀ {i}, i ∈ D → (S i).it.b ∈ EL
  e : ∀ {i}, i ∈ D → (S i).it.e ∈ EL
  m : ∀ {i}, i ∈ D → (S i).m ∈ EL
theorem upd_all {S : St} {x : Nat} {y : NR} {D : List Nat} {φ : NR → Prop} (h : ∀ i, i ∈ D → φ (S i)) (hy : x ∈ D → φ y) : ∀ i, i ∈ D → φ (upd S x y i) := fun i hi => by
  unfold upd
  split
  · rename_i e; exact hy (e ▸ hi)
  · exact h i hi
theorem Ok.upd {s : Nat} {EL : List En} {D : List Nat} {S : St} {x : Nat} {y : NR} (h : Ok s EL D S) (hx : x ∈ D → Is s D y.l ∧ Is s D y.r ∧ Is s D y.p ∧ y.it.b ∈ EL ∧ y.it.e ∈ EL ∧ y.m ∈ EL) : Ok s EL D (upd S x y) where
  l := fun {i} hi => upd_all (φ := fun z => Is s D z.l) (fun _ h' => h.l h') (fun h' => (hx h').1) i hi
  r := fun {i} hi => upd_all (φ := fun z => Is s D z.r) (fun _ h' => h.r h') (fun h' => (hx h').2.1) i hi
  p := fun {i} hi => upd_all (φ := fun z => Is s D z.p) (fun _ h' => h.p h') (fun h' => (hx h').2.2.1) i hi
  b := fun {i} hi => upd_all (φ := fun z => z.it.b ∈ EL) (fun _ h' => h.b h') (fun h' => (hx h').2.2.2.1) i hi
  e := fun {i} hi => upd_all (φ := fun z => z.it.e ∈ EL) (fun _ h' => h.e h') (fun h' => (hx h').2.2.2.2.1) i hi
  m := fun {i} hi => upd_all (φ := fun z => z.m ∈ EL) (fun _ h' => h.m h') (fun h' => (hx h').2.2.2.2.2) i hi
theorem Ok.setL {s : Nat} {EL : List En} {D : List Nat} {S : St} {x q : Nat} (h : Ok s EL D S) (hq : Is s D q) : Ok s EL D (TrP.setL S x q) := h.upd fun hx => ⟨hq, h.r hx, h.p hx, h.b hx, h.e hx, h.m hx⟩
theorem Ok.setR {s : Nat} {EL : List En} {D : List Nat} {S : St} {x q : Nat} (h : Ok s EL D S) (hq : Is s D q) : Ok s EL D (TrP.setR S x q) := h.upd fun hx => ⟨h.l hx, hq, h.p hx, h.b hx, h.e hx, h.m hx⟩
theorem Ok.setP {s : Nat} {EL : List En} {D : List Nat} {S : St} {x q : Nat} (h : Ok s EL D S) (hq : Is s D q) : Ok s EL D (TrP.setP S x q) := h.upd fun hx => ⟨h.l hx, h.r hx, hq, h.b hx, h.e hx, h.m hx⟩
theorem Ok.setM {s : Nat} {EL : List En} {D : List Nat} {S : St} {x : Nat} {q : En} (h : Ok s EL D S) (hq : q ∈ EL) : Ok s EL D (TrP.setM S x q) := h.upd fun hx => ⟨h.l hx, h.r hx, h.p hx, h.b hx, h.e hx, hq⟩
theorem Ok.setC {s : Nat} {EL : List En} {D : List Nat} {S : St} {x : Nat} {q : Int} (h : Ok s EL D S) : Ok s EL D (TrP.setC S x q) := h.upd fun hx => ⟨h.l hx, h.r hx, h.p hx, h.b hx, h.e hx, h.m hx⟩
/-- a node above a hole -/
structure Fr where
  left : Bool
  i : Nat
  x : It
  c : Bool
  sib : T
abbrev Ctx := List Fr
def par (s : Nat) : Ctx → Nat
  | [] => s
  | f :: _ => f.i
def Fr.mx (f : Fr) (km : Option Ky) : Ky := if f.left then kmo (kmo f.x.e.k km) f.sib.mx else kmo (kmo f.x.e.k f.sib.mx) km
def Fr.plug (f : Fr) (t : T) : T := if f.left then .node f.i t f.x f.c f.sib else .node f.i f.sib f.x f.c t
def zip : Ctx → T → T
  | [], t => t
  | f :: fs, t => zip fs (f.plug t)
def Side (s : Nat) (S : St) (f : Fr) (h : Nat) : Prop := if f.left then (S f.i).l = h ∧ RM s S f.sib (S f.i).r f.i else (S f.i).r = h ∧ RM s S f.sib (S f.i).l f.i
def RC (s root : Nat) (S : St) : Ctx → Nat → Option Ky → Prop
  | [], h, _ => h = root
  | f :: fs, h, km => f.i ≠ s ∧ (S f.i).it = f.x ∧ (S f.i).c = col f.c ∧ (S f.i).p = par s fs ∧ (S f.i).m.k = f.mx km ∧ Side s S f h ∧ RC s root S fs f.i (some (f.mx km))
def cids : Ctx → List Nat
  | [] => []
  | f :: fs => f.i :: (f.sib.ids ++ cids fs)
def spine : Ctx → List Nat
  | [] => []
  | f :: fs => f.i :: spine fs
theorem spine_sub {fs : Ctx} {i : Nat} (h : i ∈ spine fs) : i ∈ cids fs := by
  induction fs with
  | nil => cases h
  | cons f fs ih =>
    rcases List.mem_cons.1 h with rfl | h
    · exact List.mem_cons_self
    · exact List.mem_cons_of_mem _ (List.mem_append_right _ (ih h))
theorem RM_congr {s : Nat} {S S' : St} : ∀ {t : T} {q p : Nat}, (∀ i ∈ t.ids, S' i = S i) → RM s S t q p → RM s S' t q p
  | .leaf, _, _, _, h => h
  | .node i l x c r, q, p, hS, h => by
    obtain ⟨h1, h2, h3, h4, h5, h6, h7, h8⟩ := h
    have e := hS i List.mem_cons_self
    refine ⟨h1, h2, by rw [e]; exact h3, by rw [e]; exact h4, by rw [e]; exact h5, by rw [e]; exact h6, ?_, ?_⟩
    · rw [e]; exact RM_congr (fun j hj => hS j (List.mem_cons_of_mem _ (List.mem_append_left _ hj))) h7
    · rw [e]; exact RM_congr (fun j hj => hS j (List.mem_cons_of_mem _ (List.mem_append_right _ hj))) h8
theorem RC_congr {s root : Nat} {S S' : St} : ∀ {fs : Ctx} {h : Nat} {km : Option Ky}, (∀ i ∈ cids fs, S' i = S i) → RC s root S fs h km → RC s root S' fs h km
  | [], _, _, _, hr => hr
  | f :: fs, h, km, hS, hr => by
    obtain ⟨h1, h2, h3, h4, h5, h6, h7⟩ := hr
    have e := hS f.i List.mem_cons_self
    refine ⟨h1, by rw [e]; exact h2, by rw [e]; exact h3, by rw [e]; exact h4, by rw [e]; exact h5, ?_, RC_congr (fun j hj => hS j (List.mem_cons_of_mem _ (List.mem_append_right _ hj))) h7⟩
    have hs : ∀ j ∈ f.sib.ids, S' j = S j := fun j hj => hS j (List.mem_cons_of_mem _ (List.mem_append_left _ hj))
    unfold Side at *
    rw [e]
    split at h6
    · rename_i hl; rw [if_pos hl]; exact ⟨h6.1, RM_congr hs h6.2⟩
    · rename_i hl; rw [if_neg hl]; exact ⟨h6.1, RM_congr hs h6.2⟩
/-- a child's greatest end -/
def chm (s : Nat) (S : St) (q : Nat) : Option En := if q = s then none else some (S q).m
def okey (o : Option En) : Option Ky := o.map (·.k)
theorem RM_mx {s : Nat} {S : St} {t : T} {q p : Nat} (h : RM s S t q p) : okey (chm s S q) = t.mx := by
  cases t with
  | leaf =>
    have : q = s := h
    subst this
    simp [chm, okey, T.mx]
  | node i l x c r =>
    obtain ⟨rfl, h2, h3, h4, h5, h6, -⟩ := h
    unfold chm okey
    rw [if_neg h2]
    simp only [Option.map_some, T.mx, h6]
theorem RM_ne {s : Nat} {S : St} {t : T} {q p : Nat} (h : RM s S t q p) (hq : q ≠ s) : q ∈ t.ids := by
  cases t with
  | leaf => exact absurd h hq
  | node i l x c r => rw [h.1]; exact List.mem_cons_self
def pickm (a : En) : Option En → En
  | none => a
  | some b => if klt a.k b.k then b else a
theorem pickm_k (a : En) (o : Option En) : (pickm a o).k = kmo a.k (okey o) := by
  cases o with
  | none => rfl
  | some b =>
    simp only [pickm, okey, Option.map_some, kmo, kmax]
    split <;> rfl
def newm (s : Nat) (S : St) (x : Nat) : En := pickm (pickm (S x).it.e (chm s S (S x).l)) (chm s S (S x).r)
theorem newm_k (s : Nat) (S : St) (x : Nat) : (newm s S x).k = kmo (kmo (S x).it.e.k (okey (chm s S (S x).l))) (okey (chm s S (S x).r)) := by
  unfold newm
  rw [pickm_k, pickm_k]
/-- the greatest ends are made anew, upwards -/
def um (s : Nat) : Nat → St → Nat → St
  | 0, S, _ => S
  | n + 1, S, x => if x = s then S else if (S x).m.k = (newm s S x).k then S else um s n (upd S x { S x with m := newm s S x }) (S x).p
theorem um_s (s n : Nat) (S : St) : um s n S s = S := by
  cases n with
  | zero => rfl
  | succ n => unfold um; rw [if_pos rfl]
theorem um_eq {s n x : Nat} {S : St} {e : En} (hx : x ≠ s) (hn : newm s S x = e) (hk : kcmp (S x).m.k e.k = 0) : um s (n + 1) S x = S := by
  unfold um
  rw [if_neg hx, hn, if_pos (kcmp_eq.1 hk)]
theorem um_ne {s n x : Nat} {S : St} {e : En} (hx : x ≠ s) (hn : newm s S x = e) (hk : ¬ kcmp (S x).m.k e.k = 0) : um s (n + 1) S x = um s n (upd S x { S x with m := e }) (S x).p := by
  conv => lhs; unfold um
  rw [if_neg hx, hn, if_neg (fun h => hk (kcmp_eq.2 h))]
theorem pick_s {s q : Nat} {S : St} {a : En} (h : q = s) : pickm a (chm s S q) = a := by unfold chm; rw [if_pos h]; rfl
theorem pick_gt {s q : Nat} {S : St} {a : En} (h : q ≠ s) (h2 : 0 < kcmp (S q).m.k a.k) : pickm a (chm s S q) = (S q).m := by
  unfold chm pickm
  rw [if_neg h]
  exact if_pos (kcmp_gt.1 h2)
theorem pick_le {s q : Nat} {S : St} {a : En} (h : q ≠ s) (h2 : ¬ 0 < kcmp (S q).m.k a.k) : pickm a (chm s S q) = a := by
  unfold chm pickm
  rw [if_neg h]
  exact if_neg (fun h3 => h2 (kcmp_gt.2 h3))
/-- the way up ends -/
def Dep (s : Nat) (S : St) : Nat → Nat → Prop
  | 0, x => x = s
  | n + 1, x => x = s ∨ Dep s S n (S x).p
theorem Dep.succ {s x n : Nat} {S : St} (h : Dep s S n x) (hx : x ≠ s) : ∃ m, n = m + 1 ∧ Dep s S m (S x).p := by
  cases n with
  | zero => exact absurd h hx
  | succ n => exact ⟨n, rfl, h.resolve_left hx⟩
theorem Dep.congr {s : Nat} {S S' : St} (hp : ∀ i, (S' i).p = (S i).p) : ∀ {n x : Nat}, Dep s S n x → Dep s S' n x
  | 0, _, h => h
  | n + 1, x, h => h.imp id fun h => by rw [hp]; exact Dep.congr hp h
theorem Dep.up {s : Nat} {S : St} : ∀ {n m x : Nat}, n ≤ m → Dep s S n x → Dep s S m x
  | 0, 0, _, _, h => h
  | 0, m + 1, _, _, h => .inl h
  | n + 1, m + 1, x, hm, h => h.imp id (Dep.up (by omega))
def OnlyM (S S' : St) : Prop := ∀ i, { S' i with m := (S i).m } = S i
theorem OnlyM.it {S S' : St} (h : OnlyM S S') (i : Nat) : (S' i).it = (S i).it := by have := congrArg NR.it (h i); exact this
theorem OnlyM.l {S S' : St} (h : OnlyM S S') (i : Nat) : (S' i).l = (S i).l := by have := congrArg NR.l (h i); exact this
theorem OnlyM.r {S S' : St} (h : OnlyM S S') (i : Nat) : (S' i).r = (S i).r := by have := congrArg NR.r (h i); exact this
theorem OnlyM.p {S S' : St} (h : OnlyM S S') (i : Nat) : (S' i).p = (S i).p := by have := congrArg NR.p (h i); exact this
theorem OnlyM.c {S S' : St} (h : OnlyM S S') (i : Nat) : (S' i).c = (S i).c := by have := congrArg NR.c (h i); exact this
theorem OnlyM.refl (S : St) : OnlyM S S := fun i => by cases h : S i; rfl
theorem OnlyM.trans {S S' S'' : St} (h1 : OnlyM S S') (h2 : OnlyM S' S'') : OnlyM S S'' := fun i => by
  have a := h1 i
  have b := h2 i
  cases h : S'' i
  cases h' : S' i
  cases h0 : S i
  simp_all
theorem OnlyM.upd (S : St) (x : Nat) (m : En) : OnlyM S (upd S x { S x with m := m }) := fun i => by
  unfold TrP.upd
  split
  · rename_i e; subst e; cases h : S i; rfl
  · cases h : S i; rfl
theorem um_only (s : Nat) : ∀ (n : Nat) (S : St) (x : Nat), OnlyM S (um s n S x)
  | 0, S, x => OnlyM.refl S
  | n + 1, S, x => by
    unfold um
    split
    · exact OnlyM.refl S
    · split
      · exact OnlyM.refl S
      · exact OnlyM.trans (OnlyM.upd S x _) (um_only s n _ _)
theorem newm_mem {s x : Nat} {EL : List En} {D : List Nat} {S : St} (h : Ok s EL D S) (hx : x ∈ D) : newm s S x ∈ EL := by
  have hc : ∀ q, Is s D q → ∀ a ∈ EL, pickm a (chm s S q) ∈ EL := fun q hq a ha => by
    unfold chm
    split
    · exact ha
    · rename_i hn
      show (if _ then (S q).m else a) ∈ EL
      split
      · exact h.m (hq.mem hn)
      · exact ha
  exact hc _ (h.r hx) _ (hc _ (h.l hx) _ (h.e hx))
theorem um_ok {s : Nat} {EL : List En} {D : List Nat} : ∀ (n : Nat) (S : St) (x : Nat), Ok s EL D S → Is s D x → Ok s EL D (um s n S x)
  | 0, S, x, h, _ => h
  | n + 1, S, x, h, hx => by
    unfold um
    split
    · exact h
    · rename_i hn
      split
      · exact h
      · exact um_ok n _ _ (h.setM (newm_mem h (hx.mem hn))) (h.p (hx.mem hn))
theorem um_spec (s root : Nat) : ∀ (fs : Ctx) (n : Nat) (S : St) (x : Nat), fs.length < n → x ≠ s → x ∉ cids fs → (cids fs).Nodup → RC s root S fs x (some (S x).m.k) → (S x).p = par s fs →
    (um s n S x x).m.k = (newm s S x).k ∧ RC s root (um s n S x) fs x (some (newm s S x).k) ∧ (∀ i, i ≠ x → i ∉ spine fs → um s n S x i = S i) ∧ OnlyM S (um s n S x)
  | fs, 0, S, x, hn, _, _, _, _, _ => by omega
  | fs, n + 1, S, x, hn, hx, hxc, hnd, hrc, hp => by
    unfold um
    rw [if_neg hx]
    by_cases hk : (S x).m.k = (newm s S x).k
    · rw [if_pos hk]
      exact ⟨hk, hk ▸ hrc, fun _ _ _ => rfl, OnlyM.refl S⟩
    · rw [if_neg hk]
      cases fs with
      | nil =>
        have hps : (S x).p = s := hp
        rw [hps]
        have e : um s n (upd S x { S x with m := newm s S x }) s = upd S x { S x with m := newm s S x } := by
          cases n with
          | zero => rfl
          | succ n => unfold um; rw [if_pos rfl]
        rw [e]
        refine ⟨by rw [upd_same], hrc, fun i hi _ => upd_other _ _ hi, OnlyM.upd S x _⟩
      | cons f fs =>
        have hpf : (S x).p = f.i := hp
        rw [hpf]
        obtain ⟨h1, h2, h3, h4, h5, h6, h7⟩ := hrc
        have hxf : x ≠ f.i := fun e => hxc (e ▸ List.mem_cons_self)
        have hxs : x ∉ f.sib.ids := fun h => hxc (List.mem_cons_of_mem _ (List.mem_append_left _ h))
        have hxfs : x ∉ cids fs := fun h => hxc (List.mem_cons_of_mem _ (List.mem_append_right _ h))
        simp only [cids, List.nodup_cons, List.mem_append, not_or] at hnd
        obtain ⟨⟨hfs, hff⟩, hnd2⟩ := hnd
        have hndf : (cids fs).Nodup := (List.nodup_append.1 hnd2).2.1
        have hdis : ∀ a ∈ f.sib.ids, ∀ b ∈ cids fs, a ≠ b := (List.nodup_append.1 hnd2).2.2
        let S1 := upd S x { S x with m := newm s S x }
        have eS1 : upd S x { S x with m := newm s S x } = S1 := rfl
        have hS1 : ∀ i, i ≠ x → S1 i = S i := fun i hi => upd_other _ _ hi
        have hS1x : (S1 x).m.k = (newm s S x).k := by show (upd S x _ x).m.k = _; rw [upd_same]
        rw [eS1]
        have hf1 : S1 f.i = S f.i := hS1 _ (Ne.symm hxf)
        have hsib : ∀ j ∈ f.sib.ids, S1 j = S j := fun j hj => hS1 j (fun e => hxs (e ▸ hj))
        have hrc1 : RC s root S1 fs f.i (some (S1 f.i).m.k) := by
          rw [hf1, h5]
          exact RC_congr (fun j hj => hS1 j (fun e => hxfs (e ▸ hj))) h7
        have ih := um_spec s root fs n S1 f.i (by simp at hn; omega) h1 hff hndf hrc1 (by rw [hf1]; exact h4)
        obtain ⟨i1, i2, i3, i4⟩ := ih
        -- what the node above gets
        have hkey : (newm s S1 f.i).k = f.mx (some (newm s S x).k) := by
          rw [newm_k, hf1, h2]
          unfold Side at h6
          unfold Fr.mx
          split at h6
          · rename_i hl
            rw [if_pos hl, h6.1]
            have a1 : okey (chm s S1 x) = some (newm s S x).k := by unfold chm okey; rw [if_neg hx]; simp [hS1x]
            have a2 := RM_mx (RM_congr hsib h6.2)
            rw [a1, a2]
          · rename_i hl
            rw [if_neg hl, h6.1]
            have a1 : okey (chm s S1 x) = some (newm s S x).k := by unfold chm okey; rw [if_neg hx]; simp [hS1x]
            have a2 := RM_mx (RM_congr hsib h6.2)
            rw [a1, a2]
        have hxsp : x ∉ spine fs := fun h => hxfs (spine_sub h)
        have hux : um s n S1 f.i x = S1 x := i3 x hxf hxsp
        have hO := OnlyM.trans (OnlyM.upd S x (newm s S x)) i4
        refine ⟨by rw [hux]; exact hS1x, ⟨h1, ?_, ?_, ?_, ?_, ?_, ?_⟩, ?_, hO⟩
        · rw [hO.it]; exact h2
        · rw [hO.c]; exact h3
        · rw [hO.p]; exact h4
        · rw [i1, hkey]
        · have hss : ∀ j ∈ f.sib.ids, um s n S1 f.i j = S j := fun j hj => by
            rw [i3 j (fun e => hfs (e ▸ hj)) (fun h => hdis j hj j (spine_sub h) rfl)]
            exact hsib j hj
          unfold Side at *
          rw [hO.l, hO.r]
          split at h6
          · rename_i hl; rw [if_pos hl]; exact ⟨h6.1, RM_congr hss h6.2⟩
          · rename_i hl; rw [if_neg hl]; exact ⟨h6.1, RM_congr hss h6.2⟩
        · rw [← hkey]; exact i2
        · intro i hix hisp
          have hif : i ≠ f.i := fun e => hisp (e ▸ List.mem_cons_self)
          have his : i ∉ spine fs := fun h => hisp (List.mem_cons_of_mem _ h)
          rw [i3 i hif his]
          exact hS1 i hix
end Go.Proofs.Ytbomnihiapjmpaa.TrP

namespace Go.Proofs.Ytbomnihiapjmpaa.Sl
open Go.RowKit Go.MapKept Go.Lib
set_option linter.unusedSectionVars false
set_option linter.unusedVariables false
set_option linter.unusedSimpArgs false

/-! ## maps whose keys are numbers, texts or truths -/
def mapT (P : Program) (t : TypeId) : Option (TypeId × TypeId × TypeDesc) := match P.underlying t with | some (.map k e) => (P.underlying k).map fun d => (k, e, d) | _ => none
theorem mapT_of {P : Program} {t k e : TypeId} {d : TypeDesc} (h : mapT P t = some (k, e, d)) : P.underlying t = some (.map k e) ∧ P.underlying k = some d := by
  unfold mapT at h
  cases hu : P.underlying t with
  | none => rw [hu] at h; cases h
  | some q =>
    rw [hu] at h
    cases q <;> first | (cases h; done) | skip
    rename_i k' e'
    cases hk : P.underlying k' with
    | none => simp [hk] at h
    | some d' =>
      simp only [hk, Option.map_some, Option.some.injEq, Prod.mk.injEq] at h
      obtain ⟨rfl, rfl, rfl⟩ := h
      exact ⟨rfl, hk⟩
def MapIs (d : TypeDesc) (es : Array MapEntry) (clock : Nat) (kvs : List (Value × Value)) : Prop :=
  es.toList.map (fun e => (e.key, e.val)) = kvs ∧ Stamped es clock ∧ ∀ x ∈ es.toList, IsKey d x.key
def Mapk (b : Nat) (d : TypeDesc) (kvs : List (Value × Value)) : HProp := Ex fun p : Array MapEntry × Nat => Sep [Pure (MapIs d p.1 p.2 kvs), Mpk b p.1 p.2]
theorem Sat.mapk {W w : World} {b : Nat} {d : TypeDesc} {kvs : List (Value × Value)} {L : List HProp} (h : Sat W (Mapk b d kvs :: L) w) : ∃ es clock, MapIs d es clock kvs ∧ Sat W (Obk b (.map es clock) :: L) w := by
  obtain ⟨p, h⟩ := h.ex
  have h2 := h.sep
  exact ⟨p.1, p.2, h2.pure, h2.drop⟩
theorem Sat.mapkMk {W w : World} {b : Nat} {d : TypeDesc} {es : Array MapEntry} {clock : Nat} {kvs : List (Value × Value)} {L : List HProp} (hm : MapIs d es clock kvs) (h : Sat W (Obk b (.map es clock) :: L) w) : Sat W (Mapk b d kvs :: L) w :=
  Sat.ex_mk (es, clock) (Sat.sep_mk (Sat.pure_mk hm h))
theorem Holds.mapk {w : World} {b : Nat} {d : TypeDesc} {kvs : List (Value × Value)} (h : Holds (Mapk b d kvs) w) : ∃ es clock, MapIs d es clock kvs ∧ w.heap[b]? = some (.map es clock) := by
  obtain ⟨r, s, hb, p, hq⟩ := h
  obtain ⟨s1, s2, h1, h2, h3, h4, s3, s4, h5, h6, h7, h8, h9⟩ := hq
  exact ⟨p.1, p.2, h4, h8.2⟩
/-- a map's keys differ -/
theorem MapIs.nodup {d : TypeDesc} {es : Array MapEntry} {clock : Nat} {kvs : List (Value × Value)} (h : MapIs d es clock kvs) : (kvs.map (·.1)).Nodup := by
  obtain ⟨rfl, h2, -⟩ := h
  have := h2.2.2
  rw [List.map_map]
  exact this
theorem MapIs.find {d : TypeDesc} {es : Array MapEntry} {clock : Nat} {kvs : List (Value × Value)} (h : MapIs d es clock kvs) {k : Value} (hk : IsKey d k) :
    (Instr.findNow d k es.toList 0 = some none ∧ ∀ p ∈ kvs, p.1 ≠ k) ∨ ∃ j e, Instr.findNow d k es.toList 0 = some (some (j, e.val)) ∧ es[j]? = some e ∧ e.key = k ∧ kvs[j]? = some (k, e.val) := by
  obtain ⟨rfl, h2, h3⟩ := h
  rcases findNow_spec hk es.toList 0 h3 with ⟨h4, h5⟩ | ⟨j, e, h4, h5, h6⟩
  · refine .inl ⟨h4, fun p hp => ?_⟩
    obtain ⟨x, hx, rfl⟩ := List.mem_map.1 hp
    exact h5 x hx
  · refine .inr ⟨j, e, by simpa using h4, by simpa using h5, h6, ?_⟩
    rw [List.getElem?_map, h5]
    simp [h6]
theorem nodup_at {α β : Type} {l : List (α × β)} (h : (l.map (·.1)).Nodup) {i j : Nat} {k : α} {u v : β} (hi : l[i]? = some (k, u)) (hj : l[j]? = some (k, v)) : i = j := by
  have h1 : (l.map (·.1))[i]? = some k := by rw [List.getElem?_map, hi]; rfl
  have h2 : (l.map (·.1))[j]? = some k := by rw [List.getElem?_map, hj]; rfl
  obtain ⟨a1, a2⟩ := List.getElem?_eq_some_iff.1 h1
  obtain ⟨b1, b2⟩ := List.getElem?_eq_some_iff.1 h2
  exact (List.getElem_inj h).1 (a2.trans b2.symm)
theorem map_erase {α β : Type} (f : α → β) (l : List α) (j : Nat) : (l.eraseIdx j).map f = (l.map f).eraseIdx j := by
  apply List.ext_getElem?
  intro i
  rw [List.getElem?_map, List.getElem?_eraseIdx, List.getElem?_eraseIdx]
  split <;> rw [List.getElem?_map]
section
variable [Dfs]
variable {P : Program} {W : World} {ops : Array Oper} {Q : Exit → Act → World → Prop} {n : Nat} {l : List (Nat × Value)} {L : List HProp} {o : Oper} {G : World → Prop}
theorem run_look {w : World} {t kt et : TypeId} {d : TypeDesc} {b : Nat} {es : Array MapEntry} {clock : Nat} {k : Value} {a : Option (Nat × Value)} (ht : mapT P t = some (kt, et, d)) (hb : w.heap[b]? = some (.map es clock)) (hk : IsKey d k) (hf : Instr.findNow d k es.toList 0 = some a) {z : Value} (hz : (zeroValue et).run P w = .ok z w) (c : Bool) :
    (Instr.lookup t (.map (some b)) k c).run P w = .ok (match a with | some (_, v) => (if c then .tuple #[v, .bool true] else v) | none => (if c then .tuple #[z, .bool false] else z)) w := by
  obtain ⟨h1, h2⟩ := mapT_of ht
  cases a with
  | none => cases c <;> simp [Instr.lookup, run_underlying h1, MapKept.run_getObj_map hb, run_checkKey h2 hk, run_findKey h2 hf, hz, Result.andThen]
  | some q => cases c <;> simp [Instr.lookup, run_underlying h1, MapKept.run_getObj_map hb, run_checkKey h2 hk, run_findKey h2 hf, Result.andThen]
def zeroV (P : Program) (t : TypeId) : Option Value := (P.info? t).bind (·.zero)
theorem run_zeroV {t : TypeId} {z : Value} (h : zeroV P t = some z) (w : World) : (zeroValue t).run P w = .ok z w := by
  unfold zeroV at h
  cases hi : P.info? t with
  | none => rw [hi] at h; cases h
  | some i =>
    rw [hi] at h
    simp only [Option.bind_some] at h
    simp [zeroValue, typeInfo, hi, h, Result.andThen]
theorem Val.lookHit {t kt et : TypeId} {d : TypeDesc} {x ix : Operand} {b : Nat} {k v z : Value} {kvs : List (Value × Value)} {c : Bool} (ho : o.op = .lookup t x ix c) (ht : mapT P t = some (kt, et, d)) (hz : zeroV P et = some z) (hx : ev l x = some (.map (some b))) (hi : ev l ix = some k)
    (hk : IsKey d k) (hc : ∀ w, G w → Holds (Mapk b d kvs) w) (hm : (k, v) ∈ kvs) : Val P n l G o (if c then .tuple #[v, .bool true] else v) := fun a w hf hs => by
  obtain ⟨es, clock, h, hb⟩ := (hc w hs).mapk
  rcases h.find hk with ⟨h1, h2⟩ | ⟨j, e, h1, h2, h3, h4⟩
  · exact absurd rfl (h2 _ hm)
  · obtain ⟨i, hi'⟩ := List.getElem?_of_mem hm
    have := nodup_at h.nodup hi' h4
    subst this
    rw [h4] at hi'
    have e2 : e.val = v := by simpa using hi'
    simp only [execOp, ho, hf.ev hx, hf.ev hi, Sem.run_bind, run_look ht hb hk h1 (run_zeroV hz w), Result.andThen_ok, e2]
    rfl
theorem Val.lookMiss {t kt et : TypeId} {d : TypeDesc} {x ix : Operand} {b : Nat} {k z : Value} {kvs : List (Value × Value)} {c : Bool} (ho : o.op = .lookup t x ix c) (ht : mapT P t = some (kt, et, d)) (hz : zeroV P et = some z) (hx : ev l x = some (.map (some b))) (hi : ev l ix = some k)
    (hk : IsKey d k) (hc : ∀ w, G w → Holds (Mapk b d kvs) w) (hm : ∀ p ∈ kvs, p.1 ≠ k) : Val P n l G o (if c then .tuple #[z, .bool false] else z) := fun a w hf hs => by
  obtain ⟨es, clock, h, hb⟩ := (hc w hs).mapk
  rcases h.find hk with ⟨h1, h2⟩ | ⟨j, e, h1, h2, h3, h4⟩
  · simp only [execOp, ho, hf.ev hx, hf.ev hi, Sem.run_bind, run_look ht hb hk h1 (run_zeroV hz w), Result.andThen_ok]
    rfl
  · exact absurd rfl (hm _ (List.mem_of_getElem? h4))
theorem Val.lenMap {t kt et : TypeId} {d d' : TypeDesc} {x : Operand} {b : Nat} {kvs : List (Value × Value)} (ho : o.op = .call { callee := .builtin .len, args := #[x], argTypes := #[t] }) (ht : mapT P t = some (kt, et, d')) (hx : ev l x = some (.map (some b)))
    (hc : ∀ w, G w → Holds (Mapk b d kvs) w) : Val P n l G o (.int .i64 ((kvs.length : Nat) : Int)) := fun a w hf hs => by
  obtain ⟨es, clock, h, hb⟩ := (hc w hs).mapk
  have hz : es.size = kvs.length := by rw [← h.1]; simp
  have hr : ∀ ty, (Builtin.len_ #[t] ty #[.map (some b)]).run P w = .ok (goInt es.size) w := fun ty => by
    simp [Builtin.len_, run_underlying (mapT_of ht).1, MapKept.run_getObj_map hb, Result.andThen]
  rw [← hz]
  simp [execOp, ho, hf.ev hx, resolve, Go.invoke, Go.builtin, Builtin.len_, run_underlying (mapT_of ht).1, MapKept.run_getObj_map hb, Result.andThen, goInt]
def NewM (d : TypeDesc) (L : List HProp) : Value → List HProp → Prop := fun u M => ∃ b, u = .map (some b) ∧ M = Mapk b d [] :: L
theorem Eff.makeMap {t : TypeId} (d : TypeDesc) (ho : o.op = .makeMap t none) : Eff P W Q n l L o (NewM d L) := fun a w hf hs K hK => by
  unfold Oper.wp
  have e : (execOp a.eval o).run P w = .ok (.value (.map (some w.heap.size))) (w.alloc (.map #[] 0)) := by
    simp [execOp, ho, Instr.makeMap, Result.andThen]
  rw [e, Oper.upon_value]
  exact hK _ _ _ ⟨_, rfl, rfl⟩ (Sat.mapkMk (es := #[]) (clock := 0) ⟨rfl, stamped_empty 0, by simp⟩ (hs.alloc _))
theorem Sat.setMap {w : World} {b : Nat} {d : TypeDesc} {es es' : Array MapEntry} {clock clock' : Nat} {kvs' : List (Value × Value)} (h : Sat W (Obk b (.map es clock) :: L) w) (hm : MapIs d es' clock' kvs') :
    Sat W (Mapk b d kvs' :: L) { w with heap := w.heap.setIfInBounds b (.map es' clock') } := by
  have hb := h.head.obk
  have hh := heap_set (o' := .map es' clock') hb
  exact Sat.mapkMk hm (h.write _ rfl rfl rfl (by simp) hh.1 hh.2)
theorem mod_list {es : Array MapEntry} {j : Nat} {f : MapEntry → MapEntry} : (es.modify j f).toList = es.toList.modify j f := by simp
theorem Eff.mapSet {t kt et : TypeId} {d : TypeDesc} {x ix iv : Operand} {b j : Nat} {k v v0 : Value} {kvs : List (Value × Value)} (ho : o.op = .mapUpdate t x ix iv) (ht : mapT P t = some (kt, et, d)) (hx : ev l x = some (.map (some b))) (hi : ev l ix = some k) (hv : ev l iv = some v)
    (hk : IsKey d k) (hm : kvs[j]? = some (k, v0)) : Eff P W Q n l (Mapk b d kvs :: L) o (Sets (Mapk b d (kvs.set j (k, v)) :: L)) := fun a w hf hs K hK => by
  obtain ⟨es, clock, h, hs2⟩ := hs.mapk
  have hb := hs2.head.obk
  obtain ⟨h1, h2⟩ := mapT_of ht
  rcases h.find hk with ⟨f1, f2⟩ | ⟨i, e, f1, f2, f3, f4⟩
  · exact absurd rfl (f2 _ (List.mem_of_getElem? hm))
  · have := nodup_at h.nodup hm f4
    subst this
    have hr : (Instr.mapUpdate t (.map (some b)) k v).run P w = .ok () { w with heap := w.heap.setIfInBounds b (.map (es.modify j fun e => { e with key := k, val := v }) clock) } := by
      simp [Instr.mapUpdate, run_underlying h1, MapKept.run_getObj_map hb, run_checkKey h2 hk, run_findKey h2 f1, f2, f3, run_keyThatStays hk, MapKept.run_setObj_map _ hb, Result.andThen]
    unfold Oper.wp
    simp only [execOp, ho, hf.ev hx, hf.ev hi, hf.ev hv, Sem.run_bind, hr]
    refine hK undef _ _ rfl (hs2.setMap ⟨?_, ?_, ?_⟩)
    · rw [mod_list, ← h.1]
      apply List.ext_getElem?
      intro i
      rw [List.getElem?_map, List.getElem?_modify, List.getElem?_set]
      by_cases hij : j = i
      · subst hij
        have f2' : es.toList[j]? = some e := by simpa using f2
        simp [f2', (List.getElem?_eq_some_iff.1 f2').1, (Array.getElem?_eq_some_iff.1 f2).1]
      · simp [hij]
    · exact stamped_modify h.2.1 _ _ (fun _ _ => rfl) (fun e' _ he' => by rw [f2] at he'; cases he'; exact f3.symm)
    · intro y hy
      rw [mod_list] at hy
      obtain ⟨i, hi'⟩ := List.getElem?_of_mem hy
      rw [List.getElem?_modify] at hi'
      by_cases hij : j = i
      · subst hij
        have f2' : es.toList[j]? = some e := by simpa using f2
        simp [f2'] at hi'
        rw [← hi']
        exact hk
      · simp [hij] at hi'
        exact h.2.2 y (List.mem_of_getElem? (by simpa using hi'))
theorem Eff.mapNew {t kt et : TypeId} {d : TypeDesc} {x ix iv : Operand} {b : Nat} {k v : Value} {kvs : List (Value × Value)} (ho : o.op = .mapUpdate t x ix iv) (ht : mapT P t = some (kt, et, d)) (hx : ev l x = some (.map (some b))) (hi : ev l ix = some k) (hv : ev l iv = some v)
    (hk : IsKey d k) (hm : ∀ p ∈ kvs, p.1 ≠ k) : Eff P W Q n l (Mapk b d kvs :: L) o (Sets (Mapk b d (kvs ++ [(k, v)]) :: L)) := fun a w hf hs K hK => by
  obtain ⟨es, clock, h, hs2⟩ := hs.mapk
  have hb := hs2.head.obk
  obtain ⟨h1, h2⟩ := mapT_of ht
  rcases h.find hk with ⟨f1, f2⟩ | ⟨i, e, f1, f2, f3, f4⟩
  · have hr : (Instr.mapUpdate t (.map (some b)) k v).run P w = .ok () { w with heap := w.heap.setIfInBounds b (.map (es.push { key := k, val := v, born := clock }) (clock + 1)) } := by
      simp [Instr.mapUpdate, run_underlying h1, MapKept.run_getObj_map hb, run_checkKey h2 hk, run_findKey h2 f1, MapKept.run_setObj_map _ hb, Result.andThen]
    have hne : ∀ x ∈ es.toList, x.key ≠ k := fun x hx => f2 (x.key, x.val) (by rw [← h.1]; exact List.mem_map.2 ⟨x, hx, rfl⟩)
    unfold Oper.wp
    simp only [execOp, ho, hf.ev hx, hf.ev hi, hf.ev hv, Sem.run_bind, hr]
    refine hK undef _ _ rfl (hs2.setMap ⟨?_, stamped_push h.2.1 hne, ?_⟩)
    · rw [← h.1]; simp
    · intro y hy
      simp only [Array.toList_push, List.mem_append, List.mem_singleton] at hy
      rcases hy with hy | rfl
      · exact h.2.2 y hy
      · exact hk
  · exact absurd rfl (hm _ (List.mem_of_getElem? f4))
theorem Eff.mapDel {t kt et : TypeId} {d : TypeDesc} {x ix : Operand} {b j : Nat} {k v0 : Value} {kvs : List (Value × Value)} (ho : o.op = .call { callee := .builtin .delete, args := #[x, ix], argTypes := #[t, kt] }) (ht : mapT P t = some (kt, et, d)) (hx : ev l x = some (.map (some b))) (hi : ev l ix = some k)
    (hk : IsKey d k) (hm : kvs[j]? = some (k, v0)) : Eff P W Q n l (Mapk b d kvs :: L) o (Sets (Mapk b d (kvs.eraseIdx j) :: L)) := fun a w hf hs K hK => by
  obtain ⟨es, clock, h, hs2⟩ := hs.mapk
  have hb := hs2.head.obk
  obtain ⟨h1, h2⟩ := mapT_of ht
  rcases h.find hk with ⟨f1, f2⟩ | ⟨i, e, f1, f2, f3, f4⟩
  · exact absurd rfl (f2 _ (List.mem_of_getElem? hm))
  · have := nodup_at h.nodup hm f4
    subst this
    have hj : j < es.size := (Array.getElem?_eq_some_iff.1 f2).1
    have hel : (es.eraseIdxIfInBounds j).toList = es.toList.eraseIdx j := by
      simp [Array.eraseIdxIfInBounds, hj]
    have e2 : (execOp a.eval o).run P w = .ok (.value (.tuple #[])) { w with heap := w.heap.setIfInBounds b (.map (es.eraseIdxIfInBounds j) clock) } := by
      simp [execOp, ho, resolve, hf.ev hx, hf.ev hi, Go.invoke, Go.builtin, Builtin.delete_, run_underlying h1, MapKept.run_getObj_map hb, run_checkKey h2 hk, run_findKey h2 f1, MapKept.run_setObj_map _ hb, Result.andThen]
    unfold Oper.wp
    rw [e2, Oper.upon_value]
    refine hK _ _ _ rfl (hs2.setMap ⟨?_, stamped_erase h.2.1 j, ?_⟩)
    · rw [hel, ← h.1]
      exact map_erase _ _ _
    · intro y hy
      rw [hel] at hy
      exact h.2.2 y (List.mem_of_mem_eraseIdx hy)
def isBool (P : Program) (t : TypeId) : Bool := match P.underlying t with | some .bool => true | _ => false
theorem isBool_of {t : TypeId} (h : isBool P t = true) : P.underlying t = some .bool := by
  unfold isBool at h
  split at h
  · assumption
  · cases h
theorem run_eqB {t : TypeId} (ht : P.underlying t = some .bool) (p q : Bool) (w : World) : (Op.equalIn Op.maxDepth t (.bool p) (.bool q)).run P w = .ok (p == q) w := by
  have h : Op.maxDepth = 9999 + 1 := rfl
  rw [h]
  unfold Op.equalIn
  simp [run_underlying ht, Result.andThen]
theorem Val.eqlB {t u : TypeId} {x y : Operand} {p q : Bool} (ho : o.op = .binOp .eql t x y u) (ht : isBool P t = true) (hx : ev l x = some (.bool p)) (hy : ev l y = some (.bool q)) : Val P n l G o (.bool (p == q)) := fun a w hf hs => by
  have := isBool_of ht
  simp [execOp, ho, hf.ev hx, hf.ev hy, eqGuard, binOp, Op.equal, run_eqB this, Result.andThen]
theorem Val.neqB {t u : TypeId} {x y : Operand} {p q : Bool} (ho : o.op = .binOp .neq t x y u) (ht : isBool P t = true) (hx : ev l x = some (.bool p)) (hy : ev l y = some (.bool q)) : Val P n l G o (.bool (!(p == q))) := fun a w hf hs => by
  have := isBool_of ht
  simp [execOp, ho, hf.ev hx, hf.ev hy, eqGuard, binOp, Op.equal, run_eqB this, Result.andThen]
/-! ## type assertions, methods of values behind a pointer -/
theorem Val.assertC {x : Operand} {xt t : TypeId} {v : Value} (ho : o.op = .typeAssert x xt t false) (ht : (match P.underlying t with | some (.interface _) => false | none => false | _ => true) = true) (hx : ev l x = some (.iface t v)) : Val P n l G o v := fun a w hf hs => by
  cases hu : P.underlying t with
  | none => rw [hu] at ht; cases ht
  | some q =>
    rw [hu] at ht
    cases q <;> first | (cases ht; done) | simp [execOp, ho, hf.ev hx, Instr.typeAssert, run_underlying hu, Result.andThen]
def mthV (P : Program) (t : TypeId) (nm : String) : Option (FuncId × TypeId) :=
  match P.underlying t, (P.info? t).bind (fun i => i.methods.find? (·.name == nm)) with
  | some (.pointer e), some m => if m.path.isEmpty then (match m.func with | some (f, false) => if scal P e then some (f, e) else none | _ => none) else none
  | _, _ => none
theorem run_wrapChk (t : TypeId) (p : Addr) (x y : String) (w : World) : (Builtin.ssaWrapNilChk_ #[t] t #[.pointer (some p), strVal x, strVal y]).run P w = .ok (.pointer (some p)) w := rfl
theorem run_mthV {t e : TypeId} {nm : String} {f : FuncId} {k : Nat} (h : mthV P t nm = some (f, e)) {p : Addr} {u : Value} {w : World} (hc : w.cell? p = some u) : (method (k + 1) t (.pointer (some p)) nm).run P w = .ok (f, u) w := by
  unfold mthV at h
  split at h <;> try (cases h; done)
  rename_i e' m hu hm
  split at h <;> try (cases h; done)
  rename_i hp
  split at h <;> try (cases h; done)
  rename_i f' hf
  split at h <;> try (cases h; done)
  rename_i hsc
  simp only [Option.some.injEq, Prod.mk.injEq] at h
  obtain ⟨rfl, rfl⟩ := h
  cases hi : P.info? t with
  | none => rw [hi] at hm; cases hm
  | some i =>
    rw [hi] at hm
    simp only [Option.bind_some] at hm
    have hpe : m.path = #[] := by simpa using hp
    simp [method, typeInfo, hi, hm, hpe, follow, hf, receiverAt, run_underlying hu, Place.get, run_wrapChk, asAddr, loadVar, scal_agg hsc, Go.load, Sem.run, hc, Result.andThen]
theorem Eff.invokeP {f : FuncId} {x : Operand} {nm : String} {xs : List Operand} {ats : Array TypeId} {t e : TypeId} {p : Addr} {u : Value} {args : List Value} {L0 F : List HProp} {R : Value → List HProp → Prop} (ho : o.op = .call { callee := .invoke x nm, args := xs.toArray, argTypes := ats })
    (hv : ev l x = some (.iface t (.pointer (some p)))) (hx : evs l xs = some args) (hm : mthV P t nm = some (f, e)) (hu : ∀ w, Sat W (L0 ++ F) w → w.cell? p = some u) (hc : ∀ (as_ : Array Value) (w : World), (callFunc f as_).run P w = .ok (.enter f as_) w)
    (h : Does P f (u :: args) L0 R) : Eff P W Q n l (L0 ++ F) o (After R F) :=
  Eff.enter h fun a w hf hs => by
    have e : (xs.toArray.map a.eval) = args.toArray := by rw [List.map_toArray, hf.evs hx]
    simp only [execOp, ho, resolve, hf.ev hv, e, Sem.run_bind, Sem.run_pure, Result.andThen_ok, Go.invoke]
    have e1 : (#[Value.iface t (.pointer (some p))] ++ args.toArray)[0]? = some (.iface t (.pointer (some p))) := by simp
    have e2 : (#[Value.iface t (.pointer (some p))] ++ args.toArray).extract 1 (#[Value.iface t (.pointer (some p))] ++ args.toArray).size = args.toArray := by
      apply Array.ext'
      simp
    have hd : P.types.size + Made.depth = (P.types.size + (Made.depth - 1)) + 1 := by
      have : 0 < Made.depth := by decide
      omega
    simp only [e1, e2, callMethod, Sem.run_bind, program, Sem.run, Result.andThen_ok, hd, run_mthV hm (hu w hs)]
    have e3 : #[u] ++ args.toArray = (u :: args).toArray := by simp
    rw [e3, hc]
end
end Go.Proofs.Ytbomnihiapjmpaa.Sl

namespace Go.Proofs.Ytbomnihiapjmpaa.Ty
open Go.Proofs.Ytbomnihiapjmpaa.Sl
set_option maxRecDepth 100000
theorem sc2 : scal Try.prog 2 = true := by kernel_rfl
theorem sc3 : scal Try.prog 3 = true := by kernel_rfl
theorem un3 : (Try.prog.underlying 3).isSome = true := by kernel_rfl
theorem ni3 : (match Try.prog.underlying 3 with | some (.interface _) => false | none => false | _ => true) = true := by kernel_rfl
theorem z3 : zeroC Try.prog 3 = some [.int .i64 0] := by kernel_rfl
theorem sc4 : scal Try.prog 4 = true := by kernel_rfl
theorem z4 : zeroC Try.prog 4 = some [.bool false] := by kernel_rfl
theorem sc5 : scal Try.prog 5 = true := by kernel_rfl
theorem z5 : zeroC Try.prog 5 = some [.int .u8 0] := by kernel_rfl
theorem sc9 : scal Try.prog 9 = true := by kernel_rfl
theorem st9 : isStr Try.prog 9 = true := by kernel_rfl
theorem sc20 : scal Try.prog 20 = true := by kernel_rfl
theorem ik21 : intK Try.prog 21 = some .i32 := by kernel_rfl
theorem sc30 : scal Try.prog 30 = true := by kernel_rfl
theorem sl30 : slcE Try.prog 30 = some (9, 1, 16) := by kernel_rfl
theorem sl39 : slcE Try.prog 39 = some (45, 3, 40) := by kernel_rfl
theorem ag45 : aggS Try.prog 45 = some 3 := by kernel_rfl
theorem fo45_0 : fldO Try.prog 45 0 = some 0 := by kernel_rfl
theorem fo45_1 : fldO Try.prog 45 1 = some 1 := by kernel_rfl
theorem fo45_2 : fldO Try.prog 45 2 = some 2 := by kernel_rfl
theorem z45 : zeroC Try.prog 45 = some [.int .i64 0, .string ⟨#[]⟩, .string ⟨#[]⟩] := by kernel_rfl
theorem sl47 : slcE Try.prog 47 = some (60, 10, 128) := by kernel_rfl
theorem sl50 : slcE Try.prog 50 = some (62, 5, 72) := by kernel_rfl
theorem fo54_0 : fldO Try.prog 54 0 = some 0 := by kernel_rfl
theorem fo54_1 : fldO Try.prog 54 1 = some 1 := by kernel_rfl
theorem fo54_2 : fldO Try.prog 54 2 = some 2 := by kernel_rfl
theorem ag56 : aggS Try.prog 56 = some 5 := by kernel_rfl
theorem fo56_0 : fldO Try.prog 56 0 = some 0 := by kernel_rfl
theorem fo56_1 : fldO Try.prog 56 1 = some 3 := by kernel_rfl
theorem fo56_2 : fldO Try.prog 56 2 = some 4 := by kernel_rfl
theorem z56 : zeroC Try.prog 56 = some [.string ⟨#[]⟩, .string ⟨#[]⟩, .bool false, .int .i64 0, .int .i64 0] := by kernel_rfl
theorem sc57 : scal Try.prog 57 = true := by kernel_rfl
theorem sl57 : slcE Try.prog 57 = some (56, 5, 56) := by kernel_rfl
theorem sc58 : scal Try.prog 58 = true := by kernel_rfl
theorem sl58 : slcE Try.prog 58 = some (3, 1, 8) := by kernel_rfl
theorem ag60 : aggS Try.prog 60 = some 10 := by kernel_rfl
theorem fo60_0 : fldO Try.prog 60 0 = some 0 := by kernel_rfl
theorem fo60_1 : fldO Try.prog 60 1 = some 1 := by kernel_rfl
theorem fo60_2 : fldO Try.prog 60 2 = some 6 := by kernel_rfl
theorem ag62 : aggS Try.prog 62 = some 5 := by kernel_rfl
theorem fo62_0 : fldO Try.prog 62 0 = some 0 := by kernel_rfl
theorem fo62_3 : fldO Try.prog 62 3 = some 3 := by kernel_rfl
theorem fo62_4 : fldO Try.prog 62 4 = some 4 := by kernel_rfl
theorem z62 : zeroC Try.prog 62 = some [.bool false, .int .i64 0, .int .i64 0, .slice none 0 0, .slice none 0 0] := by kernel_rfl
theorem sc106 : scal Try.prog 106 = true := by kernel_rfl
theorem sl106 : slcE Try.prog 106 = some (107, 1, 8) := by kernel_rfl
theorem sc107 : scal Try.prog 107 = true := by kernel_rfl
theorem z107 : zeroC Try.prog 107 = some [.pointer none] := by kernel_rfl
theorem sc110 : scal Try.prog 110 = true := by kernel_rfl
theorem sl110 : slcE Try.prog 110 = some (5, 1, 1) := by kernel_rfl
theorem by110 : isBytes Try.prog 110 = some 5 := by kernel_rfl
theorem sc111 : scal Try.prog 111 = true := by kernel_rfl
theorem ik111 : intK Try.prog 111 = some .i32 := by kernel_rfl
theorem sc122 : scal Try.prog 122 = true := by kernel_rfl
theorem st130 : isStr Try.prog 130 = true := by kernel_rfl
theorem ni130 : (match Try.prog.underlying 130 with | some (.interface _) => false | none => false | _ => true) = true := by kernel_rfl
theorem sl132 : slcE Try.prog 132 = some (5, 1, 1) := by kernel_rfl
theorem by132 : isBytes Try.prog 132 = some 5 := by kernel_rfl
theorem ni132 : (match Try.prog.underlying 132 with | some (.interface _) => false | none => false | _ => true) = true := by kernel_rfl
theorem ni133 : (match Try.prog.underlying 133 with | some (.interface _) => false | none => false | _ => true) = true := by kernel_rfl
theorem ni134 : (match Try.prog.underlying 134 with | some (.interface _) => false | none => false | _ => true) = true := by kernel_rfl
theorem fo160_0 : fldO Try.prog 160 0 = some 0 := by kernel_rfl
theorem fo160_1 : fldO Try.prog 160 1 = some 1 := by kernel_rfl
theorem fo160_2 : fldO Try.prog 160 2 = some 2 := by kernel_rfl
theorem fo164_0 : fldO Try.prog 164 0 = some 0 := by kernel_rfl
theorem ni164 : (match Try.prog.underlying 164 with | some (.interface _) => false | none => false | _ => true) = true := by kernel_rfl
theorem sc168 : scal Try.prog 168 = true := by kernel_rfl
theorem sc170 : scal Try.prog 170 = true := by kernel_rfl
theorem if170 : isIfc Try.prog 170 = true := by kernel_rfl
theorem z170 : zeroC Try.prog 170 = some [.nilIface] := by kernel_rfl
theorem ag172 : aggS Try.prog 172 = some 2 := by kernel_rfl
theorem fo172_0 : fldO Try.prog 172 0 = some 0 := by kernel_rfl
theorem fo172_1 : fldO Try.prog 172 1 = some 1 := by kernel_rfl
theorem z172 : zeroC Try.prog 172 = some [.nilIface, .nilIface] := by kernel_rfl
theorem fo174_0 : fldO Try.prog 174 0 = some 0 := by kernel_rfl
theorem fo174_1 : fldO Try.prog 174 1 = some 2 := by kernel_rfl
theorem sc175 : scal Try.prog 175 = true := by kernel_rfl
theorem fo177_0 : fldO Try.prog 177 0 = some 0 := by kernel_rfl
theorem fo177_1 : fldO Try.prog 177 1 = some 3 := by kernel_rfl
theorem fo177_2 : fldO Try.prog 177 2 = some 4 := by kernel_rfl
theorem fo177_3 : fldO Try.prog 177 3 = some 5 := by kernel_rfl
theorem fo177_4 : fldO Try.prog 177 4 = some 6 := by kernel_rfl
theorem fo177_5 : fldO Try.prog 177 5 = some 7 := by kernel_rfl
theorem ni178 : (match Try.prog.underlying 178 with | some (.interface _) => false | none => false | _ => true) = true := by kernel_rfl
theorem fo180_0 : fldO Try.prog 180 0 = some 0 := by kernel_rfl
theorem fo180_1 : fldO Try.prog 180 1 = some 1 := by kernel_rfl
theorem fo180_2 : fldO Try.prog 180 2 = some 2 := by kernel_rfl
theorem ip182 : isPtr Try.prog 182 = true := by kernel_rfl
theorem z182 : zeroC Try.prog 182 = some [.pointer none] := by kernel_rfl
theorem sc184 : scal Try.prog 184 = true := by kernel_rfl
theorem z184 : zeroC Try.prog 184 = some [.nilFunc] := by kernel_rfl
theorem sc188 : scal Try.prog 188 = true := by kernel_rfl
theorem sl188 : slcE Try.prog 188 = some (182, 1, 8) := by kernel_rfl
theorem z188 : zeroC Try.prog 188 = some [.slice none 0 0] := by kernel_rfl
theorem ni210 : (match Try.prog.underlying 210 with | some (.interface _) => false | none => false | _ => true) = true := by kernel_rfl
theorem ip240 : isPtr Try.prog 240 = true := by kernel_rfl
theorem fo244_2 : fldO Try.prog 244 2 = some 2 := by kernel_rfl
theorem ip245 : isPtr Try.prog 245 = true := by kernel_rfl
theorem fo248_1 : fldO Try.prog 248 1 = some 1 := by kernel_rfl
theorem fo252_0 : fldO Try.prog 252 0 = some 0 := by kernel_rfl
theorem fo252_1 : fldO Try.prog 252 1 = some 1 := by kernel_rfl
theorem ni279 : (match Try.prog.underlying 279 with | some (.interface _) => false | none => false | _ => true) = true := by kernel_rfl
theorem sc282 : scal Try.prog 282 = true := by kernel_rfl
theorem mixed : Try.prog.follows .mixedOrders = true := by kernel_rfl
end Go.Proofs.Ytbomnihiapjmpaa.Ty

namespace Go.Proofs.Ytbomnihiapjmpaa.Ty2
open Go.Proofs.Ytbomnihiapjmpaa.Sl
set_option maxRecDepth 100000
theorem bo4 : isBool Try.prog 4 = true := by kernel_rfl
theorem mp149 : mapT Try.prog 149 = some (9, 210, .string) := by kernel_rfl
theorem zv210 : zeroV Try.prog 210 = some (.agg #[]) := by kernel_rfl
end Go.Proofs.Ytbomnihiapjmpaa.Ty2

namespace Go.Proofs.Ytbomnihiapjmpaa.Ta
open Go.RowKit Go.Proofs.Ytbomnihiapjmpaa Go.Proofs.Ytbomnihiapjmpaa.Sl Go.Proofs.Ytbomnihiapjmpaa.TrP
set_option linter.unusedVariables false
set_option linter.unusedSimpArgs false
set_option linter.unusedSectionVars false


theorem ka_cmp (x y : ByteArray) : kcmp (ka x) (ka y) = if x.size = 0 then (if y.size = 0 then 0 else 1) else if y.size = 0 then -1 else if Op.bytesLess x.toList y.toList = true then -1 else if Op.bytesLess y.toList x.toList = true then 1 else 0 := by
  unfold ka
  split <;> split <;> simp_all [kcmp, klt, bl_irrefl]
theorem kb_cmp (x y : List UInt8) : kcmp (kb x) (kb y) = if x.length = 0 then (if y.length = 0 then 0 else 1) else if y.length = 0 then -1 else Lib.compareBytes x y := by
  rw [cb_eq]
  unfold kb
  split <;> split <;> simp_all [kcmp, klt, bl_irrefl]
theorem ks_cmp (x y : ByteArray) : kcmp (ks x) (ks y) = if Op.bytesLess x.toList y.toList = true then -1 else if Op.bytesLess y.toList x.toList = true then 1 else 0 := by simp [ks, kcmp, klt]
theorem ki_cmp (x y : Int) : kcmp (ki x) (ki y) = if x - y < 0 then -1 else if 0 < x - y then 1 else 0 := by
  simp only [ki, kcmp, klt, bl_irrefl]
  simp only [Int.lt_irrefl, Bool.false_eq_true, and_false, or_false]
  have e1 : (x - y < 0) ↔ x < y := by omega
  have e2 : (0 < x - y) ↔ y < x := by omega
  simp only [e1, e2]
set_option maxRecDepth 100000 in
set_option maxHeartbeats 2000000 in
theorem cmpa_spec (x y : ByteArray) : Does Try.prog 74 [.string x, .iface 130 (.string y)] [] (fun v L => v = .int .i64 (kcmp (ka x) (ka y)) ∧ L = []) := by
  refine Does.enter 23 Try.func74 rfl rfl rfl fun W F => ?_
  show WPc _ _ _ _ _ [(0, .string x), (1, .iface 130 (.string y))] (F)
  refine WPc.seq ?_
  refine WPc.region ?_
  refine WP.val rfl rfl rfl (Val.assign rfl rfl) ?_
  refine WP.nil ?_
  refine Out.next ?_
  refine WPc.seq ?_
  refine WPc.region ?_
  refine WP.val rfl rfl rfl (Val.move rfl rfl) ?_
  refine WP.val rfl rfl rfl (Val.assertC rfl Ty.ni130 rfl) ?_
  refine WP.val rfl rfl rfl (Val.assign rfl rfl) ?_
  refine WP.nil ?_
  refine Out.next ?_
  refine WPc.seq ?_
  refine WPc.seq ?_
  refine WPc.region ?_
  refine WP.val rfl rfl rfl (Val.move rfl rfl) ?_
  refine WP.val rfl rfl rfl (Val.lenS rfl Ty.st130 rfl) ?_
  refine WP.val rfl rfl rfl (Val.eql rfl rfl rfl) ?_
  refine WP.nil ?_
  refine Out.next ?_
  refine WPc.ifP rfl (fun h1 => ?_) (fun h1 => ?_)
  · skip
    have h1 : ((((x).size : Nat) : Int) = (0 : Int)) := h1
    refine WPc.seq ?_
    refine WPc.seq ?_
    refine WPc.region ?_
    refine WP.val rfl rfl rfl (Val.move rfl rfl) ?_
    refine WP.val rfl rfl rfl (Val.lenS rfl Ty.st130 rfl) ?_
    refine WP.val rfl rfl rfl (Val.eql rfl rfl rfl) ?_
    refine WP.nil ?_
    refine Out.next ?_
    refine WPc.ifP rfl (fun h2 => ?_) (fun h2 => ?_)
    · skip
      have h2 : ((((y).size : Nat) : Int) = (0 : Int)) := h2
      refine WPc.seq ?_
      refine WPc.region ?_
      refine WP.val rfl rfl rfl (Val.assign rfl rfl) ?_
      refine WP.nil ?_
      refine Out.next ?_
      refine WPc.ret ?_
      refine Out.then_ret ?_
      refine Out.then_ret ?_
      exact Out.ret1 (L' := []) Try.results74 rfl ⟨congrArg (Value.int .i64) (show (0 : Int) = _ from by rw [ka_cmp]; simp_all), rfl⟩ (fun _ h => h)
    · skip
      have h2 : ¬ ((((y).size : Nat) : Int) = (0 : Int)) := h2
      refine WPc.skip ?_
      refine Out.next ?_
      refine WPc.seq ?_
      refine WPc.region ?_
      refine WP.val rfl rfl rfl (Val.assign rfl rfl) ?_
      refine WP.nil ?_
      refine Out.next ?_
      refine WPc.ret ?_
      refine Out.then_ret ?_
      exact Out.ret1 (L' := []) Try.results74 rfl ⟨congrArg (Value.int .i64) (show (1 : Int) = _ from by rw [ka_cmp]; simp_all), rfl⟩ (fun _ h => h)
  · skip
    have h1 : ¬ ((((x).size : Nat) : Int) = (0 : Int)) := h1
    refine WPc.skip ?_
    refine Out.next ?_
    refine WPc.seq ?_
    refine WPc.seq ?_
    refine WPc.region ?_
    refine WP.val rfl rfl rfl (Val.move rfl rfl) ?_
    refine WP.val rfl rfl rfl (Val.lenS rfl Ty.st130 rfl) ?_
    refine WP.val rfl rfl rfl (Val.eql rfl rfl rfl) ?_
    refine WP.nil ?_
    refine Out.next ?_
    refine WPc.ifP rfl (fun h3 => ?_) (fun h3 => ?_)
    · skip
      have h3 : ((((y).size : Nat) : Int) = (0 : Int)) := h3
      refine WPc.seq ?_
      refine WPc.region ?_
      refine WP.val rfl rfl rfl (Val.assign rfl rfl) ?_
      refine WP.nil ?_
      refine Out.next ?_
      refine WPc.ret ?_
      refine Out.then_ret ?_
      exact Out.ret1 (L' := []) Try.results74 rfl ⟨congrArg (Value.int .i64) (show (-1 : Int) = _ from by rw [ka_cmp]; simp_all), rfl⟩ (fun _ h => h)
    · skip
      have h3 : ¬ ((((y).size : Nat) : Int) = (0 : Int)) := h3
      refine WPc.skip ?_
      refine Out.next ?_
      refine WPc.seq ?_
      refine WPc.seq ?_
      refine WPc.region ?_
      refine WP.val rfl rfl rfl (Val.move rfl rfl) ?_
      refine WP.val rfl rfl rfl (Val.move rfl rfl) ?_
      refine WP.val rfl rfl rfl (Val.lssS rfl rfl rfl) ?_
      refine WP.nil ?_
      refine Out.next ?_
      refine WPc.cond rfl (fun h4 => ?_) (fun h4 => ?_)
      · skip
        have h4 : (Op.bytesLess (x).toList (y).toList) = true := h4
        refine WPc.seq ?_
        refine WPc.region ?_
        refine WP.val rfl rfl rfl (Val.assign rfl rfl) ?_
        refine WP.nil ?_
        refine Out.next ?_
        refine WPc.ret ?_
        refine Out.then_ret ?_
        exact Out.ret1 (L' := []) Try.results74 rfl ⟨congrArg (Value.int .i64) (show (-1 : Int) = _ from by rw [ka_cmp]; simp_all), rfl⟩ (fun _ h => h)
      · skip
        have h4 : (Op.bytesLess (x).toList (y).toList) = false := h4
        refine WPc.skip ?_
        refine Out.next ?_
        refine WPc.seq ?_
        refine WPc.seq ?_
        refine WPc.region ?_
        refine WP.val rfl rfl rfl (Val.move rfl rfl) ?_
        refine WP.val rfl rfl rfl (Val.move rfl rfl) ?_
        refine WP.val rfl rfl rfl (Val.gtrS rfl rfl rfl) ?_
        refine WP.nil ?_
        refine Out.next ?_
        refine WPc.cond rfl (fun h5 => ?_) (fun h5 => ?_)
        · skip
          have h5 : (Op.bytesLess (y).toList (x).toList) = true := h5
          refine WPc.seq ?_
          refine WPc.region ?_
          refine WP.val rfl rfl rfl (Val.assign rfl rfl) ?_
          refine WP.nil ?_
          refine Out.next ?_
          refine WPc.ret ?_
          refine Out.then_ret ?_
          exact Out.ret1 (L' := []) Try.results74 rfl ⟨congrArg (Value.int .i64) (show (1 : Int) = _ from by rw [ka_cmp]; simp_all), rfl⟩ (fun _ h => h)
        · skip
          have h5 : (Op.bytesLess (y).toList (x).toList) = false := h5
          refine WPc.skip ?_
          refine Out.next ?_
          refine WPc.seq ?_
          refine WPc.region ?_
          refine WP.val rfl rfl rfl (Val.assign rfl rfl) ?_
          refine WP.nil ?_
          refine Out.next ?_
          refine WPc.ret ?_
          exact Out.ret1 (L' := []) Try.results74 rfl ⟨congrArg (Value.int .i64) (show (0 : Int) = _ from by rw [ka_cmp]; simp_all), rfl⟩ (fun _ h => h)
set_option maxRecDepth 100000 in
set_option maxHeartbeats 2000000 in
theorem cmps_spec (x y : ByteArray) : Does Try.prog 77 [.string x, .iface 134 (.string y)] [] (fun v L => v = .int .i64 (kcmp (ks x) (ks y)) ∧ L = []) := by
  refine Does.enter 14 Try.func77 rfl rfl rfl fun W F => ?_
  show WPc _ _ _ _ _ [(0, .string x), (1, .iface 134 (.string y))] (F)
  refine WPc.seq ?_
  refine WPc.region ?_
  refine WP.val rfl rfl rfl (Val.assign rfl rfl) ?_
  refine WP.nil ?_
  refine Out.next ?_
  refine WPc.seq ?_
  refine WPc.region ?_
  refine WP.val rfl rfl rfl (Val.move rfl rfl) ?_
  refine WP.val rfl rfl rfl (Val.assertC rfl Ty.ni134 rfl) ?_
  refine WP.val rfl rfl rfl (Val.assign rfl rfl) ?_
  refine WP.nil ?_
  refine Out.next ?_
  refine WPc.seq ?_
  refine WPc.seq ?_
  refine WPc.region ?_
  refine WP.val rfl rfl rfl (Val.move rfl rfl) ?_
  refine WP.val rfl rfl rfl (Val.move rfl rfl) ?_
  refine WP.val rfl rfl rfl (Val.lssS rfl rfl rfl) ?_
  refine WP.nil ?_
  refine Out.next ?_
  refine WPc.cond rfl (fun h1 => ?_) (fun h1 => ?_)
  · skip
    have h1 : (Op.bytesLess (x).toList (y).toList) = true := h1
    refine WPc.seq ?_
    refine WPc.region ?_
    refine WP.val rfl rfl rfl (Val.assign rfl rfl) ?_
    refine WP.nil ?_
    refine Out.next ?_
    refine WPc.ret ?_
    refine Out.then_ret ?_
    exact Out.ret1 (L' := []) Try.results77 rfl ⟨congrArg (Value.int .i64) (show (-1 : Int) = _ from by rw [ks_cmp]; simp_all), rfl⟩ (fun _ h => h)
  · skip
    have h1 : (Op.bytesLess (x).toList (y).toList) = false := h1
    refine WPc.skip ?_
    refine Out.next ?_
    refine WPc.seq ?_
    refine WPc.seq ?_
    refine WPc.region ?_
    refine WP.val rfl rfl rfl (Val.move rfl rfl) ?_
    refine WP.val rfl rfl rfl (Val.move rfl rfl) ?_
    refine WP.val rfl rfl rfl (Val.gtrS rfl rfl rfl) ?_
    refine WP.nil ?_
    refine Out.next ?_
    refine WPc.cond rfl (fun h2 => ?_) (fun h2 => ?_)
    · skip
      have h2 : (Op.bytesLess (y).toList (x).toList) = true := h2
      refine WPc.seq ?_
      refine WPc.region ?_
      refine WP.val rfl rfl rfl (Val.assign rfl rfl) ?_
      refine WP.nil ?_
      refine Out.next ?_
      refine WPc.ret ?_
      refine Out.then_ret ?_
      exact Out.ret1 (L' := []) Try.results77 rfl ⟨congrArg (Value.int .i64) (show (1 : Int) = _ from by rw [ks_cmp]; simp_all), rfl⟩ (fun _ h => h)
    · skip
      have h2 : (Op.bytesLess (y).toList (x).toList) = false := h2
      refine WPc.skip ?_
      refine Out.next ?_
      refine WPc.seq ?_
      refine WPc.region ?_
      refine WP.val rfl rfl rfl (Val.assign rfl rfl) ?_
      refine WP.nil ?_
      refine Out.next ?_
      refine WPc.ret ?_
      exact Out.ret1 (L' := []) Try.results77 rfl ⟨congrArg (Value.int .i64) (show (0 : Int) = _ from by rw [ks_cmp]; simp_all), rfl⟩ (fun _ h => h)
set_option maxRecDepth 100000 in
set_option maxHeartbeats 2000000 in
theorem cmpi_spec (x y : Int) (hx : -2305843009213693952 ≤ x ∧ x ≤ 2305843009213693952) (hy : -2305843009213693952 ≤ y ∧ y ≤ 2305843009213693952) : Does Try.prog 76 [.int .i64 (x), .iface 133 (.int .i64 (y))] [] (fun v L => v = .int .i64 (kcmp (ki x) (ki y)) ∧ L = []) := by
  refine Does.enter 16 Try.func76 rfl rfl rfl fun W F => ?_
  show WPc _ _ _ _ _ [(0, .int .i64 (x)), (1, .iface 133 (.int .i64 (y)))] (F)
  refine WPc.seq ?_
  refine WPc.region ?_
  refine WP.val rfl rfl rfl (Val.assign rfl rfl) ?_
  refine WP.nil ?_
  refine Out.next ?_
  refine WPc.seq ?_
  refine WPc.region ?_
  refine WP.val rfl rfl rfl (Val.move rfl rfl) ?_
  refine WP.val rfl rfl rfl (Val.assertC rfl Ty.ni133 rfl) ?_
  refine WP.val rfl rfl rfl (Val.assign rfl rfl) ?_
  refine WP.nil ?_
  refine Out.next ?_
  refine WPc.seq ?_
  refine WPc.region ?_
  refine WP.val rfl rfl rfl (Val.move rfl rfl) ?_
  refine WP.val rfl rfl rfl (Val.move rfl rfl) ?_
  refine WP.val rfl rfl rfl (Val.sub (z := x - y) rfl rfl rfl (w64 (by omega) (by omega))) ?_
  refine WP.val rfl rfl rfl (Val.assign rfl rfl) ?_
  refine WP.nil ?_
  refine Out.next ?_
  refine WPc.seq ?_
  refine WPc.seq ?_
  refine WPc.region ?_
  refine WP.val rfl rfl rfl (Val.move rfl rfl) ?_
  refine WP.val rfl rfl rfl (Val.lss rfl rfl rfl) ?_
  refine WP.nil ?_
  refine Out.next ?_
  refine WPc.ifP rfl (fun h1 => ?_) (fun h1 => ?_)
  · skip
    have h1 : ((x - y) < (0 : Int)) := h1
    refine WPc.seq ?_
    refine WPc.region ?_
    refine WP.val rfl rfl rfl (Val.assign rfl rfl) ?_
    refine WP.nil ?_
    refine Out.next ?_
    refine WPc.ret ?_
    refine Out.then_ret ?_
    exact Out.ret1 (L' := []) Try.results76 rfl ⟨congrArg (Value.int .i64) (show (-1 : Int) = _ from by rw [ki_cmp]; first | rw [if_pos (by omega)] | rw [if_neg (by omega), if_pos (by omega)] | rw [if_neg (by omega), if_neg (by omega)]), rfl⟩ (fun _ h => h)
  · skip
    have h1 : ¬ ((x - y) < (0 : Int)) := h1
    refine WPc.skip ?_
    refine Out.next ?_
    refine WPc.seq ?_
    refine WPc.seq ?_
    refine WPc.region ?_
    refine WP.val rfl rfl rfl (Val.move rfl rfl) ?_
    refine WP.val rfl rfl rfl (Val.gtr rfl rfl rfl) ?_
    refine WP.nil ?_
    refine Out.next ?_
    refine WPc.ifP rfl (fun h2 => ?_) (fun h2 => ?_)
    · skip
      have h2 : ((0 : Int) < (x - y)) := h2
      refine WPc.seq ?_
      refine WPc.region ?_
      refine WP.val rfl rfl rfl (Val.assign rfl rfl) ?_
      refine WP.nil ?_
      refine Out.next ?_
      refine WPc.ret ?_
      refine Out.then_ret ?_
      exact Out.ret1 (L' := []) Try.results76 rfl ⟨congrArg (Value.int .i64) (show (1 : Int) = _ from by rw [ki_cmp]; first | rw [if_pos (by omega)] | rw [if_neg (by omega), if_pos (by omega)] | rw [if_neg (by omega), if_neg (by omega)]), rfl⟩ (fun _ h => h)
    · skip
      have h2 : ¬ ((0 : Int) < (x - y)) := h2
      refine WPc.skip ?_
      refine Out.next ?_
      refine WPc.seq ?_
      refine WPc.region ?_
      refine WP.val rfl rfl rfl (Val.assign rfl rfl) ?_
      refine WP.nil ?_
      refine Out.next ?_
      refine WPc.ret ?_
      exact Out.ret1 (L' := []) Try.results76 rfl ⟨congrArg (Value.int .i64) (show (0 : Int) = _ from by rw [ki_cmp]; first | rw [if_pos (by omega)] | rw [if_neg (by omega), if_pos (by omega)] | rw [if_neg (by omega), if_neg (by omega)]), rfl⟩ (fun _ h => h)
set_option maxRecDepth 100000 in
set_option maxHeartbeats 2000000 in
theorem bcmp_spec (u v : Value) (x y : List UInt8) : Does Try.prog 100 [u, v] [Byts u x, Byts v y] (fun z L => z = .int .i64 (Lib.compareBytes x y) ∧ L = [Byts u x, Byts v y]) := by
  refine Does.enter 8 Try.func100 rfl rfl rfl fun W F => ?_
  show WPc _ _ _ _ _ [(0, u), (1, v)] (Byts u x :: Byts v y :: F)
  refine WPc.seq ?_
  refine WPc.region ?_
  refine WP.val rfl rfl rfl (Val.assign rfl rfl) ?_
  refine WP.nil ?_
  refine Out.next ?_
  refine WPc.seq ?_
  refine WPc.region ?_
  refine WP.val rfl rfl rfl (Val.move rfl rfl) ?_
  refine WP.val rfl rfl rfl (Val.move rfl rfl) ?_
  refine WP.val rfl rfl rfl (Val.cmpBytes (l1 := x) (l2 := y) rfl rfl rfl Try.func111 (by kernel_rfl) (by kernel_rfl) (by kernel_rfl) (by kernel_rfl) (fun w h => h.at 0 rfl) (fun w h => h.at 1 rfl)) ?_
  refine WP.val rfl rfl rfl (Val.assign rfl rfl) ?_
  refine WP.nil ?_
  refine Out.next ?_
  refine WPc.ret ?_
  exact Out.ret1 (L' := _) Try.results100 rfl ⟨rfl, rfl⟩ (fun _ h => h)
set_option maxRecDepth 100000 in
set_option maxHeartbeats 2000000 in
theorem cmpb_spec (u v : Value) (x y : List UInt8) : Does Try.prog 75 [u, .iface 132 (v)] [Byts u x, Byts v y] (fun z L => z = .int .i64 (kcmp (kb x) (kb y)) ∧ L = [Byts u x, Byts v y]) := by
  refine Does.enter 20 Try.func75 rfl rfl rfl fun W F => ?_
  show WPc _ _ _ _ _ [(0, u), (1, .iface 132 (v))] (Byts u x :: Byts v y :: F)
  refine WPc.seq ?_
  refine WPc.region ?_
  refine WP.val rfl rfl rfl (Val.assign rfl rfl) ?_
  refine WP.nil ?_
  refine Out.next ?_
  refine WPc.seq ?_
  refine WPc.region ?_
  refine WP.val rfl rfl rfl (Val.move rfl rfl) ?_
  refine WP.val rfl rfl rfl (Val.assertC rfl Ty.ni132 rfl) ?_
  refine WP.val rfl rfl rfl (Val.assign rfl rfl) ?_
  refine WP.nil ?_
  refine Out.next ?_
  refine WPc.seq ?_
  refine WPc.seq ?_
  refine WPc.region ?_
  refine WP.val rfl rfl rfl (Val.move rfl rfl) ?_
  refine WP.val rfl rfl rfl (Val.lenByts rfl Ty.sl132 rfl (fun w h => h.at 0 rfl)) ?_
  refine WP.val rfl rfl rfl (Val.eql rfl rfl rfl) ?_
  refine WP.nil ?_
  refine Out.next ?_
  refine WPc.ifP rfl (fun h1 => ?_) (fun h1 => ?_)
  · skip
    have h1 : (((x.length : Nat) : Int) = (0 : Int)) := h1
    refine WPc.seq ?_
    refine WPc.seq ?_
    refine WPc.region ?_
    refine WP.val rfl rfl rfl (Val.move rfl rfl) ?_
    refine WP.val rfl rfl rfl (Val.lenByts rfl Ty.sl132 rfl (fun w h => h.at 1 rfl)) ?_
    refine WP.val rfl rfl rfl (Val.eql rfl rfl rfl) ?_
    refine WP.nil ?_
    refine Out.next ?_
    refine WPc.ifP rfl (fun h2 => ?_) (fun h2 => ?_)
    · skip
      have h2 : (((y.length : Nat) : Int) = (0 : Int)) := h2
      refine WPc.seq ?_
      refine WPc.region ?_
      refine WP.val rfl rfl rfl (Val.assign rfl rfl) ?_
      refine WP.nil ?_
      refine Out.next ?_
      refine WPc.ret ?_
      refine Out.then_ret ?_
      refine Out.then_ret ?_
      exact Out.ret1 (L' := _) Try.results75 rfl ⟨congrArg (Value.int .i64) (show (0 : Int) = _ from by rw [kb_cmp]; simp_all), rfl⟩ (fun _ h => h)
    · skip
      have h2 : ¬ (((y.length : Nat) : Int) = (0 : Int)) := h2
      refine WPc.skip ?_
      refine Out.next ?_
      refine WPc.seq ?_
      refine WPc.region ?_
      refine WP.val rfl rfl rfl (Val.assign rfl rfl) ?_
      refine WP.nil ?_
      refine Out.next ?_
      refine WPc.ret ?_
      refine Out.then_ret ?_
      exact Out.ret1 (L' := _) Try.results75 rfl ⟨congrArg (Value.int .i64) (show (1 : Int) = _ from by rw [kb_cmp]; simp_all), rfl⟩ (fun _ h => h)
  · skip
    have h1 : ¬ (((x.length : Nat) : Int) = (0 : Int)) := h1
    refine WPc.skip ?_
    refine Out.next ?_
    refine WPc.seq ?_
    refine WPc.seq ?_
    refine WPc.region ?_
    refine WP.val rfl rfl rfl (Val.move rfl rfl) ?_
    refine WP.val rfl rfl rfl (Val.lenByts rfl Ty.sl132 rfl (fun w h => h.at 1 rfl)) ?_
    refine WP.val rfl rfl rfl (Val.eql rfl rfl rfl) ?_
    refine WP.nil ?_
    refine Out.next ?_
    refine WPc.ifP rfl (fun h3 => ?_) (fun h3 => ?_)
    · skip
      have h3 : (((y.length : Nat) : Int) = (0 : Int)) := h3
      refine WPc.seq ?_
      refine WPc.region ?_
      refine WP.val rfl rfl rfl (Val.assign rfl rfl) ?_
      refine WP.nil ?_
      refine Out.next ?_
      refine WPc.ret ?_
      refine Out.then_ret ?_
      exact Out.ret1 (L' := _) Try.results75 rfl ⟨congrArg (Value.int .i64) (show (-1 : Int) = _ from by rw [kb_cmp]; simp_all), rfl⟩ (fun _ h => h)
    · skip
      have h3 : ¬ (((y.length : Nat) : Int) = (0 : Int)) := h3
      refine WPc.skip ?_
      refine Out.next ?_
      refine WPc.seq ?_
      refine WPc.region ?_
      refine WP.val rfl rfl rfl (Val.move rfl rfl) ?_
      refine WP.val rfl rfl rfl (Val.move rfl rfl) ?_
      refine WP.perm pl1 ?_
      refine WP.perm pl1 ?_
      refine WP.eff rfl rfl rfl (Eff.call rfl rfl Try.call100 (bcmp_spec u v x y)) ?_
      rintro _ _ ⟨_, ⟨rfl, rfl⟩, rfl⟩
      show WP _ _ _ _ _ _ _ (Byts u x :: Byts v y :: F)
      refine WP.val rfl rfl rfl (Val.assign rfl rfl) ?_
      refine WP.nil ?_
      refine Out.next ?_
      refine WPc.ret ?_
      exact Out.ret1 (L' := _) Try.results75 rfl ⟨congrArg (Value.int .i64) (show (Lib.compareBytes x y : Int) = _ from by rw [kb_cmp]; simp_all), rfl⟩ (fun _ h => h)

end Go.Proofs.Ytbomnihiapjmpaa.Ta

namespace Go.Proofs.Ytbomnihiapjmpaa.Tc
open Go.RowKit Go.Proofs.Ytbomnihiapjmpaa Go.Proofs.Ytbomnihiapjmpaa.Sl Go.Proofs.Ytbomnihiapjmpaa.TrP Go.Proofs.Ytbomnihiapjmpaa.Ta
set_option linter.unusedVariables false
set_option linter.unusedSimpArgs false
set_option linter.unusedSectionVars false


inductive EV where
  | a (s : ByteArray)
  | s (s : ByteArray)
  | i (n : Int)
  | b (l : List UInt8)
/-- what an end's value reads as, for good -/
def Enp (e : En) : HProp := Ex fun x : EV => match x with
  | .a s => Pure (e.k = ka s ∧ e.t = 130 ∧ e.u = .string s)
  | .s s => Pure (e.k = ks s ∧ e.t = 134 ∧ e.u = .string s)
  | .i n => Pure (e.k = ki n ∧ e.t = 133 ∧ e.u = .int .i64 n ∧ (-2305843009213693952 ≤ n ∧ n ≤ 2305843009213693952))
  | .b l => Sep [Pure (e.k = kb l ∧ e.t = 132), Byts e.u l]
theorem Enp.pers {e : En} : Pers (Enp e) := Pers.ex fun x => by
  cases x with
  | a s => exact Pers.pure
  | s s => exact Pers.pure
  | i n => exact Pers.pure
  | b l => exact Pers.sep (by simp only [List.mem_cons, List.not_mem_nil, or_false]; rintro A (rfl | rfl); exact Pers.pure; exact Byts.pers)
/-- the ends that there are -/
abbrev Ens (EL : List En) : HProp := AllP Enp EL
section
variable [Dfs] {W : World} {n : Nat} {l : List (Nat × Value)} {L : List HProp} {o : Oper} {Q : Exit → Act → World → Prop}
theorem Eff.ofSat {R : Value → List HProp → Prop} {L' : List HProp} (h : ∀ w, Sat W L w → Sat W L' w) (he : Eff Try.prog W Q n l L' o R) : Eff Try.prog W Q n l L o R := fun a w hf hs K hK => he a w hf (h w hs) K hK
theorem Eff.to {R R' : Value → List HProp → Prop} (he : Eff Try.prog W Q n l L o R) (h : ∀ v M w, R v M → Sat W M w → ∃ M', R' v M' ∧ Sat W M' w) : Eff Try.prog W Q n l L o R' := fun a w hf hs K hK => he a w hf hs K fun v M w' hR hS => by
  obtain ⟨M', h1, h2⟩ := h v M w' hR hS
  exact hK v M' w' h1 h2
theorem Eff.sat {R : Value → List HProp → Prop} (h : ∀ w, Sat W L w → Eff Try.prog W Q n l L o R) : Eff Try.prog W Q n l L o R := fun a w hf hs K hK => h w hs a w hf hs K hK
/-- ends are compared -/
theorem Eff.cmp {EL : List En} {a b : En} {x y : Operand} {ats : Array TypeId} (ho : o.op = .call { callee := .invoke x "Compare", args := #[y], argTypes := ats }) (hx : ev l x = some (.iface a.t a.u)) (hy : ev l y = some (.iface b.t b.u)) (ha : a ∈ EL) (hb : b ∈ EL) (ht : a.t = b.t) :
    Eff Try.prog W Q n l (Ens EL :: L) o (One (.int .i64 (kcmp a.k b.k)) (Ens EL :: L)) := by
  have hys : evs l [y] = some [.iface b.t b.u] := by simp only [evs, hy]
  refine Eff.ofSat (L' := Enp b :: Enp a :: Ens EL :: L) (fun w h => (h.allGet ha).perm pl1 |>.allGet hb |>.perm (List.Perm.cons _ pl1)) ?_
  refine fun ac w hf hs K hK => ?_
  obtain ⟨eb, hs⟩ := hs.ex
  obtain ⟨ea, hs⟩ := (hs.perm pl1).ex
  cases ea with
  | a s =>
    obtain ⟨hk, hta, hu⟩ := hs.pure
    have hs := hs.drop
    cases eb with
    | a t =>
      obtain ⟨hk2, htb, hu2⟩ := hs.pure
      rw [hta, hu] at hx
      rw [htb, hu2] at hys
      refine Eff.invoke (f := 74) (L0 := []) ho hx hys (fun _ => by kernel_rfl) Try.call74 (cmpa_spec s t) ac w hf hs.drop K fun v M w' hR hS => ?_
      obtain ⟨M, ⟨rfl, rfl⟩, rfl⟩ := hR
      exact hK _ _ _ ⟨by rw [hk, hk2], rfl⟩ hS
    | s t => exact absurd (hta.symm.trans (ht.trans hs.pure.2.1)) (by decide)
    | i t => exact absurd (hta.symm.trans (ht.trans hs.pure.2.1)) (by decide)
    | b t => exact absurd (hta.symm.trans (ht.trans hs.sep.pure.2)) (by decide)
  | s s =>
    obtain ⟨hk, hta, hu⟩ := hs.pure
    have hs := hs.drop
    cases eb with
    | s t =>
      obtain ⟨hk2, htb, hu2⟩ := hs.pure
      rw [hta, hu] at hx
      rw [htb, hu2] at hys
      refine Eff.invoke (f := 77) (L0 := []) ho hx hys (fun _ => by kernel_rfl) Try.call77 (cmps_spec s t) ac w hf hs.drop K fun v M w' hR hS => ?_
      obtain ⟨M, ⟨rfl, rfl⟩, rfl⟩ := hR
      exact hK _ _ _ ⟨by rw [hk, hk2], rfl⟩ hS
    | a t => exact absurd (hta.symm.trans (ht.trans hs.pure.2.1)) (by decide)
    | i t => exact absurd (hta.symm.trans (ht.trans hs.pure.2.1)) (by decide)
    | b t => exact absurd (hta.symm.trans (ht.trans hs.sep.pure.2)) (by decide)
  | i s =>
    obtain ⟨hk, hta, hu, hn⟩ := hs.pure
    have hs := hs.drop
    cases eb with
    | i t =>
      obtain ⟨hk2, htb, hu2, hn2⟩ := hs.pure
      rw [hta, hu] at hx
      rw [htb, hu2] at hys
      refine Eff.invoke (f := 76) (L0 := []) ho hx hys (fun _ => by kernel_rfl) Try.call76 (cmpi_spec s t hn hn2) ac w hf hs.drop K fun v M w' hR hS => ?_
      obtain ⟨M, ⟨rfl, rfl⟩, rfl⟩ := hR
      exact hK _ _ _ ⟨by rw [hk, hk2], rfl⟩ hS
    | a t => exact absurd (hta.symm.trans (ht.trans hs.pure.2.1)) (by decide)
    | s t => exact absurd (hta.symm.trans (ht.trans hs.pure.2.1)) (by decide)
    | b t => exact absurd (hta.symm.trans (ht.trans hs.sep.pure.2)) (by decide)
  | b s =>
    have hs : Sat W (Pure (a.k = kb s ∧ a.t = 132) :: Byts a.u s :: _) w := hs.sep
    obtain ⟨hk, hta⟩ := hs.pure
    have hs := hs.drop.perm pl1
    cases eb with
    | b t =>
      have hs : Sat W (Pure (b.k = kb t ∧ b.t = 132) :: Byts b.u t :: _) w := hs.sep
      obtain ⟨hk2, htb⟩ := hs.pure
      rw [hta] at hx
      rw [htb] at hys
      refine Eff.invoke (f := 75) (L0 := [Byts a.u s, Byts b.u t]) ho hx hys (fun _ => by kernel_rfl) Try.call75 (cmpb_spec a.u b.u s t) ac w hf (hs.drop.perm pl1) K fun v M w' hR hS => ?_
      obtain ⟨M, ⟨rfl, rfl⟩, rfl⟩ := hR
      exact hK _ _ _ ⟨by rw [hk, hk2], rfl⟩ hS.drop.drop
    | a t => exact absurd (hta.symm.trans (ht.trans hs.pure.2.1)) (by decide)
    | s t => exact absurd (hta.symm.trans (ht.trans hs.pure.2.1)) (by decide)
    | i t => exact absurd (hta.symm.trans (ht.trans hs.pure.2.1)) (by decide)
end
/-! the store -/
abbrev Sto (S : St) (D : List Nat) : HProp := Kds (fun i => Blk i (S i).cells 177) D
theorem pn168 : ptrN Try.prog 168 = true := by kernel_rfl
theorem whole {S : St} {D : List Nat} {s a : Nat} {ZC : List Value} {w : World} (h1 : Holds (Sto S D) w) (h2 : Holds (Blk s ZC 177) w) (h : Is s D a) : ∃ C, Holds (Blk a C 177) w := by
  rcases h with rfl | h
  · exact ⟨_, h2⟩
  · exact ⟨_, h1.kds h⟩
theorem sto_l {S : St} {D : List Nat} {x q : Nat} {w : World} (h : Holds (Sto S D) w) (hx : x ∈ D) (hk : (S x).l = q) : w.cell? ⟨x, 4, none⟩ = some (.pointer (some ⟨q, 0, none⟩)) := by subst hk; exact (h.kds hx).cell 4
theorem sto_r {S : St} {D : List Nat} {x q : Nat} {w : World} (h : Holds (Sto S D) w) (hx : x ∈ D) (hk : (S x).r = q) : w.cell? ⟨x, 5, none⟩ = some (.pointer (some ⟨q, 0, none⟩)) := by subst hk; exact (h.kds hx).cell 5
theorem sto_p {S : St} {D : List Nat} {x q : Nat} {w : World} (h : Holds (Sto S D) w) (hx : x ∈ D) (hk : (S x).p = q) : w.cell? ⟨x, 6, none⟩ = some (.pointer (some ⟨q, 0, none⟩)) := by subst hk; exact (h.kds hx).cell 6
theorem sto_c {S : St} {D : List Nat} {x : Nat} {q : Int} {w : World} (h : Holds (Sto S D) w) (hx : x ∈ D) (hk : (S x).c = q) : w.cell? ⟨x, 7, none⟩ = some (.int .i64 q) := by subst hk; exact (h.kds hx).cell 7
theorem sto_m {S : St} {D : List Nat} {x : Nat} {q : En} {w : World} (h : Holds (Sto S D) w) (hx : x ∈ D) (hk : (S x).m = q) : w.cell? ⟨x, 3, none⟩ = some (.iface q.t q.u) := by subst hk; exact (h.kds hx).cell 3
theorem sto_b {S : St} {D : List Nat} {x : Nat} {q : En} {w : World} (h : Holds (Sto S D) w) (hx : x ∈ D) (hk : (S x).it.b = q) : w.cell? ⟨x, 0, none⟩ = some (.iface q.t q.u) := by subst hk; exact (h.kds hx).cell 0
theorem sto_e {S : St} {D : List Nat} {x : Nat} {q : En} {w : World} (h : Holds (Sto S D) w) (hx : x ∈ D) (hk : (S x).it.e = q) : w.cell? ⟨x, 1, none⟩ = some (.iface q.t q.u) := by subst hk; exact (h.kds hx).cell 1
theorem sto_v {S : St} {D : List Nat} {x : Nat} {q : Value} {w : World} (h : Holds (Sto S D) w) (hx : x ∈ D) (hk : (S x).it.v = q) : w.cell? ⟨x, 2, none⟩ = some q := by subst hk; exact (h.kds hx).cell 2
theorem cells_other {S : St} {x : Nat} {y : NR} : ∀ j, j ≠ x → (upd S x y j).cells = (S j).cells := fun j hj => by rw [upd_other _ _ hj]

end Go.Proofs.Ytbomnihiapjmpaa.Tc

namespace Go.Proofs.Ytbomnihiapjmpaa.Td
open Go.RowKit Go.Proofs.Ytbomnihiapjmpaa Go.Proofs.Ytbomnihiapjmpaa.Sl Go.Proofs.Ytbomnihiapjmpaa.TrP Go.Proofs.Ytbomnihiapjmpaa.Tc
set_option linter.unusedVariables false
set_option linter.unusedSimpArgs false
set_option linter.unusedSectionVars false


theorem pe168 : ptrE Try.prog 168 = true := by kernel_rfl
/-- the place of a span among others: -1, 1, or 0 where they meet -/
def icmp (ab ae bb be : Ky) : Int := if klt ab bb ∧ ¬ klt bb ae then -1 else if ¬ klt ab be then 1 else 0
theorem icmp_n {ab ae bb be : Ky} (h1 : kcmp ab bb < 0) (h2 : kcmp ae bb ≤ 0) : (-1 : Int) = icmp ab ae bb be := by
  unfold icmp; rw [if_pos ⟨kcmp_lt.1 h1, fun h => by have := kcmp_gt.2 h; omega⟩]
theorem icmp_p {ab ae bb be : Ky} (h1 : ¬ (kcmp ab bb < 0 ∧ kcmp ae bb ≤ 0)) (h2 : 0 ≤ kcmp ab be) : (1 : Int) = icmp ab ae bb be := by
  unfold icmp; rw [if_neg (fun h => h1 ⟨kcmp_lt.2 h.1, by rcases Int.lt_or_le 0 (kcmp ae bb) with h3 | h3; exact absurd (kcmp_gt.1 h3) h.2; exact h3⟩), if_pos (fun h => by have := kcmp_lt.2 h; omega)]
theorem icmp_z {ab ae bb be : Ky} (h1 : ¬ (kcmp ab bb < 0 ∧ kcmp ae bb ≤ 0)) (h2 : kcmp ab be < 0) : (0 : Int) = icmp ab ae bb be := by
  unfold icmp; rw [if_neg (fun h => h1 ⟨kcmp_lt.2 h.1, by rcases Int.lt_or_le 0 (kcmp ae bb) with h3 | h3; exact absurd (kcmp_gt.1 h3) h.2; exact h3⟩), if_neg (fun h => h (kcmp_lt.1 h2))]
set_option maxRecDepth 100000 in
set_option maxHeartbeats 2000000 in
theorem icmp_does (A B : HProp) (EL : List En) (t0 : TypeId) (hE : ∀ e ∈ EL, e.t = t0) (pa pb : Nat) (xab xae xbb xbe : En) (mab : xab ∈ EL) (mae : xae ∈ EL) (mbb : xbb ∈ EL) (mbe : xbe ∈ EL) (hab : ∀ w, Holds A w → w.cell? ⟨pa, 0, none⟩ = some (.iface xab.t xab.u)) (hae : ∀ w, Holds A w → w.cell? ⟨pa, 1, none⟩ = some (.iface xae.t xae.u)) (hbb : ∀ w, Holds B w → w.cell? ⟨pb, 0, none⟩ = some (.iface xbb.t xbb.u)) (hbe : ∀ w, Holds B w → w.cell? ⟨pb, 1, none⟩ = some (.iface xbe.t xbe.u)) : Does Try.prog 153 [.pointer (some ⟨pa, 0, none⟩), .iface 279 (.pointer (some ⟨pb, 0, none⟩))] [A, B, Ens EL] (fun v L => v = .int .i64 (icmp xab.k xae.k xbb.k xbe.k) ∧ L = [A, B, Ens EL]) := by
  refine Does.enter 52 Try.func153 rfl rfl rfl fun W F => ?_
  show WPc _ _ _ _ _ [(0, .pointer (some ⟨pa, 0, none⟩)), (1, .iface 279 (.pointer (some ⟨pb, 0, none⟩)))] (A :: B :: Ens EL :: F)
  refine WPc.seq ?_
  refine WPc.region ?_
  refine WP.val rfl rfl rfl (Val.assign rfl rfl) ?_
  refine WP.nil ?_
  refine Out.next ?_
  refine WPc.seq ?_
  refine WPc.region ?_
  refine WP.val rfl rfl rfl (Val.move rfl rfl) ?_
  refine WP.val rfl rfl rfl (Val.assertC rfl Ty.ni279 rfl) ?_
  refine WP.val rfl rfl rfl (Val.assign rfl rfl) ?_
  refine WP.nil ?_
  refine Out.next ?_
  refine WPc.seq ?_
  refine WPD.start (Sat W (A :: B :: Ens EL :: F)) Ty.mixed ?_
  refine WPD.takeM 0 rfl rfl rfl rfl (by kernel_rfl) (by kernel_rfl) (by kernel_rfl) (by kernel_rfl) (fun _ _ _ h => h) (fun _ h => h) (Val.move rfl rfl) ?_
  refine WPD.takeM 1 rfl rfl rfl rfl (by kernel_rfl) (by kernel_rfl) (by kernel_rfl) (by kernel_rfl) (fun _ _ _ h => h) (fun _ h => h) (Val.nilCheck rfl rfl) ?_
  refine WPD.takeM 2 rfl rfl rfl rfl (by kernel_rfl) (by kernel_rfl) (by kernel_rfl) (by kernel_rfl) (fun _ _ _ h => h) (fun _ h => h) (Val.fieldAddr (j := 0) rfl Ty.fo172_0 rfl rfl) ?_
  refine WPD.take 3 rfl rfl rfl rfl (by kernel_rfl) (by kernel_rfl) (by kernel_rfl) (by kernel_rfl) (fun _ _ _ h => h) (by kernel_rfl) (fun _ h => h) (Val.load (v := .iface xab.t (xab.u)) rfl Ty.sc170 rfl (fun w h => hab w (h.at 0 rfl))) ?_
  refine WPD.takeM 4 rfl rfl rfl rfl (by kernel_rfl) (by kernel_rfl) (by kernel_rfl) (by kernel_rfl) (fun _ _ _ h => h) (fun _ h => h) (Val.move rfl rfl) ?_
  refine WPD.takeM 5 rfl rfl rfl rfl (by kernel_rfl) (by kernel_rfl) (by kernel_rfl) (by kernel_rfl) (fun _ _ _ h => h) (fun _ h => h) (Val.nilCheck rfl rfl) ?_
  refine WPD.takeM 6 rfl rfl rfl rfl (by kernel_rfl) (by kernel_rfl) (by kernel_rfl) (by kernel_rfl) (fun _ _ _ h => h) (fun _ h => h) (Val.fieldAddr (j := 0) rfl Ty.fo172_0 rfl rfl) ?_
  refine WPD.take 7 rfl rfl rfl rfl (by kernel_rfl) (by kernel_rfl) (by kernel_rfl) (by kernel_rfl) (fun _ _ _ h => h) (by kernel_rfl) (fun _ h => h) (Val.load (v := .iface xbb.t (xbb.u)) rfl Ty.sc170 rfl (fun w h => hbb w (h.at 1 rfl))) ?_
  refine WPD.takeM 8 rfl rfl rfl rfl (by kernel_rfl) (by kernel_rfl) (by kernel_rfl) (by kernel_rfl) (fun _ _ _ h => h) (fun _ h => h) (Val.nilCheckI rfl rfl) ?_
  refine WPD.takeM 9 rfl rfl rfl rfl (by kernel_rfl) (by kernel_rfl) (by kernel_rfl) (by kernel_rfl) (fun _ _ _ h => h) (fun _ h => h) (Val.move rfl rfl) ?_
  refine WPD.perm pl2 ?_
  refine WPD.stepC 10 (by kernel_rfl) rfl rfl rfl rfl (by kernel_rfl) (Eff.cmp (a := xab) (b := xbb) rfl rfl rfl mab mbb ((hE _ mab).trans (hE _ mbb).symm)) ?_
  rintro _ _ ⟨rfl, rfl⟩
  refine ⟨(Sat W (Ens EL :: A :: B :: F)), (fun _ h => h), ?_⟩
  refine WPD.takeM 11 rfl rfl rfl rfl (by kernel_rfl) (by kernel_rfl) (by kernel_rfl) (by kernel_rfl) (fun _ _ _ h => h) (fun _ h => h) (Val.assign rfl rfl) ?_
  refine WPD.done (by kernel_rfl) ?_
  refine Out.next ?_
  refine WPc.seq ?_
  refine WPD.start (Sat W (Ens EL :: A :: B :: F)) Ty.mixed ?_
  refine WPD.takeM 0 rfl rfl rfl rfl (by kernel_rfl) (by kernel_rfl) (by kernel_rfl) (by kernel_rfl) (fun _ _ _ h => h) (fun _ h => h) (Val.move rfl rfl) ?_
  refine WPD.takeM 1 rfl rfl rfl rfl (by kernel_rfl) (by kernel_rfl) (by kernel_rfl) (by kernel_rfl) (fun _ _ _ h => h) (fun _ h => h) (Val.nilCheck rfl rfl) ?_
  refine WPD.takeM 2 rfl rfl rfl rfl (by kernel_rfl) (by kernel_rfl) (by kernel_rfl) (by kernel_rfl) (fun _ _ _ h => h) (fun _ h => h) (Val.fieldAddr (j := 0) rfl Ty.fo172_0 rfl rfl) ?_
  refine WPD.take 3 rfl rfl rfl rfl (by kernel_rfl) (by kernel_rfl) (by kernel_rfl) (by kernel_rfl) (fun _ _ _ h => h) (by kernel_rfl) (fun _ h => h) (Val.load (v := .iface xab.t (xab.u)) rfl Ty.sc170 rfl (fun w h => hab w (h.at 1 rfl))) ?_
  refine WPD.takeM 4 rfl rfl rfl rfl (by kernel_rfl) (by kernel_rfl) (by kernel_rfl) (by kernel_rfl) (fun _ _ _ h => h) (fun _ h => h) (Val.move rfl rfl) ?_
  refine WPD.takeM 5 rfl rfl rfl rfl (by kernel_rfl) (by kernel_rfl) (by kernel_rfl) (by kernel_rfl) (fun _ _ _ h => h) (fun _ h => h) (Val.nilCheck rfl rfl) ?_
  refine WPD.takeM 6 rfl rfl rfl rfl (by kernel_rfl) (by kernel_rfl) (by kernel_rfl) (by kernel_rfl) (fun _ _ _ h => h) (fun _ h => h) (Val.fieldAddr (j := 1) rfl Ty.fo172_1 rfl rfl) ?_
  refine WPD.take 7 rfl rfl rfl rfl (by kernel_rfl) (by kernel_rfl) (by kernel_rfl) (by kernel_rfl) (fun _ _ _ h => h) (by kernel_rfl) (fun _ h => h) (Val.load (v := .iface xbe.t (xbe.u)) rfl Ty.sc170 rfl (fun w h => hbe w (h.at 2 rfl))) ?_
  refine WPD.takeM 8 rfl rfl rfl rfl (by kernel_rfl) (by kernel_rfl) (by kernel_rfl) (by kernel_rfl) (fun _ _ _ h => h) (fun _ h => h) (Val.nilCheckI rfl rfl) ?_
  refine WPD.takeM 9 rfl rfl rfl rfl (by kernel_rfl) (by kernel_rfl) (by kernel_rfl) (by kernel_rfl) (fun _ _ _ h => h) (fun _ h => h) (Val.move rfl rfl) ?_
  refine WPD.stepC 10 (by kernel_rfl) rfl rfl rfl rfl (by kernel_rfl) (Eff.cmp (a := xab) (b := xbe) rfl rfl rfl mab mbe ((hE _ mab).trans (hE _ mbe).symm)) ?_
  rintro _ _ ⟨rfl, rfl⟩
  refine ⟨(Sat W (Ens EL :: A :: B :: F)), (fun _ h => h), ?_⟩
  refine WPD.takeM 11 rfl rfl rfl rfl (by kernel_rfl) (by kernel_rfl) (by kernel_rfl) (by kernel_rfl) (fun _ _ _ h => h) (fun _ h => h) (Val.assign rfl rfl) ?_
  refine WPD.done (by kernel_rfl) ?_
  refine Out.next ?_
  refine WPc.seq ?_
  refine WPD.start (Sat W (Ens EL :: A :: B :: F)) Ty.mixed ?_
  refine WPD.takeM 0 rfl rfl rfl rfl (by kernel_rfl) (by kernel_rfl) (by kernel_rfl) (by kernel_rfl) (fun _ _ _ h => h) (fun _ h => h) (Val.move rfl rfl) ?_
  refine WPD.takeM 1 rfl rfl rfl rfl (by kernel_rfl) (by kernel_rfl) (by kernel_rfl) (by kernel_rfl) (fun _ _ _ h => h) (fun _ h => h) (Val.nilCheck rfl rfl) ?_
  refine WPD.takeM 2 rfl rfl rfl rfl (by kernel_rfl) (by kernel_rfl) (by kernel_rfl) (by kernel_rfl) (fun _ _ _ h => h) (fun _ h => h) (Val.fieldAddr (j := 1) rfl Ty.fo172_1 rfl rfl) ?_
  refine WPD.take 3 rfl rfl rfl rfl (by kernel_rfl) (by kernel_rfl) (by kernel_rfl) (by kernel_rfl) (fun _ _ _ h => h) (by kernel_rfl) (fun _ h => h) (Val.load (v := .iface xae.t (xae.u)) rfl Ty.sc170 rfl (fun w h => hae w (h.at 1 rfl))) ?_
  refine WPD.takeM 4 rfl rfl rfl rfl (by kernel_rfl) (by kernel_rfl) (by kernel_rfl) (by kernel_rfl) (fun _ _ _ h => h) (fun _ h => h) (Val.move rfl rfl) ?_
  refine WPD.takeM 5 rfl rfl rfl rfl (by kernel_rfl) (by kernel_rfl) (by kernel_rfl) (by kernel_rfl) (fun _ _ _ h => h) (fun _ h => h) (Val.nilCheck rfl rfl) ?_
  refine WPD.takeM 6 rfl rfl rfl rfl (by kernel_rfl) (by kernel_rfl) (by kernel_rfl) (by kernel_rfl) (fun _ _ _ h => h) (fun _ h => h) (Val.fieldAddr (j := 0) rfl Ty.fo172_0 rfl rfl) ?_
  refine WPD.take 7 rfl rfl rfl rfl (by kernel_rfl) (by kernel_rfl) (by kernel_rfl) (by kernel_rfl) (fun _ _ _ h => h) (by kernel_rfl) (fun _ h => h) (Val.load (v := .iface xbb.t (xbb.u)) rfl Ty.sc170 rfl (fun w h => hbb w (h.at 2 rfl))) ?_
  refine WPD.takeM 8 rfl rfl rfl rfl (by kernel_rfl) (by kernel_rfl) (by kernel_rfl) (by kernel_rfl) (fun _ _ _ h => h) (fun _ h => h) (Val.nilCheckI rfl rfl) ?_
  refine WPD.takeM 9 rfl rfl rfl rfl (by kernel_rfl) (by kernel_rfl) (by kernel_rfl) (by kernel_rfl) (fun _ _ _ h => h) (fun _ h => h) (Val.move rfl rfl) ?_
  refine WPD.stepC 10 (by kernel_rfl) rfl rfl rfl rfl (by kernel_rfl) (Eff.cmp (a := xae) (b := xbb) rfl rfl rfl mae mbb ((hE _ mae).trans (hE _ mbb).symm)) ?_
  rintro _ _ ⟨rfl, rfl⟩
  refine ⟨(Sat W (Ens EL :: A :: B :: F)), (fun _ h => h), ?_⟩
  refine WPD.takeM 11 rfl rfl rfl rfl (by kernel_rfl) (by kernel_rfl) (by kernel_rfl) (by kernel_rfl) (fun _ _ _ h => h) (fun _ h => h) (Val.assign rfl rfl) ?_
  refine WPD.done (by kernel_rfl) ?_
  refine Out.next ?_
  refine WPc.seq ?_
  refine WPc.seq ?_
  refine WPc.region ?_
  refine WP.val rfl rfl rfl (Val.move rfl rfl) ?_
  refine WP.val rfl rfl rfl (Val.lss rfl rfl rfl) ?_
  refine WP.val rfl rfl rfl (Val.move rfl rfl) ?_
  refine WP.split 46 rfl (fun h1 => ?_) (fun h1 => ?_)
  · skip
    have h1 : ((kcmp xab.k xbb.k) < (0 : Int)) := h1
    refine WP.valG rfl rfl rfl rfl rfl rfl rfl (Val.move rfl rfl) ?_
    refine WP.valG rfl rfl rfl rfl rfl rfl rfl (Val.leq rfl rfl rfl) ?_
    refine WP.val rfl rfl rfl (Val.pickT rfl rfl rfl) ?_
    refine WP.nil ?_
    refine Out.next ?_
    refine WPc.ifP rfl (fun h2 => ?_) (fun h2 => ?_)
    · skip
      have h2 : ((kcmp xae.k xbb.k) ≤ (0 : Int)) := h2
      refine WPc.seq ?_
      refine WPc.region ?_
      refine WP.val rfl rfl rfl (Val.assign rfl rfl) ?_
      refine WP.nil ?_
      refine Out.next ?_
      refine WPc.ret ?_
      refine Out.then_ret ?_
      refine Out.perm pl2 ?_
      refine Out.perm pl2 ?_
      exact Out.ret1 (L' := _) Try.results153 rfl ⟨congrArg (Value.int .i64) (icmp_n (by assumption) (by assumption)), rfl⟩ (fun _ h => h)
    · skip
      have h2 : ¬ ((kcmp xae.k xbb.k) ≤ (0 : Int)) := h2
      refine WPc.skip ?_
      refine Out.next ?_
      refine WPc.seq ?_
      refine WPc.seq ?_
      refine WPc.region ?_
      refine WP.val rfl rfl rfl (Val.move rfl rfl) ?_
      refine WP.val rfl rfl rfl (Val.geq rfl rfl rfl) ?_
      refine WP.nil ?_
      refine Out.next ?_
      refine WPc.ifP rfl (fun h3 => ?_) (fun h3 => ?_)
      · skip
        have h3 : ((0 : Int) ≤ (kcmp xab.k xbe.k)) := h3
        refine WPc.seq ?_
        refine WPc.region ?_
        refine WP.val rfl rfl rfl (Val.assign rfl rfl) ?_
        refine WP.nil ?_
        refine Out.next ?_
        refine WPc.ret ?_
        refine Out.then_ret ?_
        refine Out.perm pl2 ?_
        refine Out.perm pl2 ?_
        exact Out.ret1 (L' := _) Try.results153 rfl ⟨congrArg (Value.int .i64) (icmp_p (by omega) (by omega)), rfl⟩ (fun _ h => h)
      · skip
        have h3 : ¬ ((0 : Int) ≤ (kcmp xab.k xbe.k)) := h3
        refine WPc.skip ?_
        refine Out.next ?_
        refine WPc.seq ?_
        refine WPc.region ?_
        refine WP.val rfl rfl rfl (Val.assign rfl rfl) ?_
        refine WP.nil ?_
        refine Out.next ?_
        refine WPc.ret ?_
        refine Out.perm pl2 ?_
        refine Out.perm pl2 ?_
        exact Out.ret1 (L' := _) Try.results153 rfl ⟨congrArg (Value.int .i64) (icmp_z (by omega) (by omega)), rfl⟩ (fun _ h => h)
  · skip
    have h1 : ¬ ((kcmp xab.k xbb.k) < (0 : Int)) := h1
    refine WP.skip rfl rfl rfl rfl rfl rfl rfl ?_
    refine WP.skip rfl rfl rfl rfl rfl rfl rfl ?_
    refine WP.val rfl rfl rfl (Val.pickF rfl rfl rfl) ?_
    refine WP.nil ?_
    refine Out.next ?_
    refine WPc.condF rfl rfl ?_
    refine WPc.skip ?_
    refine Out.next ?_
    refine WPc.seq ?_
    refine WPc.seq ?_
    refine WPc.region ?_
    refine WP.val rfl rfl rfl (Val.move rfl rfl) ?_
    refine WP.val rfl rfl rfl (Val.geq rfl rfl rfl) ?_
    refine WP.nil ?_
    refine Out.next ?_
    refine WPc.ifP rfl (fun h4 => ?_) (fun h4 => ?_)
    · skip
      have h4 : ((0 : Int) ≤ (kcmp xab.k xbe.k)) := h4
      refine WPc.seq ?_
      refine WPc.region ?_
      refine WP.val rfl rfl rfl (Val.assign rfl rfl) ?_
      refine WP.nil ?_
      refine Out.next ?_
      refine WPc.ret ?_
      refine Out.then_ret ?_
      refine Out.perm pl2 ?_
      refine Out.perm pl2 ?_
      exact Out.ret1 (L' := _) Try.results153 rfl ⟨congrArg (Value.int .i64) (icmp_p (by omega) (by omega)), rfl⟩ (fun _ h => h)
    · skip
      have h4 : ¬ ((0 : Int) ≤ (kcmp xab.k xbe.k)) := h4
      refine WPc.skip ?_
      refine Out.next ?_
      refine WPc.seq ?_
      refine WPc.region ?_
      refine WP.val rfl rfl rfl (Val.assign rfl rfl) ?_
      refine WP.nil ?_
      refine Out.next ?_
      refine WPc.ret ?_
      refine Out.perm pl2 ?_
      refine Out.perm pl2 ?_
      exact Out.ret1 (L' := _) Try.results153 rfl ⟨congrArg (Value.int .i64) (icmp_z (by omega) (by omega)), rfl⟩ (fun _ h => h)

end Go.Proofs.Ytbomnihiapjmpaa.Td

namespace Go.Proofs.Ytbomnihiapjmpaa.TrP
open Go.RowKit Go.Lib Go.Proofs.Ytbomnihiapjmpaa Go.Proofs.Ytbomnihiapjmpaa.Sl
set_option linter.unusedVariables false
set_option linter.unusedSimpArgs false
set_option linter.unusedSectionVars false

/-- y in x's place, below x's parent -/
def rp (s n : Nat) (S : St) (root x y : Nat) : St × Nat :=
  if (S x).p = s then (upd (upd S y { S y with p := (S x).p }) x { upd S y { S y with p := (S x).p } x with p := y }, y)
  else
    (upd (um s n (if x = (S (S x).p).l then upd (upd S y { S y with p := (S x).p }) (S x).p { upd S y { S y with p := (S x).p } (S x).p with l := y } else upd (upd S y { S y with p := (S x).p }) (S x).p { upd S y { S y with p := (S x).p } (S x).p with r := y }) (S x).p) x
      { um s n (if x = (S (S x).p).l then upd (upd S y { S y with p := (S x).p }) (S x).p { upd S y { S y with p := (S x).p } (S x).p with l := y } else upd (upd S y { S y with p := (S x).p }) (S x).p { upd S y { S y with p := (S x).p } (S x).p with r := y }) (S x).p x with p := y }, root)
theorem rp_top {s n root x y : Nat} {S : St} (h : (S x).p = s) : rp s n S root x y = (setP (setP S y (S x).p) x y, y) := if_pos h
theorem rp_left {s n root x y : Nat} {S : St} (h : (S x).p ≠ s) (h2 : x = (S (S x).p).l) : rp s n S root x y = (setP (um s n (setL (setP S y (S x).p) (S x).p y) (S x).p) x y, root) := by
  unfold rp
  rw [if_neg h]
  simp only [if_pos h2]
  rfl
theorem rp_right {s n root x y : Nat} {S : St} (h : (S x).p ≠ s) (h2 : ¬ x = (S (S x).p).l) : rp s n S root x y = (setP (um s n (setR (setP S y (S x).p) (S x).p y) (S x).p) x y, root) := by
  unfold rp
  rw [if_neg h]
  simp only [if_neg h2]
  rfl
theorem rp_ok {s n root x y : Nat} {S : St} {EL : List En} {D : List Nat} (h : Ok s EL D S) (hx : x ∈ D) (hy : y ∈ D) : Ok s EL D (rp s n S root x y).1 := by
  by_cases h1 : (S x).p = s
  · rw [rp_top h1]
    exact (h.setP (h.p hx)).setP (.inr hy)
  · by_cases h2 : x = (S (S x).p).l
    · rw [rp_left h1 h2]
      exact (um_ok _ _ _ ((h.setP (h.p hx)).setL (.inr hy)) (h.p hx)).setP (.inr hy)
    · rw [rp_right h1 h2]
      exact (um_ok _ _ _ ((h.setP (h.p hx)).setR (.inr hy)) (h.p hx)).setP (.inr hy)
/-! rotations -/
theorem rp_root {s n root x y : Nat} {S : St} {D : List Nat} (h : Is s D root) (hy : y ∈ D) : Is s D (rp s n S root x y).2 := by
  by_cases h1 : (S x).p = s
  · rw [rp_top h1]; exact .inr hy
  · by_cases h2 : x = (S (S x).p).l
    · rw [rp_left h1 h2]; exact h
    · rw [rp_right h1 h2]; exact h

def rl2 (s : Nat) (S : St) (x : Nat) : St := if (S (S x).r).l ≠ s then setP (setR S x (S (S x).r).l) (S (S x).r).l x else setR S x (S (S x).r).l
def rl3 (s n : Nat) (S : St) (x : Nat) : St := um s n (rl2 s S x) x
def rl4 (s n : Nat) (S : St) (root x : Nat) : St × Nat := rp s n (rl3 s n S x) root x (S x).r
def rl5 (s n : Nat) (S : St) (root x : Nat) : St := setL (rl4 s n S root x).1 (S x).r x
/-- x's other child in its place -/
def rl (s n : Nat) (S : St) (root x : Nat) : St × Nat := if (S x).r = s then (S, root) else (um s n (rl5 s n S root x) (S x).r, (rl4 s n S root x).2)
structure RlOk (s n : Nat) (S : St) (root x : Nat) : Prop where
  ne : x ≠ (S x).r
  d1 : Dep s (rl2 s S x) n x
  d2 : (rl3 s n S x x).p ≠ s → Dep s (setP (rl3 s n S x) (S x).r (rl3 s n S x x).p) n (rl3 s n S x x).p
  d3 : Dep s (rl5 s n S root x) n (S x).r
theorem rl_s {s n root x : Nat} {S : St} (h : (S x).r = s) : rl s n S root x = (S, root) := if_pos h
theorem rl_ne {s n root x : Nat} {S : St} (h : ¬ (S x).r = s) : rl s n S root x = (um s n (rl5 s n S root x) (S x).r, (rl4 s n S root x).2) := if_neg h
theorem rl2_pos {s x : Nat} {S : St} (h : (S (S x).r).l ≠ s) : rl2 s S x = setP (setR S x (S (S x).r).l) (S (S x).r).l x := if_pos h
theorem rl2_neg {s x : Nat} {S : St} (h : ¬ (S (S x).r).l ≠ s) : rl2 s S x = setR S x (S (S x).r).l := if_neg h
theorem rl2_ok {s x : Nat} {S : St} {EL : List En} {D : List Nat} (h : Ok s EL D S) (hx : x ∈ D) (hr : (S x).r ≠ s) : Ok s EL D (rl2 s S x) := by
  have hy : (S x).r ∈ D := (h.r hx).mem hr
  by_cases hb : (S (S x).r).l ≠ s
  · rw [rl2_pos hb]; exact (h.setR (h.l hy)).setP (.inr hx)
  · rw [rl2_neg hb]; exact h.setR (h.l hy)
theorem rl_ok {s n root x : Nat} {S : St} {EL : List En} {D : List Nat} (h : Ok s EL D S) (hx : x ∈ D) : Ok s EL D (rl s n S root x).1 := by
  by_cases hr : (S x).r = s
  · rw [rl_s hr]; exact h
  · have hy : (S x).r ∈ D := (h.r hx).mem hr
    rw [rl_ne hr]
    exact um_ok _ _ _ ((rp_ok (um_ok _ _ _ (rl2_ok h hx hr) (.inr hx)) hx hy).setL (.inr hx)) (.inr hy)
theorem rl_root {s n root x : Nat} {S : St} {EL : List En} {D : List Nat} (h : Ok s EL D S) (hx : x ∈ D) (hroot : Is s D root) : Is s D (rl s n S root x).2 := by
  by_cases hr : (S x).r = s
  · rw [rl_s hr]; exact hroot
  · rw [rl_ne hr]; exact rp_root hroot ((h.r hx).mem hr)

def rr2 (s : Nat) (S : St) (x : Nat) : St := if (S (S x).l).r ≠ s then setP (setL S x (S (S x).l).r) (S (S x).l).r x else setL S x (S (S x).l).r
def rr3 (s n : Nat) (S : St) (x : Nat) : St := um s n (rr2 s S x) x
def rr4 (s n : Nat) (S : St) (root x : Nat) : St × Nat := rp s n (rr3 s n S x) root x (S x).l
def rr5 (s n : Nat) (S : St) (root x : Nat) : St := setR (rr4 s n S root x).1 (S x).l x
/-- x's other child in its place -/
def rr (s n : Nat) (S : St) (root x : Nat) : St × Nat := if (S x).l = s then (S, root) else (um s n (rr5 s n S root x) (S x).l, (rr4 s n S root x).2)
structure RrOk (s n : Nat) (S : St) (root x : Nat) : Prop where
  ne : x ≠ (S x).l
  d1 : Dep s (rr2 s S x) n x
  d2 : (rr3 s n S x x).p ≠ s → Dep s (setP (rr3 s n S x) (S x).l (rr3 s n S x x).p) n (rr3 s n S x x).p
  d3 : Dep s (rr5 s n S root x) n (S x).l
theorem rr_s {s n root x : Nat} {S : St} (h : (S x).l = s) : rr s n S root x = (S, root) := if_pos h
theorem rr_ne {s n root x : Nat} {S : St} (h : ¬ (S x).l = s) : rr s n S root x = (um s n (rr5 s n S root x) (S x).l, (rr4 s n S root x).2) := if_neg h
theorem rr2_pos {s x : Nat} {S : St} (h : (S (S x).l).r ≠ s) : rr2 s S x = setP (setL S x (S (S x).l).r) (S (S x).l).r x := if_pos h
theorem rr2_neg {s x : Nat} {S : St} (h : ¬ (S (S x).l).r ≠ s) : rr2 s S x = setL S x (S (S x).l).r := if_neg h
theorem rr2_ok {s x : Nat} {S : St} {EL : List En} {D : List Nat} (h : Ok s EL D S) (hx : x ∈ D) (hr : (S x).l ≠ s) : Ok s EL D (rr2 s S x) := by
  have hy : (S x).l ∈ D := (h.l hx).mem hr
  by_cases hb : (S (S x).l).r ≠ s
  · rw [rr2_pos hb]; exact (h.setL (h.r hy)).setP (.inr hx)
  · rw [rr2_neg hb]; exact h.setL (h.r hy)
theorem rr_ok {s n root x : Nat} {S : St} {EL : List En} {D : List Nat} (h : Ok s EL D S) (hx : x ∈ D) : Ok s EL D (rr s n S root x).1 := by
  by_cases hr : (S x).l = s
  · rw [rr_s hr]; exact h
  · have hy : (S x).l ∈ D := (h.l hx).mem hr
    rw [rr_ne hr]
    exact um_ok _ _ _ ((rp_ok (um_ok _ _ _ (rr2_ok h hx hr) (.inr hx)) hx hy).setR (.inr hx)) (.inr hy)
theorem rr_root {s n root x : Nat} {S : St} {EL : List En} {D : List Nat} (h : Ok s EL D S) (hx : x ∈ D) (hroot : Is s D root) : Is s D (rr s n S root x).2 := by
  by_cases hr : (S x).l = s
  · rw [rr_s hr]; exact hroot
  · rw [rr_ne hr]; exact rp_root hroot ((h.l hx).mem hr)
end Go.Proofs.Ytbomnihiapjmpaa.TrP

namespace Go.Proofs.Ytbomnihiapjmpaa.TrP
open Go.RowKit Go.Lib Go.Proofs.Ytbomnihiapjmpaa Go.Proofs.Ytbomnihiapjmpaa.Sl
set_option linter.unusedVariables false
set_option linter.unusedSimpArgs false
set_option linter.unusedSectionVars false
/-- black where there is no node -/
def colr (s : Nat) (S : St) (x : Nat) : Int := if x = s then 0 else (S x).c
theorem colr_ne {s x : Nat} {S : St} (h : colr s S x = 1) : x ≠ s := fun e => by unfold colr at h; rw [if_pos e] at h; cases h

def fxUl (s : Nat) (S : St) (z : Nat) : Bool := decide (colr s S (S (S (S z).p).p).r = 1)
def fxQl (s n : Nat) (S : St) (root z : Nat) : St × Nat := if z = (S (S z).p).r then rl s n S root (S z).p else (S, root)
def fxZl (S : St) (z : Nat) : Nat := if z = (S (S z).p).r then (S z).p else z
def fx3 (S : St) (z : Nat) : St := setC (setC S (S z).p 0) (S (S z).p).p 1
def fxBl (s n : Nat) (S : St) (root z : Nat) : St × Nat := rr s n (fx3 S z) root (S (S z).p).p
def fxCl (S : St) (z : Nat) : St := setC (setC (setC S (S (S (S z).p).p).r 0) (S z).p 0) (S (S z).p).p 1
def fxl (s n : Nat) (S : St) (root z : Nat) : St × Nat × Nat :=
  if colr s S (S (S (S z).p).p).r = 1 then (fxCl S z, root, (S (S z).p).p)
  else ((fxBl s n (fxQl s n S root z).1 (fxQl s n S root z).2 (fxZl S z)).1, (fxBl s n (fxQl s n S root z).1 (fxQl s n S root z).2 (fxZl S z)).2, fxZl S z)
structure FxBl (s n : Nat) (S : St) (root z : Nat) : Prop where
  p : (S z).p ≠ s
  g : (S (S z).p).p ≠ s
  ok : ¬ (fx3 S z (S (S z).p).p).l = s → RrOk s n (fx3 S z) root (S (S z).p).p
structure FxL (s n : Nat) (S : St) (root z : Nat) : Prop where
  rot : ¬ colr s S (S (S (S z).p).p).r = 1 → z = (S (S z).p).r → ¬ (S (S z).p).r = s → RlOk s n S root (S z).p
  b : ¬ colr s S (S (S (S z).p).p).r = 1 → FxBl s n (fxQl s n S root z).1 (fxQl s n S root z).2 (fxZl S z)
theorem fxl_c {s n root z : Nat} {S : St} (h : colr s S (S (S (S z).p).p).r = 1) : fxl s n S root z = (fxCl S z, root, (S (S z).p).p) := if_pos h
theorem fxl_b {s n root z : Nat} {S : St} (h : ¬ colr s S (S (S (S z).p).p).r = 1) : fxl s n S root z = ((fxBl s n (fxQl s n S root z).1 (fxQl s n S root z).2 (fxZl S z)).1, (fxBl s n (fxQl s n S root z).1 (fxQl s n S root z).2 (fxZl S z)).2, fxZl S z) := if_neg h
theorem fxQl_y {s n root z : Nat} {S : St} (h : z = (S (S z).p).r) : fxQl s n S root z = rl s n S root (S z).p := if_pos h
theorem fxQl_n {s n root z : Nat} {S : St} (h : ¬ z = (S (S z).p).r) : fxQl s n S root z = (S, root) := if_neg h
theorem fxZl_y {z : Nat} {S : St} (h : z = (S (S z).p).r) : fxZl S z = (S z).p := if_pos h
theorem fxZl_n {z : Nat} {S : St} (h : ¬ z = (S (S z).p).r) : fxZl S z = z := if_neg h

theorem fx3_ok {s z : Nat} {S : St} {EL : List En} {D : List Nat} (h : Ok s EL D S) : Ok s EL D (fx3 S z) := h.setC.setC

theorem fxl_ok {s n root z : Nat} {S : St} {EL : List En} {D : List Nat} (h : Ok s EL D S) (hz : z ∈ D) (hroot : Is s D root) (hp : (S z).p ≠ s) (hg : (S (S z).p).p ≠ s) (hf : FxL s n S root z) : Ok s EL D (fxl s n S root z).1 ∧ Is s D (fxl s n S root z).2.1 ∧ (fxl s n S root z).2.2 ∈ D := by
  have hpD := (h.p hz).mem hp
  by_cases hu : colr s S (S (S (S z).p).p).r = 1
  · rw [fxl_c hu]
    exact ⟨h.setC.setC.setC, hroot, (h.p hpD).mem hg⟩
  · rw [fxl_b hu]
    have hb := hf.b hu
    have hq : Ok s EL D (fxQl s n S root z).1 ∧ Is s D (fxQl s n S root z).2 ∧ fxZl S z ∈ D := by
      by_cases hin : z = (S (S z).p).r
      · rw [fxQl_y hin, fxZl_y hin]; exact ⟨rl_ok h hpD, rl_root h hpD hroot, hpD⟩
      · rw [fxQl_n hin, fxZl_n hin]; exact ⟨h, hroot, hz⟩
    have h1 := (hq.1.p hq.2.2).mem hb.p
    have h2 := (hq.1.p h1).mem hb.g
    exact ⟨rr_ok (fx3_ok hq.1) h2, rr_root (fx3_ok hq.1) h2 hq.2.1, hq.2.2⟩

def fxUr (s : Nat) (S : St) (z : Nat) : Bool := decide (colr s S (S (S (S z).p).p).l = 1)
def fxQr (s n : Nat) (S : St) (root z : Nat) : St × Nat := if z = (S (S z).p).l then rr s n S root (S z).p else (S, root)
def fxZr (S : St) (z : Nat) : Nat := if z = (S (S z).p).l then (S z).p else z
def fxBr (s n : Nat) (S : St) (root z : Nat) : St × Nat := rl s n (fx3 S z) root (S (S z).p).p
def fxCr (S : St) (z : Nat) : St := setC (setC (setC S (S (S (S z).p).p).l 0) (S z).p 0) (S (S z).p).p 1
def fxr (s n : Nat) (S : St) (root z : Nat) : St × Nat × Nat :=
  if colr s S (S (S (S z).p).p).l = 1 then (fxCr S z, root, (S (S z).p).p)
  else ((fxBr s n (fxQr s n S root z).1 (fxQr s n S root z).2 (fxZr S z)).1, (fxBr s n (fxQr s n S root z).1 (fxQr s n S root z).2 (fxZr S z)).2, fxZr S z)
structure FxBr (s n : Nat) (S : St) (root z : Nat) : Prop where
  p : (S z).p ≠ s
  g : (S (S z).p).p ≠ s
  ok : ¬ (fx3 S z (S (S z).p).p).r = s → RlOk s n (fx3 S z) root (S (S z).p).p
structure FxR (s n : Nat) (S : St) (root z : Nat) : Prop where
  rot : ¬ colr s S (S (S (S z).p).p).l = 1 → z = (S (S z).p).l → ¬ (S (S z).p).l = s → RrOk s n S root (S z).p
  b : ¬ colr s S (S (S (S z).p).p).l = 1 → FxBr s n (fxQr s n S root z).1 (fxQr s n S root z).2 (fxZr S z)
theorem fxr_c {s n root z : Nat} {S : St} (h : colr s S (S (S (S z).p).p).l = 1) : fxr s n S root z = (fxCr S z, root, (S (S z).p).p) := if_pos h
theorem fxr_b {s n root z : Nat} {S : St} (h : ¬ colr s S (S (S (S z).p).p).l = 1) : fxr s n S root z = ((fxBr s n (fxQr s n S root z).1 (fxQr s n S root z).2 (fxZr S z)).1, (fxBr s n (fxQr s n S root z).1 (fxQr s n S root z).2 (fxZr S z)).2, fxZr S z) := if_neg h
theorem fxQr_y {s n root z : Nat} {S : St} (h : z = (S (S z).p).l) : fxQr s n S root z = rr s n S root (S z).p := if_pos h
theorem fxQr_n {s n root z : Nat} {S : St} (h : ¬ z = (S (S z).p).l) : fxQr s n S root z = (S, root) := if_neg h
theorem fxZr_y {z : Nat} {S : St} (h : z = (S (S z).p).l) : fxZr S z = (S z).p := if_pos h
theorem fxZr_n {z : Nat} {S : St} (h : ¬ z = (S (S z).p).l) : fxZr S z = z := if_neg h

theorem fxr_ok {s n root z : Nat} {S : St} {EL : List En} {D : List Nat} (h : Ok s EL D S) (hz : z ∈ D) (hroot : Is s D root) (hp : (S z).p ≠ s) (hg : (S (S z).p).p ≠ s) (hf : FxR s n S root z) : Ok s EL D (fxr s n S root z).1 ∧ Is s D (fxr s n S root z).2.1 ∧ (fxr s n S root z).2.2 ∈ D := by
  have hpD := (h.p hz).mem hp
  by_cases hu : colr s S (S (S (S z).p).p).l = 1
  · rw [fxr_c hu]
    exact ⟨h.setC.setC.setC, hroot, (h.p hpD).mem hg⟩
  · rw [fxr_b hu]
    have hb := hf.b hu
    have hq : Ok s EL D (fxQr s n S root z).1 ∧ Is s D (fxQr s n S root z).2 ∧ fxZr S z ∈ D := by
      by_cases hin : z = (S (S z).p).l
      · rw [fxQr_y hin, fxZr_y hin]; exact ⟨rr_ok h hpD, rr_root h hpD hroot, hpD⟩
      · rw [fxQr_n hin, fxZr_n hin]; exact ⟨h, hroot, hz⟩
    have h1 := (hq.1.p hq.2.2).mem hb.p
    have h2 := (hq.1.p h1).mem hb.g
    exact ⟨rl_ok (fx3_ok hq.1) h2, rl_root (fx3_ok hq.1) h2 hq.2.1, hq.2.2⟩

/-- one round -/
def fxs (s n : Nat) (S : St) (root z : Nat) : St × Nat × Nat := if (S z).p = (S (S (S z).p).p).l then fxl s n S root z else fxr s n S root z
def fx (s n : Nat) : Nat → St → Nat → Nat → St × Nat
  | 0, S, root, _ => (S, root)
  | k + 1, S, root, z => if colr s S (S z).p = 1 then fx s n k (fxs s n S root z).1 (fxs s n S root z).2.1 (fxs s n S root z).2.2 else (S, root)
/-- each round can be gone -/
def FxOk (s n : Nat) : Nat → St → Nat → Nat → Prop
  | 0, S, _, z => ¬ colr s S (S z).p = 1
  | k + 1, S, root, z => colr s S (S z).p = 1 → ((S (S z).p).p ≠ s ∧ ((S z).p = (S (S (S z).p).p).l → FxL s n S root z) ∧ (¬ (S z).p = (S (S (S z).p).p).l → FxR s n S root z)) ∧
    FxOk s n k (fxs s n S root z).1 (fxs s n S root z).2.1 (fxs s n S root z).2.2
theorem fxs_l {s n root z : Nat} {S : St} (h : (S z).p = (S (S (S z).p).p).l) : fxs s n S root z = fxl s n S root z := if_pos h
theorem fxs_r {s n root z : Nat} {S : St} (h : ¬ (S z).p = (S (S (S z).p).p).l) : fxs s n S root z = fxr s n S root z := if_neg h
theorem fx_no {s n k root z : Nat} {S : St} (h : ¬ colr s S (S z).p = 1) : fx s n k S root z = (S, root) := by
  cases k with
  | zero => rfl
  | succ k => unfold fx; rw [if_neg h]
theorem fx_yes {s n k root z : Nat} {S : St} (h : colr s S (S z).p = 1) : fx s n (k + 1) S root z = fx s n k (fxs s n S root z).1 (fxs s n S root z).2.1 (fxs s n S root z).2.2 := by
  conv => lhs; unfold fx
  rw [if_pos h]
theorem FxOk.yes {s n k root z : Nat} {S : St} (h : FxOk s n k S root z) (hc : colr s S (S z).p = 1) : ∃ m, k = m + 1 ∧ ((S (S z).p).p ≠ s ∧ ((S z).p = (S (S (S z).p).p).l → FxL s n S root z) ∧ (¬ (S z).p = (S (S (S z).p).p).l → FxR s n S root z)) ∧
    FxOk s n m (fxs s n S root z).1 (fxs s n S root z).2.1 (fxs s n S root z).2.2 := by
  cases k with
  | zero => exact absurd hc h
  | succ k => exact ⟨k, rfl, h hc⟩

theorem fx_ok {s n : Nat} {EL : List En} {D : List Nat} : ∀ {k : Nat} {S : St} {root z : Nat}, Ok s EL D S → z ∈ D → Is s D root → FxOk s n k S root z → Ok s EL D (fx s n k S root z).1
  | 0, S, root, z, h, _, _, _ => h
  | k + 1, S, root, z, h, hz, hr, hf => by
    by_cases hc : colr s S (S z).p = 1
    · obtain ⟨m, e, ⟨hg, h1, h2⟩, h3⟩ := hf.yes hc
      obtain rfl : k = m := by omega
      rw [fx_yes hc]
      have hs : Ok s EL D (fxs s n S root z).1 ∧ Is s D (fxs s n S root z).2.1 ∧ (fxs s n S root z).2.2 ∈ D := by
        by_cases hside : (S z).p = (S (S (S z).p).p).l
        · rw [fxs_l hside]; exact fxl_ok h hz hr (colr_ne hc) hg (h1 hside)
        · rw [fxs_r hside]; exact fxr_ok h hz hr (colr_ne hc) hg (h2 hside)
      exact fx_ok hs.1 hs.2.2 hs.2.1 h3
    · rw [fx_no hc]; exact h
theorem fx_root {s n : Nat} {EL : List En} {D : List Nat} : ∀ {k : Nat} {S : St} {root z : Nat}, Ok s EL D S → z ∈ D → Is s D root → FxOk s n k S root z → Is s D (fx s n k S root z).2
  | 0, S, root, z, _, _, h, _ => h
  | k + 1, S, root, z, h, hz, hr, hf => by
    by_cases hc : colr s S (S z).p = 1
    · obtain ⟨m, e, ⟨hg, h1, h2⟩, h3⟩ := hf.yes hc
      obtain rfl : k = m := by omega
      rw [fx_yes hc]
      have hs : Ok s EL D (fxs s n S root z).1 ∧ Is s D (fxs s n S root z).2.1 ∧ (fxs s n S root z).2.2 ∈ D := by
        by_cases hside : (S z).p = (S (S (S z).p).p).l
        · rw [fxs_l hside]; exact fxl_ok h hz hr (colr_ne hc) hg (h1 hside)
        · rw [fxs_r hside]; exact fxr_ok h hz hr (colr_ne hc) hg (h2 hside)
      exact fx_root hs.1 hs.2.2 hs.2.1 h3
    · rw [fx_no hc]; exact hr
end Go.Proofs.Ytbomnihiapjmpaa.TrP

namespace Go.Proofs.Ytbomnihiapjmpaa.Te
open Go.RowKit Go.Proofs.Ytbomnihiapjmpaa Go.Proofs.Ytbomnihiapjmpaa.Sl Go.Proofs.Ytbomnihiapjmpaa.TrP Go.Proofs.Ytbomnihiapjmpaa.Tc Go.Proofs.Ytbomnihiapjmpaa.Td
set_option linter.unusedVariables false
set_option linter.unusedSimpArgs false
set_option linter.unusedSectionVars false

set_option maxRecDepth 100000 in
set_option maxHeartbeats 2000000 in
theorem color_does (EL : List En) (s : Nat) (D : List Nat) (ZC : List Value) (S : St) (ok : Ok s EL D S) (x : Nat) (hx : Is s D x) : Does Try.prog 148 [.pointer (some ⟨x, 0, none⟩), .pointer (some ⟨s, 0, none⟩)] [Sto S D, Blk s ZC 177] (fun v L => v = .int .i64 (colr s S x) ∧ L = [Sto S D, Blk s ZC 177]) := by
 refine Does.enter 12 Try.func148 rfl rfl rfl fun W F => ?_
 show WPc _ _ _ _ _ [(0, .pointer (some ⟨x, 0, none⟩)), (1, .pointer (some ⟨s, 0, none⟩))] (Sto S D :: Blk s ZC 177 :: F)
 refine WPc.sr ?_
 refine WP.val rfl rfl rfl (Val.assign rfl rfl) ?_
 refine WP.nx ?_
 refine WPc.seq ?_
 refine WPc.sr ?_
 refine WP.val rfl rfl rfl (Val.move rfl rfl) ?_
 refine WP.val rfl rfl rfl (Val.move rfl rfl) ?_
 refine WP.val rfl rfl rfl (Val.eqP (T1 := 177) (T2 := 177) rfl pn168 rfl rfl rfl rfl (fun w h => whole (h.at 0 rfl) (h.at 1 rfl) hx) (fun w h => whole (h.at 0 rfl) (h.at 1 rfl) (.inl rfl))) ?_
 refine WP.nx ?_
 refine WPc.ifP rfl (fun h1 => ?_) (fun h1 => ?_)
 ·
  have h1 : (x = s) := h1
  refine WPc.sr ?_
  refine WP.val rfl rfl rfl (Val.assign rfl rfl) ?_
  refine WP.nx ?_
  refine WPc.ret ?_
  refine Out.then_ret ?_
  exact Out.ret1 (L' := _) Try.results148 rfl ⟨congrArg (Value.int .i64) (by unfold colr; first | rw [if_pos (by assumption)] | rw [if_neg (by assumption)]), rfl⟩ (fun _ h => h)
 ·
  have h1 : ¬ (x = s) := h1
  refine WPc.skip ?_
  refine Out.next ?_
  refine WPc.sr ?_
  refine WP.val rfl rfl rfl (Val.move rfl rfl) ?_
  refine WP.val rfl rfl rfl (Val.nilCheck rfl rfl) ?_
  refine WP.val rfl rfl rfl (Val.fieldAddr (j := 7) rfl Ty.fo177_5 rfl rfl) ?_
  refine WP.val rfl rfl rfl (Val.load (v := .int .i64 ((S x).c)) rfl Ty.sc175 rfl (fun w h => sto_c (h.at 0 rfl) (Is.mem hx (by first | assumption | (intro hh; simp_all; done) | (simp_all; done))) rfl)) ?_
  refine WP.val rfl rfl rfl (Val.assign rfl rfl) ?_
  refine WP.nx ?_
  refine WPc.ret ?_
  exact Out.ret1 (L' := _) Try.results148 rfl ⟨congrArg (Value.int .i64) (by unfold colr; first | rw [if_pos (by assumption)] | rw [if_neg (by assumption)]), rfl⟩ (fun _ h => h)
set_option maxRecDepth 100000 in
set_option maxHeartbeats 2000000 in
theorem um_does (EL : List En) (t0 : TypeId) (hE : ∀ e ∈ EL, e.t = t0) (s : Nat) (D : List Nat) (ZC : List Value) (S0 : St) (ok : Ok s EL D S0) (x0 n0 : Nat) (hx : Is s D x0) (hdep : Dep s S0 n0 x0) : Does Try.prog 133 [.pointer (some ⟨x0, 0, none⟩), .pointer (some ⟨s, 0, none⟩)] [Ens EL, Sto S0 D, Blk s ZC 177] (fun _ L => L = [Ens EL, Sto (um s n0 S0 x0) D, Blk s ZC 177]) := by
 refine Does.enter 81 Try.func133 rfl rfl rfl fun W F => ?_
 show WPc _ _ _ _ _ [(0, .pointer (some ⟨x0, 0, none⟩)), (1, .pointer (some ⟨s, 0, none⟩))] (Ens EL :: Sto S0 D :: Blk s ZC 177 :: F)
 refine WPc.block ?_
 refine WPc.loop (ι := St × Nat × Nat) (fun ⟨S, x, n⟩ => um s n S x = um s n0 S0 x0 ∧ Ok s EL D S ∧ Is s D x ∧ Dep s S n x) (fun ⟨S, x, n⟩ => [(0, .pointer (some ⟨x, 0, none⟩)), (1, .pointer (some ⟨s, 0, none⟩))]) (fun ⟨S, x, n⟩ => Ens EL :: Sto S D :: Blk s ZC 177 :: F) (fun ⟨S, x, n⟩ => n) ⟨S0, x0, n0⟩ ⟨rfl, ok, hx, hdep⟩ ((Sub.cons rfl (Sub.cons rfl Sub.nil))) (fun _ h => h) ?_
 rintro ⟨S, x, n⟩ hI
 show WPc _ _ _ _ _ [(0, .pointer (some ⟨x, 0, none⟩)), (1, _)] (_ :: Sto S D :: _)
 obtain ⟨hum, ok, hx, hdep⟩ := hI
 refine WPc.seq ?_
 refine WPc.sr ?_
 refine WP.val rfl rfl rfl (Val.move rfl rfl) ?_
 refine WP.val rfl rfl rfl (Val.move rfl rfl) ?_
 refine WP.val rfl rfl rfl (Val.neqP (T1 := 177) (T2 := 177) rfl pn168 rfl rfl rfl rfl (fun w h => whole (h.at 1 rfl) (h.at 2 rfl) hx) (fun w h => whole (h.at 1 rfl) (h.at 2 rfl) (.inl rfl))) ?_
 refine WP.nx ?_
 refine WPc.ifP rfl (fun h1 => ?_) (fun h1 => ?_)
 ·
  have h1 : (x ≠ s) := h1
  refine WPc.skip ?_
  refine Out.next ?_
  refine WPc.block ?_
  refine WPc.seq ?_
  have hxs : x ≠ s := by assumption
  obtain ⟨n, rfl, hdp1⟩ := hdep.succ hxs
  have hxD : x ∈ D := hx.mem hxs
  refine WPc.region ?_
  refine WP.val rfl rfl rfl (Val.move rfl rfl) ?_
  refine WP.val rfl rfl rfl (Val.nilCheck rfl rfl) ?_
  refine WP.val rfl rfl rfl (Val.fieldAddr (j := 3) rfl Ty.fo177_1 rfl rfl) ?_
  refine WP.val rfl rfl rfl (Val.load (v := .iface ((S x).m).t (((S x).m).u)) rfl Ty.sc170 rfl (fun w h => sto_m (h.at 1 rfl) hxD rfl)) ?_
  refine WP.val rfl rfl rfl (Val.assign rfl rfl) ?_
  refine WP.nx ?_
  refine WPc.sr ?_
  refine WP.val rfl rfl rfl (Val.move rfl rfl) ?_
  refine WP.val rfl rfl rfl (Val.nilCheck rfl rfl) ?_
  refine WP.val rfl rfl rfl (Val.fieldAddr (j := 0) rfl Ty.fo177_0 rfl rfl) ?_
  refine WP.val rfl rfl rfl (Val.fieldAddr (j := 0) rfl Ty.fo174_0 rfl rfl) ?_
  refine WP.val rfl rfl rfl (Val.fieldAddr (j := 1) rfl Ty.fo172_1 rfl rfl) ?_
  refine WP.val rfl rfl rfl (Val.load (v := .iface ((S x).it.e).t (((S x).it.e).u)) rfl Ty.sc170 rfl (fun w h => sto_e (h.at 1 rfl) hxD rfl)) ?_
  refine WP.val rfl rfl rfl (Val.assign rfl rfl) ?_
  refine WP.nx ?_
  refine WPc.seq ?_
  refine WPc.sr ?_
  refine WP.val rfl rfl rfl (Val.move rfl rfl) ?_
  refine WP.val rfl rfl rfl (Val.nilCheck rfl rfl) ?_
  refine WP.val rfl rfl rfl (Val.fieldAddr (j := 4) rfl Ty.fo177_2 rfl rfl) ?_
  refine WP.val rfl rfl rfl (Val.load (v := .pointer (some ⟨(S x).l, 0, none⟩)) rfl Ty.sc168 rfl (fun w h => sto_l (h.at 1 rfl) hxD rfl)) ?_
  refine WP.val rfl rfl rfl (Val.move rfl rfl) ?_
  refine WP.val rfl rfl rfl (Val.neqP (T1 := 177) (T2 := 177) rfl pn168 rfl rfl rfl rfl (fun w h => whole (h.at 1 rfl) (h.at 2 rfl) (Ok.l ok hxD)) (fun w h => whole (h.at 1 rfl) (h.at 2 rfl) (.inl rfl))) ?_
  refine WP.val rfl rfl rfl (Val.move rfl rfl) ?_
  refine WP.split 25 rfl (fun h2 => ?_) (fun h2 => ?_)
  ·
   have h2 : ((S x).l ≠ s) := h2
   refine WP.valG rfl rfl rfl rfl rfl rfl rfl (Val.move rfl rfl) ?_
   refine WP.valG rfl rfl rfl rfl rfl rfl rfl (Val.nilCheck rfl rfl) ?_
   refine WP.valG rfl rfl rfl rfl rfl rfl rfl (Val.fieldAddr (j := 4) rfl Ty.fo177_2 rfl rfl) ?_
   refine WP.valG rfl rfl rfl rfl rfl rfl rfl (Val.load (v := .pointer (some ⟨(S x).l, 0, none⟩)) rfl Ty.sc168 rfl (fun w h => sto_l (h.at 1 rfl) hxD rfl)) ?_
   refine WP.valG rfl rfl rfl rfl rfl rfl rfl (Val.nilCheck rfl rfl) ?_
   refine WP.valG rfl rfl rfl rfl rfl rfl rfl (Val.fieldAddr (j := 3) rfl Ty.fo177_1 rfl rfl) ?_
   refine WP.valG rfl rfl rfl rfl rfl rfl rfl (Val.load (v := .iface ((S ((S x).l)).m).t (((S ((S x).l)).m).u)) rfl Ty.sc170 rfl (fun w h => sto_m (h.at 1 rfl) (Is.mem (Ok.l ok hxD) (by first | assumption | (intro hh; simp_all; done) | (simp_all; done))) rfl)) ?_
   refine WP.valG rfl rfl rfl rfl rfl rfl rfl (Val.move rfl rfl) ?_
   refine WP.effG rfl rfl rfl rfl rfl rfl rfl (Eff.cmp (a := (S ((S x).l)).m) (b := (S x).it.e) rfl rfl rfl (Ok.m ok (Is.mem (Ok.l ok hxD) (by first | assumption | (intro hh; simp_all; done) | (simp_all; done)))) (Ok.e ok hxD) ((hE _ (Ok.m ok (Is.mem (Ok.l ok hxD) (by first | assumption | (intro hh; simp_all; done) | (simp_all; done))))).trans (hE _ (Ok.e ok hxD)).symm)) ?_
   rintro _ _ ⟨rfl, rfl⟩
   refine WP.valG rfl rfl rfl rfl rfl rfl rfl (Val.gtr rfl rfl rfl) ?_
   refine WP.val rfl rfl rfl (Val.pickT rfl rfl rfl) ?_
   refine WP.nx ?_
   refine WPc.ifP rfl (fun h3 => ?_) (fun h3 => ?_)
   ·
    have h3 : ((0 : Int) < (kcmp ((S ((S x).l)).m).k ((S x).it.e).k)) := h3
    refine WPc.region ?_
    refine WP.val rfl rfl rfl (Val.move rfl rfl) ?_
    refine WP.val rfl rfl rfl (Val.nilCheck rfl rfl) ?_
    refine WP.val rfl rfl rfl (Val.fieldAddr (j := 4) rfl Ty.fo177_2 rfl rfl) ?_
    refine WP.val rfl rfl rfl (Val.load (v := .pointer (some ⟨(S x).l, 0, none⟩)) rfl Ty.sc168 rfl (fun w h => sto_l (h.at 1 rfl) hxD rfl)) ?_
    refine WP.val rfl rfl rfl (Val.nilCheck rfl rfl) ?_
    refine WP.val rfl rfl rfl (Val.fieldAddr (j := 3) rfl Ty.fo177_1 rfl rfl) ?_
    refine WP.val rfl rfl rfl (Val.load (v := .iface ((S ((S x).l)).m).t (((S ((S x).l)).m).u)) rfl Ty.sc170 rfl (fun w h => sto_m (h.at 1 rfl) (Is.mem (Ok.l ok hxD) (by first | assumption | (intro hh; simp_all; done) | (simp_all; done))) rfl)) ?_
    refine WP.val rfl rfl rfl (Val.assign rfl rfl) ?_
    refine WP.nx ?_
    refine WPc.seq ?_
    refine WPc.seq ?_
    have hp1 : pickm (S x).it.e (chm s S (S x).l) = (S ((S x).l)).m := by first | exact pick_gt (by assumption) (by assumption) | exact pick_le (by assumption) (by (first | assumption | omega)) | exact pick_s (Decidable.byContradiction (by assumption)) | exact pick_s (by assumption)
    refine WPc.region ?_
    refine WP.val rfl rfl rfl (Val.move rfl rfl) ?_
    refine WP.val rfl rfl rfl (Val.nilCheck rfl rfl) ?_
    refine WP.val rfl rfl rfl (Val.fieldAddr (j := 5) rfl Ty.fo177_3 rfl rfl) ?_
    refine WP.val rfl rfl rfl (Val.load (v := .pointer (some ⟨(S x).r, 0, none⟩)) rfl Ty.sc168 rfl (fun w h => sto_r (h.at 1 rfl) hxD rfl)) ?_
    refine WP.val rfl rfl rfl (Val.move rfl rfl) ?_
    refine WP.val rfl rfl rfl (Val.neqP (T1 := 177) (T2 := 177) rfl pn168 rfl rfl rfl rfl (fun w h => whole (h.at 1 rfl) (h.at 2 rfl) (Ok.r ok hxD)) (fun w h => whole (h.at 1 rfl) (h.at 2 rfl) (.inl rfl))) ?_
    refine WP.val rfl rfl rfl (Val.move rfl rfl) ?_
    refine WP.split 50 rfl (fun h4 => ?_) (fun h4 => ?_)
    ·
     have h4 : ((S x).r ≠ s) := h4
     refine WP.valG rfl rfl rfl rfl rfl rfl rfl (Val.move rfl rfl) ?_
     refine WP.valG rfl rfl rfl rfl rfl rfl rfl (Val.nilCheck rfl rfl) ?_
     refine WP.valG rfl rfl rfl rfl rfl rfl rfl (Val.fieldAddr (j := 5) rfl Ty.fo177_3 rfl rfl) ?_
     refine WP.valG rfl rfl rfl rfl rfl rfl rfl (Val.load (v := .pointer (some ⟨(S x).r, 0, none⟩)) rfl Ty.sc168 rfl (fun w h => sto_r (h.at 1 rfl) hxD rfl)) ?_
     refine WP.valG rfl rfl rfl rfl rfl rfl rfl (Val.nilCheck rfl rfl) ?_
     refine WP.valG rfl rfl rfl rfl rfl rfl rfl (Val.fieldAddr (j := 3) rfl Ty.fo177_1 rfl rfl) ?_
     refine WP.valG rfl rfl rfl rfl rfl rfl rfl (Val.load (v := .iface ((S ((S x).r)).m).t (((S ((S x).r)).m).u)) rfl Ty.sc170 rfl (fun w h => sto_m (h.at 1 rfl) (Is.mem (Ok.r ok hxD) (by first | assumption | (intro hh; simp_all; done) | (simp_all; done))) rfl)) ?_
     refine WP.valG rfl rfl rfl rfl rfl rfl rfl (Val.move rfl rfl) ?_
     refine WP.effG rfl rfl rfl rfl rfl rfl rfl (Eff.cmp (a := (S ((S x).r)).m) (b := (S ((S x).l)).m) rfl rfl rfl (Ok.m ok (Is.mem (Ok.r ok hxD) (by first | assumption | (intro hh; simp_all; done) | (simp_all; done)))) (Ok.m ok (Is.mem (Ok.l ok hxD) (by first | assumption | (intro hh; simp_all; done) | (simp_all; done)))) ((hE _ (Ok.m ok (Is.mem (Ok.r ok hxD) (by first | assumption | (intro hh; simp_all; done) | (simp_all; done))))).trans (hE _ (Ok.m ok (Is.mem (Ok.l ok hxD) (by first | assumption | (intro hh; simp_all; done) | (simp_all; done))))).symm)) ?_
     rintro _ _ ⟨rfl, rfl⟩
     refine WP.valG rfl rfl rfl rfl rfl rfl rfl (Val.gtr rfl rfl rfl) ?_
     refine WP.val rfl rfl rfl (Val.pickT rfl rfl rfl) ?_
     refine WP.nx ?_
     refine WPc.ifP rfl (fun h5 => ?_) (fun h5 => ?_)
     ·
      have h5 : ((0 : Int) < (kcmp ((S ((S x).r)).m).k ((S ((S x).l)).m).k)) := h5
      refine WPc.region ?_
      refine WP.val rfl rfl rfl (Val.move rfl rfl) ?_
      refine WP.val rfl rfl rfl (Val.nilCheck rfl rfl) ?_
      refine WP.val rfl rfl rfl (Val.fieldAddr (j := 5) rfl Ty.fo177_3 rfl rfl) ?_
      refine WP.val rfl rfl rfl (Val.load (v := .pointer (some ⟨(S x).r, 0, none⟩)) rfl Ty.sc168 rfl (fun w h => sto_r (h.at 1 rfl) hxD rfl)) ?_
      refine WP.val rfl rfl rfl (Val.nilCheck rfl rfl) ?_
      refine WP.val rfl rfl rfl (Val.fieldAddr (j := 3) rfl Ty.fo177_1 rfl rfl) ?_
      refine WP.val rfl rfl rfl (Val.load (v := .iface ((S ((S x).r)).m).t (((S ((S x).r)).m).u)) rfl Ty.sc170 rfl (fun w h => sto_m (h.at 1 rfl) (Is.mem (Ok.r ok hxD) (by first | assumption | (intro hh; simp_all; done) | (simp_all; done))) rfl)) ?_
      refine WP.val rfl rfl rfl (Val.assign rfl rfl) ?_
      refine WP.nx ?_
      refine WPc.seq ?_
      refine WPc.seq ?_
      have hp2 : newm s S x = (S ((S x).r)).m := by unfold newm; rw [hp1]; first | exact pick_gt (by assumption) (by assumption) | exact pick_le (by assumption) (by (first | assumption | omega)) | exact pick_s (Decidable.byContradiction (by assumption)) | exact pick_s (by assumption)
      refine WPc.region ?_
      refine WP.val rfl rfl rfl (Val.move rfl rfl) ?_
      refine WP.val rfl rfl rfl (Val.move rfl rfl) ?_
      refine WP.eff rfl rfl rfl (Eff.cmp (a := (S x).m) (b := (S ((S x).r)).m) rfl rfl rfl (Ok.m ok hxD) (Ok.m ok (Is.mem (Ok.r ok hxD) (by first | assumption | (intro hh; simp_all; done) | (simp_all; done)))) ((hE _ (Ok.m ok hxD)).trans (hE _ (Ok.m ok (Is.mem (Ok.r ok hxD) (by first | assumption | (intro hh; simp_all; done) | (simp_all; done))))).symm)) ?_
      rintro _ _ ⟨rfl, rfl⟩
      refine WP.val rfl rfl rfl (Val.eql rfl rfl rfl) ?_
      refine WP.nx ?_
      refine WPc.ifP rfl (fun h6 => ?_) (fun h6 => ?_)
      ·
       have h6 : ((kcmp ((S x).m).k ((S ((S x).r)).m).k) = (0 : Int)) := h6
       refine WPc.exit ?_
       refine Out.then_exit ?_
       refine Out.block_other rfl ?_
       refine Out.then_exit ?_
       refine Out.block_exit ?_
       have hfin : um s n0 S0 x0 = S := by rw [← hum]; exact um_eq hxs hp2 (by assumption)
       exact Out.end0 (L' := [Ens EL, Sto (um s n0 S0 x0) D, Blk s ZC 177]) Try.results133 rfl (fun w h => by rw [hfin]; exact h)
      ·
       have h6 : ¬ ((kcmp ((S x).m).k ((S ((S x).r)).m).k) = (0 : Int)) := h6
       refine WPc.skip ?_
       refine Out.next ?_
       refine WPc.sr ?_
       refine WP.val rfl rfl rfl (Val.move rfl rfl) ?_
       refine WP.val rfl rfl rfl (Val.move rfl rfl) ?_
       refine WP.val rfl rfl rfl (Val.nilCheck rfl rfl) ?_
       refine WP.val rfl rfl rfl (Val.fieldAddr (j := 3) rfl Ty.fo177_1 rfl rfl) ?_
       refine WP.perm pl1 ?_
       refine WP.eff0 rfl rfl (Eff.storeK (f := fun i => (S i).cells) (f' := fun i => (setM S x ((S ((S x).r)).m) i).cells) rfl Ty.sc170 rfl rfl rfl hxD (show 3 < 8 by decide) (by unfold setM; rw [upd_same]; rfl) (by unfold setM; exact cells_other)) ?_
       rintro _ _ rfl
       show WP _ _ _ _ _ _ _ (Sto (setM S x ((S ((S x).r)).m)) D :: _)
       obtain ⟨S1, hS1⟩ : ∃ S1, S1 = setM S x ((S ((S x).r)).m) := ⟨_, rfl⟩
       rw [← hS1]
       have okS1 : Ok s EL D S1 := by rw [hS1]; exact (ok.setM (Ok.m ok (Is.mem (Ok.r ok hxD) (by first | assumption | (intro hh; simp_all; done) | (simp_all; done)))))
       have k2 : (S1 x).p = (S x).p := (by rw [hS1]; exact (setM_p _ _ _ _).trans rfl)
       have k3 : (S1 x).l = (S x).l := (by rw [hS1]; exact (setM_l _ _ _ _).trans rfl)
       have k4 : (S1 x).r = (S x).r := (by rw [hS1]; exact (setM_r _ _ _ _).trans rfl)
       have k5 : (S1 x).it.e = (S x).it.e := (by rw [hS1]; exact (congrArg It.e (setM_it _ _ _ _)).trans rfl)
       have k6 : (S1 x).m = (S ((S x).r)).m := by rw [hS1]; exact setM_same _ _ _
       refine WP.nx ?_
       refine WPc.region ?_
       refine WP.val rfl rfl rfl (Val.move rfl rfl) ?_
       refine WP.val rfl rfl rfl (Val.nilCheck rfl rfl) ?_
       refine WP.val rfl rfl rfl (Val.fieldAddr (j := 6) rfl Ty.fo177_4 rfl rfl) ?_
       refine WP.val rfl rfl rfl (Val.load (v := .pointer (some ⟨(S x).p, 0, none⟩)) rfl Ty.sc168 rfl (fun w h => sto_p (h.at 0 rfl) hxD k2)) ?_
       refine WP.val rfl rfl rfl (Val.assign rfl rfl) ?_
       refine WP.nil ?_
       refine Out.block ?_
       have hnx : um s n S1 (S x).p = um s n0 S0 x0 := by rw [hS1, ← hum]; exact (um_ne hxs hp2 (by assumption)).symm
       have hd2 : Dep s S1 n (S x).p := by rw [hS1]; exact Dep.congr (fun i => setM_p _ _ _ i) hdp1
       refine Out.perm pl2 ?_
       refine Out.perm pl1 ?_
       refine Out.perm pl2 ?_
       refine Out.again ⟨S1, (S x).p, n⟩ ?_ ?_ ?_ ?_
       ·
        exact ⟨hnx, okS1, (Ok.p ok hxD), hd2⟩
       ·
        show n < n + 1; omega
       ·
        exact (Sub.cons rfl (Sub.cons rfl Sub.nil))
       ·
        exact (fun _ h => h)
     ·
      have h5 : ¬ ((0 : Int) < (kcmp ((S ((S x).r)).m).k ((S ((S x).l)).m).k)) := h5
      refine WPc.skip ?_
      refine Out.next ?_
      refine WPc.seq ?_
      refine WPc.seq ?_
      have hp2 : newm s S x = (S ((S x).l)).m := by unfold newm; rw [hp1]; first | exact pick_gt (by assumption) (by assumption) | exact pick_le (by assumption) (by (first | assumption | omega)) | exact pick_s (Decidable.byContradiction (by assumption)) | exact pick_s (by assumption)
      refine WPc.region ?_
      refine WP.val rfl rfl rfl (Val.move rfl rfl) ?_
      refine WP.val rfl rfl rfl (Val.move rfl rfl) ?_
      refine WP.eff rfl rfl rfl (Eff.cmp (a := (S x).m) (b := (S ((S x).l)).m) rfl rfl rfl (Ok.m ok hxD) (Ok.m ok (Is.mem (Ok.l ok hxD) (by first | assumption | (intro hh; simp_all; done) | (simp_all; done)))) ((hE _ (Ok.m ok hxD)).trans (hE _ (Ok.m ok (Is.mem (Ok.l ok hxD) (by first | assumption | (intro hh; simp_all; done) | (simp_all; done))))).symm)) ?_
      rintro _ _ ⟨rfl, rfl⟩
      refine WP.val rfl rfl rfl (Val.eql rfl rfl rfl) ?_
      refine WP.nx ?_
      refine WPc.ifP rfl (fun h7 => ?_) (fun h7 => ?_)
      ·
       have h7 : ((kcmp ((S x).m).k ((S ((S x).l)).m).k) = (0 : Int)) := h7
       refine WPc.exit ?_
       refine Out.then_exit ?_
       refine Out.block_other rfl ?_
       refine Out.then_exit ?_
       refine Out.block_exit ?_
       have hfin : um s n0 S0 x0 = S := by rw [← hum]; exact um_eq hxs hp2 (by assumption)
       exact Out.end0 (L' := [Ens EL, Sto (um s n0 S0 x0) D, Blk s ZC 177]) Try.results133 rfl (fun w h => by rw [hfin]; exact h)
      ·
       have h7 : ¬ ((kcmp ((S x).m).k ((S ((S x).l)).m).k) = (0 : Int)) := h7
       refine WPc.skip ?_
       refine Out.next ?_
       refine WPc.sr ?_
       refine WP.val rfl rfl rfl (Val.move rfl rfl) ?_
       refine WP.val rfl rfl rfl (Val.move rfl rfl) ?_
       refine WP.val rfl rfl rfl (Val.nilCheck rfl rfl) ?_
       refine WP.val rfl rfl rfl (Val.fieldAddr (j := 3) rfl Ty.fo177_1 rfl rfl) ?_
       refine WP.perm pl1 ?_
       refine WP.eff0 rfl rfl (Eff.storeK (f := fun i => (S i).cells) (f' := fun i => (setM S x ((S ((S x).l)).m) i).cells) rfl Ty.sc170 rfl rfl rfl hxD (show 3 < 8 by decide) (by unfold setM; rw [upd_same]; rfl) (by unfold setM; exact cells_other)) ?_
       rintro _ _ rfl
       show WP _ _ _ _ _ _ _ (Sto (setM S x ((S ((S x).l)).m)) D :: _)
       obtain ⟨S7, hS7⟩ : ∃ S7, S7 = setM S x ((S ((S x).l)).m) := ⟨_, rfl⟩
       rw [← hS7]
       have okS7 : Ok s EL D S7 := by rw [hS7]; exact (ok.setM (Ok.m ok (Is.mem (Ok.l ok hxD) (by first | assumption | (intro hh; simp_all; done) | (simp_all; done)))))
       have k8 : (S7 x).p = (S x).p := (by rw [hS7]; exact (setM_p _ _ _ _).trans rfl)
       have k9 : (S7 x).l = (S x).l := (by rw [hS7]; exact (setM_l _ _ _ _).trans rfl)
       have k10 : (S7 x).r = (S x).r := (by rw [hS7]; exact (setM_r _ _ _ _).trans rfl)
       have k11 : (S7 x).it.e = (S x).it.e := (by rw [hS7]; exact (congrArg It.e (setM_it _ _ _ _)).trans rfl)
       have k12 : (S7 x).m = (S ((S x).l)).m := by rw [hS7]; exact setM_same _ _ _
       refine WP.nx ?_
       refine WPc.region ?_
       refine WP.val rfl rfl rfl (Val.move rfl rfl) ?_
       refine WP.val rfl rfl rfl (Val.nilCheck rfl rfl) ?_
       refine WP.val rfl rfl rfl (Val.fieldAddr (j := 6) rfl Ty.fo177_4 rfl rfl) ?_
       refine WP.val rfl rfl rfl (Val.load (v := .pointer (some ⟨(S x).p, 0, none⟩)) rfl Ty.sc168 rfl (fun w h => sto_p (h.at 0 rfl) hxD k8)) ?_
       refine WP.val rfl rfl rfl (Val.assign rfl rfl) ?_
       refine WP.nil ?_
       refine Out.block ?_
       have hnx : um s n S7 (S x).p = um s n0 S0 x0 := by rw [hS7, ← hum]; exact (um_ne hxs hp2 (by assumption)).symm
       have hd2 : Dep s S7 n (S x).p := by rw [hS7]; exact Dep.congr (fun i => setM_p _ _ _ i) hdp1
       refine Out.perm pl2 ?_
       refine Out.perm pl1 ?_
       refine Out.perm pl2 ?_
       refine Out.again ⟨S7, (S x).p, n⟩ ?_ ?_ ?_ ?_
       ·
        exact ⟨hnx, okS7, (Ok.p ok hxD), hd2⟩
       ·
        show n < n + 1; omega
       ·
        exact (Sub.cons rfl (Sub.cons rfl Sub.nil))
       ·
        exact (fun _ h => h)
    ·
     have h4 : ¬ ((S x).r ≠ s) := h4
     iterate 10 (refine WP.skip rfl rfl rfl rfl rfl rfl rfl ?_)
     refine WP.val rfl rfl rfl (Val.pickF rfl rfl rfl) ?_
     refine WP.nx ?_
     refine WPc.condF rfl rfl ?_
     refine WPc.skip ?_
     refine Out.next ?_
     refine WPc.seq ?_
     refine WPc.seq ?_
     have hp2 : newm s S x = (S ((S x).l)).m := by unfold newm; rw [hp1]; first | exact pick_gt (by assumption) (by assumption) | exact pick_le (by assumption) (by (first | assumption | omega)) | exact pick_s (Decidable.byContradiction (by assumption)) | exact pick_s (by assumption)
     refine WPc.region ?_
     refine WP.val rfl rfl rfl (Val.move rfl rfl) ?_
     refine WP.val rfl rfl rfl (Val.move rfl rfl) ?_
     refine WP.eff rfl rfl rfl (Eff.cmp (a := (S x).m) (b := (S ((S x).l)).m) rfl rfl rfl (Ok.m ok hxD) (Ok.m ok (Is.mem (Ok.l ok hxD) (by first | assumption | (intro hh; simp_all; done) | (simp_all; done)))) ((hE _ (Ok.m ok hxD)).trans (hE _ (Ok.m ok (Is.mem (Ok.l ok hxD) (by first | assumption | (intro hh; simp_all; done) | (simp_all; done))))).symm)) ?_
     rintro _ _ ⟨rfl, rfl⟩
     refine WP.val rfl rfl rfl (Val.eql rfl rfl rfl) ?_
     refine WP.nx ?_
     refine WPc.ifP rfl (fun h8 => ?_) (fun h8 => ?_)
     ·
      have h8 : ((kcmp ((S x).m).k ((S ((S x).l)).m).k) = (0 : Int)) := h8
      refine WPc.exit ?_
      refine Out.then_exit ?_
      refine Out.block_other rfl ?_
      refine Out.then_exit ?_
      refine Out.block_exit ?_
      have hfin : um s n0 S0 x0 = S := by rw [← hum]; exact um_eq hxs hp2 (by assumption)
      exact Out.end0 (L' := [Ens EL, Sto (um s n0 S0 x0) D, Blk s ZC 177]) Try.results133 rfl (fun w h => by rw [hfin]; exact h)
     ·
      have h8 : ¬ ((kcmp ((S x).m).k ((S ((S x).l)).m).k) = (0 : Int)) := h8
      refine WPc.skip ?_
      refine Out.next ?_
      refine WPc.sr ?_
      refine WP.val rfl rfl rfl (Val.move rfl rfl) ?_
      refine WP.val rfl rfl rfl (Val.move rfl rfl) ?_
      refine WP.val rfl rfl rfl (Val.nilCheck rfl rfl) ?_
      refine WP.val rfl rfl rfl (Val.fieldAddr (j := 3) rfl Ty.fo177_1 rfl rfl) ?_
      refine WP.perm pl1 ?_
      refine WP.eff0 rfl rfl (Eff.storeK (f := fun i => (S i).cells) (f' := fun i => (setM S x ((S ((S x).l)).m) i).cells) rfl Ty.sc170 rfl rfl rfl hxD (show 3 < 8 by decide) (by unfold setM; rw [upd_same]; rfl) (by unfold setM; exact cells_other)) ?_
      rintro _ _ rfl
      show WP _ _ _ _ _ _ _ (Sto (setM S x ((S ((S x).l)).m)) D :: _)
      obtain ⟨S13, hS13⟩ : ∃ S13, S13 = setM S x ((S ((S x).l)).m) := ⟨_, rfl⟩
      rw [← hS13]
      have okS13 : Ok s EL D S13 := by rw [hS13]; exact (ok.setM (Ok.m ok (Is.mem (Ok.l ok hxD) (by first | assumption | (intro hh; simp_all; done) | (simp_all; done)))))
      have k14 : (S13 x).p = (S x).p := (by rw [hS13]; exact (setM_p _ _ _ _).trans rfl)
      have k15 : (S13 x).l = (S x).l := (by rw [hS13]; exact (setM_l _ _ _ _).trans rfl)
      have k16 : (S13 x).r = (S x).r := (by rw [hS13]; exact (setM_r _ _ _ _).trans rfl)
      have k17 : (S13 x).it.e = (S x).it.e := (by rw [hS13]; exact (congrArg It.e (setM_it _ _ _ _)).trans rfl)
      have k18 : (S13 x).m = (S ((S x).l)).m := by rw [hS13]; exact setM_same _ _ _
      refine WP.nx ?_
      refine WPc.region ?_
      refine WP.val rfl rfl rfl (Val.move rfl rfl) ?_
      refine WP.val rfl rfl rfl (Val.nilCheck rfl rfl) ?_
      refine WP.val rfl rfl rfl (Val.fieldAddr (j := 6) rfl Ty.fo177_4 rfl rfl) ?_
      refine WP.val rfl rfl rfl (Val.load (v := .pointer (some ⟨(S x).p, 0, none⟩)) rfl Ty.sc168 rfl (fun w h => sto_p (h.at 0 rfl) hxD k14)) ?_
      refine WP.val rfl rfl rfl (Val.assign rfl rfl) ?_
      refine WP.nil ?_
      refine Out.block ?_
      have hnx : um s n S13 (S x).p = um s n0 S0 x0 := by rw [hS13, ← hum]; exact (um_ne hxs hp2 (by assumption)).symm
      have hd2 : Dep s S13 n (S x).p := by rw [hS13]; exact Dep.congr (fun i => setM_p _ _ _ i) hdp1
      refine Out.perm pl2 ?_
      refine Out.perm pl1 ?_
      refine Out.perm pl2 ?_
      refine Out.again ⟨S13, (S x).p, n⟩ ?_ ?_ ?_ ?_
      ·
       exact ⟨hnx, okS13, (Ok.p ok hxD), hd2⟩
      ·
       show n < n + 1; omega
      ·
       exact (Sub.cons rfl (Sub.cons rfl Sub.nil))
      ·
       exact (fun _ h => h)
   ·
    have h3 : ¬ ((0 : Int) < (kcmp ((S ((S x).l)).m).k ((S x).it.e).k)) := h3
    refine WPc.skip ?_
    refine Out.next ?_
    refine WPc.seq ?_
    refine WPc.seq ?_
    have hp1 : pickm (S x).it.e (chm s S (S x).l) = (S x).it.e := by first | exact pick_gt (by assumption) (by assumption) | exact pick_le (by assumption) (by (first | assumption | omega)) | exact pick_s (Decidable.byContradiction (by assumption)) | exact pick_s (by assumption)
    refine WPc.region ?_
    refine WP.val rfl rfl rfl (Val.move rfl rfl) ?_
    refine WP.val rfl rfl rfl (Val.nilCheck rfl rfl) ?_
    refine WP.val rfl rfl rfl (Val.fieldAddr (j := 5) rfl Ty.fo177_3 rfl rfl) ?_
    refine WP.val rfl rfl rfl (Val.load (v := .pointer (some ⟨(S x).r, 0, none⟩)) rfl Ty.sc168 rfl (fun w h => sto_r (h.at 1 rfl) hxD rfl)) ?_
    refine WP.val rfl rfl rfl (Val.move rfl rfl) ?_
    refine WP.val rfl rfl rfl (Val.neqP (T1 := 177) (T2 := 177) rfl pn168 rfl rfl rfl rfl (fun w h => whole (h.at 1 rfl) (h.at 2 rfl) (Ok.r ok hxD)) (fun w h => whole (h.at 1 rfl) (h.at 2 rfl) (.inl rfl))) ?_
    refine WP.val rfl rfl rfl (Val.move rfl rfl) ?_
    refine WP.split 50 rfl (fun h9 => ?_) (fun h9 => ?_)
    ·
     have h9 : ((S x).r ≠ s) := h9
     refine WP.valG rfl rfl rfl rfl rfl rfl rfl (Val.move rfl rfl) ?_
     refine WP.valG rfl rfl rfl rfl rfl rfl rfl (Val.nilCheck rfl rfl) ?_
     refine WP.valG rfl rfl rfl rfl rfl rfl rfl (Val.fieldAddr (j := 5) rfl Ty.fo177_3 rfl rfl) ?_
     refine WP.valG rfl rfl rfl rfl rfl rfl rfl (Val.load (v := .pointer (some ⟨(S x).r, 0, none⟩)) rfl Ty.sc168 rfl (fun w h => sto_r (h.at 1 rfl) hxD rfl)) ?_
     refine WP.valG rfl rfl rfl rfl rfl rfl rfl (Val.nilCheck rfl rfl) ?_
     refine WP.valG rfl rfl rfl rfl rfl rfl rfl (Val.fieldAddr (j := 3) rfl Ty.fo177_1 rfl rfl) ?_
     refine WP.valG rfl rfl rfl rfl rfl rfl rfl (Val.load (v := .iface ((S ((S x).r)).m).t (((S ((S x).r)).m).u)) rfl Ty.sc170 rfl (fun w h => sto_m (h.at 1 rfl) (Is.mem (Ok.r ok hxD) (by first | assumption | (intro hh; simp_all; done) | (simp_all; done))) rfl)) ?_
     refine WP.valG rfl rfl rfl rfl rfl rfl rfl (Val.move rfl rfl) ?_
     refine WP.effG rfl rfl rfl rfl rfl rfl rfl (Eff.cmp (a := (S ((S x).r)).m) (b := (S x).it.e) rfl rfl rfl (Ok.m ok (Is.mem (Ok.r ok hxD) (by first | assumption | (intro hh; simp_all; done) | (simp_all; done)))) (Ok.e ok hxD) ((hE _ (Ok.m ok (Is.mem (Ok.r ok hxD) (by first | assumption | (intro hh; simp_all; done) | (simp_all; done))))).trans (hE _ (Ok.e ok hxD)).symm)) ?_
     rintro _ _ ⟨rfl, rfl⟩
     refine WP.valG rfl rfl rfl rfl rfl rfl rfl (Val.gtr rfl rfl rfl) ?_
     refine WP.val rfl rfl rfl (Val.pickT rfl rfl rfl) ?_
     refine WP.nx ?_
     refine WPc.ifP rfl (fun h10 => ?_) (fun h10 => ?_)
     ·
      have h10 : ((0 : Int) < (kcmp ((S ((S x).r)).m).k ((S x).it.e).k)) := h10
      refine WPc.region ?_
      refine WP.val rfl rfl rfl (Val.move rfl rfl) ?_
      refine WP.val rfl rfl rfl (Val.nilCheck rfl rfl) ?_
      refine WP.val rfl rfl rfl (Val.fieldAddr (j := 5) rfl Ty.fo177_3 rfl rfl) ?_
      refine WP.val rfl rfl rfl (Val.load (v := .pointer (some ⟨(S x).r, 0, none⟩)) rfl Ty.sc168 rfl (fun w h => sto_r (h.at 1 rfl) hxD rfl)) ?_
      refine WP.val rfl rfl rfl (Val.nilCheck rfl rfl) ?_
      refine WP.val rfl rfl rfl (Val.fieldAddr (j := 3) rfl Ty.fo177_1 rfl rfl) ?_
      refine WP.val rfl rfl rfl (Val.load (v := .iface ((S ((S x).r)).m).t (((S ((S x).r)).m).u)) rfl Ty.sc170 rfl (fun w h => sto_m (h.at 1 rfl) (Is.mem (Ok.r ok hxD) (by first | assumption | (intro hh; simp_all; done) | (simp_all; done))) rfl)) ?_
      refine WP.val rfl rfl rfl (Val.assign rfl rfl) ?_
      refine WP.nx ?_
      refine WPc.seq ?_
      refine WPc.seq ?_
      have hp2 : newm s S x = (S ((S x).r)).m := by unfold newm; rw [hp1]; first | exact pick_gt (by assumption) (by assumption) | exact pick_le (by assumption) (by (first | assumption | omega)) | exact pick_s (Decidable.byContradiction (by assumption)) | exact pick_s (by assumption)
      refine WPc.region ?_
      refine WP.val rfl rfl rfl (Val.move rfl rfl) ?_
      refine WP.val rfl rfl rfl (Val.move rfl rfl) ?_
      refine WP.eff rfl rfl rfl (Eff.cmp (a := (S x).m) (b := (S ((S x).r)).m) rfl rfl rfl (Ok.m ok hxD) (Ok.m ok (Is.mem (Ok.r ok hxD) (by first | assumption | (intro hh; simp_all; done) | (simp_all; done)))) ((hE _ (Ok.m ok hxD)).trans (hE _ (Ok.m ok (Is.mem (Ok.r ok hxD) (by first | assumption | (intro hh; simp_all; done) | (simp_all; done))))).symm)) ?_
      rintro _ _ ⟨rfl, rfl⟩
      refine WP.val rfl rfl rfl (Val.eql rfl rfl rfl) ?_
      refine WP.nx ?_
      refine WPc.ifP rfl (fun h11 => ?_) (fun h11 => ?_)
      ·
       have h11 : ((kcmp ((S x).m).k ((S ((S x).r)).m).k) = (0 : Int)) := h11
       refine WPc.exit ?_
       refine Out.then_exit ?_
       refine Out.block_other rfl ?_
       refine Out.then_exit ?_
       refine Out.block_exit ?_
       have hfin : um s n0 S0 x0 = S := by rw [← hum]; exact um_eq hxs hp2 (by assumption)
       exact Out.end0 (L' := [Ens EL, Sto (um s n0 S0 x0) D, Blk s ZC 177]) Try.results133 rfl (fun w h => by rw [hfin]; exact h)
      ·
       have h11 : ¬ ((kcmp ((S x).m).k ((S ((S x).r)).m).k) = (0 : Int)) := h11
       refine WPc.skip ?_
       refine Out.next ?_
       refine WPc.sr ?_
       refine WP.val rfl rfl rfl (Val.move rfl rfl) ?_
       refine WP.val rfl rfl rfl (Val.move rfl rfl) ?_
       refine WP.val rfl rfl rfl (Val.nilCheck rfl rfl) ?_
       refine WP.val rfl rfl rfl (Val.fieldAddr (j := 3) rfl Ty.fo177_1 rfl rfl) ?_
       refine WP.perm pl1 ?_
       refine WP.eff0 rfl rfl (Eff.storeK (f := fun i => (S i).cells) (f' := fun i => (setM S x ((S ((S x).r)).m) i).cells) rfl Ty.sc170 rfl rfl rfl hxD (show 3 < 8 by decide) (by unfold setM; rw [upd_same]; rfl) (by unfold setM; exact cells_other)) ?_
       rintro _ _ rfl
       show WP _ _ _ _ _ _ _ (Sto (setM S x ((S ((S x).r)).m)) D :: _)
       obtain ⟨S19, hS19⟩ : ∃ S19, S19 = setM S x ((S ((S x).r)).m) := ⟨_, rfl⟩
       rw [← hS19]
       have okS19 : Ok s EL D S19 := by rw [hS19]; exact (ok.setM (Ok.m ok (Is.mem (Ok.r ok hxD) (by first | assumption | (intro hh; simp_all; done) | (simp_all; done)))))
       have k20 : (S19 x).p = (S x).p := (by rw [hS19]; exact (setM_p _ _ _ _).trans rfl)
       have k21 : (S19 x).l = (S x).l := (by rw [hS19]; exact (setM_l _ _ _ _).trans rfl)
       have k22 : (S19 x).r = (S x).r := (by rw [hS19]; exact (setM_r _ _ _ _).trans rfl)
       have k23 : (S19 x).it.e = (S x).it.e := (by rw [hS19]; exact (congrArg It.e (setM_it _ _ _ _)).trans rfl)
       have k24 : (S19 x).m = (S ((S x).r)).m := by rw [hS19]; exact setM_same _ _ _
       refine WP.nx ?_
       refine WPc.region ?_
       refine WP.val rfl rfl rfl (Val.move rfl rfl) ?_
       refine WP.val rfl rfl rfl (Val.nilCheck rfl rfl) ?_
       refine WP.val rfl rfl rfl (Val.fieldAddr (j := 6) rfl Ty.fo177_4 rfl rfl) ?_
       refine WP.val rfl rfl rfl (Val.load (v := .pointer (some ⟨(S x).p, 0, none⟩)) rfl Ty.sc168 rfl (fun w h => sto_p (h.at 0 rfl) hxD k20)) ?_
       refine WP.val rfl rfl rfl (Val.assign rfl rfl) ?_
       refine WP.nil ?_
       refine Out.block ?_
       have hnx : um s n S19 (S x).p = um s n0 S0 x0 := by rw [hS19, ← hum]; exact (um_ne hxs hp2 (by assumption)).symm
       have hd2 : Dep s S19 n (S x).p := by rw [hS19]; exact Dep.congr (fun i => setM_p _ _ _ i) hdp1
       refine Out.perm pl2 ?_
       refine Out.perm pl1 ?_
       refine Out.perm pl2 ?_
       refine Out.again ⟨S19, (S x).p, n⟩ ?_ ?_ ?_ ?_
       ·
        exact ⟨hnx, okS19, (Ok.p ok hxD), hd2⟩
       ·
        show n < n + 1; omega
       ·
        exact (Sub.cons rfl (Sub.cons rfl Sub.nil))
       ·
        exact (fun _ h => h)
     ·
      have h10 : ¬ ((0 : Int) < (kcmp ((S ((S x).r)).m).k ((S x).it.e).k)) := h10
      refine WPc.skip ?_
      refine Out.next ?_
      refine WPc.seq ?_
      refine WPc.seq ?_
      have hp2 : newm s S x = (S x).it.e := by unfold newm; rw [hp1]; first | exact pick_gt (by assumption) (by assumption) | exact pick_le (by assumption) (by (first | assumption | omega)) | exact pick_s (Decidable.byContradiction (by assumption)) | exact pick_s (by assumption)
      refine WPc.region ?_
      refine WP.val rfl rfl rfl (Val.move rfl rfl) ?_
      refine WP.val rfl rfl rfl (Val.move rfl rfl) ?_
      refine WP.eff rfl rfl rfl (Eff.cmp (a := (S x).m) (b := (S x).it.e) rfl rfl rfl (Ok.m ok hxD) (Ok.e ok hxD) ((hE _ (Ok.m ok hxD)).trans (hE _ (Ok.e ok hxD)).symm)) ?_
      rintro _ _ ⟨rfl, rfl⟩
      refine WP.val rfl rfl rfl (Val.eql rfl rfl rfl) ?_
      refine WP.nx ?_
      refine WPc.ifP rfl (fun h12 => ?_) (fun h12 => ?_)
      ·
       have h12 : ((kcmp ((S x).m).k ((S x).it.e).k) = (0 : Int)) := h12
       refine WPc.exit ?_
       refine Out.then_exit ?_
       refine Out.block_other rfl ?_
       refine Out.then_exit ?_
       refine Out.block_exit ?_
       have hfin : um s n0 S0 x0 = S := by rw [← hum]; exact um_eq hxs hp2 (by assumption)
       exact Out.end0 (L' := [Ens EL, Sto (um s n0 S0 x0) D, Blk s ZC 177]) Try.results133 rfl (fun w h => by rw [hfin]; exact h)
      ·
       have h12 : ¬ ((kcmp ((S x).m).k ((S x).it.e).k) = (0 : Int)) := h12
       refine WPc.skip ?_
       refine Out.next ?_
       refine WPc.sr ?_
       refine WP.val rfl rfl rfl (Val.move rfl rfl) ?_
       refine WP.val rfl rfl rfl (Val.move rfl rfl) ?_
       refine WP.val rfl rfl rfl (Val.nilCheck rfl rfl) ?_
       refine WP.val rfl rfl rfl (Val.fieldAddr (j := 3) rfl Ty.fo177_1 rfl rfl) ?_
       refine WP.perm pl1 ?_
       refine WP.eff0 rfl rfl (Eff.storeK (f := fun i => (S i).cells) (f' := fun i => (setM S x ((S x).it.e) i).cells) rfl Ty.sc170 rfl rfl rfl hxD (show 3 < 8 by decide) (by unfold setM; rw [upd_same]; rfl) (by unfold setM; exact cells_other)) ?_
       rintro _ _ rfl
       show WP _ _ _ _ _ _ _ (Sto (setM S x ((S x).it.e)) D :: _)
       obtain ⟨S25, hS25⟩ : ∃ S25, S25 = setM S x ((S x).it.e) := ⟨_, rfl⟩
       rw [← hS25]
       have okS25 : Ok s EL D S25 := by rw [hS25]; exact (ok.setM (Ok.e ok hxD))
       have k26 : (S25 x).p = (S x).p := (by rw [hS25]; exact (setM_p _ _ _ _).trans rfl)
       have k27 : (S25 x).l = (S x).l := (by rw [hS25]; exact (setM_l _ _ _ _).trans rfl)
       have k28 : (S25 x).r = (S x).r := (by rw [hS25]; exact (setM_r _ _ _ _).trans rfl)
       have k29 : (S25 x).it.e = (S x).it.e := (by rw [hS25]; exact (congrArg It.e (setM_it _ _ _ _)).trans rfl)
       have k30 : (S25 x).m = (S x).it.e := by rw [hS25]; exact setM_same _ _ _
       refine WP.nx ?_
       refine WPc.region ?_
       refine WP.val rfl rfl rfl (Val.move rfl rfl) ?_
       refine WP.val rfl rfl rfl (Val.nilCheck rfl rfl) ?_
       refine WP.val rfl rfl rfl (Val.fieldAddr (j := 6) rfl Ty.fo177_4 rfl rfl) ?_
       refine WP.val rfl rfl rfl (Val.load (v := .pointer (some ⟨(S x).p, 0, none⟩)) rfl Ty.sc168 rfl (fun w h => sto_p (h.at 0 rfl) hxD k26)) ?_
       refine WP.val rfl rfl rfl (Val.assign rfl rfl) ?_
       refine WP.nil ?_
       refine Out.block ?_
       have hnx : um s n S25 (S x).p = um s n0 S0 x0 := by rw [hS25, ← hum]; exact (um_ne hxs hp2 (by assumption)).symm
       have hd2 : Dep s S25 n (S x).p := by rw [hS25]; exact Dep.congr (fun i => setM_p _ _ _ i) hdp1
       refine Out.perm pl2 ?_
       refine Out.perm pl1 ?_
       refine Out.perm pl2 ?_
       refine Out.again ⟨S25, (S x).p, n⟩ ?_ ?_ ?_ ?_
       ·
        exact ⟨hnx, okS25, (Ok.p ok hxD), hd2⟩
       ·
        show n < n + 1; omega
       ·
        exact (Sub.cons rfl (Sub.cons rfl Sub.nil))
       ·
        exact (fun _ h => h)
    ·
     have h9 : ¬ ((S x).r ≠ s) := h9
     iterate 10 (refine WP.skip rfl rfl rfl rfl rfl rfl rfl ?_)
     refine WP.val rfl rfl rfl (Val.pickF rfl rfl rfl) ?_
     refine WP.nx ?_
     refine WPc.condF rfl rfl ?_
     refine WPc.skip ?_
     refine Out.next ?_
     refine WPc.seq ?_
     refine WPc.seq ?_
     have hp2 : newm s S x = (S x).it.e := by unfold newm; rw [hp1]; first | exact pick_gt (by assumption) (by assumption) | exact pick_le (by assumption) (by (first | assumption | omega)) | exact pick_s (Decidable.byContradiction (by assumption)) | exact pick_s (by assumption)
     refine WPc.region ?_
     refine WP.val rfl rfl rfl (Val.move rfl rfl) ?_
     refine WP.val rfl rfl rfl (Val.move rfl rfl) ?_
     refine WP.eff rfl rfl rfl (Eff.cmp (a := (S x).m) (b := (S x).it.e) rfl rfl rfl (Ok.m ok hxD) (Ok.e ok hxD) ((hE _ (Ok.m ok hxD)).trans (hE _ (Ok.e ok hxD)).symm)) ?_
     rintro _ _ ⟨rfl, rfl⟩
     refine WP.val rfl rfl rfl (Val.eql rfl rfl rfl) ?_
     refine WP.nx ?_
     refine WPc.ifP rfl (fun h13 => ?_) (fun h13 => ?_)
     ·
      have h13 : ((kcmp ((S x).m).k ((S x).it.e).k) = (0 : Int)) := h13
      refine WPc.exit ?_
      refine Out.then_exit ?_
      refine Out.block_other rfl ?_
      refine Out.then_exit ?_
      refine Out.block_exit ?_
      have hfin : um s n0 S0 x0 = S := by rw [← hum]; exact um_eq hxs hp2 (by assumption)
      exact Out.end0 (L' := [Ens EL, Sto (um s n0 S0 x0) D, Blk s ZC 177]) Try.results133 rfl (fun w h => by rw [hfin]; exact h)
     ·
      have h13 : ¬ ((kcmp ((S x).m).k ((S x).it.e).k) = (0 : Int)) := h13
      refine WPc.skip ?_
      refine Out.next ?_
      refine WPc.sr ?_
      refine WP.val rfl rfl rfl (Val.move rfl rfl) ?_
      refine WP.val rfl rfl rfl (Val.move rfl rfl) ?_
      refine WP.val rfl rfl rfl (Val.nilCheck rfl rfl) ?_
      refine WP.val rfl rfl rfl (Val.fieldAddr (j := 3) rfl Ty.fo177_1 rfl rfl) ?_
      refine WP.perm pl1 ?_
      refine WP.eff0 rfl rfl (Eff.storeK (f := fun i => (S i).cells) (f' := fun i => (setM S x ((S x).it.e) i).cells) rfl Ty.sc170 rfl rfl rfl hxD (show 3 < 8 by decide) (by unfold setM; rw [upd_same]; rfl) (by unfold setM; exact cells_other)) ?_
      rintro _ _ rfl
      show WP _ _ _ _ _ _ _ (Sto (setM S x ((S x).it.e)) D :: _)
      obtain ⟨S31, hS31⟩ : ∃ S31, S31 = setM S x ((S x).it.e) := ⟨_, rfl⟩
      rw [← hS31]
      have okS31 : Ok s EL D S31 := by rw [hS31]; exact (ok.setM (Ok.e ok hxD))
      have k32 : (S31 x).p = (S x).p := (by rw [hS31]; exact (setM_p _ _ _ _).trans rfl)
      have k33 : (S31 x).l = (S x).l := (by rw [hS31]; exact (setM_l _ _ _ _).trans rfl)
      have k34 : (S31 x).r = (S x).r := (by rw [hS31]; exact (setM_r _ _ _ _).trans rfl)
      have k35 : (S31 x).it.e = (S x).it.e := (by rw [hS31]; exact (congrArg It.e (setM_it _ _ _ _)).trans rfl)
      have k36 : (S31 x).m = (S x).it.e := by rw [hS31]; exact setM_same _ _ _
      refine WP.nx ?_
      refine WPc.region ?_
      refine WP.val rfl rfl rfl (Val.move rfl rfl) ?_
      refine WP.val rfl rfl rfl (Val.nilCheck rfl rfl) ?_
      refine WP.val rfl rfl rfl (Val.fieldAddr (j := 6) rfl Ty.fo177_4 rfl rfl) ?_
      refine WP.val rfl rfl rfl (Val.load (v := .pointer (some ⟨(S x).p, 0, none⟩)) rfl Ty.sc168 rfl (fun w h => sto_p (h.at 0 rfl) hxD k32)) ?_
      refine WP.val rfl rfl rfl (Val.assign rfl rfl) ?_
      refine WP.nil ?_
      refine Out.block ?_
      have hnx : um s n S31 (S x).p = um s n0 S0 x0 := by rw [hS31, ← hum]; exact (um_ne hxs hp2 (by assumption)).symm
      have hd2 : Dep s S31 n (S x).p := by rw [hS31]; exact Dep.congr (fun i => setM_p _ _ _ i) hdp1
      refine Out.perm pl2 ?_
      refine Out.perm pl1 ?_
      refine Out.perm pl2 ?_
      refine Out.again ⟨S31, (S x).p, n⟩ ?_ ?_ ?_ ?_
      ·
       exact ⟨hnx, okS31, (Ok.p ok hxD), hd2⟩
      ·
       show n < n + 1; omega
      ·
       exact (Sub.cons rfl (Sub.cons rfl Sub.nil))
      ·
       exact (fun _ h => h)
  ·
   have h2 : ¬ ((S x).l ≠ s) := h2
   iterate 10 (refine WP.skip rfl rfl rfl rfl rfl rfl rfl ?_)
   refine WP.val rfl rfl rfl (Val.pickF rfl rfl rfl) ?_
   refine WP.nx ?_
   refine WPc.condF rfl rfl ?_
   refine WPc.skip ?_
   refine Out.next ?_
   refine WPc.seq ?_
   refine WPc.seq ?_
   have hp1 : pickm (S x).it.e (chm s S (S x).l) = (S x).it.e := by first | exact pick_gt (by assumption) (by assumption) | exact pick_le (by assumption) (by (first | assumption | omega)) | exact pick_s (Decidable.byContradiction (by assumption)) | exact pick_s (by assumption)
   refine WPc.region ?_
   refine WP.val rfl rfl rfl (Val.move rfl rfl) ?_
   refine WP.val rfl rfl rfl (Val.nilCheck rfl rfl) ?_
   refine WP.val rfl rfl rfl (Val.fieldAddr (j := 5) rfl Ty.fo177_3 rfl rfl) ?_
   refine WP.val rfl rfl rfl (Val.load (v := .pointer (some ⟨(S x).r, 0, none⟩)) rfl Ty.sc168 rfl (fun w h => sto_r (h.at 1 rfl) hxD rfl)) ?_
   refine WP.val rfl rfl rfl (Val.move rfl rfl) ?_
   refine WP.val rfl rfl rfl (Val.neqP (T1 := 177) (T2 := 177) rfl pn168 rfl rfl rfl rfl (fun w h => whole (h.at 1 rfl) (h.at 2 rfl) (Ok.r ok hxD)) (fun w h => whole (h.at 1 rfl) (h.at 2 rfl) (.inl rfl))) ?_
   refine WP.val rfl rfl rfl (Val.move rfl rfl) ?_
   refine WP.split 50 rfl (fun h14 => ?_) (fun h14 => ?_)
   ·
    have h14 : ((S x).r ≠ s) := h14
    refine WP.valG rfl rfl rfl rfl rfl rfl rfl (Val.move rfl rfl) ?_
    refine WP.valG rfl rfl rfl rfl rfl rfl rfl (Val.nilCheck rfl rfl) ?_
    refine WP.valG rfl rfl rfl rfl rfl rfl rfl (Val.fieldAddr (j := 5) rfl Ty.fo177_3 rfl rfl) ?_
    refine WP.valG rfl rfl rfl rfl rfl rfl rfl (Val.load (v := .pointer (some ⟨(S x).r, 0, none⟩)) rfl Ty.sc168 rfl (fun w h => sto_r (h.at 1 rfl) hxD rfl)) ?_
    refine WP.valG rfl rfl rfl rfl rfl rfl rfl (Val.nilCheck rfl rfl) ?_
    refine WP.valG rfl rfl rfl rfl rfl rfl rfl (Val.fieldAddr (j := 3) rfl Ty.fo177_1 rfl rfl) ?_
    refine WP.valG rfl rfl rfl rfl rfl rfl rfl (Val.load (v := .iface ((S ((S x).r)).m).t (((S ((S x).r)).m).u)) rfl Ty.sc170 rfl (fun w h => sto_m (h.at 1 rfl) (Is.mem (Ok.r ok hxD) (by first | assumption | (intro hh; simp_all; done) | (simp_all; done))) rfl)) ?_
    refine WP.valG rfl rfl rfl rfl rfl rfl rfl (Val.move rfl rfl) ?_
    refine WP.effG rfl rfl rfl rfl rfl rfl rfl (Eff.cmp (a := (S ((S x).r)).m) (b := (S x).it.e) rfl rfl rfl (Ok.m ok (Is.mem (Ok.r ok hxD) (by first | assumption | (intro hh; simp_all; done) | (simp_all; done)))) (Ok.e ok hxD) ((hE _ (Ok.m ok (Is.mem (Ok.r ok hxD) (by first | assumption | (intro hh; simp_all; done) | (simp_all; done))))).trans (hE _ (Ok.e ok hxD)).symm)) ?_
    rintro _ _ ⟨rfl, rfl⟩
    refine WP.valG rfl rfl rfl rfl rfl rfl rfl (Val.gtr rfl rfl rfl) ?_
    refine WP.val rfl rfl rfl (Val.pickT rfl rfl rfl) ?_
    refine WP.nx ?_
    refine WPc.ifP rfl (fun h15 => ?_) (fun h15 => ?_)
    ·
     have h15 : ((0 : Int) < (kcmp ((S ((S x).r)).m).k ((S x).it.e).k)) := h15
     refine WPc.region ?_
     refine WP.val rfl rfl rfl (Val.move rfl rfl) ?_
     refine WP.val rfl rfl rfl (Val.nilCheck rfl rfl) ?_
     refine WP.val rfl rfl rfl (Val.fieldAddr (j := 5) rfl Ty.fo177_3 rfl rfl) ?_
     refine WP.val rfl rfl rfl (Val.load (v := .pointer (some ⟨(S x).r, 0, none⟩)) rfl Ty.sc168 rfl (fun w h => sto_r (h.at 1 rfl) hxD rfl)) ?_
     refine WP.val rfl rfl rfl (Val.nilCheck rfl rfl) ?_
     refine WP.val rfl rfl rfl (Val.fieldAddr (j := 3) rfl Ty.fo177_1 rfl rfl) ?_
     refine WP.val rfl rfl rfl (Val.load (v := .iface ((S ((S x).r)).m).t (((S ((S x).r)).m).u)) rfl Ty.sc170 rfl (fun w h => sto_m (h.at 1 rfl) (Is.mem (Ok.r ok hxD) (by first | assumption | (intro hh; simp_all; done) | (simp_all; done))) rfl)) ?_
     refine WP.val rfl rfl rfl (Val.assign rfl rfl) ?_
     refine WP.nx ?_
     refine WPc.seq ?_
     refine WPc.seq ?_
     have hp2 : newm s S x = (S ((S x).r)).m := by unfold newm; rw [hp1]; first | exact pick_gt (by assumption) (by assumption) | exact pick_le (by assumption) (by (first | assumption | omega)) | exact pick_s (Decidable.byContradiction (by assumption)) | exact pick_s (by assumption)
     refine WPc.region ?_
     refine WP.val rfl rfl rfl (Val.move rfl rfl) ?_
     refine WP.val rfl rfl rfl (Val.move rfl rfl) ?_
     refine WP.eff rfl rfl rfl (Eff.cmp (a := (S x).m) (b := (S ((S x).r)).m) rfl rfl rfl (Ok.m ok hxD) (Ok.m ok (Is.mem (Ok.r ok hxD) (by first | assumption | (intro hh; simp_all; done) | (simp_all; done)))) ((hE _ (Ok.m ok hxD)).trans (hE _ (Ok.m ok (Is.mem (Ok.r ok hxD) (by first | assumption | (intro hh; simp_all; done) | (simp_all; done))))).symm)) ?_
     rintro _ _ ⟨rfl, rfl⟩
     refine WP.val rfl rfl rfl (Val.eql rfl rfl rfl) ?_
     refine WP.nx ?_
     refine WPc.ifP rfl (fun h16 => ?_) (fun h16 => ?_)
     ·
      have h16 : ((kcmp ((S x).m).k ((S ((S x).r)).m).k) = (0 : Int)) := h16
      refine WPc.exit ?_
      refine Out.then_exit ?_
      refine Out.block_other rfl ?_
      refine Out.then_exit ?_
      refine Out.block_exit ?_
      have hfin : um s n0 S0 x0 = S := by rw [← hum]; exact um_eq hxs hp2 (by assumption)
      exact Out.end0 (L' := [Ens EL, Sto (um s n0 S0 x0) D, Blk s ZC 177]) Try.results133 rfl (fun w h => by rw [hfin]; exact h)
     ·
      have h16 : ¬ ((kcmp ((S x).m).k ((S ((S x).r)).m).k) = (0 : Int)) := h16
      refine WPc.skip ?_
      refine Out.next ?_
      refine WPc.sr ?_
      refine WP.val rfl rfl rfl (Val.move rfl rfl) ?_
      refine WP.val rfl rfl rfl (Val.move rfl rfl) ?_
      refine WP.val rfl rfl rfl (Val.nilCheck rfl rfl) ?_
      refine WP.val rfl rfl rfl (Val.fieldAddr (j := 3) rfl Ty.fo177_1 rfl rfl) ?_
      refine WP.perm pl1 ?_
      refine WP.eff0 rfl rfl (Eff.storeK (f := fun i => (S i).cells) (f' := fun i => (setM S x ((S ((S x).r)).m) i).cells) rfl Ty.sc170 rfl rfl rfl hxD (show 3 < 8 by decide) (by unfold setM; rw [upd_same]; rfl) (by unfold setM; exact cells_other)) ?_
      rintro _ _ rfl
      show WP _ _ _ _ _ _ _ (Sto (setM S x ((S ((S x).r)).m)) D :: _)
      obtain ⟨S37, hS37⟩ : ∃ S37, S37 = setM S x ((S ((S x).r)).m) := ⟨_, rfl⟩
      rw [← hS37]
      have okS37 : Ok s EL D S37 := by rw [hS37]; exact (ok.setM (Ok.m ok (Is.mem (Ok.r ok hxD) (by first | assumption | (intro hh; simp_all; done) | (simp_all; done)))))
      have k38 : (S37 x).p = (S x).p := (by rw [hS37]; exact (setM_p _ _ _ _).trans rfl)
      have k39 : (S37 x).l = (S x).l := (by rw [hS37]; exact (setM_l _ _ _ _).trans rfl)
      have k40 : (S37 x).r = (S x).r := (by rw [hS37]; exact (setM_r _ _ _ _).trans rfl)
      have k41 : (S37 x).it.e = (S x).it.e := (by rw [hS37]; exact (congrArg It.e (setM_it _ _ _ _)).trans rfl)
      have k42 : (S37 x).m = (S ((S x).r)).m := by rw [hS37]; exact setM_same _ _ _
      refine WP.nx ?_
      refine WPc.region ?_
      refine WP.val rfl rfl rfl (Val.move rfl rfl) ?_
      refine WP.val rfl rfl rfl (Val.nilCheck rfl rfl) ?_
      refine WP.val rfl rfl rfl (Val.fieldAddr (j := 6) rfl Ty.fo177_4 rfl rfl) ?_
      refine WP.val rfl rfl rfl (Val.load (v := .pointer (some ⟨(S x).p, 0, none⟩)) rfl Ty.sc168 rfl (fun w h => sto_p (h.at 0 rfl) hxD k38)) ?_
      refine WP.val rfl rfl rfl (Val.assign rfl rfl) ?_
      refine WP.nil ?_
      refine Out.block ?_
      have hnx : um s n S37 (S x).p = um s n0 S0 x0 := by rw [hS37, ← hum]; exact (um_ne hxs hp2 (by assumption)).symm
      have hd2 : Dep s S37 n (S x).p := by rw [hS37]; exact Dep.congr (fun i => setM_p _ _ _ i) hdp1
      refine Out.perm pl2 ?_
      refine Out.perm pl1 ?_
      refine Out.perm pl2 ?_
      refine Out.again ⟨S37, (S x).p, n⟩ ?_ ?_ ?_ ?_
      ·
       exact ⟨hnx, okS37, (Ok.p ok hxD), hd2⟩
      ·
       show n < n + 1; omega
      ·
       exact (Sub.cons rfl (Sub.cons rfl Sub.nil))
      ·
       exact (fun _ h => h)
    ·
     have h15 : ¬ ((0 : Int) < (kcmp ((S ((S x).r)).m).k ((S x).it.e).k)) := h15
     refine WPc.skip ?_
     refine Out.next ?_
     refine WPc.seq ?_
     refine WPc.seq ?_
     have hp2 : newm s S x = (S x).it.e := by unfold newm; rw [hp1]; first | exact pick_gt (by assumption) (by assumption) | exact pick_le (by assumption) (by (first | assumption | omega)) | exact pick_s (Decidable.byContradiction (by assumption)) | exact pick_s (by assumption)
     refine WPc.region ?_
     refine WP.val rfl rfl rfl (Val.move rfl rfl) ?_
     refine WP.val rfl rfl rfl (Val.move rfl rfl) ?_
     refine WP.eff rfl rfl rfl (Eff.cmp (a := (S x).m) (b := (S x).it.e) rfl rfl rfl (Ok.m ok hxD) (Ok.e ok hxD) ((hE _ (Ok.m ok hxD)).trans (hE _ (Ok.e ok hxD)).symm)) ?_
     rintro _ _ ⟨rfl, rfl⟩
     refine WP.val rfl rfl rfl (Val.eql rfl rfl rfl) ?_
     refine WP.nx ?_
     refine WPc.ifP rfl (fun h17 => ?_) (fun h17 => ?_)
     ·
      have h17 : ((kcmp ((S x).m).k ((S x).it.e).k) = (0 : Int)) := h17
      refine WPc.exit ?_
      refine Out.then_exit ?_
      refine Out.block_other rfl ?_
      refine Out.then_exit ?_
      refine Out.block_exit ?_
      have hfin : um s n0 S0 x0 = S := by rw [← hum]; exact um_eq hxs hp2 (by assumption)
      exact Out.end0 (L' := [Ens EL, Sto (um s n0 S0 x0) D, Blk s ZC 177]) Try.results133 rfl (fun w h => by rw [hfin]; exact h)
     ·
      have h17 : ¬ ((kcmp ((S x).m).k ((S x).it.e).k) = (0 : Int)) := h17
      refine WPc.skip ?_
      refine Out.next ?_
      refine WPc.sr ?_
      refine WP.val rfl rfl rfl (Val.move rfl rfl) ?_
      refine WP.val rfl rfl rfl (Val.move rfl rfl) ?_
      refine WP.val rfl rfl rfl (Val.nilCheck rfl rfl) ?_
      refine WP.val rfl rfl rfl (Val.fieldAddr (j := 3) rfl Ty.fo177_1 rfl rfl) ?_
      refine WP.perm pl1 ?_
      refine WP.eff0 rfl rfl (Eff.storeK (f := fun i => (S i).cells) (f' := fun i => (setM S x ((S x).it.e) i).cells) rfl Ty.sc170 rfl rfl rfl hxD (show 3 < 8 by decide) (by unfold setM; rw [upd_same]; rfl) (by unfold setM; exact cells_other)) ?_
      rintro _ _ rfl
      show WP _ _ _ _ _ _ _ (Sto (setM S x ((S x).it.e)) D :: _)
      obtain ⟨S43, hS43⟩ : ∃ S43, S43 = setM S x ((S x).it.e) := ⟨_, rfl⟩
      rw [← hS43]
      have okS43 : Ok s EL D S43 := by rw [hS43]; exact (ok.setM (Ok.e ok hxD))
      have k44 : (S43 x).p = (S x).p := (by rw [hS43]; exact (setM_p _ _ _ _).trans rfl)
      have k45 : (S43 x).l = (S x).l := (by rw [hS43]; exact (setM_l _ _ _ _).trans rfl)
      have k46 : (S43 x).r = (S x).r := (by rw [hS43]; exact (setM_r _ _ _ _).trans rfl)
      have k47 : (S43 x).it.e = (S x).it.e := (by rw [hS43]; exact (congrArg It.e (setM_it _ _ _ _)).trans rfl)
      have k48 : (S43 x).m = (S x).it.e := by rw [hS43]; exact setM_same _ _ _
      refine WP.nx ?_
      refine WPc.region ?_
      refine WP.val rfl rfl rfl (Val.move rfl rfl) ?_
      refine WP.val rfl rfl rfl (Val.nilCheck rfl rfl) ?_
      refine WP.val rfl rfl rfl (Val.fieldAddr (j := 6) rfl Ty.fo177_4 rfl rfl) ?_
      refine WP.val rfl rfl rfl (Val.load (v := .pointer (some ⟨(S x).p, 0, none⟩)) rfl Ty.sc168 rfl (fun w h => sto_p (h.at 0 rfl) hxD k44)) ?_
      refine WP.val rfl rfl rfl (Val.assign rfl rfl) ?_
      refine WP.nil ?_
      refine Out.block ?_
      have hnx : um s n S43 (S x).p = um s n0 S0 x0 := by rw [hS43, ← hum]; exact (um_ne hxs hp2 (by assumption)).symm
      have hd2 : Dep s S43 n (S x).p := by rw [hS43]; exact Dep.congr (fun i => setM_p _ _ _ i) hdp1
      refine Out.perm pl2 ?_
      refine Out.perm pl1 ?_
      refine Out.perm pl2 ?_
      refine Out.again ⟨S43, (S x).p, n⟩ ?_ ?_ ?_ ?_
      ·
       exact ⟨hnx, okS43, (Ok.p ok hxD), hd2⟩
      ·
       show n < n + 1; omega
      ·
       exact (Sub.cons rfl (Sub.cons rfl Sub.nil))
      ·
       exact (fun _ h => h)
   ·
    have h14 : ¬ ((S x).r ≠ s) := h14
    iterate 10 (refine WP.skip rfl rfl rfl rfl rfl rfl rfl ?_)
    refine WP.val rfl rfl rfl (Val.pickF rfl rfl rfl) ?_
    refine WP.nx ?_
    refine WPc.condF rfl rfl ?_
    refine WPc.skip ?_
    refine Out.next ?_
    refine WPc.seq ?_
    refine WPc.seq ?_
    have hp2 : newm s S x = (S x).it.e := by unfold newm; rw [hp1]; first | exact pick_gt (by assumption) (by assumption) | exact pick_le (by assumption) (by (first | assumption | omega)) | exact pick_s (Decidable.byContradiction (by assumption)) | exact pick_s (by assumption)
    refine WPc.region ?_
    refine WP.val rfl rfl rfl (Val.move rfl rfl) ?_
    refine WP.val rfl rfl rfl (Val.move rfl rfl) ?_
    refine WP.eff rfl rfl rfl (Eff.cmp (a := (S x).m) (b := (S x).it.e) rfl rfl rfl (Ok.m ok hxD) (Ok.e ok hxD) ((hE _ (Ok.m ok hxD)).trans (hE _ (Ok.e ok hxD)).symm)) ?_
    rintro _ _ ⟨rfl, rfl⟩
    refine WP.val rfl rfl rfl (Val.eql rfl rfl rfl) ?_
    refine WP.nx ?_
    refine WPc.ifP rfl (fun h18 => ?_) (fun h18 => ?_)
    ·
     have h18 : ((kcmp ((S x).m).k ((S x).it.e).k) = (0 : Int)) := h18
     refine WPc.exit ?_
     refine Out.then_exit ?_
     refine Out.block_other rfl ?_
     refine Out.then_exit ?_
     refine Out.block_exit ?_
     have hfin : um s n0 S0 x0 = S := by rw [← hum]; exact um_eq hxs hp2 (by assumption)
     exact Out.end0 (L' := [Ens EL, Sto (um s n0 S0 x0) D, Blk s ZC 177]) Try.results133 rfl (fun w h => by rw [hfin]; exact h)
    ·
     have h18 : ¬ ((kcmp ((S x).m).k ((S x).it.e).k) = (0 : Int)) := h18
     refine WPc.skip ?_
     refine Out.next ?_
     refine WPc.sr ?_
     refine WP.val rfl rfl rfl (Val.move rfl rfl) ?_
     refine WP.val rfl rfl rfl (Val.move rfl rfl) ?_
     refine WP.val rfl rfl rfl (Val.nilCheck rfl rfl) ?_
     refine WP.val rfl rfl rfl (Val.fieldAddr (j := 3) rfl Ty.fo177_1 rfl rfl) ?_
     refine WP.perm pl1 ?_
     refine WP.eff0 rfl rfl (Eff.storeK (f := fun i => (S i).cells) (f' := fun i => (setM S x ((S x).it.e) i).cells) rfl Ty.sc170 rfl rfl rfl hxD (show 3 < 8 by decide) (by unfold setM; rw [upd_same]; rfl) (by unfold setM; exact cells_other)) ?_
     rintro _ _ rfl
     show WP _ _ _ _ _ _ _ (Sto (setM S x ((S x).it.e)) D :: _)
     obtain ⟨S49, hS49⟩ : ∃ S49, S49 = setM S x ((S x).it.e) := ⟨_, rfl⟩
     rw [← hS49]
     have okS49 : Ok s EL D S49 := by rw [hS49]; exact (ok.setM (Ok.e ok hxD))
     have k50 : (S49 x).p = (S x).p := (by rw [hS49]; exact (setM_p _ _ _ _).trans rfl)
     have k51 : (S49 x).l = (S x).l := (by rw [hS49]; exact (setM_l _ _ _ _).trans rfl)
     have k52 : (S49 x).r = (S x).r := (by rw [hS49]; exact (setM_r _ _ _ _).trans rfl)
     have k53 : (S49 x).it.e = (S x).it.e := (by rw [hS49]; exact (congrArg It.e (setM_it _ _ _ _)).trans rfl)
     have k54 : (S49 x).m = (S x).it.e := by rw [hS49]; exact setM_same _ _ _
     refine WP.nx ?_
     refine WPc.region ?_
     refine WP.val rfl rfl rfl (Val.move rfl rfl) ?_
     refine WP.val rfl rfl rfl (Val.nilCheck rfl rfl) ?_
     refine WP.val rfl rfl rfl (Val.fieldAddr (j := 6) rfl Ty.fo177_4 rfl rfl) ?_
     refine WP.val rfl rfl rfl (Val.load (v := .pointer (some ⟨(S x).p, 0, none⟩)) rfl Ty.sc168 rfl (fun w h => sto_p (h.at 0 rfl) hxD k50)) ?_
     refine WP.val rfl rfl rfl (Val.assign rfl rfl) ?_
     refine WP.nil ?_
     refine Out.block ?_
     have hnx : um s n S49 (S x).p = um s n0 S0 x0 := by rw [hS49, ← hum]; exact (um_ne hxs hp2 (by assumption)).symm
     have hd2 : Dep s S49 n (S x).p := by rw [hS49]; exact Dep.congr (fun i => setM_p _ _ _ i) hdp1
     refine Out.perm pl2 ?_
     refine Out.perm pl1 ?_
     refine Out.perm pl2 ?_
     refine Out.again ⟨S49, (S x).p, n⟩ ?_ ?_ ?_ ?_
     ·
      exact ⟨hnx, okS49, (Ok.p ok hxD), hd2⟩
     ·
      show n < n + 1; omega
     ·
      exact (Sub.cons rfl (Sub.cons rfl Sub.nil))
     ·
      exact (fun _ h => h)
 ·
  have h1 : ¬ (x ≠ s) := h1
  refine WPc.exit ?_
  refine Out.then_exit ?_
  refine Out.then_exit ?_
  refine Out.block_exit ?_
  have hxs : x = s := Decidable.byContradiction (by assumption)
  have hfin : um s n0 S0 x0 = S := by rw [← hum, hxs]; exact um_s s n S
  exact Out.end0 (L' := [Ens EL, Sto (um s n0 S0 x0) D, Blk s ZC 177]) Try.results133 rfl (fun w h => by rw [hfin]; exact h)

end Go.Proofs.Ytbomnihiapjmpaa.Te

namespace Go.Proofs.Ytbomnihiapjmpaa.Tf
open Go.RowKit Go.Proofs.Ytbomnihiapjmpaa Go.Proofs.Ytbomnihiapjmpaa.Sl Go.Proofs.Ytbomnihiapjmpaa.TrP Go.Proofs.Ytbomnihiapjmpaa.Tc Go.Proofs.Ytbomnihiapjmpaa.Td Go.Proofs.Ytbomnihiapjmpaa.Te
set_option linter.unusedVariables false
set_option linter.unusedSimpArgs false
set_option linter.unusedSectionVars false

set_option maxRecDepth 100000 in
set_option maxHeartbeats 2000000 in
theorem rp_does (EL : List En) (t0 : TypeId) (hE : ∀ e ∈ EL, e.t = t0) (s : Nat) (D : List Nat) (ZC : List Value) (tb root : Nat) (cnt : Int) (S : St) (ok : Ok s EL D S) (hroot : Is s D root) (x y n : Nat) (hx : x ∈ D) (hy : y ∈ D) (hxy : x ≠ y) (hdep : (S x).p ≠ s → Dep s (setP S y (S x).p) n (S x).p) : Does Try.prog 164 [.pointer (some ⟨tb, 0, none⟩), .pointer (some ⟨x, 0, none⟩), .pointer (some ⟨y, 0, none⟩)] [Blk tb [.pointer (some ⟨root, 0, none⟩), .int .i64 (cnt), .pointer (some ⟨s, 0, none⟩)] 180, Ens EL, Sto S D, Blk s ZC 177] (fun _ L => L = [Blk tb [.pointer (some ⟨(rp s n S root x y).2, 0, none⟩), .int .i64 cnt, .pointer (some ⟨s, 0, none⟩)] 180, Ens EL, Sto (rp s n S root x y).1 D, Blk s ZC 177]) := by
  refine Does.enter 62 Try.func164 rfl rfl rfl fun W F => ?_
  show WPc _ _ _ _ _ [(0, .pointer (some ⟨tb, 0, none⟩)), (1, .pointer (some ⟨x, 0, none⟩)), (2, .pointer (some ⟨y, 0, none⟩))] (Blk tb [.pointer (some ⟨root, 0, none⟩), .int .i64 (cnt), .pointer (some ⟨s, 0, none⟩)] 180 :: Ens EL :: Sto S D :: Blk s ZC 177 :: F)
  refine WPc.seq ?_
  refine WPc.region ?_
  refine WP.val rfl rfl rfl (Val.move rfl rfl) ?_
  refine WP.val rfl rfl rfl (Val.move rfl rfl) ?_
  refine WP.val rfl rfl rfl (Val.nilCheck rfl rfl) ?_
  refine WP.val rfl rfl rfl (Val.fieldAddr (j := 6) rfl Ty.fo177_4 rfl rfl) ?_
  refine WP.val rfl rfl rfl (Val.load (v := .pointer (some ⟨(S x).p, 0, none⟩)) rfl Ty.sc168 rfl (fun w h => sto_p (h.at 2 rfl) hx rfl)) ?_
  refine WP.val rfl rfl rfl (Val.nilCheck rfl rfl) ?_
  refine WP.val rfl rfl rfl (Val.fieldAddr (j := 6) rfl Ty.fo177_4 rfl rfl) ?_
  refine WP.perm pl2 ?_
  refine WP.eff0 rfl rfl (Eff.storeK (f := fun i => (S i).cells) (f' := fun i => (setP S y ((S x).p) i).cells) rfl Ty.sc168 rfl rfl rfl hy (show 6 < 8 by decide) (by unfold setP; rw [upd_same]; rfl) (by unfold setP; exact cells_other)) ?_
  rintro _ _ rfl
  show WP _ _ _ _ _ _ _ (Sto (setP S y ((S x).p)) D :: Blk tb [.pointer (some ⟨root, 0, none⟩), .int .i64 (cnt), .pointer (some ⟨s, 0, none⟩)] 180 :: Ens EL :: Blk s ZC 177 :: F)
  obtain ⟨S1, hS1⟩ : ∃ S1, S1 = setP S y ((S x).p) := ⟨_, rfl⟩
  rw [← hS1]
  have okS1 : Ok s EL D S1 := by rw [hS1]; exact (ok.setP (Ok.p ok hx))
  have k2 : (S1 x).p = (S x).p := (by rw [hS1]; exact (congrArg NR.p (setP_oth _ _ hxy)).trans rfl)
  have k3 : (S1 y).p = (S x).p := by rw [hS1]; exact setP_same _ _ _
  refine WP.nil ?_
  refine Out.next ?_
  refine WPc.seq ?_
  refine WPc.seq ?_
  refine WPD.start (Sat W (Sto S1 D :: Blk tb [.pointer (some ⟨root, 0, none⟩), .int .i64 (cnt), .pointer (some ⟨s, 0, none⟩)] 180 :: Ens EL :: Blk s ZC 177 :: F)) Ty.mixed ?_
  refine WPD.takeM 0 rfl rfl rfl rfl (by kernel_rfl) (by kernel_rfl) (by kernel_rfl) (by kernel_rfl) (fun _ _ _ h => h) (fun _ h => h) (Val.move rfl rfl) ?_
  refine WPD.takeM 1 rfl rfl rfl rfl (by kernel_rfl) (by kernel_rfl) (by kernel_rfl) (by kernel_rfl) (fun _ _ _ h => h) (fun _ h => h) (Val.nilCheck rfl rfl) ?_
  refine WPD.takeM 2 rfl rfl rfl rfl (by kernel_rfl) (by kernel_rfl) (by kernel_rfl) (by kernel_rfl) (fun _ _ _ h => h) (fun _ h => h) (Val.fieldAddr (j := 6) rfl Ty.fo177_4 rfl rfl) ?_
  refine WPD.take 3 rfl rfl rfl rfl (by kernel_rfl) (by kernel_rfl) (by kernel_rfl) (by kernel_rfl) (fun _ _ _ h => h) (by kernel_rfl) (fun _ h => h) (Val.load (v := .pointer (some ⟨(S x).p, 0, none⟩)) rfl Ty.sc168 rfl (fun w h => sto_p (h.at 0 rfl) hx k2)) ?_
  refine WPD.takeM 4 rfl rfl rfl rfl (by kernel_rfl) (by kernel_rfl) (by kernel_rfl) (by kernel_rfl) (fun _ _ _ h => h) (fun _ h => h) (Val.move rfl rfl) ?_
  refine WPD.takeM 5 rfl rfl rfl rfl (by kernel_rfl) (by kernel_rfl) (by kernel_rfl) (by kernel_rfl) (fun _ _ _ h => h) (fun _ h => h) (Val.nilCheck rfl rfl) ?_
  refine WPD.takeM 6 rfl rfl rfl rfl (by kernel_rfl) (by kernel_rfl) (by kernel_rfl) (by kernel_rfl) (fun _ _ _ h => h) (fun _ h => h) (Val.fieldAddr (j := 2) rfl Ty.fo180_2 rfl rfl) ?_
  refine WPD.take 7 rfl rfl rfl rfl (by kernel_rfl) (by kernel_rfl) (by kernel_rfl) (by kernel_rfl) (fun _ _ _ h => h) (by kernel_rfl) (fun _ h => h) (Val.load rfl Ty.sc168 rfl (fun w h => h.cell 1 rfl rfl)) ?_
  refine WPD.take 8 rfl rfl rfl rfl (by kernel_rfl) (by kernel_rfl) (by kernel_rfl) (by kernel_rfl) (fun _ _ _ h => h) (by kernel_rfl) (fun _ h => h) (Val.eqP (T1 := 177) (T2 := 177) rfl pn168 rfl rfl rfl rfl (fun w h => whole (h.at 0 rfl) (h.at 3 rfl) (Ok.p ok hx)) (fun w h => whole (h.at 0 rfl) (h.at 3 rfl) (.inl rfl))) ?_
  refine WPD.done (by kernel_rfl) ?_
  refine Out.next ?_
  refine WPc.ifP rfl (fun h1 => ?_) (fun h1 => ?_)
  · skip
    have h1 : ((S x).p = s) := h1
    refine WPc.region ?_
    refine WP.val rfl rfl rfl (Val.move rfl rfl) ?_
    refine WP.val rfl rfl rfl (Val.move rfl rfl) ?_
    refine WP.val rfl rfl rfl (Val.nilCheck rfl rfl) ?_
    refine WP.val rfl rfl rfl (Val.fieldAddr (j := 0) rfl Ty.fo180_0 rfl rfl) ?_
    refine WP.perm pl1 ?_
    refine WP.eff0 rfl rfl (Eff.store rfl Ty.sc168 rfl rfl rfl (by simp) st0) ?_
    rintro _ _ rfl
    refine WP.nil ?_
    refine Out.next ?_
    refine WPc.region ?_
    refine WP.val rfl rfl rfl (Val.move rfl rfl) ?_
    refine WP.val rfl rfl rfl (Val.move rfl rfl) ?_
    refine WP.val rfl rfl rfl (Val.nilCheck rfl rfl) ?_
    refine WP.val rfl rfl rfl (Val.fieldAddr (j := 6) rfl Ty.fo177_4 rfl rfl) ?_
    refine WP.perm pl1 ?_
    refine WP.eff0 rfl rfl (Eff.storeK (f := fun i => (S1 i).cells) (f' := fun i => (setP S1 x y i).cells) rfl Ty.sc168 rfl rfl rfl hx (show 6 < 8 by decide) (by unfold setP; rw [upd_same]; rfl) (by unfold setP; exact cells_other)) ?_
    rintro _ _ rfl
    show WP _ _ _ _ _ _ _ (Sto (setP S1 x y) D :: Blk tb [.pointer (some ⟨y, 0, none⟩), .int .i64 (cnt), .pointer (some ⟨s, 0, none⟩)] 180 :: Ens EL :: Blk s ZC 177 :: F)
    obtain ⟨S4, hS4⟩ : ∃ S4, S4 = setP S1 x y := ⟨_, rfl⟩
    rw [← hS4]
    have okS4 : Ok s EL D S4 := by rw [hS4]; exact (okS1.setP (.inr hy))
    have k5 : (S4 x).p = y := by rw [hS4]; exact setP_same _ _ _
    refine WP.nil ?_
    have hfin := (rp_top (by assumption) : rp s n S root x y = _)
    refine Out.perm pl3 ?_
    refine Out.perm pl1 ?_
    refine Out.perm pl3 ?_
    refine Out.perm pl3 ?_
    exact Out.end0 (L' := _) Try.results164 rfl (fun w h => by rw [hfin]; subst hS4 hS1; exact h)
  · skip
    have h1 : ¬ ((S x).p = s) := h1
    refine WPc.seq ?_
    refine WPc.seq ?_
    have hq : (S x).p ≠ s := by assumption
    have hqD : (S x).p ∈ D := Is.mem (Ok.p ok hx) hq
    have kq : (S1 (S x).p).l = (S (S x).p).l := by rw [hS1]; exact setP_l _ _ _ _
    refine WPc.region ?_
    refine WP.val rfl rfl rfl (Val.move rfl rfl) ?_
    refine WP.val rfl rfl rfl (Val.move rfl rfl) ?_
    refine WP.val rfl rfl rfl (Val.nilCheck rfl rfl) ?_
    refine WP.val rfl rfl rfl (Val.fieldAddr (j := 6) rfl Ty.fo177_4 rfl rfl) ?_
    refine WP.val rfl rfl rfl (Val.load (v := .pointer (some ⟨(S x).p, 0, none⟩)) rfl Ty.sc168 rfl (fun w h => sto_p (h.at 0 rfl) hx k2)) ?_
    refine WP.val rfl rfl rfl (Val.nilCheck rfl rfl) ?_
    refine WP.val rfl rfl rfl (Val.fieldAddr (j := 4) rfl Ty.fo177_2 rfl rfl) ?_
    refine WP.val rfl rfl rfl (Val.load (v := .pointer (some ⟨(S (S x).p).l, 0, none⟩)) rfl Ty.sc168 rfl (fun w h => sto_l (h.at 0 rfl) hqD kq)) ?_
    refine WP.val rfl rfl rfl (Val.eqP (T1 := 177) (T2 := 177) rfl pn168 rfl rfl rfl rfl (fun w h => whole (h.at 0 rfl) (h.at 3 rfl) (.inr hx)) (fun w h => whole (h.at 0 rfl) (h.at 3 rfl) (ok.l hqD))) ?_
    refine WP.nil ?_
    refine Out.next ?_
    refine WPc.ifP rfl (fun h2 => ?_) (fun h2 => ?_)
    · skip
      have h2 : (x = (S (S x).p).l) := h2
      refine WPc.region ?_
      refine WP.val rfl rfl rfl (Val.move rfl rfl) ?_
      refine WP.val rfl rfl rfl (Val.nilCheck rfl rfl) ?_
      refine WP.val rfl rfl rfl (Val.fieldAddr (j := 6) rfl Ty.fo177_4 rfl rfl) ?_
      refine WP.val rfl rfl rfl (Val.load (v := .pointer (some ⟨(S x).p, 0, none⟩)) rfl Ty.sc168 rfl (fun w h => sto_p (h.at 0 rfl) hx k2)) ?_
      refine WP.val rfl rfl rfl (Val.move rfl rfl) ?_
      refine WP.val rfl rfl rfl (Val.nilCheck rfl rfl) ?_
      refine WP.val rfl rfl rfl (Val.fieldAddr (j := 4) rfl Ty.fo177_2 rfl rfl) ?_
      refine WP.eff0 rfl rfl (Eff.storeK (f := fun i => (S1 i).cells) (f' := fun i => (setL S1 ((S x).p) y i).cells) rfl Ty.sc168 rfl rfl rfl hqD (show 4 < 8 by decide) (by unfold setL; rw [upd_same]; rfl) (by unfold setL; exact cells_other)) ?_
      rintro _ _ rfl
      show WP _ _ _ _ _ _ _ (Sto (setL S1 ((S x).p) y) D :: Blk tb [.pointer (some ⟨root, 0, none⟩), .int .i64 (cnt), .pointer (some ⟨s, 0, none⟩)] 180 :: Ens EL :: Blk s ZC 177 :: F)
      obtain ⟨S6, hS6⟩ : ∃ S6, S6 = setL S1 ((S x).p) y := ⟨_, rfl⟩
      rw [← hS6]
      have okS6 : Ok s EL D S6 := by rw [hS6]; exact (okS1.setL (.inr hy))
      have k7 : (S6 x).p = (S x).p := (by rw [hS6]; exact (setL_p _ _ _ _).trans k2)
      have k8 : (S6 y).p = (S x).p := (by rw [hS6]; exact (setL_p _ _ _ _).trans k3)
      have k9 : (S6 ((S x).p)).l = y := by rw [hS6]; exact setL_same _ _ _
      refine WP.nil ?_
      refine Out.next ?_
      refine WPD.start (Sat W (Sto S6 D :: Blk tb [.pointer (some ⟨root, 0, none⟩), .int .i64 (cnt), .pointer (some ⟨s, 0, none⟩)] 180 :: Ens EL :: Blk s ZC 177 :: F)) Ty.mixed ?_
      refine WPD.takeM 0 rfl rfl rfl rfl (by kernel_rfl) (by kernel_rfl) (by kernel_rfl) (by kernel_rfl) (fun _ _ _ h => h) (fun _ h => h) (Val.move rfl rfl) ?_
      refine WPD.takeM 1 rfl rfl rfl rfl (by kernel_rfl) (by kernel_rfl) (by kernel_rfl) (by kernel_rfl) (fun _ _ _ h => h) (fun _ h => h) (Val.nilCheck rfl rfl) ?_
      refine WPD.takeM 2 rfl rfl rfl rfl (by kernel_rfl) (by kernel_rfl) (by kernel_rfl) (by kernel_rfl) (fun _ _ _ h => h) (fun _ h => h) (Val.fieldAddr (j := 6) rfl Ty.fo177_4 rfl rfl) ?_
      refine WPD.take 3 rfl rfl rfl rfl (by kernel_rfl) (by kernel_rfl) (by kernel_rfl) (by kernel_rfl) (fun _ _ _ h => h) (by kernel_rfl) (fun _ h => h) (Val.load (v := .pointer (some ⟨(S x).p, 0, none⟩)) rfl Ty.sc168 rfl (fun w h => sto_p (h.at 0 rfl) hx k7)) ?_
      refine WPD.takeM 4 rfl rfl rfl rfl (by kernel_rfl) (by kernel_rfl) (by kernel_rfl) (by kernel_rfl) (fun _ _ _ h => h) (fun _ h => h) (Val.move rfl rfl) ?_
      refine WPD.takeM 5 rfl rfl rfl rfl (by kernel_rfl) (by kernel_rfl) (by kernel_rfl) (by kernel_rfl) (fun _ _ _ h => h) (fun _ h => h) (Val.nilCheck rfl rfl) ?_
      refine WPD.takeM 6 rfl rfl rfl rfl (by kernel_rfl) (by kernel_rfl) (by kernel_rfl) (by kernel_rfl) (fun _ _ _ h => h) (fun _ h => h) (Val.fieldAddr (j := 2) rfl Ty.fo180_2 rfl rfl) ?_
      refine WPD.take 7 rfl rfl rfl rfl (by kernel_rfl) (by kernel_rfl) (by kernel_rfl) (by kernel_rfl) (fun _ _ _ h => h) (by kernel_rfl) (fun _ h => h) (Val.load rfl Ty.sc168 rfl (fun w h => h.cell 1 rfl rfl)) ?_
      refine WPD.perm pl3 ?_
      refine WPD.perm pl1 ?_
      refine WPD.perm pl3 ?_
      refine WPD.stepC 8 (by kernel_rfl) rfl rfl rfl rfl (by kernel_rfl) (Eff.call rfl rfl Try.call133 (um_does EL t0 hE s D ZC S6 okS6 ((S x).p) n (Ok.p ok hx) (Dep.congr (S := setP S y (S x).p) (fun i => by rw [hS6, hS1]; exact setL_p _ _ _ _) (hdep hq)))) ?_
      rintro _ _ ⟨_, rfl, rfl⟩
      refine ⟨(Sat W (Ens EL :: Sto (um s n S6 ((S x).p)) D :: Blk s ZC 177 :: Blk tb [.pointer (some ⟨root, 0, none⟩), .int .i64 (cnt), .pointer (some ⟨s, 0, none⟩)] 180 :: F)), (fun _ h => h), ?_⟩
      show WPD _ _ _ _ _ _ _ _ _ (Ens EL :: Sto (um s n S6 ((S x).p)) D :: Blk s ZC 177 :: Blk tb [.pointer (some ⟨root, 0, none⟩), .int .i64 (cnt), .pointer (some ⟨s, 0, none⟩)] 180 :: F)
      obtain ⟨S10, hS10⟩ : ∃ S10, S10 = um s n S6 ((S x).p) := ⟨_, rfl⟩
      rw [← hS10]
      have okS10 : Ok s EL D S10 := by rw [hS10]; exact (um_ok _ _ _ okS6 (Ok.p ok hx))
      have k11 : (S10 x).p = (S x).p := (by rw [hS10]; exact (OnlyM.p (um_only _ _ _ _) _).trans k7)
      have k12 : (S10 y).p = (S x).p := (by rw [hS10]; exact (OnlyM.p (um_only _ _ _ _) _).trans k8)
      have k13 : (S10 ((S x).p)).l = y := (by rw [hS10]; exact (OnlyM.l (um_only _ _ _ _) _).trans k9)
      refine WPD.done (by kernel_rfl) ?_
      refine Out.next ?_
      refine WPc.region ?_
      refine WP.val rfl rfl rfl (Val.move rfl rfl) ?_
      refine WP.val rfl rfl rfl (Val.move rfl rfl) ?_
      refine WP.val rfl rfl rfl (Val.nilCheck rfl rfl) ?_
      refine WP.val rfl rfl rfl (Val.fieldAddr (j := 6) rfl Ty.fo177_4 rfl rfl) ?_
      refine WP.perm pl1 ?_
      refine WP.eff0 rfl rfl (Eff.storeK (f := fun i => (S10 i).cells) (f' := fun i => (setP S10 x y i).cells) rfl Ty.sc168 rfl rfl rfl hx (show 6 < 8 by decide) (by unfold setP; rw [upd_same]; rfl) (by unfold setP; exact cells_other)) ?_
      rintro _ _ rfl
      show WP _ _ _ _ _ _ _ (Sto (setP S10 x y) D :: Ens EL :: Blk s ZC 177 :: Blk tb [.pointer (some ⟨root, 0, none⟩), .int .i64 (cnt), .pointer (some ⟨s, 0, none⟩)] 180 :: F)
      obtain ⟨S14, hS14⟩ : ∃ S14, S14 = setP S10 x y := ⟨_, rfl⟩
      rw [← hS14]
      have okS14 : Ok s EL D S14 := by rw [hS14]; exact (okS10.setP (.inr hy))
      have k15 : (S14 ((S x).p)).l = y := (by rw [hS14]; exact (setP_l _ _ _ _).trans k13)
      have k16 : (S14 x).p = y := by rw [hS14]; exact setP_same _ _ _
      refine WP.nil ?_
      have hfin := (rp_left hq (by assumption) : rp s n S root x y = _)
      refine Out.perm pl2 ?_
      refine Out.perm pl1 ?_
      refine Out.perm pl2 ?_
      refine Out.perm pl3 ?_
      exact Out.end0 (L' := _) Try.results164 rfl (fun w h => by rw [hfin]; subst hS14 hS10 hS6 hS1; exact h)
    · skip
      have h2 : ¬ (x = (S (S x).p).l) := h2
      refine WPc.region ?_
      refine WP.val rfl rfl rfl (Val.move rfl rfl) ?_
      refine WP.val rfl rfl rfl (Val.nilCheck rfl rfl) ?_
      refine WP.val rfl rfl rfl (Val.fieldAddr (j := 6) rfl Ty.fo177_4 rfl rfl) ?_
      refine WP.val rfl rfl rfl (Val.load (v := .pointer (some ⟨(S x).p, 0, none⟩)) rfl Ty.sc168 rfl (fun w h => sto_p (h.at 0 rfl) hx k2)) ?_
      refine WP.val rfl rfl rfl (Val.move rfl rfl) ?_
      refine WP.val rfl rfl rfl (Val.nilCheck rfl rfl) ?_
      refine WP.val rfl rfl rfl (Val.fieldAddr (j := 5) rfl Ty.fo177_3 rfl rfl) ?_
      refine WP.eff0 rfl rfl (Eff.storeK (f := fun i => (S1 i).cells) (f' := fun i => (setR S1 ((S x).p) y i).cells) rfl Ty.sc168 rfl rfl rfl hqD (show 5 < 8 by decide) (by unfold setR; rw [upd_same]; rfl) (by unfold setR; exact cells_other)) ?_
      rintro _ _ rfl
      show WP _ _ _ _ _ _ _ (Sto (setR S1 ((S x).p) y) D :: Blk tb [.pointer (some ⟨root, 0, none⟩), .int .i64 (cnt), .pointer (some ⟨s, 0, none⟩)] 180 :: Ens EL :: Blk s ZC 177 :: F)
      obtain ⟨S17, hS17⟩ : ∃ S17, S17 = setR S1 ((S x).p) y := ⟨_, rfl⟩
      rw [← hS17]
      have okS17 : Ok s EL D S17 := by rw [hS17]; exact (okS1.setR (.inr hy))
      have k18 : (S17 x).p = (S x).p := (by rw [hS17]; exact (setR_p _ _ _ _).trans k2)
      have k19 : (S17 y).p = (S x).p := (by rw [hS17]; exact (setR_p _ _ _ _).trans k3)
      have k20 : (S17 ((S x).p)).l = (S (S x).p).l := (by rw [hS17]; exact (setR_l _ _ _ _).trans kq)
      have k21 : (S17 ((S x).p)).r = y := by rw [hS17]; exact setR_same _ _ _
      refine WP.nil ?_
      refine Out.next ?_
      refine WPD.start (Sat W (Sto S17 D :: Blk tb [.pointer (some ⟨root, 0, none⟩), .int .i64 (cnt), .pointer (some ⟨s, 0, none⟩)] 180 :: Ens EL :: Blk s ZC 177 :: F)) Ty.mixed ?_
      refine WPD.takeM 0 rfl rfl rfl rfl (by kernel_rfl) (by kernel_rfl) (by kernel_rfl) (by kernel_rfl) (fun _ _ _ h => h) (fun _ h => h) (Val.move rfl rfl) ?_
      refine WPD.takeM 1 rfl rfl rfl rfl (by kernel_rfl) (by kernel_rfl) (by kernel_rfl) (by kernel_rfl) (fun _ _ _ h => h) (fun _ h => h) (Val.nilCheck rfl rfl) ?_
      refine WPD.takeM 2 rfl rfl rfl rfl (by kernel_rfl) (by kernel_rfl) (by kernel_rfl) (by kernel_rfl) (fun _ _ _ h => h) (fun _ h => h) (Val.fieldAddr (j := 6) rfl Ty.fo177_4 rfl rfl) ?_
      refine WPD.take 3 rfl rfl rfl rfl (by kernel_rfl) (by kernel_rfl) (by kernel_rfl) (by kernel_rfl) (fun _ _ _ h => h) (by kernel_rfl) (fun _ h => h) (Val.load (v := .pointer (some ⟨(S x).p, 0, none⟩)) rfl Ty.sc168 rfl (fun w h => sto_p (h.at 0 rfl) hx k18)) ?_
      refine WPD.takeM 4 rfl rfl rfl rfl (by kernel_rfl) (by kernel_rfl) (by kernel_rfl) (by kernel_rfl) (fun _ _ _ h => h) (fun _ h => h) (Val.move rfl rfl) ?_
      refine WPD.takeM 5 rfl rfl rfl rfl (by kernel_rfl) (by kernel_rfl) (by kernel_rfl) (by kernel_rfl) (fun _ _ _ h => h) (fun _ h => h) (Val.nilCheck rfl rfl) ?_
      refine WPD.takeM 6 rfl rfl rfl rfl (by kernel_rfl) (by kernel_rfl) (by kernel_rfl) (by kernel_rfl) (fun _ _ _ h => h) (fun _ h => h) (Val.fieldAddr (j := 2) rfl Ty.fo180_2 rfl rfl) ?_
      refine WPD.take 7 rfl rfl rfl rfl (by kernel_rfl) (by kernel_rfl) (by kernel_rfl) (by kernel_rfl) (fun _ _ _ h => h) (by kernel_rfl) (fun _ h => h) (Val.load rfl Ty.sc168 rfl (fun w h => h.cell 1 rfl rfl)) ?_
      refine WPD.perm pl3 ?_
      refine WPD.perm pl1 ?_
      refine WPD.perm pl3 ?_
      refine WPD.stepC 8 (by kernel_rfl) rfl rfl rfl rfl (by kernel_rfl) (Eff.call rfl rfl Try.call133 (um_does EL t0 hE s D ZC S17 okS17 ((S x).p) n (Ok.p ok hx) (Dep.congr (S := setP S y (S x).p) (fun i => by rw [hS17, hS1]; exact setR_p _ _ _ _) (hdep hq)))) ?_
      rintro _ _ ⟨_, rfl, rfl⟩
      refine ⟨(Sat W (Ens EL :: Sto (um s n S17 ((S x).p)) D :: Blk s ZC 177 :: Blk tb [.pointer (some ⟨root, 0, none⟩), .int .i64 (cnt), .pointer (some ⟨s, 0, none⟩)] 180 :: F)), (fun _ h => h), ?_⟩
      show WPD _ _ _ _ _ _ _ _ _ (Ens EL :: Sto (um s n S17 ((S x).p)) D :: Blk s ZC 177 :: Blk tb [.pointer (some ⟨root, 0, none⟩), .int .i64 (cnt), .pointer (some ⟨s, 0, none⟩)] 180 :: F)
      obtain ⟨S22, hS22⟩ : ∃ S22, S22 = um s n S17 ((S x).p) := ⟨_, rfl⟩
      rw [← hS22]
      have okS22 : Ok s EL D S22 := by rw [hS22]; exact (um_ok _ _ _ okS17 (Ok.p ok hx))
      have k23 : (S22 x).p = (S x).p := (by rw [hS22]; exact (OnlyM.p (um_only _ _ _ _) _).trans k18)
      have k24 : (S22 y).p = (S x).p := (by rw [hS22]; exact (OnlyM.p (um_only _ _ _ _) _).trans k19)
      have k25 : (S22 ((S x).p)).l = (S (S x).p).l := (by rw [hS22]; exact (OnlyM.l (um_only _ _ _ _) _).trans k20)
      have k26 : (S22 ((S x).p)).r = y := (by rw [hS22]; exact (OnlyM.r (um_only _ _ _ _) _).trans k21)
      refine WPD.done (by kernel_rfl) ?_
      refine Out.next ?_
      refine WPc.region ?_
      refine WP.val rfl rfl rfl (Val.move rfl rfl) ?_
      refine WP.val rfl rfl rfl (Val.move rfl rfl) ?_
      refine WP.val rfl rfl rfl (Val.nilCheck rfl rfl) ?_
      refine WP.val rfl rfl rfl (Val.fieldAddr (j := 6) rfl Ty.fo177_4 rfl rfl) ?_
      refine WP.perm pl1 ?_
      refine WP.eff0 rfl rfl (Eff.storeK (f := fun i => (S22 i).cells) (f' := fun i => (setP S22 x y i).cells) rfl Ty.sc168 rfl rfl rfl hx (show 6 < 8 by decide) (by unfold setP; rw [upd_same]; rfl) (by unfold setP; exact cells_other)) ?_
      rintro _ _ rfl
      show WP _ _ _ _ _ _ _ (Sto (setP S22 x y) D :: Ens EL :: Blk s ZC 177 :: Blk tb [.pointer (some ⟨root, 0, none⟩), .int .i64 (cnt), .pointer (some ⟨s, 0, none⟩)] 180 :: F)
      obtain ⟨S27, hS27⟩ : ∃ S27, S27 = setP S22 x y := ⟨_, rfl⟩
      rw [← hS27]
      have okS27 : Ok s EL D S27 := by rw [hS27]; exact (okS22.setP (.inr hy))
      have k28 : (S27 ((S x).p)).l = (S (S x).p).l := (by rw [hS27]; exact (setP_l _ _ _ _).trans k25)
      have k29 : (S27 ((S x).p)).r = y := (by rw [hS27]; exact (setP_r _ _ _ _).trans k26)
      have k30 : (S27 x).p = y := by rw [hS27]; exact setP_same _ _ _
      refine WP.nil ?_
      have hfin := (rp_right hq (by assumption) : rp s n S root x y = _)
      refine Out.perm pl2 ?_
      refine Out.perm pl1 ?_
      refine Out.perm pl2 ?_
      refine Out.perm pl3 ?_
      exact Out.end0 (L' := _) Try.results164 rfl (fun w h => by rw [hfin]; subst hS27 hS22 hS17 hS1; exact h)

end Go.Proofs.Ytbomnihiapjmpaa.Tf

namespace Go.Proofs.Ytbomnihiapjmpaa.Tg
open Go.RowKit Go.Proofs.Ytbomnihiapjmpaa Go.Proofs.Ytbomnihiapjmpaa.Sl Go.Proofs.Ytbomnihiapjmpaa.TrP Go.Proofs.Ytbomnihiapjmpaa.Tc Go.Proofs.Ytbomnihiapjmpaa.Td Go.Proofs.Ytbomnihiapjmpaa.Te Go.Proofs.Ytbomnihiapjmpaa.Tf
set_option linter.unusedVariables false
set_option linter.unusedSimpArgs false
set_option linter.unusedSectionVars false

set_option maxRecDepth 100000 in
set_option maxHeartbeats 2000000 in
theorem rl_does (EL : List En) (t0 : TypeId) (hE : ∀ e ∈ EL, e.t = t0) (s : Nat) (D : List Nat) (ZC : List Value) (tb root : Nat) (cnt : Int) (S : St) (ok : Ok s EL D S) (hroot : Is s D root) (x n : Nat) (hx : x ∈ D) (hok : ¬ (S x).r = s → RlOk s n S root x) : Does Try.prog 160 [.pointer (some ⟨tb, 0, none⟩), .pointer (some ⟨x, 0, none⟩)] [Blk tb [.pointer (some ⟨root, 0, none⟩), .int .i64 (cnt), .pointer (some ⟨s, 0, none⟩)] 180, Ens EL, Sto S D, Blk s ZC 177] (fun _ L => L = [Blk tb [.pointer (some ⟨(rl s n S root x).2, 0, none⟩), .int .i64 cnt, .pointer (some ⟨s, 0, none⟩)] 180, Ens EL, Sto (rl s n S root x).1 D, Blk s ZC 177]) := by
  refine Does.enter 61 Try.func160 rfl rfl rfl fun W F => ?_
  show WPc _ _ _ _ _ [(0, .pointer (some ⟨tb, 0, none⟩)), (1, .pointer (some ⟨x, 0, none⟩))] (Blk tb [.pointer (some ⟨root, 0, none⟩), .int .i64 (cnt), .pointer (some ⟨s, 0, none⟩)] 180 :: Ens EL :: Sto S D :: Blk s ZC 177 :: F)
  refine WPc.seq ?_
  refine WPc.seq ?_
  refine WPD.start (Sat W (Blk tb [.pointer (some ⟨root, 0, none⟩), .int .i64 (cnt), .pointer (some ⟨s, 0, none⟩)] 180 :: Ens EL :: Sto S D :: Blk s ZC 177 :: F)) Ty.mixed ?_
  refine WPD.takeM 0 rfl rfl rfl rfl (by kernel_rfl) (by kernel_rfl) (by kernel_rfl) (by kernel_rfl) (fun _ _ _ h => h) (fun _ h => h) (Val.move rfl rfl) ?_
  refine WPD.takeM 1 rfl rfl rfl rfl (by kernel_rfl) (by kernel_rfl) (by kernel_rfl) (by kernel_rfl) (fun _ _ _ h => h) (fun _ h => h) (Val.nilCheck rfl rfl) ?_
  refine WPD.takeM 2 rfl rfl rfl rfl (by kernel_rfl) (by kernel_rfl) (by kernel_rfl) (by kernel_rfl) (fun _ _ _ h => h) (fun _ h => h) (Val.fieldAddr (j := 5) rfl Ty.fo177_3 rfl rfl) ?_
  refine WPD.take 3 rfl rfl rfl rfl (by kernel_rfl) (by kernel_rfl) (by kernel_rfl) (by kernel_rfl) (fun _ _ _ h => h) (by kernel_rfl) (fun _ h => h) (Val.load (v := .pointer (some ⟨(S x).r, 0, none⟩)) rfl Ty.sc168 rfl (fun w h => sto_r (h.at 2 rfl) hx rfl)) ?_
  refine WPD.takeM 4 rfl rfl rfl rfl (by kernel_rfl) (by kernel_rfl) (by kernel_rfl) (by kernel_rfl) (fun _ _ _ h => h) (fun _ h => h) (Val.move rfl rfl) ?_
  refine WPD.takeM 5 rfl rfl rfl rfl (by kernel_rfl) (by kernel_rfl) (by kernel_rfl) (by kernel_rfl) (fun _ _ _ h => h) (fun _ h => h) (Val.nilCheck rfl rfl) ?_
  refine WPD.takeM 6 rfl rfl rfl rfl (by kernel_rfl) (by kernel_rfl) (by kernel_rfl) (by kernel_rfl) (fun _ _ _ h => h) (fun _ h => h) (Val.fieldAddr (j := 2) rfl Ty.fo180_2 rfl rfl) ?_
  refine WPD.take 7 rfl rfl rfl rfl (by kernel_rfl) (by kernel_rfl) (by kernel_rfl) (by kernel_rfl) (fun _ _ _ h => h) (by kernel_rfl) (fun _ h => h) (Val.load rfl Ty.sc168 rfl (fun w h => h.cell 0 rfl rfl)) ?_
  refine WPD.take 8 rfl rfl rfl rfl (by kernel_rfl) (by kernel_rfl) (by kernel_rfl) (by kernel_rfl) (fun _ _ _ h => h) (by kernel_rfl) (fun _ h => h) (Val.eqP (T1 := 177) (T2 := 177) rfl pn168 rfl rfl rfl rfl (fun w h => whole (h.at 2 rfl) (h.at 3 rfl) (Ok.r ok hx)) (fun w h => whole (h.at 2 rfl) (h.at 3 rfl) (.inl rfl))) ?_
  refine WPD.done (by kernel_rfl) ?_
  refine Out.next ?_
  refine WPc.ifP rfl (fun h1 => ?_) (fun h1 => ?_)
  · skip
    have h1 : ((S x).r = s) := h1
    refine WPc.ret ?_
    refine Out.then_ret ?_
    have hfin : rl s n S root x = _ := rl_s (by assumption)
    exact Out.ret0 (L' := _) Try.results160 rfl (fun w h => by rw [hfin]; exact h)
  · skip
    have h1 : ¬ ((S x).r = s) := h1
    refine WPc.skip ?_
    refine Out.next ?_
    refine WPc.seq ?_
    have hr : ¬ (S x).r = s := by assumption
    have hy : (S x).r ∈ D := Is.mem (Ok.r ok hx) hr
    have hd := hok hr
    refine WPc.region ?_
    refine WP.val rfl rfl rfl (Val.move rfl rfl) ?_
    refine WP.val rfl rfl rfl (Val.nilCheck rfl rfl) ?_
    refine WP.val rfl rfl rfl (Val.fieldAddr (j := 5) rfl Ty.fo177_3 rfl rfl) ?_
    refine WP.val rfl rfl rfl (Val.load (v := .pointer (some ⟨(S x).r, 0, none⟩)) rfl Ty.sc168 rfl (fun w h => sto_r (h.at 2 rfl) hx rfl)) ?_
    refine WP.val rfl rfl rfl (Val.assign rfl rfl) ?_
    refine WP.nil ?_
    refine Out.next ?_
    refine WPc.seq ?_
    refine WPc.region ?_
    refine WP.val rfl rfl rfl (Val.move rfl rfl) ?_
    refine WP.val rfl rfl rfl (Val.move rfl rfl) ?_
    refine WP.val rfl rfl rfl (Val.nilCheck rfl rfl) ?_
    refine WP.val rfl rfl rfl (Val.fieldAddr (j := 4) rfl Ty.fo177_2 rfl rfl) ?_
    refine WP.val rfl rfl rfl (Val.load (v := .pointer (some ⟨(S ((S x).r)).l, 0, none⟩)) rfl Ty.sc168 rfl (fun w h => sto_l (h.at 2 rfl) hy rfl)) ?_
    refine WP.val rfl rfl rfl (Val.nilCheck rfl rfl) ?_
    refine WP.val rfl rfl rfl (Val.fieldAddr (j := 5) rfl Ty.fo177_3 rfl rfl) ?_
    refine WP.perm pl2 ?_
    refine WP.eff0 rfl rfl (Eff.storeK (f := fun i => (S i).cells) (f' := fun i => (setR S x ((S ((S x).r)).l) i).cells) rfl Ty.sc168 rfl rfl rfl hx (show 5 < 8 by decide) (by unfold setR; rw [upd_same]; rfl) (by unfold setR; exact cells_other)) ?_
    rintro _ _ rfl
    show WP _ _ _ _ _ _ _ (Sto (setR S x ((S ((S x).r)).l)) D :: Blk tb [.pointer (some ⟨root, 0, none⟩), .int .i64 (cnt), .pointer (some ⟨s, 0, none⟩)] 180 :: Ens EL :: Blk s ZC 177 :: F)
    obtain ⟨S1, hS1⟩ : ∃ S1, S1 = setR S x ((S ((S x).r)).l) := ⟨_, rfl⟩
    rw [← hS1]
    have okS1 : Ok s EL D S1 := by rw [hS1]; exact (ok.setR (Ok.l ok hy))
    have k2 : (S1 ((S x).r)).l = (S ((S x).r)).l := (by rw [hS1]; exact (setR_l _ _ _ _).trans rfl)
    have k3 : (S1 x).r = (S ((S x).r)).l := by rw [hS1]; exact setR_same _ _ _
    refine WP.nil ?_
    refine Out.next ?_
    refine WPc.seq ?_
    refine WPc.seq ?_
    refine WPD.start (Sat W (Sto S1 D :: Blk tb [.pointer (some ⟨root, 0, none⟩), .int .i64 (cnt), .pointer (some ⟨s, 0, none⟩)] 180 :: Ens EL :: Blk s ZC 177 :: F)) Ty.mixed ?_
    refine WPD.takeM 0 rfl rfl rfl rfl (by kernel_rfl) (by kernel_rfl) (by kernel_rfl) (by kernel_rfl) (fun _ _ _ h => h) (fun _ h => h) (Val.move rfl rfl) ?_
    refine WPD.takeM 1 rfl rfl rfl rfl (by kernel_rfl) (by kernel_rfl) (by kernel_rfl) (by kernel_rfl) (fun _ _ _ h => h) (fun _ h => h) (Val.nilCheck rfl rfl) ?_
    refine WPD.takeM 2 rfl rfl rfl rfl (by kernel_rfl) (by kernel_rfl) (by kernel_rfl) (by kernel_rfl) (fun _ _ _ h => h) (fun _ h => h) (Val.fieldAddr (j := 4) rfl Ty.fo177_2 rfl rfl) ?_
    refine WPD.take 3 rfl rfl rfl rfl (by kernel_rfl) (by kernel_rfl) (by kernel_rfl) (by kernel_rfl) (fun _ _ _ h => h) (by kernel_rfl) (fun _ h => h) (Val.load (v := .pointer (some ⟨(S ((S x).r)).l, 0, none⟩)) rfl Ty.sc168 rfl (fun w h => sto_l (h.at 0 rfl) hy k2)) ?_
    refine WPD.takeM 4 rfl rfl rfl rfl (by kernel_rfl) (by kernel_rfl) (by kernel_rfl) (by kernel_rfl) (fun _ _ _ h => h) (fun _ h => h) (Val.move rfl rfl) ?_
    refine WPD.takeM 5 rfl rfl rfl rfl (by kernel_rfl) (by kernel_rfl) (by kernel_rfl) (by kernel_rfl) (fun _ _ _ h => h) (fun _ h => h) (Val.nilCheck rfl rfl) ?_
    refine WPD.takeM 6 rfl rfl rfl rfl (by kernel_rfl) (by kernel_rfl) (by kernel_rfl) (by kernel_rfl) (fun _ _ _ h => h) (fun _ h => h) (Val.fieldAddr (j := 2) rfl Ty.fo180_2 rfl rfl) ?_
    refine WPD.take 7 rfl rfl rfl rfl (by kernel_rfl) (by kernel_rfl) (by kernel_rfl) (by kernel_rfl) (fun _ _ _ h => h) (by kernel_rfl) (fun _ h => h) (Val.load rfl Ty.sc168 rfl (fun w h => h.cell 1 rfl rfl)) ?_
    refine WPD.take 8 rfl rfl rfl rfl (by kernel_rfl) (by kernel_rfl) (by kernel_rfl) (by kernel_rfl) (fun _ _ _ h => h) (by kernel_rfl) (fun _ h => h) (Val.neqP (T1 := 177) (T2 := 177) rfl pn168 rfl rfl rfl rfl (fun w h => whole (h.at 0 rfl) (h.at 3 rfl) (Ok.l ok hy)) (fun w h => whole (h.at 0 rfl) (h.at 3 rfl) (.inl rfl))) ?_
    refine WPD.done (by kernel_rfl) ?_
    refine Out.next ?_
    refine WPc.ifP rfl (fun h2 => ?_) (fun h2 => ?_)
    · skip
      have h2 : ((S ((S x).r)).l ≠ s) := h2
      refine WPc.region ?_
      refine WP.val rfl rfl rfl (Val.move rfl rfl) ?_
      refine WP.val rfl rfl rfl (Val.nilCheck rfl rfl) ?_
      refine WP.val rfl rfl rfl (Val.fieldAddr (j := 4) rfl Ty.fo177_2 rfl rfl) ?_
      refine WP.val rfl rfl rfl (Val.load (v := .pointer (some ⟨(S ((S x).r)).l, 0, none⟩)) rfl Ty.sc168 rfl (fun w h => sto_l (h.at 0 rfl) hy k2)) ?_
      refine WP.val rfl rfl rfl (Val.move rfl rfl) ?_
      refine WP.val rfl rfl rfl (Val.nilCheck rfl rfl) ?_
      refine WP.val rfl rfl rfl (Val.fieldAddr (j := 6) rfl Ty.fo177_4 rfl rfl) ?_
      refine WP.eff0 rfl rfl (Eff.storeK (f := fun i => (S1 i).cells) (f' := fun i => (setP S1 ((S ((S x).r)).l) x i).cells) rfl Ty.sc168 rfl rfl rfl (Is.mem (Ok.l ok hy) (by first | assumption | (intro hh; simp_all; done) | (simp_all; done))) (show 6 < 8 by decide) (by unfold setP; rw [upd_same]; rfl) (by unfold setP; exact cells_other)) ?_
      rintro _ _ rfl
      show WP _ _ _ _ _ _ _ (Sto (setP S1 ((S ((S x).r)).l) x) D :: Blk tb [.pointer (some ⟨root, 0, none⟩), .int .i64 (cnt), .pointer (some ⟨s, 0, none⟩)] 180 :: Ens EL :: Blk s ZC 177 :: F)
      obtain ⟨S4, hS4⟩ : ∃ S4, S4 = setP S1 ((S ((S x).r)).l) x := ⟨_, rfl⟩
      rw [← hS4]
      have okS4 : Ok s EL D S4 := by rw [hS4]; exact (okS1.setP (.inr hx))
      have k5 : (S4 ((S x).r)).l = (S ((S x).r)).l := (by rw [hS4]; exact (setP_l _ _ _ _).trans k2)
      have k6 : (S4 x).r = (S ((S x).r)).l := (by rw [hS4]; exact (setP_r _ _ _ _).trans k3)
      have k7 : (S4 ((S ((S x).r)).l)).p = x := by rw [hS4]; exact setP_same _ _ _
      refine WP.nil ?_
      refine Out.next ?_
      refine WPc.seq ?_
      refine WPc.region ?_
      refine WP.val rfl rfl rfl (Val.move rfl rfl) ?_
      refine WP.val rfl rfl rfl (Val.move rfl rfl) ?_
      refine WP.val rfl rfl rfl (Val.nilCheck rfl rfl) ?_
      refine WP.val rfl rfl rfl (Val.fieldAddr (j := 2) rfl Ty.fo180_2 rfl rfl) ?_
      refine WP.val rfl rfl rfl (Val.load rfl Ty.sc168 rfl (fun w h => h.cell 1 rfl rfl)) ?_
      refine WP.perm pl3 ?_
      refine WP.perm pl1 ?_
      refine WP.perm pl3 ?_
      refine WP.eff rfl rfl rfl (Eff.call rfl rfl Try.call133 (um_does EL t0 hE s D ZC S4 okS4 x n (.inr hx) (by have h0 := hd.d1; rw [rl2_pos (by assumption)] at h0; subst hS4 hS1; exact h0))) ?_
      rintro _ _ ⟨_, rfl, rfl⟩
      show WP _ _ _ _ _ _ _ (Ens EL :: Sto (um s n S4 x) D :: Blk s ZC 177 :: Blk tb [.pointer (some ⟨root, 0, none⟩), .int .i64 (cnt), .pointer (some ⟨s, 0, none⟩)] 180 :: F)
      obtain ⟨S8, hS8⟩ : ∃ S8, S8 = um s n S4 x := ⟨_, rfl⟩
      rw [← hS8]
      have okS8 : Ok s EL D S8 := by rw [hS8]; exact (um_ok _ _ _ okS4 (.inr hx))
      have k9 : (S8 ((S x).r)).l = (S ((S x).r)).l := (by rw [hS8]; exact (OnlyM.l (um_only _ _ _ _) _).trans k5)
      have k10 : (S8 x).r = (S ((S x).r)).l := (by rw [hS8]; exact (OnlyM.r (um_only _ _ _ _) _).trans k6)
      have k11 : (S8 ((S ((S x).r)).l)).p = x := (by rw [hS8]; exact (OnlyM.p (um_only _ _ _ _) _).trans k7)
      refine WP.nil ?_
      refine Out.next ?_
      refine WPc.seq ?_
      refine WPc.region ?_
      refine WP.val rfl rfl rfl (Val.move rfl rfl) ?_
      refine WP.val rfl rfl rfl (Val.move rfl rfl) ?_
      refine WP.val rfl rfl rfl (Val.move rfl rfl) ?_
      refine WP.perm pl2 ?_
      refine WP.perm pl2 ?_
      refine WP.perm pl2 ?_
      refine WP.perm pl3 ?_
      refine WP.eff rfl rfl rfl (Eff.call rfl rfl Try.call164 (rp_does EL t0 hE s D ZC tb root cnt S8 okS8 hroot x ((S x).r) n hx hy hd.ne (by have h0 := hd.d2; unfold rl3 at h0; rw [rl2_pos (by assumption)] at h0; subst hS8 hS4 hS1; exact h0))) ?_
      rintro _ _ ⟨_, rfl, rfl⟩
      show WP _ _ _ _ _ _ _ (Blk tb [.pointer (some ⟨(rp s n S8 root x ((S x).r)).2, 0, none⟩), .int .i64 (cnt), .pointer (some ⟨s, 0, none⟩)] 180 :: Ens EL :: Sto ((rp s n S8 root x ((S x).r)).1) D :: Blk s ZC 177 :: F)
      obtain ⟨S12, hS12⟩ : ∃ S12, S12 = (rp s n S8 root x ((S x).r)).1 := ⟨_, rfl⟩
      rw [← hS12]
      have okS12 : Ok s EL D S12 := by rw [hS12]; exact (rp_ok okS8 hx hy)
      refine WP.nil ?_
      refine Out.next ?_
      refine WPc.seq ?_
      refine WPc.region ?_
      refine WP.val rfl rfl rfl (Val.move rfl rfl) ?_
      refine WP.val rfl rfl rfl (Val.move rfl rfl) ?_
      refine WP.val rfl rfl rfl (Val.nilCheck rfl rfl) ?_
      refine WP.val rfl rfl rfl (Val.fieldAddr (j := 4) rfl Ty.fo177_2 rfl rfl) ?_
      refine WP.perm pl2 ?_
      refine WP.eff0 rfl rfl (Eff.storeK (f := fun i => (S12 i).cells) (f' := fun i => (setL S12 ((S x).r) x i).cells) rfl Ty.sc168 rfl rfl rfl hy (show 4 < 8 by decide) (by unfold setL; rw [upd_same]; rfl) (by unfold setL; exact cells_other)) ?_
      rintro _ _ rfl
      show WP _ _ _ _ _ _ _ (Sto (setL S12 ((S x).r) x) D :: Blk tb [.pointer (some ⟨(rp s n S8 root x ((S x).r)).2, 0, none⟩), .int .i64 (cnt), .pointer (some ⟨s, 0, none⟩)] 180 :: Ens EL :: Blk s ZC 177 :: F)
      obtain ⟨S13, hS13⟩ : ∃ S13, S13 = setL S12 ((S x).r) x := ⟨_, rfl⟩
      rw [← hS13]
      have okS13 : Ok s EL D S13 := by rw [hS13]; exact (okS12.setL (.inr hx))
      have k14 : (S13 ((S x).r)).l = x := by rw [hS13]; exact setL_same _ _ _
      refine WP.nil ?_
      refine Out.next ?_
      refine WPc.region ?_
      refine WP.val rfl rfl rfl (Val.move rfl rfl) ?_
      refine WP.val rfl rfl rfl (Val.move rfl rfl) ?_
      refine WP.val rfl rfl rfl (Val.nilCheck rfl rfl) ?_
      refine WP.val rfl rfl rfl (Val.fieldAddr (j := 2) rfl Ty.fo180_2 rfl rfl) ?_
      refine WP.val rfl rfl rfl (Val.load rfl Ty.sc168 rfl (fun w h => h.cell 1 rfl rfl)) ?_
      refine WP.perm pl3 ?_
      refine WP.perm pl1 ?_
      refine WP.perm pl3 ?_
      refine WP.eff rfl rfl rfl (Eff.call rfl rfl Try.call133 (um_does EL t0 hE s D ZC S13 okS13 ((S x).r) n (Ok.r ok hx) (by have h0 := hd.d3; unfold rl5 rl4 rl3 at h0; rw [rl2_pos (by assumption)] at h0; subst hS13 hS12 hS8 hS4 hS1; exact h0))) ?_
      rintro _ _ ⟨_, rfl, rfl⟩
      show WP _ _ _ _ _ _ _ (Ens EL :: Sto (um s n S13 ((S x).r)) D :: Blk s ZC 177 :: Blk tb [.pointer (some ⟨(rp s n S8 root x ((S x).r)).2, 0, none⟩), .int .i64 (cnt), .pointer (some ⟨s, 0, none⟩)] 180 :: F)
      obtain ⟨S15, hS15⟩ : ∃ S15, S15 = um s n S13 ((S x).r) := ⟨_, rfl⟩
      rw [← hS15]
      have okS15 : Ok s EL D S15 := by rw [hS15]; exact (um_ok _ _ _ okS13 (Ok.r ok hx))
      have k16 : (S15 ((S x).r)).l = x := (by rw [hS15]; exact (OnlyM.l (um_only _ _ _ _) _).trans k14)
      refine WP.nil ?_
      have hfin := (rl_ne hr : rl s n S root x = _)
      unfold rl5 rl4 rl3 at hfin
      rw [rl2_pos (by assumption)] at hfin
      refine Out.perm pl2 ?_
      refine Out.perm pl2 ?_
      refine Out.perm pl2 ?_
      refine Out.perm pl3 ?_
      exact Out.end0 (L' := _) Try.results160 rfl (fun w h => by rw [hfin]; subst hS15 hS13 hS12 hS8 hS4 hS1; exact h)
    · skip
      have h2 : ¬ ((S ((S x).r)).l ≠ s) := h2
      refine WPc.skip ?_
      refine Out.next ?_
      refine WPc.seq ?_
      refine WPc.region ?_
      refine WP.val rfl rfl rfl (Val.move rfl rfl) ?_
      refine WP.val rfl rfl rfl (Val.move rfl rfl) ?_
      refine WP.val rfl rfl rfl (Val.nilCheck rfl rfl) ?_
      refine WP.val rfl rfl rfl (Val.fieldAddr (j := 2) rfl Ty.fo180_2 rfl rfl) ?_
      refine WP.val rfl rfl rfl (Val.load rfl Ty.sc168 rfl (fun w h => h.cell 1 rfl rfl)) ?_
      refine WP.perm pl3 ?_
      refine WP.perm pl1 ?_
      refine WP.perm pl3 ?_
      refine WP.eff rfl rfl rfl (Eff.call rfl rfl Try.call133 (um_does EL t0 hE s D ZC S1 okS1 x n (.inr hx) (by have h0 := hd.d1; rw [rl2_neg (by assumption)] at h0; subst hS1; exact h0))) ?_
      rintro _ _ ⟨_, rfl, rfl⟩
      show WP _ _ _ _ _ _ _ (Ens EL :: Sto (um s n S1 x) D :: Blk s ZC 177 :: Blk tb [.pointer (some ⟨root, 0, none⟩), .int .i64 (cnt), .pointer (some ⟨s, 0, none⟩)] 180 :: F)
      obtain ⟨S17, hS17⟩ : ∃ S17, S17 = um s n S1 x := ⟨_, rfl⟩
      rw [← hS17]
      have okS17 : Ok s EL D S17 := by rw [hS17]; exact (um_ok _ _ _ okS1 (.inr hx))
      have k18 : (S17 ((S x).r)).l = (S ((S x).r)).l := (by rw [hS17]; exact (OnlyM.l (um_only _ _ _ _) _).trans k2)
      have k19 : (S17 x).r = (S ((S x).r)).l := (by rw [hS17]; exact (OnlyM.r (um_only _ _ _ _) _).trans k3)
      refine WP.nil ?_
      refine Out.next ?_
      refine WPc.seq ?_
      refine WPc.region ?_
      refine WP.val rfl rfl rfl (Val.move rfl rfl) ?_
      refine WP.val rfl rfl rfl (Val.move rfl rfl) ?_
      refine WP.val rfl rfl rfl (Val.move rfl rfl) ?_
      refine WP.perm pl2 ?_
      refine WP.perm pl2 ?_
      refine WP.perm pl2 ?_
      refine WP.perm pl3 ?_
      refine WP.eff rfl rfl rfl (Eff.call rfl rfl Try.call164 (rp_does EL t0 hE s D ZC tb root cnt S17 okS17 hroot x ((S x).r) n hx hy hd.ne (by have h0 := hd.d2; unfold rl3 at h0; rw [rl2_neg (by assumption)] at h0; subst hS17 hS1; exact h0))) ?_
      rintro _ _ ⟨_, rfl, rfl⟩
      show WP _ _ _ _ _ _ _ (Blk tb [.pointer (some ⟨(rp s n S17 root x ((S x).r)).2, 0, none⟩), .int .i64 (cnt), .pointer (some ⟨s, 0, none⟩)] 180 :: Ens EL :: Sto ((rp s n S17 root x ((S x).r)).1) D :: Blk s ZC 177 :: F)
      obtain ⟨S20, hS20⟩ : ∃ S20, S20 = (rp s n S17 root x ((S x).r)).1 := ⟨_, rfl⟩
      rw [← hS20]
      have okS20 : Ok s EL D S20 := by rw [hS20]; exact (rp_ok okS17 hx hy)
      refine WP.nil ?_
      refine Out.next ?_
      refine WPc.seq ?_
      refine WPc.region ?_
      refine WP.val rfl rfl rfl (Val.move rfl rfl) ?_
      refine WP.val rfl rfl rfl (Val.move rfl rfl) ?_
      refine WP.val rfl rfl rfl (Val.nilCheck rfl rfl) ?_
      refine WP.val rfl rfl rfl (Val.fieldAddr (j := 4) rfl Ty.fo177_2 rfl rfl) ?_
      refine WP.perm pl2 ?_
      refine WP.eff0 rfl rfl (Eff.storeK (f := fun i => (S20 i).cells) (f' := fun i => (setL S20 ((S x).r) x i).cells) rfl Ty.sc168 rfl rfl rfl hy (show 4 < 8 by decide) (by unfold setL; rw [upd_same]; rfl) (by unfold setL; exact cells_other)) ?_
      rintro _ _ rfl
      show WP _ _ _ _ _ _ _ (Sto (setL S20 ((S x).r) x) D :: Blk tb [.pointer (some ⟨(rp s n S17 root x ((S x).r)).2, 0, none⟩), .int .i64 (cnt), .pointer (some ⟨s, 0, none⟩)] 180 :: Ens EL :: Blk s ZC 177 :: F)
      obtain ⟨S21, hS21⟩ : ∃ S21, S21 = setL S20 ((S x).r) x := ⟨_, rfl⟩
      rw [← hS21]
      have okS21 : Ok s EL D S21 := by rw [hS21]; exact (okS20.setL (.inr hx))
      have k22 : (S21 ((S x).r)).l = x := by rw [hS21]; exact setL_same _ _ _
      refine WP.nil ?_
      refine Out.next ?_
      refine WPc.region ?_
      refine WP.val rfl rfl rfl (Val.move rfl rfl) ?_
      refine WP.val rfl rfl rfl (Val.move rfl rfl) ?_
      refine WP.val rfl rfl rfl (Val.nilCheck rfl rfl) ?_
      refine WP.val rfl rfl rfl (Val.fieldAddr (j := 2) rfl Ty.fo180_2 rfl rfl) ?_
      refine WP.val rfl rfl rfl (Val.load rfl Ty.sc168 rfl (fun w h => h.cell 1 rfl rfl)) ?_
      refine WP.perm pl3 ?_
      refine WP.perm pl1 ?_
      refine WP.perm pl3 ?_
      refine WP.eff rfl rfl rfl (Eff.call rfl rfl Try.call133 (um_does EL t0 hE s D ZC S21 okS21 ((S x).r) n (Ok.r ok hx) (by have h0 := hd.d3; unfold rl5 rl4 rl3 at h0; rw [rl2_neg (by assumption)] at h0; subst hS21 hS20 hS17 hS1; exact h0))) ?_
      rintro _ _ ⟨_, rfl, rfl⟩
      show WP _ _ _ _ _ _ _ (Ens EL :: Sto (um s n S21 ((S x).r)) D :: Blk s ZC 177 :: Blk tb [.pointer (some ⟨(rp s n S17 root x ((S x).r)).2, 0, none⟩), .int .i64 (cnt), .pointer (some ⟨s, 0, none⟩)] 180 :: F)
      obtain ⟨S23, hS23⟩ : ∃ S23, S23 = um s n S21 ((S x).r) := ⟨_, rfl⟩
      rw [← hS23]
      have okS23 : Ok s EL D S23 := by rw [hS23]; exact (um_ok _ _ _ okS21 (Ok.r ok hx))
      have k24 : (S23 ((S x).r)).l = x := (by rw [hS23]; exact (OnlyM.l (um_only _ _ _ _) _).trans k22)
      refine WP.nil ?_
      have hfin := (rl_ne hr : rl s n S root x = _)
      unfold rl5 rl4 rl3 at hfin
      rw [rl2_neg (by assumption)] at hfin
      refine Out.perm pl2 ?_
      refine Out.perm pl2 ?_
      refine Out.perm pl2 ?_
      refine Out.perm pl3 ?_
      exact Out.end0 (L' := _) Try.results160 rfl (fun w h => by rw [hfin]; subst hS23 hS21 hS20 hS17 hS1; exact h)
set_option maxRecDepth 100000 in
set_option maxHeartbeats 2000000 in
theorem rr_does (EL : List En) (t0 : TypeId) (hE : ∀ e ∈ EL, e.t = t0) (s : Nat) (D : List Nat) (ZC : List Value) (tb root : Nat) (cnt : Int) (S : St) (ok : Ok s EL D S) (hroot : Is s D root) (x n : Nat) (hx : x ∈ D) (hok : ¬ (S x).l = s → RrOk s n S root x) : Does Try.prog 161 [.pointer (some ⟨tb, 0, none⟩), .pointer (some ⟨x, 0, none⟩)] [Blk tb [.pointer (some ⟨root, 0, none⟩), .int .i64 (cnt), .pointer (some ⟨s, 0, none⟩)] 180, Ens EL, Sto S D, Blk s ZC 177] (fun _ L => L = [Blk tb [.pointer (some ⟨(rr s n S root x).2, 0, none⟩), .int .i64 cnt, .pointer (some ⟨s, 0, none⟩)] 180, Ens EL, Sto (rr s n S root x).1 D, Blk s ZC 177]) := by
  refine Does.enter 61 Try.func161 rfl rfl rfl fun W F => ?_
  show WPc _ _ _ _ _ [(0, .pointer (some ⟨tb, 0, none⟩)), (1, .pointer (some ⟨x, 0, none⟩))] (Blk tb [.pointer (some ⟨root, 0, none⟩), .int .i64 (cnt), .pointer (some ⟨s, 0, none⟩)] 180 :: Ens EL :: Sto S D :: Blk s ZC 177 :: F)
  refine WPc.seq ?_
  refine WPc.seq ?_
  refine WPD.start (Sat W (Blk tb [.pointer (some ⟨root, 0, none⟩), .int .i64 (cnt), .pointer (some ⟨s, 0, none⟩)] 180 :: Ens EL :: Sto S D :: Blk s ZC 177 :: F)) Ty.mixed ?_
  refine WPD.takeM 0 rfl rfl rfl rfl (by kernel_rfl) (by kernel_rfl) (by kernel_rfl) (by kernel_rfl) (fun _ _ _ h => h) (fun _ h => h) (Val.move rfl rfl) ?_
  refine WPD.takeM 1 rfl rfl rfl rfl (by kernel_rfl) (by kernel_rfl) (by kernel_rfl) (by kernel_rfl) (fun _ _ _ h => h) (fun _ h => h) (Val.nilCheck rfl rfl) ?_
  refine WPD.takeM 2 rfl rfl rfl rfl (by kernel_rfl) (by kernel_rfl) (by kernel_rfl) (by kernel_rfl) (fun _ _ _ h => h) (fun _ h => h) (Val.fieldAddr (j := 4) rfl Ty.fo177_2 rfl rfl) ?_
  refine WPD.take 3 rfl rfl rfl rfl (by kernel_rfl) (by kernel_rfl) (by kernel_rfl) (by kernel_rfl) (fun _ _ _ h => h) (by kernel_rfl) (fun _ h => h) (Val.load (v := .pointer (some ⟨(S x).l, 0, none⟩)) rfl Ty.sc168 rfl (fun w h => sto_l (h.at 2 rfl) hx rfl)) ?_
  refine WPD.takeM 4 rfl rfl rfl rfl (by kernel_rfl) (by kernel_rfl) (by kernel_rfl) (by kernel_rfl) (fun _ _ _ h => h) (fun _ h => h) (Val.move rfl rfl) ?_
  refine WPD.takeM 5 rfl rfl rfl rfl (by kernel_rfl) (by kernel_rfl) (by kernel_rfl) (by kernel_rfl) (fun _ _ _ h => h) (fun _ h => h) (Val.nilCheck rfl rfl) ?_
  refine WPD.takeM 6 rfl rfl rfl rfl (by kernel_rfl) (by kernel_rfl) (by kernel_rfl) (by kernel_rfl) (fun _ _ _ h => h) (fun _ h => h) (Val.fieldAddr (j := 2) rfl Ty.fo180_2 rfl rfl) ?_
  refine WPD.take 7 rfl rfl rfl rfl (by kernel_rfl) (by kernel_rfl) (by kernel_rfl) (by kernel_rfl) (fun _ _ _ h => h) (by kernel_rfl) (fun _ h => h) (Val.load rfl Ty.sc168 rfl (fun w h => h.cell 0 rfl rfl)) ?_
  refine WPD.take 8 rfl rfl rfl rfl (by kernel_rfl) (by kernel_rfl) (by kernel_rfl) (by kernel_rfl) (fun _ _ _ h => h) (by kernel_rfl) (fun _ h => h) (Val.eqP (T1 := 177) (T2 := 177) rfl pn168 rfl rfl rfl rfl (fun w h => whole (h.at 2 rfl) (h.at 3 rfl) (Ok.l ok hx)) (fun w h => whole (h.at 2 rfl) (h.at 3 rfl) (.inl rfl))) ?_
  refine WPD.done (by kernel_rfl) ?_
  refine Out.next ?_
  refine WPc.ifP rfl (fun h1 => ?_) (fun h1 => ?_)
  · skip
    have h1 : ((S x).l = s) := h1
    refine WPc.ret ?_
    refine Out.then_ret ?_
    have hfin : rr s n S root x = _ := rr_s (by assumption)
    exact Out.ret0 (L' := _) Try.results161 rfl (fun w h => by rw [hfin]; exact h)
  · skip
    have h1 : ¬ ((S x).l = s) := h1
    refine WPc.skip ?_
    refine Out.next ?_
    refine WPc.seq ?_
    have hr : ¬ (S x).l = s := by assumption
    have hy : (S x).l ∈ D := Is.mem (Ok.l ok hx) hr
    have hd := hok hr
    refine WPc.region ?_
    refine WP.val rfl rfl rfl (Val.move rfl rfl) ?_
    refine WP.val rfl rfl rfl (Val.nilCheck rfl rfl) ?_
    refine WP.val rfl rfl rfl (Val.fieldAddr (j := 4) rfl Ty.fo177_2 rfl rfl) ?_
    refine WP.val rfl rfl rfl (Val.load (v := .pointer (some ⟨(S x).l, 0, none⟩)) rfl Ty.sc168 rfl (fun w h => sto_l (h.at 2 rfl) hx rfl)) ?_
    refine WP.val rfl rfl rfl (Val.assign rfl rfl) ?_
    refine WP.nil ?_
    refine Out.next ?_
    refine WPc.seq ?_
    refine WPc.region ?_
    refine WP.val rfl rfl rfl (Val.move rfl rfl) ?_
    refine WP.val rfl rfl rfl (Val.move rfl rfl) ?_
    refine WP.val rfl rfl rfl (Val.nilCheck rfl rfl) ?_
    refine WP.val rfl rfl rfl (Val.fieldAddr (j := 5) rfl Ty.fo177_3 rfl rfl) ?_
    refine WP.val rfl rfl rfl (Val.load (v := .pointer (some ⟨(S ((S x).l)).r, 0, none⟩)) rfl Ty.sc168 rfl (fun w h => sto_r (h.at 2 rfl) hy rfl)) ?_
    refine WP.val rfl rfl rfl (Val.nilCheck rfl rfl) ?_
    refine WP.val rfl rfl rfl (Val.fieldAddr (j := 4) rfl Ty.fo177_2 rfl rfl) ?_
    refine WP.perm pl2 ?_
    refine WP.eff0 rfl rfl (Eff.storeK (f := fun i => (S i).cells) (f' := fun i => (setL S x ((S ((S x).l)).r) i).cells) rfl Ty.sc168 rfl rfl rfl hx (show 4 < 8 by decide) (by unfold setL; rw [upd_same]; rfl) (by unfold setL; exact cells_other)) ?_
    rintro _ _ rfl
    show WP _ _ _ _ _ _ _ (Sto (setL S x ((S ((S x).l)).r)) D :: Blk tb [.pointer (some ⟨root, 0, none⟩), .int .i64 (cnt), .pointer (some ⟨s, 0, none⟩)] 180 :: Ens EL :: Blk s ZC 177 :: F)
    obtain ⟨S1, hS1⟩ : ∃ S1, S1 = setL S x ((S ((S x).l)).r) := ⟨_, rfl⟩
    rw [← hS1]
    have okS1 : Ok s EL D S1 := by rw [hS1]; exact (ok.setL (Ok.r ok hy))
    have k2 : (S1 ((S x).l)).r = (S ((S x).l)).r := (by rw [hS1]; exact (setL_r _ _ _ _).trans rfl)
    have k3 : (S1 x).l = (S ((S x).l)).r := by rw [hS1]; exact setL_same _ _ _
    refine WP.nil ?_
    refine Out.next ?_
    refine WPc.seq ?_
    refine WPc.seq ?_
    refine WPD.start (Sat W (Sto S1 D :: Blk tb [.pointer (some ⟨root, 0, none⟩), .int .i64 (cnt), .pointer (some ⟨s, 0, none⟩)] 180 :: Ens EL :: Blk s ZC 177 :: F)) Ty.mixed ?_
    refine WPD.takeM 0 rfl rfl rfl rfl (by kernel_rfl) (by kernel_rfl) (by kernel_rfl) (by kernel_rfl) (fun _ _ _ h => h) (fun _ h => h) (Val.move rfl rfl) ?_
    refine WPD.takeM 1 rfl rfl rfl rfl (by kernel_rfl) (by kernel_rfl) (by kernel_rfl) (by kernel_rfl) (fun _ _ _ h => h) (fun _ h => h) (Val.nilCheck rfl rfl) ?_
    refine WPD.takeM 2 rfl rfl rfl rfl (by kernel_rfl) (by kernel_rfl) (by kernel_rfl) (by kernel_rfl) (fun _ _ _ h => h) (fun _ h => h) (Val.fieldAddr (j := 5) rfl Ty.fo177_3 rfl rfl) ?_
    refine WPD.take 3 rfl rfl rfl rfl (by kernel_rfl) (by kernel_rfl) (by kernel_rfl) (by kernel_rfl) (fun _ _ _ h => h) (by kernel_rfl) (fun _ h => h) (Val.load (v := .pointer (some ⟨(S ((S x).l)).r, 0, none⟩)) rfl Ty.sc168 rfl (fun w h => sto_r (h.at 0 rfl) hy k2)) ?_
    refine WPD.takeM 4 rfl rfl rfl rfl (by kernel_rfl) (by kernel_rfl) (by kernel_rfl) (by kernel_rfl) (fun _ _ _ h => h) (fun _ h => h) (Val.move rfl rfl) ?_
    refine WPD.takeM 5 rfl rfl rfl rfl (by kernel_rfl) (by kernel_rfl) (by kernel_rfl) (by kernel_rfl) (fun _ _ _ h => h) (fun _ h => h) (Val.nilCheck rfl rfl) ?_
    refine WPD.takeM 6 rfl rfl rfl rfl (by kernel_rfl) (by kernel_rfl) (by kernel_rfl) (by kernel_rfl) (fun _ _ _ h => h) (fun _ h => h) (Val.fieldAddr (j := 2) rfl Ty.fo180_2 rfl rfl) ?_
    refine WPD.take 7 rfl rfl rfl rfl (by kernel_rfl) (by kernel_rfl) (by kernel_rfl) (by kernel_rfl) (fun _ _ _ h => h) (by kernel_rfl) (fun _ h => h) (Val.load rfl Ty.sc168 rfl (fun w h => h.cell 1 rfl rfl)) ?_
    refine WPD.take 8 rfl rfl rfl rfl (by kernel_rfl) (by kernel_rfl) (by kernel_rfl) (by kernel_rfl) (fun _ _ _ h => h) (by kernel_rfl) (fun _ h => h) (Val.neqP (T1 := 177) (T2 := 177) rfl pn168 rfl rfl rfl rfl (fun w h => whole (h.at 0 rfl) (h.at 3 rfl) (Ok.r ok hy)) (fun w h => whole (h.at 0 rfl) (h.at 3 rfl) (.inl rfl))) ?_
    refine WPD.done (by kernel_rfl) ?_
    refine Out.next ?_
    refine WPc.ifP rfl (fun h2 => ?_) (fun h2 => ?_)
    · skip
      have h2 : ((S ((S x).l)).r ≠ s) := h2
      refine WPc.region ?_
      refine WP.val rfl rfl rfl (Val.move rfl rfl) ?_
      refine WP.val rfl rfl rfl (Val.nilCheck rfl rfl) ?_
      refine WP.val rfl rfl rfl (Val.fieldAddr (j := 5) rfl Ty.fo177_3 rfl rfl) ?_
      refine WP.val rfl rfl rfl (Val.load (v := .pointer (some ⟨(S ((S x).l)).r, 0, none⟩)) rfl Ty.sc168 rfl (fun w h => sto_r (h.at 0 rfl) hy k2)) ?_
      refine WP.val rfl rfl rfl (Val.move rfl rfl) ?_
      refine WP.val rfl rfl rfl (Val.nilCheck rfl rfl) ?_
      refine WP.val rfl rfl rfl (Val.fieldAddr (j := 6) rfl Ty.fo177_4 rfl rfl) ?_
      refine WP.eff0 rfl rfl (Eff.storeK (f := fun i => (S1 i).cells) (f' := fun i => (setP S1 ((S ((S x).l)).r) x i).cells) rfl Ty.sc168 rfl rfl rfl (Is.mem (Ok.r ok hy) (by first | assumption | (intro hh; simp_all; done) | (simp_all; done))) (show 6 < 8 by decide) (by unfold setP; rw [upd_same]; rfl) (by unfold setP; exact cells_other)) ?_
      rintro _ _ rfl
      show WP _ _ _ _ _ _ _ (Sto (setP S1 ((S ((S x).l)).r) x) D :: Blk tb [.pointer (some ⟨root, 0, none⟩), .int .i64 (cnt), .pointer (some ⟨s, 0, none⟩)] 180 :: Ens EL :: Blk s ZC 177 :: F)
      obtain ⟨S4, hS4⟩ : ∃ S4, S4 = setP S1 ((S ((S x).l)).r) x := ⟨_, rfl⟩
      rw [← hS4]
      have okS4 : Ok s EL D S4 := by rw [hS4]; exact (okS1.setP (.inr hx))
      have k5 : (S4 ((S x).l)).r = (S ((S x).l)).r := (by rw [hS4]; exact (setP_r _ _ _ _).trans k2)
      have k6 : (S4 x).l = (S ((S x).l)).r := (by rw [hS4]; exact (setP_l _ _ _ _).trans k3)
      have k7 : (S4 ((S ((S x).l)).r)).p = x := by rw [hS4]; exact setP_same _ _ _
      refine WP.nil ?_
      refine Out.next ?_
      refine WPc.seq ?_
      refine WPc.region ?_
      refine WP.val rfl rfl rfl (Val.move rfl rfl) ?_
      refine WP.val rfl rfl rfl (Val.move rfl rfl) ?_
      refine WP.val rfl rfl rfl (Val.nilCheck rfl rfl) ?_
      refine WP.val rfl rfl rfl (Val.fieldAddr (j := 2) rfl Ty.fo180_2 rfl rfl) ?_
      refine WP.val rfl rfl rfl (Val.load rfl Ty.sc168 rfl (fun w h => h.cell 1 rfl rfl)) ?_
      refine WP.perm pl3 ?_
      refine WP.perm pl1 ?_
      refine WP.perm pl3 ?_
      refine WP.eff rfl rfl rfl (Eff.call rfl rfl Try.call133 (um_does EL t0 hE s D ZC S4 okS4 x n (.inr hx) (by have h0 := hd.d1; rw [rr2_pos (by assumption)] at h0; subst hS4 hS1; exact h0))) ?_
      rintro _ _ ⟨_, rfl, rfl⟩
      show WP _ _ _ _ _ _ _ (Ens EL :: Sto (um s n S4 x) D :: Blk s ZC 177 :: Blk tb [.pointer (some ⟨root, 0, none⟩), .int .i64 (cnt), .pointer (some ⟨s, 0, none⟩)] 180 :: F)
      obtain ⟨S8, hS8⟩ : ∃ S8, S8 = um s n S4 x := ⟨_, rfl⟩
      rw [← hS8]
      have okS8 : Ok s EL D S8 := by rw [hS8]; exact (um_ok _ _ _ okS4 (.inr hx))
      have k9 : (S8 ((S x).l)).r = (S ((S x).l)).r := (by rw [hS8]; exact (OnlyM.r (um_only _ _ _ _) _).trans k5)
      have k10 : (S8 x).l = (S ((S x).l)).r := (by rw [hS8]; exact (OnlyM.l (um_only _ _ _ _) _).trans k6)
      have k11 : (S8 ((S ((S x).l)).r)).p = x := (by rw [hS8]; exact (OnlyM.p (um_only _ _ _ _) _).trans k7)
      refine WP.nil ?_
      refine Out.next ?_
      refine WPc.seq ?_
      refine WPc.region ?_
      refine WP.val rfl rfl rfl (Val.move rfl rfl) ?_
      refine WP.val rfl rfl rfl (Val.move rfl rfl) ?_
      refine WP.val rfl rfl rfl (Val.move rfl rfl) ?_
      refine WP.perm pl2 ?_
      refine WP.perm pl2 ?_
      refine WP.perm pl2 ?_
      refine WP.perm pl3 ?_
      refine WP.eff rfl rfl rfl (Eff.call rfl rfl Try.call164 (rp_does EL t0 hE s D ZC tb root cnt S8 okS8 hroot x ((S x).l) n hx hy hd.ne (by have h0 := hd.d2; unfold rr3 at h0; rw [rr2_pos (by assumption)] at h0; subst hS8 hS4 hS1; exact h0))) ?_
      rintro _ _ ⟨_, rfl, rfl⟩
      show WP _ _ _ _ _ _ _ (Blk tb [.pointer (some ⟨(rp s n S8 root x ((S x).l)).2, 0, none⟩), .int .i64 (cnt), .pointer (some ⟨s, 0, none⟩)] 180 :: Ens EL :: Sto ((rp s n S8 root x ((S x).l)).1) D :: Blk s ZC 177 :: F)
      obtain ⟨S12, hS12⟩ : ∃ S12, S12 = (rp s n S8 root x ((S x).l)).1 := ⟨_, rfl⟩
      rw [← hS12]
      have okS12 : Ok s EL D S12 := by rw [hS12]; exact (rp_ok okS8 hx hy)
      refine WP.nil ?_
      refine Out.next ?_
      refine WPc.seq ?_
      refine WPc.region ?_
      refine WP.val rfl rfl rfl (Val.move rfl rfl) ?_
      refine WP.val rfl rfl rfl (Val.move rfl rfl) ?_
      refine WP.val rfl rfl rfl (Val.nilCheck rfl rfl) ?_
      refine WP.val rfl rfl rfl (Val.fieldAddr (j := 5) rfl Ty.fo177_3 rfl rfl) ?_
      refine WP.perm pl2 ?_
      refine WP.eff0 rfl rfl (Eff.storeK (f := fun i => (S12 i).cells) (f' := fun i => (setR S12 ((S x).l) x i).cells) rfl Ty.sc168 rfl rfl rfl hy (show 5 < 8 by decide) (by unfold setR; rw [upd_same]; rfl) (by unfold setR; exact cells_other)) ?_
      rintro _ _ rfl
      show WP _ _ _ _ _ _ _ (Sto (setR S12 ((S x).l) x) D :: Blk tb [.pointer (some ⟨(rp s n S8 root x ((S x).l)).2, 0, none⟩), .int .i64 (cnt), .pointer (some ⟨s, 0, none⟩)] 180 :: Ens EL :: Blk s ZC 177 :: F)
      obtain ⟨S13, hS13⟩ : ∃ S13, S13 = setR S12 ((S x).l) x := ⟨_, rfl⟩
      rw [← hS13]
      have okS13 : Ok s EL D S13 := by rw [hS13]; exact (okS12.setR (.inr hx))
      have k14 : (S13 ((S x).l)).r = x := by rw [hS13]; exact setR_same _ _ _
      refine WP.nil ?_
      refine Out.next ?_
      refine WPc.region ?_
      refine WP.val rfl rfl rfl (Val.move rfl rfl) ?_
      refine WP.val rfl rfl rfl (Val.move rfl rfl) ?_
      refine WP.val rfl rfl rfl (Val.nilCheck rfl rfl) ?_
      refine WP.val rfl rfl rfl (Val.fieldAddr (j := 2) rfl Ty.fo180_2 rfl rfl) ?_
      refine WP.val rfl rfl rfl (Val.load rfl Ty.sc168 rfl (fun w h => h.cell 1 rfl rfl)) ?_
      refine WP.perm pl3 ?_
      refine WP.perm pl1 ?_
      refine WP.perm pl3 ?_
      refine WP.eff rfl rfl rfl (Eff.call rfl rfl Try.call133 (um_does EL t0 hE s D ZC S13 okS13 ((S x).l) n (Ok.l ok hx) (by have h0 := hd.d3; unfold rr5 rr4 rr3 at h0; rw [rr2_pos (by assumption)] at h0; subst hS13 hS12 hS8 hS4 hS1; exact h0))) ?_
      rintro _ _ ⟨_, rfl, rfl⟩
      show WP _ _ _ _ _ _ _ (Ens EL :: Sto (um s n S13 ((S x).l)) D :: Blk s ZC 177 :: Blk tb [.pointer (some ⟨(rp s n S8 root x ((S x).l)).2, 0, none⟩), .int .i64 (cnt), .pointer (some ⟨s, 0, none⟩)] 180 :: F)
      obtain ⟨S15, hS15⟩ : ∃ S15, S15 = um s n S13 ((S x).l) := ⟨_, rfl⟩
      rw [← hS15]
      have okS15 : Ok s EL D S15 := by rw [hS15]; exact (um_ok _ _ _ okS13 (Ok.l ok hx))
      have k16 : (S15 ((S x).l)).r = x := (by rw [hS15]; exact (OnlyM.r (um_only _ _ _ _) _).trans k14)
      refine WP.nil ?_
      have hfin := (rr_ne hr : rr s n S root x = _)
      unfold rr5 rr4 rr3 at hfin
      rw [rr2_pos (by assumption)] at hfin
      refine Out.perm pl2 ?_
      refine Out.perm pl2 ?_
      refine Out.perm pl2 ?_
      refine Out.perm pl3 ?_
      exact Out.end0 (L' := _) Try.results161 rfl (fun w h => by rw [hfin]; subst hS15 hS13 hS12 hS8 hS4 hS1; exact h)
    · skip
      have h2 : ¬ ((S ((S x).l)).r ≠ s) := h2
      refine WPc.skip ?_
      refine Out.next ?_
      refine WPc.seq ?_
      refine WPc.region ?_
      refine WP.val rfl rfl rfl (Val.move rfl rfl) ?_
      refine WP.val rfl rfl rfl (Val.move rfl rfl) ?_
      refine WP.val rfl rfl rfl (Val.nilCheck rfl rfl) ?_
      refine WP.val rfl rfl rfl (Val.fieldAddr (j := 2) rfl Ty.fo180_2 rfl rfl) ?_
      refine WP.val rfl rfl rfl (Val.load rfl Ty.sc168 rfl (fun w h => h.cell 1 rfl rfl)) ?_
      refine WP.perm pl3 ?_
      refine WP.perm pl1 ?_
      refine WP.perm pl3 ?_
      refine WP.eff rfl rfl rfl (Eff.call rfl rfl Try.call133 (um_does EL t0 hE s D ZC S1 okS1 x n (.inr hx) (by have h0 := hd.d1; rw [rr2_neg (by assumption)] at h0; subst hS1; exact h0))) ?_
      rintro _ _ ⟨_, rfl, rfl⟩
      show WP _ _ _ _ _ _ _ (Ens EL :: Sto (um s n S1 x) D :: Blk s ZC 177 :: Blk tb [.pointer (some ⟨root, 0, none⟩), .int .i64 (cnt), .pointer (some ⟨s, 0, none⟩)] 180 :: F)
      obtain ⟨S17, hS17⟩ : ∃ S17, S17 = um s n S1 x := ⟨_, rfl⟩
      rw [← hS17]
      have okS17 : Ok s EL D S17 := by rw [hS17]; exact (um_ok _ _ _ okS1 (.inr hx))
      have k18 : (S17 ((S x).l)).r = (S ((S x).l)).r := (by rw [hS17]; exact (OnlyM.r (um_only _ _ _ _) _).trans k2)
      have k19 : (S17 x).l = (S ((S x).l)).r := (by rw [hS17]; exact (OnlyM.l (um_only _ _ _ _) _).trans k3)
      refine WP.nil ?_
      refine Out.next ?_
      refine WPc.seq ?_
      refine WPc.region ?_
      refine WP.val rfl rfl rfl (Val.move rfl rfl) ?_
      refine WP.val rfl rfl rfl (Val.move rfl rfl) ?_
      refine WP.val rfl rfl rfl (Val.move rfl rfl) ?_
      refine WP.perm pl2 ?_
      refine WP.perm pl2 ?_
      refine WP.perm pl2 ?_
      refine WP.perm pl3 ?_
      refine WP.eff rfl rfl rfl (Eff.call rfl rfl Try.call164 (rp_does EL t0 hE s D ZC tb root cnt S17 okS17 hroot x ((S x).l) n hx hy hd.ne (by have h0 := hd.d2; unfold rr3 at h0; rw [rr2_neg (by assumption)] at h0; subst hS17 hS1; exact h0))) ?_
      rintro _ _ ⟨_, rfl, rfl⟩
      show WP _ _ _ _ _ _ _ (Blk tb [.pointer (some ⟨(rp s n S17 root x ((S x).l)).2, 0, none⟩), .int .i64 (cnt), .pointer (some ⟨s, 0, none⟩)] 180 :: Ens EL :: Sto ((rp s n S17 root x ((S x).l)).1) D :: Blk s ZC 177 :: F)
      obtain ⟨S20, hS20⟩ : ∃ S20, S20 = (rp s n S17 root x ((S x).l)).1 := ⟨_, rfl⟩
      rw [← hS20]
      have okS20 : Ok s EL D S20 := by rw [hS20]; exact (rp_ok okS17 hx hy)
      refine WP.nil ?_
      refine Out.next ?_
      refine WPc.seq ?_
      refine WPc.region ?_
      refine WP.val rfl rfl rfl (Val.move rfl rfl) ?_
      refine WP.val rfl rfl rfl (Val.move rfl rfl) ?_
      refine WP.val rfl rfl rfl (Val.nilCheck rfl rfl) ?_
      refine WP.val rfl rfl rfl (Val.fieldAddr (j := 5) rfl Ty.fo177_3 rfl rfl) ?_
      refine WP.perm pl2 ?_
      refine WP.eff0 rfl rfl (Eff.storeK (f := fun i => (S20 i).cells) (f' := fun i => (setR S20 ((S x).l) x i).cells) rfl Ty.sc168 rfl rfl rfl hy (show 5 < 8 by decide) (by unfold setR; rw [upd_same]; rfl) (by unfold setR; exact cells_other)) ?_
      rintro _ _ rfl
      show WP _ _ _ _ _ _ _ (Sto (setR S20 ((S x).l) x) D :: Blk tb [.pointer (some ⟨(rp s n S17 root x ((S x).l)).2, 0, none⟩), .int .i64 (cnt), .pointer (some ⟨s, 0, none⟩)] 180 :: Ens EL :: Blk s ZC 177 :: F)
      obtain ⟨S21, hS21⟩ : ∃ S21, S21 = setR S20 ((S x).l) x := ⟨_, rfl⟩
      rw [← hS21]
      have okS21 : Ok s EL D S21 := by rw [hS21]; exact (okS20.setR (.inr hx))
      have k22 : (S21 ((S x).l)).r = x := by rw [hS21]; exact setR_same _ _ _
      refine WP.nil ?_
      refine Out.next ?_
      refine WPc.region ?_
      refine WP.val rfl rfl rfl (Val.move rfl rfl) ?_
      refine WP.val rfl rfl rfl (Val.move rfl rfl) ?_
      refine WP.val rfl rfl rfl (Val.nilCheck rfl rfl) ?_
      refine WP.val rfl rfl rfl (Val.fieldAddr (j := 2) rfl Ty.fo180_2 rfl rfl) ?_
      refine WP.val rfl rfl rfl (Val.load rfl Ty.sc168 rfl (fun w h => h.cell 1 rfl rfl)) ?_
      refine WP.perm pl3 ?_
      refine WP.perm pl1 ?_
      refine WP.perm pl3 ?_
      refine WP.eff rfl rfl rfl (Eff.call rfl rfl Try.call133 (um_does EL t0 hE s D ZC S21 okS21 ((S x).l) n (Ok.l ok hx) (by have h0 := hd.d3; unfold rr5 rr4 rr3 at h0; rw [rr2_neg (by assumption)] at h0; subst hS21 hS20 hS17 hS1; exact h0))) ?_
      rintro _ _ ⟨_, rfl, rfl⟩
      show WP _ _ _ _ _ _ _ (Ens EL :: Sto (um s n S21 ((S x).l)) D :: Blk s ZC 177 :: Blk tb [.pointer (some ⟨(rp s n S17 root x ((S x).l)).2, 0, none⟩), .int .i64 (cnt), .pointer (some ⟨s, 0, none⟩)] 180 :: F)
      obtain ⟨S23, hS23⟩ : ∃ S23, S23 = um s n S21 ((S x).l) := ⟨_, rfl⟩
      rw [← hS23]
      have okS23 : Ok s EL D S23 := by rw [hS23]; exact (um_ok _ _ _ okS21 (Ok.l ok hx))
      have k24 : (S23 ((S x).l)).r = x := (by rw [hS23]; exact (OnlyM.r (um_only _ _ _ _) _).trans k22)
      refine WP.nil ?_
      have hfin := (rr_ne hr : rr s n S root x = _)
      unfold rr5 rr4 rr3 at hfin
      rw [rr2_neg (by assumption)] at hfin
      refine Out.perm pl2 ?_
      refine Out.perm pl2 ?_
      refine Out.perm pl2 ?_
      refine Out.perm pl3 ?_
      exact Out.end0 (L' := _) Try.results161 rfl (fun w h => by rw [hfin]; subst hS23 hS21 hS20 hS17 hS1; exact h)

end Go.Proofs.Ytbomnihiapjmpaa.Tg

