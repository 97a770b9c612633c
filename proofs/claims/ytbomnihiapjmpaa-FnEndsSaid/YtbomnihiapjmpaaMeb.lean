import Derived.Test.YtbomnihiapjmpaaMea
import Derived.MapKept
import Derived.Test.YtbomnihiapjmpaaProg
namespace Go.Proofs.Ytbomnihiapjmpaa.TrP
open Go.RowKit Go.Lib Go.Proofs.Ytbomnihiapjmpaa Go.Proofs.Ytbomnihiapjmpaa.Sl
set_option linter.unusedVariables false
set_option linter.unusedSimpArgs false
set_option linter.unusedSectionVars false

/-! ## the order of ends -/
/-- what an end stands for -/
structure Ky where
  n : Int
  t : Int
  l : List UInt8
  deriving DecidableEq
theorem Ky.ext' {x y : Ky} (h1 : x.n = y.n) (h2 : x.t = y.t) (h3 : x.l = y.l) : x = y := by cases x; cases y; simp_all
def klt (x y : Ky) : Prop := x.n < y.n ∨ (x.n = y.n ∧ (x.t < y.t ∨ (x.t = y.t ∧ Op.bytesLess x.l y.l = true)))
instance : DecidableRel klt := fun x y => by unfold klt; exact inferInstance
theorem klt_irrefl (x : Ky) : ¬ klt x x := by
  unfold klt
  rw [bl_irrefl]
  simp
theorem klt_trans {x y z : Ky} (h1 : klt x y) (h2 : klt y z) : klt x z := by
  unfold klt at *
  rcases h1 with h1 | ⟨e1, h1 | ⟨e2, h1⟩⟩ <;> rcases h2 with h2 | ⟨f1, h2 | ⟨f2, h2⟩⟩
  · left; omega
  · left; omega
  · left; omega
  · left; omega
  · right; exact ⟨by omega, .inl (by omega)⟩
  · right; exact ⟨by omega, .inl (by omega)⟩
  · left; omega
  · right; exact ⟨by omega, .inl (by omega)⟩
  · right; exact ⟨by omega, .inr ⟨by omega, bl_trans h1 h2⟩⟩
theorem klt_tri (x y : Ky) : klt x y ∨ x = y ∨ klt y x := by
  unfold klt
  by_cases h1 : x.n < y.n
  · exact .inl (.inl h1)
  · by_cases h2 : y.n < x.n
    · exact .inr (.inr (.inl h2))
    · have e1 : x.n = y.n := by omega
      by_cases h3 : x.t < y.t
      · exact .inl (.inr ⟨e1, .inl h3⟩)
      · by_cases h4 : y.t < x.t
        · exact .inr (.inr (.inr ⟨e1.symm, .inl h4⟩))
        · have e2 : x.t = y.t := by omega
          rcases bl_tri x.l y.l with h | h | h
          · exact .inl (.inr ⟨e1, .inr ⟨e2, h⟩⟩)
          · exact .inr (.inl (Ky.ext' e1 e2 h))
          · exact .inr (.inr (.inr ⟨e1.symm, .inr ⟨e2.symm, h⟩⟩))
theorem klt_asymm {x y : Ky} (h : klt x y) : ¬ klt y x := fun h2 => klt_irrefl x (klt_trans h h2)
theorem kle_trans {x y z : Ky} (h1 : ¬ klt y x) (h2 : ¬ klt z y) : ¬ klt z x := fun h => by
  rcases klt_tri x y with h3 | rfl | h3
  · exact h2 (klt_trans h h3)
  · exact h2 h
  · exact h1 h3
theorem klt_of_lt_of_le {x y z : Ky} (h1 : klt x y) (h2 : ¬ klt z y) : klt x z := by
  rcases klt_tri y z with h | rfl | h
  · exact klt_trans h1 h
  · exact h1
  · exact absurd h h2
theorem klt_of_le_of_lt {x y z : Ky} (h1 : ¬ klt y x) (h2 : klt y z) : klt x z := by
  rcases klt_tri x y with h | rfl | h
  · exact klt_trans h h2
  · exact h2
  · exact absurd h h1
theorem keq_of_not {x y : Ky} (h1 : ¬ klt x y) (h2 : ¬ klt y x) : x = y := by
  rcases klt_tri x y with h | h | h
  · exact absurd h h1
  · exact h
  · exact absurd h h2
/-- -1, 0, 1 -/
def kcmp (x y : Ky) : Int := if klt x y then -1 else if klt y x then 1 else 0
theorem kcmp_lt {x y : Ky} : kcmp x y < 0 ↔ klt x y := by
  unfold kcmp
  split
  · rename_i h; simp [h]
  · rename_i h; split <;> simp [h]
theorem kcmp_gt {x y : Ky} : 0 < kcmp x y ↔ klt y x := by
  unfold kcmp
  split
  · rename_i h; simp [klt_asymm h]
  · split
    · rename_i h2; simp [h2]
    · rename_i h2; simp [h2]
theorem kcmp_eq {x y : Ky} : kcmp x y = 0 ↔ x = y := by
  constructor
  · intro h
    exact keq_of_not (fun h2 => by have := kcmp_lt.2 h2; omega) (fun h2 => by have := kcmp_gt.2 h2; omega)
  · rintro rfl
    unfold kcmp
    rw [if_neg (klt_irrefl x), if_neg (klt_irrefl x)]
/-! the four kinds of ends -/
def ka (x : ByteArray) : Ky := if x.size = 0 then ⟨0, 1, []⟩ else ⟨0, 0, x.toList⟩
def kb (x : List UInt8) : Ky := if x.length = 0 then ⟨0, 1, []⟩ else ⟨0, 0, x⟩
def ks (x : ByteArray) : Ky := ⟨0, 0, x.toList⟩
def ki (x : Int) : Ky := ⟨x, 0, []⟩
theorem ka_kb (x : ByteArray) : kb x.data.toList = ka x := by
  unfold ka kb
  have e : x.data.toList.length = x.size := Array.length_toList
  rw [e, ByteArray.toList_eq]
/-! greatest ones -/
def kmax (x y : Ky) : Ky := if klt x y then y else x
theorem kmax_comm (x y : Ky) : kmax x y = kmax y x := by
  unfold kmax
  split
  · rename_i h; rw [if_neg (klt_asymm h)]
  · rename_i h
    split
    · rfl
    · rename_i h2; exact keq_of_not h h2
theorem kmax_assoc (x y z : Ky) : kmax (kmax x y) z = kmax x (kmax y z) := by
  unfold kmax
  by_cases h1 : klt x y <;> by_cases h2 : klt y z
  · simp [h1, h2, klt_trans h1 h2]
  · simp [h1, h2]
  · simp [h1, h2]
  · have h3 : ¬ klt x z := kle_trans h2 h1
    simp [h1, h2, h3]
def omax : Option Ky → Option Ky → Option Ky
  | none, y => y
  | some x, none => some x
  | some x, some y => some (kmax x y)
theorem omax_none (x : Option Ky) : omax x none = x := by cases x <;> rfl
theorem omax_comm (x y : Option Ky) : omax x y = omax y x := by
  cases x <;> cases y <;> simp [omax, kmax_comm]
theorem omax_assoc (x y z : Option Ky) : omax (omax x y) z = omax x (omax y z) := by
  cases x <;> cases y <;> cases z <;> simp [omax, kmax_assoc]
/-- a greatest one and perhaps another one -/
def kmo (x : Ky) : Option Ky → Ky
  | none => x
  | some y => kmax x y
theorem some_kmo (x : Ky) (y : Option Ky) : some (kmo x y) = omax (some x) y := by cases y <;> rfl

/-! ## trees in memory -/
structure En where
  k : Ky
  t : TypeId
  u : Value
def En.v (e : En) : Value := .iface e.t e.u
structure It where
  b : En
  e : En
  vt : TypeId
  vu : Value
def It.v (x : It) : Value := .iface x.vt x.vu
structure NR where
  it : It
  m : En
  l : Nat
  r : Nat
  p : Nat
  c : Int
def ptv (b : Nat) : Value := .pointer (some ⟨b, 0, none⟩)
def NR.cells (x : NR) : List Value := [x.it.b.v, x.it.e.v, x.it.v, x.m.v, ptv x.l, ptv x.r, ptv x.p, .int .i64 x.c]
theorem NR.len (x : NR) : x.cells.length = 8 := rfl
inductive T where
  | leaf
  | node (i : Nat) (l : T) (x : It) (c : Bool) (r : T)
def T.mx : T → Option Ky
  | .leaf => none
  | .node _ l x _ r => some (kmo (kmo x.e.k l.mx) r.mx)
def T.ids : T → List Nat
  | .leaf => []
  | .node i l _ _ r => i :: (l.ids ++ r.ids)
def T.ino : T → List It
  | .leaf => []
  | .node _ l x _ r => l.ino ++ x :: r.ino
def col (c : Bool) : Int := if c then 1 else 0
abbrev St := Nat → NR
def upd (S : St) (i : Nat) (x : NR) : St := fun j => if j = i then x else S j
theorem upd_same (S : St) (i : Nat) (x : NR) : upd S i x i = x := by simp [upd]
theorem upd_other (S : St) {i j : Nat} (x : NR) (h : j ≠ i) : upd S i x j = S j := by simp [upd, h]
/-- a tree at a pointer, below another one -/
def RM (s : Nat) (S : St) : T → Nat → Nat → Prop
  | .leaf, q, _ => q = s
  | .node i l x c r, q, p => q = i ∧ i ≠ s ∧ (S i).it = x ∧ (S i).c = col c ∧ (S i).p = p ∧ (S i).m.k = kmo (kmo x.e.k l.mx) r.mx ∧ RM s S l (S i).l i ∧ RM s S r (S i).r i
/-! one field is written -/
def setL (S : St) (x : Nat) (q : Nat) : St := upd S x { S x with l := q }
theorem setL_same (S : St) (x : Nat) (q : Nat) : (setL S x q x).l = q := by unfold setL; rw [upd_same]
theorem setL_oth (S : St) {x y : Nat} (q : Nat) (h : y ≠ x) : setL S x q y = S y := by unfold setL; rw [upd_other _ _ h]
theorem setL_r (S : St) (x : Nat) (q : Nat) (y : Nat) : (setL S x q y).r = (S y).r := by
  unfold setL upd; split
  · rename_i e; rw [e]
  · rfl
theorem setL_p (S : St) (x : Nat) (q : Nat) (y : Nat) : (setL S x q y).p = (S y).p := by
  unfold setL upd; split
  · rename_i e; rw [e]
  · rfl
theorem setL_m (S : St) (x : Nat) (q : Nat) (y : Nat) : (setL S x q y).m = (S y).m := by
  unfold setL upd; split
  · rename_i e; rw [e]
  · rfl
theorem setL_c (S : St) (x : Nat) (q : Nat) (y : Nat) : (setL S x q y).c = (S y).c := by
  unfold setL upd; split
  · rename_i e; rw [e]
  · rfl
theorem setL_it (S : St) (x : Nat) (q : Nat) (y : Nat) : (setL S x q y).it = (S y).it := by
  unfold setL upd; split
  · rename_i e; rw [e]
  · rfl
def setR (S : St) (x : Nat) (q : Nat) : St := upd S x { S x with r := q }
theorem setR_same (S : St) (x : Nat) (q : Nat) : (setR S x q x).r = q := by unfold setR; rw [upd_same]
theorem setR_oth (S : St) {x y : Nat} (q : Nat) (h : y ≠ x) : setR S x q y = S y := by unfold setR; rw [upd_other _ _ h]
theorem setR_l (S : St) (x : Nat) (q : Nat) (y : Nat) : (setR S x q y).l = (S y).l := by
  unfold setR upd; split
  · rename_i e; rw [e]
  · rfl
theorem setR_p (S : St) (x : Nat) (q : Nat) (y : Nat) : (setR S x q y).p = (S y).p := by
  unfold setR upd; split
  · rename_i e; rw [e]
  · rfl
theorem setR_m (S : St) (x : Nat) (q : Nat) (y : Nat) : (setR S x q y).m = (S y).m := by
  unfold setR upd; split
  · rename_i e; rw [e]
  · rfl
theorem setR_c (S : St) (x : Nat) (q : Nat) (y : Nat) : (setR S x q y).c = (S y).c := by
  unfold setR upd; split
  · rename_i e; rw [e]
  · rfl
theorem setR_it (S : St) (x : Nat) (q : Nat) (y : Nat) : (setR S x q y).it = (S y).it := by
  unfold setR upd; split
  · rename_i e; rw [e]
  · rfl
def setP (S : St) (x : Nat) (q : Nat) : St := upd S x { S x with p := q }
theorem setP_same (S : St) (x : Nat) (q : Nat) : (setP S x q x).p = q := by unfold setP; rw [upd_same]
theorem setP_oth (S : St) {x y : Nat} (q : Nat) (h : y ≠ x) : setP S x q y = S y := by unfold setP; rw [upd_other _ _ h]
theorem setP_l (S : St) (x : Nat) (q : Nat) (y : Nat) : (setP S x q y).l = (S y).l := by
  unfold setP upd; split
  · rename_i e; rw [e]
  · rfl
theorem setP_r (S : St) (x : Nat) (q : Nat) (y : Nat) : (setP S x q y).r = (S y).r := by
  unfold setP upd; split
  · rename_i e; rw [e]
  · rfl
theorem setP_m (S : St) (x : Nat) (q : Nat) (y : Nat) : (setP S x q y).m = (S y).m := by
  unfold setP upd; split
  · rename_i e; rw [e]
  · rfl
theorem setP_c (S : St) (x : Nat) (q : Nat) (y : Nat) : (setP S x q y).c = (S y).c := by
  unfold setP upd; split
  · rename_i e; rw [e]
  · rfl
theorem setP_it (S : St) (x : Nat) (q : Nat) (y : Nat) : (setP S x q y).it = (S y).it := by
  unfold setP upd; split
  · rename_i e; rw [e]
  · rfl
def setM (S : St) (x : Nat) (q : En) : St := upd S x { S x with m := q }
theorem setM_same (S : St) (x : Nat) (q : En) : (setM S x q x).m = q := by unfold setM; rw [upd_same]
theorem setM_oth (S : St) {x y : Nat} (q : En) (h : y ≠ x) : setM S x q y = S y := by unfold setM; rw [upd_other _ _ h]
theorem setM_l (S : St) (x : Nat) (q : En) (y : Nat) : (setM S x q y).l = (S y).l := by
  unfold setM upd; split
  · rename_i e; rw [e]
  · rfl
theorem setM_r (S : St) (x : Nat) (q : En) (y : Nat) : (setM S x q y).r = (S y).r := by
  unfold setM upd; split
  · rename_i e; rw [e]
  · rfl
theorem setM_p (S : St) (x : Nat) (q : En) (y : Nat) : (setM S x q y).p = (S y).p := by
  unfold setM upd; split
  · rename_i e; rw [e]
  · rfl
theorem setM_c (S : St) (x : Nat) (q : En) (y : Nat) : (setM S x q y).c = (S y).c := by
  unfold setM upd; split
  · rename_i e; rw [e]
  · rfl
theorem setM_it (S : St) (x : Nat) (q : En) (y : Nat) : (setM S x q y).it = (S y).it := by
  unfold setM upd; split
  · rename_i e; rw [e]
  · rfl
def setC (S : St) (x : Nat) (q : Int) : St := upd S x { S x with c := q }
theorem setC_same (S : St) (x : Nat) (q : Int) : (setC S x q x).c = q := by unfold setC; rw [upd_same]
theorem setC_oth (S : St) {x y : Nat} (q : Int) (h : y ≠ x) : setC S x q y = S y := by unfold setC; rw [upd_other _ _ h]
theorem setC_l (S : St) (x : Nat) (q : Int) (y : Nat) : (setC S x q y).l = (S y).l := by
  unfold setC upd; split
  · rename_i e; rw [e]
  · rfl
theorem setC_r (S : St) (x : Nat) (q : Int) (y : Nat) : (setC S x q y).r = (S y).r := by
  unfold setC upd; split
  · rename_i e; rw [e]
  · rfl
theorem setC_p (S : St) (x : Nat) (q : Int) (y : Nat) : (setC S x q y).p = (S y).p := by
  unfold setC upd; split
  · rename_i e; rw [e]
  · rfl
theorem setC_m (S : St) (x : Nat) (q : Int) (y : Nat) : (setC S x q y).m = (S y).m := by
  unfold setC upd; split
  · rename_i e; rw [e]
  · rfl
theorem setC_it (S : St) (x : Nat) (q : Int) (y : Nat) : (setC S x q y).it = (S y).it := by
  unfold setC upd; split
  · rename_i e; rw [e]
  · rfl
/-! which blocks there are -/
def Is (s : Nat) (D : List Nat) (i : Nat) : Prop := i = s ∨ i ∈ D
theorem Is.mem {s i : Nat} {D : List Nat} (h : Is s D i) (hn : i ≠ s) : i ∈ D := h.resolve_left hn
structure Ok (s : Nat) (EL : List En) (D : List Nat) (S : St) : Prop where
  l : ∀ {i}, i ∈ D → Is s D (S i).l
  r : ∀ {i}, i ∈ D → Is s D (S i).r
  p : ∀ {i}, i ∈ D → Is s D (S i).p
  b : ∀ {i}, i ∈ D → (S i).it.b ∈ EL
  e : ∀ {i}, i ∈ D → (S i).it.e ∈ EL
  m : ∀ {i}, i ∈ D → (S i).m ∈ EL
theorem upd_all {S : St} {x : Nat} {y : NR} {D : List Nat} {φ : NR → Prop} (h : ∀ i, i ∈ D → φ (S i)) (hy : x ∈ D → φ y) : ∀ i, i ∈ D → φ (upd S x y i) := fun i hi => by
  unfold upd
  split
  · rename_i e; exact hy (e ▸ hi)
  · exact h i hi
theorem Ok.upd {s : Nat} {EL : List En} {D : List Nat} {S : St} {x : Nat} {y : NR} (h : Ok s EL D S) (hx : x ∈ D → Is s D y.l ∧ Is s D y.r ∧ Is s D y.p ∧ y.it.b ∈ EL ∧ y.it.e ∈ EL ∧ y.m ∈ EL) : Ok s EL D (upd S x y) where
  l := fun {i} hi => upd_all (φ := fun z => Is s D z.l) (fun _ h' => h.l h') (fun h' => (hx h').1) i hi
  r := fun {i} hi => upd_all (φ := fun z => Is s D z.r) (fun _ h' => h.r h') (fun h' => (hx h').2.1) i hi
  p := fun {i} hi => upd_all (φ := fun z => Is s D z.p) (fun _ h' => h.p h') (fun h' => (hx h').2.2.1) i hi
  b := fun {i} hi => upd_all (φ := fun z => z.it.b ∈ EL) (fun _ h' => h.b h') (fun h' => (hx h').2.2.2.1) i hi
  e := fun {i} hi => upd_all (φ := fun z => z.it.e ∈ EL) (fun _ h' => h.e h') (fun h' => (hx h').2.2.2.2.1) i hi
  m := fun {i} hi => upd_all (φ := fun z => z.m ∈ EL) (fun _ h' => h.m h') (fun h' => (hx h').2.2.2.2.2) i hi
theorem Ok.setL {s : Nat} {EL : List En} {D : List Nat} {S : St} {x q : Nat} (h : Ok s EL D S) (hq : Is s D q) : Ok s EL D (TrP.setL S x q) := h.upd fun hx => ⟨hq, h.r hx, h.p hx, h.b hx, h.e hx, h.m hx⟩
theorem Ok.setR {s : Nat} {EL : List En} {D : List Nat} {S : St} {x q : Nat} (h : Ok s EL D S) (hq : Is s D q) : Ok s EL D (TrP.setR S x q) := h.upd fun hx => ⟨h.l hx, hq, h.p hx, h.b hx, h.e hx, h.m hx⟩
theorem Ok.setP {s : Nat} {EL : List En} {D : List Nat} {S : St} {x q : Nat} (h : Ok s EL D S) (hq : Is s D q) : Ok s EL D (TrP.setP S x q) := h.upd fun hx => ⟨h.l hx, h.r hx, hq, h.b hx, h.e hx, h.m hx⟩
theorem Ok.setM {s : Nat} {EL : List En} {D : List Nat} {S : St} {x : Nat} {q : En} (h : Ok s EL D S) (hq : q ∈ EL) : Ok s EL D (TrP.setM S x q) := h.upd fun hx => ⟨h.l hx, h.r hx, h.p hx, h.b hx, h.e hx, hq⟩
theorem Ok.setC {s : Nat} {EL : List En} {D : List Nat} {S : St} {x : Nat} {q : Int} (h : Ok s EL D S) : Ok s EL D (TrP.setC S x q) := h.upd fun hx => ⟨h.l hx, h.r hx, h.p hx, h.b hx, h.e hx, h.m hx⟩
/-- a node above a hole -/
structure Fr where
  left : Bool
  i : Nat
  x : It
  c : Bool
  sib : T
abbrev Ctx := List Fr
def par (s : Nat) : Ctx → Nat
  | [] => s
  | f :: _ => f.i
def Fr.mx (f : Fr) (km : Option Ky) : Ky := if f.left then kmo (kmo f.x.e.k km) f.sib.mx else kmo (kmo f.x.e.k f.sib.mx) km
def Fr.plug (f : Fr) (t : T) : T := if f.left then .node f.i t f.x f.c f.sib else .node f.i f.sib f.x f.c t
def zip : Ctx → T → T
  | [], t => t
  | f :: fs, t => zip fs (f.plug t)
def Side (s : Nat) (S : St) (f : Fr) (h : Nat) : Prop := if f.left then (S f.i).l = h ∧ RM s S f.sib (S f.i).r f.i else (S f.i).r = h ∧ RM s S f.sib (S f.i).l f.i
def RC (s root : Nat) (S : St) : Ctx → Nat → Option Ky → Prop
  | [], h, _ => h = root
  | f :: fs, h, km => f.i ≠ s ∧ (S f.i).it = f.x ∧ (S f.i).c = col f.c ∧ (S f.i).p = par s fs ∧ (S f.i).m.k = f.mx km ∧ Side s S f h ∧ RC s root S fs f.i (some (f.mx km))
def cids : Ctx → List Nat
  | [] => []
  | f :: fs => f.i :: (f.sib.ids ++ cids fs)
def spine : Ctx → List Nat
  | [] => []
  | f :: fs => f.i :: spine fs
theorem spine_sub {fs : Ctx} {i : Nat} (h : i ∈ spine fs) : i ∈ cids fs := by
  induction fs with
  | nil => cases h
  | cons f fs ih =>
    rcases List.mem_cons.1 h with rfl | h
    · exact List.mem_cons_self
    · exact List.mem_cons_of_mem _ (List.mem_append_right _ (ih h))
theorem RM_congr {s : Nat} {S S' : St} : ∀ {t : T} {q p : Nat}, (∀ i ∈ t.ids, S' i = S i) → RM s S t q p → RM s S' t q p
  | .leaf, _, _, _, h => h
  | .node i l x c r, q, p, hS, h => by
    obtain ⟨h1, h2, h3, h4, h5, h6, h7, h8⟩ := h
    have e := hS i List.mem_cons_self
    refine ⟨h1, h2, by rw [e]; exact h3, by rw [e]; exact h4, by rw [e]; exact h5, by rw [e]; exact h6, ?_, ?_⟩
    · rw [e]; exact RM_congr (fun j hj => hS j (List.mem_cons_of_mem _ (List.mem_append_left _ hj))) h7
    · rw [e]; exact RM_congr (fun j hj => hS j (List.mem_cons_of_mem _ (List.mem_append_right _ hj))) h8
theorem RC_congr {s root : Nat} {S S' : St} : ∀ {fs : Ctx} {h : Nat} {km : Option Ky}, (∀ i ∈ cids fs, S' i = S i) → RC s root S fs h km → RC s root S' fs h km
  | [], _, _, _, hr => hr
  | f :: fs, h, km, hS, hr => by
    obtain ⟨h1, h2, h3, h4, h5, h6, h7⟩ := hr
    have e := hS f.i List.mem_cons_self
    refine ⟨h1, by rw [e]; exact h2, by rw [e]; exact h3, by rw [e]; exact h4, by rw [e]; exact h5, ?_, RC_congr (fun j hj => hS j (List.mem_cons_of_mem _ (List.mem_append_right _ hj))) h7⟩
    have hs : ∀ j ∈ f.sib.ids, S' j = S j := fun j hj => hS j (List.mem_cons_of_mem _ (List.mem_append_left _ hj))
    unfold Side at *
    rw [e]
    split at h6
    · rename_i hl; rw [if_pos hl]; exact ⟨h6.1, RM_congr hs h6.2⟩
    · rename_i hl; rw [if_neg hl]; exact ⟨h6.1, RM_congr hs h6.2⟩
/-- a child's greatest end -/
def chm (s : Nat) (S : St) (q : Nat) : Option En := if q = s then none else some (S q).m
def okey (o : Option En) : Option Ky := o.map (·.k)
theorem RM_mx {s : Nat} {S : St} {t : T} {q p : Nat} (h : RM s S t q p) : okey (chm s S q) = t.mx := by
  cases t with
  | leaf =>
    have : q = s := h
    subst this
    simp [chm, okey, T.mx]
  | node i l x c r =>
    obtain ⟨rfl, h2, h3, h4, h5, h6, -⟩ := h
    unfold chm okey
    rw [if_neg h2]
    simp only [Option.map_some, T.mx, h6]
theorem RM_ne {s : Nat} {S : St} {t : T} {q p : Nat} (h : RM s S t q p) (hq : q ≠ s) : q ∈ t.ids := by
  cases t with
  | leaf => exact absurd h hq
  | node i l x c r => rw [h.1]; exact List.mem_cons_self
def pickm (a : En) : Option En → En
  | none => a
  | some b => if klt a.k b.k then b else a
theorem pickm_k (a : En) (o : Option En) : (pickm a o).k = kmo a.k (okey o) := by
  cases o with
  | none => rfl
  | some b =>
    simp only [pickm, okey, Option.map_some, kmo, kmax]
    split <;> rfl
def newm (s : Nat) (S : St) (x : Nat) : En := pickm (pickm (S x).it.e (chm s S (S x).l)) (chm s S (S x).r)
theorem newm_k (s : Nat) (S : St) (x : Nat) : (newm s S x).k = kmo (kmo (S x).it.e.k (okey (chm s S (S x).l))) (okey (chm s S (S x).r)) := by
  unfold newm
  rw [pickm_k, pickm_k]
/-- the greatest ends are made anew, upwards -/
def um (s : Nat) : Nat → St → Nat → St
  | 0, S, _ => S
  | n + 1, S, x => if x = s then S else if (S x).m.k = (newm s S x).k then S else um s n (upd S x { S x with m := newm s S x }) (S x).p
theorem um_s (s n : Nat) (S : St) : um s n S s = S := by
  cases n with
  | zero => rfl
  | succ n => unfold um; rw [if_pos rfl]
theorem um_eq {s n x : Nat} {S : St} {e : En} (hx : x ≠ s) (hn : newm s S x = e) (hk : kcmp (S x).m.k e.k = 0) : um s (n + 1) S x = S := by
  unfold um
  rw [if_neg hx, hn, if_pos (kcmp_eq.1 hk)]
theorem um_ne {s n x : Nat} {S : St} {e : En} (hx : x ≠ s) (hn : newm s S x = e) (hk : ¬ kcmp (S x).m.k e.k = 0) : um s (n + 1) S x = um s n (upd S x { S x with m := e }) (S x).p := by
  conv => lhs; unfold um
  rw [if_neg hx, hn, if_neg (fun h => hk (kcmp_eq.2 h))]
theorem pick_s {s q : Nat} {S : St} {a : En} (h : q = s) : pickm a (chm s S q) = a := by unfold chm; rw [if_pos h]; rfl
theorem pick_gt {s q : Nat} {S : St} {a : En} (h : q ≠ s) (h2 : 0 < kcmp (S q).m.k a.k) : pickm a (chm s S q) = (S q).m := by
  unfold chm pickm
  rw [if_neg h]
  exact if_pos (kcmp_gt.1 h2)
theorem pick_le {s q : Nat} {S : St} {a : En} (h : q ≠ s) (h2 : ¬ 0 < kcmp (S q).m.k a.k) : pickm a (chm s S q) = a := by
  unfold chm pickm
  rw [if_neg h]
  exact if_neg (fun h3 => h2 (kcmp_gt.2 h3))
/-- the way up ends -/
def Dep (s : Nat) (S : St) : Nat → Nat → Prop
  | 0, x => x = s
  | n + 1, x => x = s ∨ Dep s S n (S x).p
theorem Dep.succ {s x n : Nat} {S : St} (h : Dep s S n x) (hx : x ≠ s) : ∃ m, n = m + 1 ∧ Dep s S m (S x).p := by
  cases n with
  | zero => exact absurd h hx
  | succ n => exact ⟨n, rfl, h.resolve_left hx⟩
theorem Dep.congr {s : Nat} {S S' : St} (hp : ∀ i, (S' i).p = (S i).p) : ∀ {n x : Nat}, Dep s S n x → Dep s S' n x
  | 0, _, h => h
  | n + 1, x, h => h.imp id fun h => by rw [hp]; exact Dep.congr hp h
theorem Dep.up {s : Nat} {S : St} : ∀ {n m x : Nat}, n ≤ m → Dep s S n x → Dep s S m x
  | 0, 0, _, _, h => h
  | 0, m + 1, _, _, h => .inl h
  | n + 1, m + 1, x, hm, h => h.imp id (Dep.up (by omega))
def OnlyM (S S' : St) : Prop := ∀ i, { S' i with m := (S i).m } = S i
theorem OnlyM.it {S S' : St} (h : OnlyM S S') (i : Nat) : (S' i).it = (S i).it := by have := congrArg NR.it (h i); exact this
theorem OnlyM.l {S S' : St} (h : OnlyM S S') (i : Nat) : (S' i).l = (S i).l := by have := congrArg NR.l (h i); exact this
theorem OnlyM.r {S S' : St} (h : OnlyM S S') (i : Nat) : (S' i).r = (S i).r := by have := congrArg NR.r (h i); exact this
theorem OnlyM.p {S S' : St} (h : OnlyM S S') (i : Nat) : (S' i).p = (S i).p := by have := congrArg NR.p (h i); exact this
theorem OnlyM.c {S S' : St} (h : OnlyM S S') (i : Nat) : (S' i).c = (S i).c := by have := congrArg NR.c (h i); exact this
theorem OnlyM.refl (S : St) : OnlyM S S := fun i => by cases h : S i; rfl
theorem OnlyM.trans {S S' S'' : St} (h1 : OnlyM S S') (h2 : OnlyM S' S'') : OnlyM S S'' := fun i => by
  have a := h1 i
  have b := h2 i
  cases h : S'' i
  cases h' : S' i
  cases h0 : S i
  simp_all
theorem OnlyM.upd (S : St) (x : Nat) (m : En) : OnlyM S (upd S x { S x with m := m }) := fun i => by
  unfold TrP.upd
  split
  · rename_i e; subst e; cases h : S i; rfl
  · cases h : S i; rfl
theorem um_only (s : Nat) : ∀ (n : Nat) (S : St) (x : Nat), OnlyM S (um s n S x)
  | 0, S, x => OnlyM.refl S
  | n + 1, S, x => by
    unfold um
    split
    · exact OnlyM.refl S
    · split
      · exact OnlyM.refl S
      · exact OnlyM.trans (OnlyM.upd S x _) (um_only s n _ _)
theorem newm_mem {s x : Nat} {EL : List En} {D : List Nat} {S : St} (h : Ok s EL D S) (hx : x ∈ D) : newm s S x ∈ EL := by
  have hc : ∀ q, Is s D q → ∀ a ∈ EL, pickm a (chm s S q) ∈ EL := fun q hq a ha => by
    unfold chm
    split
    · exact ha
    · rename_i hn
      show (if _ then (S q).m else a) ∈ EL
      split
      · exact h.m (hq.mem hn)
      · exact ha
  exact hc _ (h.r hx) _ (hc _ (h.l hx) _ (h.e hx))
theorem um_ok {s : Nat} {EL : List En} {D : List Nat} : ∀ (n : Nat) (S : St) (x : Nat), Ok s EL D S → Is s D x → Ok s EL D (um s n S x)
  | 0, S, x, h, _ => h
  | n + 1, S, x, h, hx => by
    unfold um
    split
    · exact h
    · rename_i hn
      split
      · exact h
      · exact um_ok n _ _ (h.setM (newm_mem h (hx.mem hn))) (h.p (hx.mem hn))
theorem um_spec (s root : Nat) : ∀ (fs : Ctx) (n : Nat) (S : St) (x : Nat), fs.length < n → x ≠ s → x ∉ cids fs → (cids fs).Nodup → RC s root S fs x (some (S x).m.k) → (S x).p = par s fs →
    (um s n S x x).m.k = (newm s S x).k ∧ RC s root (um s n S x) fs x (some (newm s S x).k) ∧ (∀ i, i ≠ x → i ∉ spine fs → um s n S x i = S i) ∧ OnlyM S (um s n S x)
  | fs, 0, S, x, hn, _, _, _, _, _ => by omega
  | fs, n + 1, S, x, hn, hx, hxc, hnd, hrc, hp => by
    unfold um
    rw [if_neg hx]
    by_cases hk : (S x).m.k = (newm s S x).k
    · rw [if_pos hk]
      exact ⟨hk, hk ▸ hrc, fun _ _ _ => rfl, OnlyM.refl S⟩
    · rw [if_neg hk]
      cases fs with
      | nil =>
        have hps : (S x).p = s := hp
        rw [hps]
        have e : um s n (upd S x { S x with m := newm s S x }) s = upd S x { S x with m := newm s S x } := by
          cases n with
          | zero => rfl
          | succ n => unfold um; rw [if_pos rfl]
        rw [e]
        refine ⟨by rw [upd_same], hrc, fun i hi _ => upd_other _ _ hi, OnlyM.upd S x _⟩
      | cons f fs =>
        have hpf : (S x).p = f.i := hp
        rw [hpf]
        obtain ⟨h1, h2, h3, h4, h5, h6, h7⟩ := hrc
        have hxf : x ≠ f.i := fun e => hxc (e ▸ List.mem_cons_self)
        have hxs : x ∉ f.sib.ids := fun h => hxc (List.mem_cons_of_mem _ (List.mem_append_left _ h))
        have hxfs : x ∉ cids fs := fun h => hxc (List.mem_cons_of_mem _ (List.mem_append_right _ h))
        simp only [cids, List.nodup_cons, List.mem_append, not_or] at hnd
        obtain ⟨⟨hfs, hff⟩, hnd2⟩ := hnd
        have hndf : (cids fs).Nodup := (List.nodup_append.1 hnd2).2.1
        have hdis : ∀ a ∈ f.sib.ids, ∀ b ∈ cids fs, a ≠ b := (List.nodup_append.1 hnd2).2.2
        let S1 := upd S x { S x with m := newm s S x }
        have eS1 : upd S x { S x with m := newm s S x } = S1 := rfl
        have hS1 : ∀ i, i ≠ x → S1 i = S i := fun i hi => upd_other _ _ hi
        have hS1x : (S1 x).m.k = (newm s S x).k := by show (upd S x _ x).m.k = _; rw [upd_same]
        rw [eS1]
        have hf1 : S1 f.i = S f.i := hS1 _ (Ne.symm hxf)
        have hsib : ∀ j ∈ f.sib.ids, S1 j = S j := fun j hj => hS1 j (fun e => hxs (e ▸ hj))
        have hrc1 : RC s root S1 fs f.i (some (S1 f.i).m.k) := by
          rw [hf1, h5]
          exact RC_congr (fun j hj => hS1 j (fun e => hxfs (e ▸ hj))) h7
        have ih := um_spec s root fs n S1 f.i (by simp at hn; omega) h1 hff hndf hrc1 (by rw [hf1]; exact h4)
        obtain ⟨i1, i2, i3, i4⟩ := ih
        -- what the node above gets
        have hkey : (newm s S1 f.i).k = f.mx (some (newm s S x).k) := by
          rw [newm_k, hf1, h2]
          unfold Side at h6
          unfold Fr.mx
          split at h6
          · rename_i hl
            rw [if_pos hl, h6.1]
            have a1 : okey (chm s S1 x) = some (newm s S x).k := by unfold chm okey; rw [if_neg hx]; simp [hS1x]
            have a2 := RM_mx (RM_congr hsib h6.2)
            rw [a1, a2]
          · rename_i hl
            rw [if_neg hl, h6.1]
            have a1 : okey (chm s S1 x) = some (newm s S x).k := by unfold chm okey; rw [if_neg hx]; simp [hS1x]
            have a2 := RM_mx (RM_congr hsib h6.2)
            rw [a1, a2]
        have hxsp : x ∉ spine fs := fun h => hxfs (spine_sub h)
        have hux : um s n S1 f.i x = S1 x := i3 x hxf hxsp
        have hO := OnlyM.trans (OnlyM.upd S x (newm s S x)) i4
        refine ⟨by rw [hux]; exact hS1x, ⟨h1, ?_, ?_, ?_, ?_, ?_, ?_⟩, ?_, hO⟩
        · rw [hO.it]; exact h2
        · rw [hO.c]; exact h3
        · rw [hO.p]; exact h4
        · rw [i1, hkey]
        · have hss : ∀ j ∈ f.sib.ids, um s n S1 f.i j = S j := fun j hj => by
            rw [i3 j (fun e => hfs (e ▸ hj)) (fun h => hdis j hj j (spine_sub h) rfl)]
            exact hsib j hj
          unfold Side at *
          rw [hO.l, hO.r]
          split at h6
          · rename_i hl; rw [if_pos hl]; exact ⟨h6.1, RM_congr hss h6.2⟩
          · rename_i hl; rw [if_neg hl]; exact ⟨h6.1, RM_congr hss h6.2⟩
        · rw [← hkey]; exact i2
        · intro i hix hisp
          have hif : i ≠ f.i := fun e => hisp (e ▸ List.mem_cons_self)
          have his : i ∉ spine fs := fun h => hisp (List.mem_cons_of_mem _ h)
          rw [i3 i hif his]
          exact hS1 i hix
end Go.Proofs.Ytbomnihiapjmpaa.TrP

namespace Go.Proofs.Ytbomnihiapjmpaa.Sl
open Go.RowKit Go.MapKept Go.Lib
set_option linter.unusedSectionVars false
set_option linter.unusedVariables false
set_option linter.unusedSimpArgs false

/-! ## maps whose keys are numbers, texts or truths -/
def mapT (P : Program) (t : TypeId) : Option (TypeId × TypeId × TypeDesc) := match P.underlying t with | some (.map k e) => (P.underlying k).map fun d => (k, e, d) | _ => none
theorem mapT_of {P : Program} {t k e : TypeId} {d : TypeDesc} (h : mapT P t = some (k, e, d)) : P.underlying t = some (.map k e) ∧ P.underlying k = some d := by
  unfold mapT at h
  cases hu : P.underlying t with
  | none => rw [hu] at h; cases h
  | some q =>
    rw [hu] at h
    cases q <;> first | (cases h; done) | skip
    rename_i k' e'
    cases hk : P.underlying k' with
    | none => simp [hk] at h
    | some d' =>
      simp only [hk, Option.map_some, Option.some.injEq, Prod.mk.injEq] at h
      obtain ⟨rfl, rfl, rfl⟩ := h
      exact ⟨rfl, hk⟩
def MapIs (d : TypeDesc) (es : Array MapEntry) (clock : Nat) (kvs : List (Value × Value)) : Prop :=
  es.toList.map (fun e => (e.key, e.val)) = kvs ∧ Stamped es clock ∧ ∀ x ∈ es.toList, IsKey d x.key
def Mapk (b : Nat) (d : TypeDesc) (kvs : List (Value × Value)) : HProp := Ex fun p : Array MapEntry × Nat => Sep [Pure (MapIs d p.1 p.2 kvs), Mpk b p.1 p.2]
theorem Sat.mapk {W w : World} {b : Nat} {d : TypeDesc} {kvs : List (Value × Value)} {L : List HProp} (h : Sat W (Mapk b d kvs :: L) w) : ∃ es clock, MapIs d es clock kvs ∧ Sat W (Obk b (.map es clock) :: L) w := by
  obtain ⟨p, h⟩ := h.ex
  have h2 := h.sep
  exact ⟨p.1, p.2, h2.pure, h2.drop⟩
theorem Sat.mapkMk {W w : World} {b : Nat} {d : TypeDesc} {es : Array MapEntry} {clock : Nat} {kvs : List (Value × Value)} {L : List HProp} (hm : MapIs d es clock kvs) (h : Sat W (Obk b (.map es clock) :: L) w) : Sat W (Mapk b d kvs :: L) w :=
  Sat.ex_mk (es, clock) (Sat.sep_mk (Sat.pure_mk hm h))
theorem Holds.mapk {w : World} {b : Nat} {d : TypeDesc} {kvs : List (Value × Value)} (h : Holds (Mapk b d kvs) w) : ∃ es clock, MapIs d es clock kvs ∧ w.heap[b]? = some (.map es clock) := by
  obtain ⟨r, s, hb, p, hq⟩ := h
  obtain ⟨s1, s2, h1, h2, h3, h4, s3, s4, h5, h6, h7, h8, h9⟩ := hq
  exact ⟨p.1, p.2, h4, h8.2⟩
/-- a map's keys differ -/
theorem MapIs.nodup {d : TypeDesc} {es : Array MapEntry} {clock : Nat} {kvs : List (Value × Value)} (h : MapIs d es clock kvs) : (kvs.map (·.1)).Nodup := by
  obtain ⟨rfl, h2, -⟩ := h
  have := h2.2.2
  rw [List.map_map]
  exact this
theorem MapIs.find {d : TypeDesc} {es : Array MapEntry} {clock : Nat} {kvs : List (Value × Value)} (h : MapIs d es clock kvs) {k : Value} (hk : IsKey d k) :
    (Instr.findNow d k es.toList 0 = some none ∧ ∀ p ∈ kvs, p.1 ≠ k) ∨ ∃ j e, Instr.findNow d k es.toList 0 = some (some (j, e.val)) ∧ es[j]? = some e ∧ e.key = k ∧ kvs[j]? = some (k, e.val) := by
  obtain ⟨rfl, h2, h3⟩ := h
  rcases findNow_spec hk es.toList 0 h3 with ⟨h4, h5⟩ | ⟨j, e, h4, h5, h6⟩
  · refine .inl ⟨h4, fun p hp => ?_⟩
    obtain ⟨x, hx, rfl⟩ := List.mem_map.1 hp
    exact h5 x hx
  · refine .inr ⟨j, e, by simpa using h4, by simpa using h5, h6, ?_⟩
    rw [List.getElem?_map, h5]
    simp [h6]
theorem nodup_at {α β : Type} {l : List (α × β)} (h : (l.map (·.1)).Nodup) {i j : Nat} {k : α} {u v : β} (hi : l[i]? = some (k, u)) (hj : l[j]? = some (k, v)) : i = j := by
  have h1 : (l.map (·.1))[i]? = some k := by rw [List.getElem?_map, hi]; rfl
  have h2 : (l.map (·.1))[j]? = some k := by rw [List.getElem?_map, hj]; rfl
  obtain ⟨a1, a2⟩ := List.getElem?_eq_some_iff.1 h1
  obtain ⟨b1, b2⟩ := List.getElem?_eq_some_iff.1 h2
  exact (List.getElem_inj h).1 (a2.trans b2.symm)
theorem map_erase {α β : Type} (f : α → β) (l : List α) (j : Nat) : (l.eraseIdx j).map f = (l.map f).eraseIdx j := by
  apply List.ext_getElem?
  intro i
  rw [List.getElem?_map, List.getElem?_eraseIdx, List.getElem?_eraseIdx]
  split <;> rw [List.getElem?_map]
section
variable [Dfs]
variable {P : Program} {W : World} {ops : Array Oper} {Q : Exit → Act → World → Prop} {n : Nat} {l : List (Nat × Value)} {L : List HProp} {o : Oper} {G : World → Prop}
theorem run_look {w : World} {t kt et : TypeId} {d : TypeDesc} {b : Nat} {es : Array MapEntry} {clock : Nat} {k : Value} {a : Option (Nat × Value)} (ht : mapT P t = some (kt, et, d)) (hb : w.heap[b]? = some (.map es clock)) (hk : IsKey d k) (hf : Instr.findNow d k es.toList 0 = some a) {z : Value} (hz : (zeroValue et).run P w = .ok z w) (c : Bool) :
    (Instr.lookup t (.map (some b)) k c).run P w = .ok (match a with | some (_, v) => (if c then .tuple #[v, .bool true] else v) | none => (if c then .tuple #[z, .bool false] else z)) w := by
  obtain ⟨h1, h2⟩ := mapT_of ht
  cases a with
  | none => cases c <;> simp [Instr.lookup, run_underlying h1, MapKept.run_getObj_map hb, run_checkKey h2 hk, run_findKey h2 hf, hz, Result.andThen]
  | some q => cases c <;> simp [Instr.lookup, run_underlying h1, MapKept.run_getObj_map hb, run_checkKey h2 hk, run_findKey h2 hf, Result.andThen]
def zeroV (P : Program) (t : TypeId) : Option Value := (P.info? t).bind (·.zero)
theorem run_zeroV {t : TypeId} {z : Value} (h : zeroV P t = some z) (w : World) : (zeroValue t).run P w = .ok z w := by
  unfold zeroV at h
  cases hi : P.info? t with
  | none => rw [hi] at h; cases h
  | some i =>
    rw [hi] at h
    simp only [Option.bind_some] at h
    simp [zeroValue, typeInfo, hi, h, Result.andThen]
theorem Val.lookHit {t kt et : TypeId} {d : TypeDesc} {x ix : Operand} {b : Nat} {k v z : Value} {kvs : List (Value × Value)} {c : Bool} (ho : o.op = .lookup t x ix c) (ht : mapT P t = some (kt, et, d)) (hz : zeroV P et = some z) (hx : ev l x = some (.map (some b))) (hi : ev l ix = some k)
    (hk : IsKey d k) (hc : ∀ w, G w → Holds (Mapk b d kvs) w) (hm : (k, v) ∈ kvs) : Val P n l G o (if c then .tuple #[v, .bool true] else v) := fun a w hf hs => by
  obtain ⟨es, clock, h, hb⟩ := (hc w hs).mapk
  rcases h.find hk with ⟨h1, h2⟩ | ⟨j, e, h1, h2, h3, h4⟩
  · exact absurd rfl (h2 _ hm)
  · obtain ⟨i, hi'⟩ := List.getElem?_of_mem hm
    have := nodup_at h.nodup hi' h4
    subst this
    rw [h4] at hi'
    have e2 : e.val = v := by simpa using hi'
    simp only [execOp, ho, hf.ev hx, hf.ev hi, Sem.run_bind, run_look ht hb hk h1 (run_zeroV hz w), Result.andThen_ok, e2]
    rfl
theorem Val.lookMiss {t kt et : TypeId} {d : TypeDesc} {x ix : Operand} {b : Nat} {k z : Value} {kvs : List (Value × Value)} {c : Bool} (ho : o.op = .lookup t x ix c) (ht : mapT P t = some (kt, et, d)) (hz : zeroV P et = some z) (hx : ev l x = some (.map (some b))) (hi : ev l ix = some k)
    (hk : IsKey d k) (hc : ∀ w, G w → Holds (Mapk b d kvs) w) (hm : ∀ p ∈ kvs, p.1 ≠ k) : Val P n l G o (if c then .tuple #[z, .bool false] else z) := fun a w hf hs => by
  obtain ⟨es, clock, h, hb⟩ := (hc w hs).mapk
  rcases h.find hk with ⟨h1, h2⟩ | ⟨j, e, h1, h2, h3, h4⟩
  · simp only [execOp, ho, hf.ev hx, hf.ev hi, Sem.run_bind, run_look ht hb hk h1 (run_zeroV hz w), Result.andThen_ok]
    rfl
  · exact absurd rfl (hm _ (List.mem_of_getElem? h4))
theorem Val.lenMap {t kt et : TypeId} {d d' : TypeDesc} {x : Operand} {b : Nat} {kvs : List (Value × Value)} (ho : o.op = .call { callee := .builtin .len, args := #[x], argTypes := #[t] }) (ht : mapT P t = some (kt, et, d')) (hx : ev l x = some (.map (some b)))
    (hc : ∀ w, G w → Holds (Mapk b d kvs) w) : Val P n l G o (.int .i64 ((kvs.length : Nat) : Int)) := fun a w hf hs => by
  obtain ⟨es, clock, h, hb⟩ := (hc w hs).mapk
  have hz : es.size = kvs.length := by rw [← h.1]; simp
  have hr : ∀ ty, (Builtin.len_ #[t] ty #[.map (some b)]).run P w = .ok (goInt es.size) w := fun ty => by
    simp [Builtin.len_, run_underlying (mapT_of ht).1, MapKept.run_getObj_map hb, Result.andThen]
  rw [← hz]
  simp [execOp, ho, hf.ev hx, resolve, Go.invoke, Go.builtin, Builtin.len_, run_underlying (mapT_of ht).1, MapKept.run_getObj_map hb, Result.andThen, goInt]
def NewM (d : TypeDesc) (L : List HProp) : Value → List HProp → Prop := fun u M => ∃ b, u = .map (some b) ∧ M = Mapk b d [] :: L
theorem Eff.makeMap {t : TypeId} (d : TypeDesc) (ho : o.op = .makeMap t none) : Eff P W Q n l L o (NewM d L) := fun a w hf hs K hK => by
  unfold Oper.wp
  have e : (execOp a.eval o).run P w = .ok (.value (.map (some w.heap.size))) (w.alloc (.map #[] 0)) := by
    simp [execOp, ho, Instr.makeMap, Result.andThen]
  rw [e, Oper.upon_value]
  exact hK _ _ _ ⟨_, rfl, rfl⟩ (Sat.mapkMk (es := #[]) (clock := 0) ⟨rfl, stamped_empty 0, by simp⟩ (hs.alloc _))
theorem Sat.setMap {w : World} {b : Nat} {d : TypeDesc} {es es' : Array MapEntry} {clock clock' : Nat} {kvs' : List (Value × Value)} (h : Sat W (Obk b (.map es clock) :: L) w) (hm : MapIs d es' clock' kvs') :
    Sat W (Mapk b d kvs' :: L) { w with heap := w.heap.setIfInBounds b (.map es' clock') } := by
  have hb := h.head.obk
  have hh := heap_set (o' := .map es' clock') hb
  exact Sat.mapkMk hm (h.write _ rfl rfl rfl (by simp) hh.1 hh.2)
theorem mod_list {es : Array MapEntry} {j : Nat} {f : MapEntry → MapEntry} : (es.modify j f).toList = es.toList.modify j f := by simp
theorem Eff.mapSet {t kt et : TypeId} {d : TypeDesc} {x ix iv : Operand} {b j : Nat} {k v v0 : Value} {kvs : List (Value × Value)} (ho : o.op = .mapUpdate t x ix iv) (ht : mapT P t = some (kt, et, d)) (hx : ev l x = some (.map (some b))) (hi : ev l ix = some k) (hv : ev l iv = some v)
    (hk : IsKey d k) (hm : kvs[j]? = some (k, v0)) : Eff P W Q n l (Mapk b d kvs :: L) o (Sets (Mapk b d (kvs.set j (k, v)) :: L)) := fun a w hf hs K hK => by
  obtain ⟨es, clock, h, hs2⟩ := hs.mapk
  have hb := hs2.head.obk
  obtain ⟨h1, h2⟩ := mapT_of ht
  rcases h.find hk with ⟨f1, f2⟩ | ⟨i, e, f1, f2, f3, f4⟩
  · exact absurd rfl (f2 _ (List.mem_of_getElem? hm))
  · have := nodup_at h.nodup hm f4
    subst this
    have hr : (Instr.mapUpdate t (.map (some b)) k v).run P w = .ok () { w with heap := w.heap.setIfInBounds b (.map (es.modify j fun e => { e with key := k, val := v }) clock) } := by
      simp [Instr.mapUpdate, run_underlying h1, MapKept.run_getObj_map hb, run_checkKey h2 hk, run_findKey h2 f1, f2, f3, run_keyThatStays hk, MapKept.run_setObj_map _ hb, Result.andThen]
    unfold Oper.wp
    simp only [execOp, ho, hf.ev hx, hf.ev hi, hf.ev hv, Sem.run_bind, hr]
    refine hK undef _ _ rfl (hs2.setMap ⟨?_, ?_, ?_⟩)
    · rw [mod_list, ← h.1]
      apply List.ext_getElem?
      intro i
      rw [List.getElem?_map, List.getElem?_modify, List.getElem?_set]
      by_cases hij : j = i
      · subst hij
        have f2' : es.toList[j]? = some e := by simpa using f2
        simp [f2', (List.getElem?_eq_some_iff.1 f2').1, (Array.getElem?_eq_some_iff.1 f2).1]
      · simp [hij]
    · exact stamped_modify h.2.1 _ _ (fun _ _ => rfl) (fun e' _ he' => by rw [f2] at he'; cases he'; exact f3.symm)
    · intro y hy
      rw [mod_list] at hy
      obtain ⟨i, hi'⟩ := List.getElem?_of_mem hy
      rw [List.getElem?_modify] at hi'
      by_cases hij : j = i
      · subst hij
        have f2' : es.toList[j]? = some e := by simpa using f2
        simp [f2'] at hi'
        rw [← hi']
        exact hk
      · simp [hij] at hi'
        exact h.2.2 y (List.mem_of_getElem? (by simpa using hi'))
theorem Eff.mapNew {t kt et : TypeId} {d : TypeDesc} {x ix iv : Operand} {b : Nat} {k v : Value} {kvs : List (Value × Value)} (ho : o.op = .mapUpdate t x ix iv) (ht : mapT P t = some (kt, et, d)) (hx : ev l x = some (.map (some b))) (hi : ev l ix = some k) (hv : ev l iv = some v)
    (hk : IsKey d k) (hm : ∀ p ∈ kvs, p.1 ≠ k) : Eff P W Q n l (Mapk b d kvs :: L) o (Sets (Mapk b d (kvs ++ [(k, v)]) :: L)) := fun a w hf hs K hK => by
  obtain ⟨es, clock, h, hs2⟩ := hs.mapk
  have hb := hs2.head.obk
  obtain ⟨h1, h2⟩ := mapT_of ht
  rcases h.find hk with ⟨f1, f2⟩ | ⟨i, e, f1, f2, f3, f4⟩
  · have hr : (Instr.mapUpdate t (.map (some b)) k v).run P w = .ok () { w with heap := w.heap.setIfInBounds b (.map (es.push { key := k, val := v, born := clock }) (clock + 1)) } := by
      simp [Instr.mapUpdate, run_underlying h1, MapKept.run_getObj_map hb, run_checkKey h2 hk, run_findKey h2 f1, MapKept.run_setObj_map _ hb, Result.andThen]
    have hne : ∀ x ∈ es.toList, x.key ≠ k := fun x hx => f2 (x.key, x.val) (by rw [← h.1]; exact List.mem_map.2 ⟨x, hx, rfl⟩)
    unfold Oper.wp
    simp only [execOp, ho, hf.ev hx, hf.ev hi, hf.ev hv, Sem.run_bind, hr]
    refine hK undef _ _ rfl (hs2.setMap ⟨?_, stamped_push h.2.1 hne, ?_⟩)
    · rw [← h.1]; simp
    · intro y hy
      simp only [Array.toList_push, List.mem_append, List.mem_singleton] at hy
      rcases hy with hy | rfl
      · exact h.2.2 y hy
      · exact hk
  · exact absurd rfl (hm _ (List.mem_of_getElem? f4))
theorem Eff.mapDel {t kt et : TypeId} {d : TypeDesc} {x ix : Operand} {b j : Nat} {k v0 : Value} {kvs : List (Value × Value)} (ho : o.op = .call { callee := .builtin .delete, args := #[x, ix], argTypes := #[t, kt] }) (ht : mapT P t = some (kt, et, d)) (hx : ev l x = some (.map (some b))) (hi : ev l ix = some k)
    (hk : IsKey d k) (hm : kvs[j]? = some (k, v0)) : Eff P W Q n l (Mapk b d kvs :: L) o (Sets (Mapk b d (kvs.eraseIdx j) :: L)) := fun a w hf hs K hK => by
  obtain ⟨es, clock, h, hs2⟩ := hs.mapk
  have hb := hs2.head.obk
  obtain ⟨h1, h2⟩ := mapT_of ht
  rcases h.find hk with ⟨f1, f2⟩ | ⟨i, e, f1, f2, f3, f4⟩
  · exact absurd rfl (f2 _ (List.mem_of_getElem? hm))
  · have := nodup_at h.nodup hm f4
    subst this
    have hj : j < es.size := (Array.getElem?_eq_some_iff.1 f2).1
    have hel : (es.eraseIdxIfInBounds j).toList = es.toList.eraseIdx j := by
      simp [Array.eraseIdxIfInBounds, hj]
    have e2 : (execOp a.eval o).run P w = .ok (.value (.tuple #[])) { w with heap := w.heap.setIfInBounds b (.map (es.eraseIdxIfInBounds j) clock) } := by
      simp [execOp, ho, resolve, hf.ev hx, hf.ev hi, Go.invoke, Go.builtin, Builtin.delete_, run_underlying h1, MapKept.run_getObj_map hb, run_checkKey h2 hk, run_findKey h2 f1, MapKept.run_setObj_map _ hb, Result.andThen]
    unfold Oper.wp
    rw [e2, Oper.upon_value]
    refine hK _ _ _ rfl (hs2.setMap ⟨?_, stamped_erase h.2.1 j, ?_⟩)
    · rw [hel, ← h.1]
      exact map_erase _ _ _
    · intro y hy
      rw [hel] at hy
      exact h.2.2 y (List.mem_of_mem_eraseIdx hy)
def isBool (P : Program) (t : TypeId) : Bool := match P.underlying t with | some .bool => true | _ => false
theorem isBool_of {t : TypeId} (h : isBool P t = true) : P.underlying t = some .bool := by
  unfold isBool at h
  split at h
  · assumption
  · cases h
theorem run_eqB {t : TypeId} (ht : P.underlying t = some .bool) (p q : Bool) (w : World) : (Op.equalIn Op.maxDepth t (.bool p) (.bool q)).run P w = .ok (p == q) w := by
  have h : Op.maxDepth = 9999 + 1 := rfl
  rw [h]
  unfold Op.equalIn
  simp [run_underlying ht, Result.andThen]
theorem Val.eqlB {t u : TypeId} {x y : Operand} {p q : Bool} (ho : o.op = .binOp .eql t x y u) (ht : isBool P t = true) (hx : ev l x = some (.bool p)) (hy : ev l y = some (.bool q)) : Val P n l G o (.bool (p == q)) := fun a w hf hs => by
  have := isBool_of ht
  simp [execOp, ho, hf.ev hx, hf.ev hy, eqGuard, binOp, Op.equal, run_eqB this, Result.andThen]
theorem Val.neqB {t u : TypeId} {x y : Operand} {p q : Bool} (ho : o.op = .binOp .neq t x y u) (ht : isBool P t = true) (hx : ev l x = some (.bool p)) (hy : ev l y = some (.bool q)) : Val P n l G o (.bool (!(p == q))) := fun a w hf hs => by
  have := isBool_of ht
  simp [execOp, ho, hf.ev hx, hf.ev hy, eqGuard, binOp, Op.equal, run_eqB this, Result.andThen]
/-! ## type assertions, methods of values behind a pointer -/
theorem Val.assertC {x : Operand} {xt t : TypeId} {v : Value} (ho : o.op = .typeAssert x xt t false) (ht : (match P.underlying t with | some (.interface _) => false | none => false | _ => true) = true) (hx : ev l x = some (.iface t v)) : Val P n l G o v := fun a w hf hs => by
  cases hu : P.underlying t with
  | none => rw [hu] at ht; cases ht
  | some q =>
    rw [hu] at ht
    cases q <;> first | (cases ht; done) | simp [execOp, ho, hf.ev hx, Instr.typeAssert, run_underlying hu, Result.andThen]
def mthV (P : Program) (t : TypeId) (nm : String) : Option (FuncId × TypeId) :=
  match P.underlying t, (P.info? t).bind (fun i => i.methods.find? (·.name == nm)) with
  | some (.pointer e), some m => if m.path.isEmpty then (match m.func with | some (f, false) => if scal P e then some (f, e) else none | _ => none) else none
  | _, _ => none
theorem run_wrapChk (t : TypeId) (p : Addr) (x y : String) (w : World) : (Builtin.ssaWrapNilChk_ #[t] t #[.pointer (some p), strVal x, strVal y]).run P w = .ok (.pointer (some p)) w := rfl
theorem run_mthV {t e : TypeId} {nm : String} {f : FuncId} {k : Nat} (h : mthV P t nm = some (f, e)) {p : Addr} {u : Value} {w : World} (hc : w.cell? p = some u) : (method (k + 1) t (.pointer (some p)) nm).run P w = .ok (f, u) w := by
  unfold mthV at h
  split at h <;> try (cases h; done)
  rename_i e' m hu hm
  split at h <;> try (cases h; done)
  rename_i hp
  split at h <;> try (cases h; done)
  rename_i f' hf
  split at h <;> try (cases h; done)
  rename_i hsc
  simp only [Option.some.injEq, Prod.mk.injEq] at h
  obtain ⟨rfl, rfl⟩ := h
  cases hi : P.info? t with
  | none => rw [hi] at hm; cases hm
  | some i =>
    rw [hi] at hm
    simp only [Option.bind_some] at hm
    have hpe : m.path = #[] := by simpa using hp
    simp [method, typeInfo, hi, hm, hpe, follow, hf, receiverAt, run_underlying hu, Place.get, run_wrapChk, asAddr, loadVar, scal_agg hsc, Go.load, Sem.run, hc, Result.andThen]
theorem Eff.invokeP {f : FuncId} {x : Operand} {nm : String} {xs : List Operand} {ats : Array TypeId} {t e : TypeId} {p : Addr} {u : Value} {args : List Value} {L0 F : List HProp} {R : Value → List HProp → Prop} (ho : o.op = .call { callee := .invoke x nm, args := xs.toArray, argTypes := ats })
    (hv : ev l x = some (.iface t (.pointer (some p)))) (hx : evs l xs = some args) (hm : mthV P t nm = some (f, e)) (hu : ∀ w, Sat W (L0 ++ F) w → w.cell? p = some u) (hc : ∀ (as_ : Array Value) (w : World), (callFunc f as_).run P w = .ok (.enter f as_) w)
    (h : Does P f (u :: args) L0 R) : Eff P W Q n l (L0 ++ F) o (After R F) :=
  Eff.enter h fun a w hf hs => by
    have e : (xs.toArray.map a.eval) = args.toArray := by rw [List.map_toArray, hf.evs hx]
    simp only [execOp, ho, resolve, hf.ev hv, e, Sem.run_bind, Sem.run_pure, Result.andThen_ok, Go.invoke]
    have e1 : (#[Value.iface t (.pointer (some p))] ++ args.toArray)[0]? = some (.iface t (.pointer (some p))) := by simp
    have e2 : (#[Value.iface t (.pointer (some p))] ++ args.toArray).extract 1 (#[Value.iface t (.pointer (some p))] ++ args.toArray).size = args.toArray := by
      apply Array.ext'
      simp
    have hd : P.types.size + Made.depth = (P.types.size + (Made.depth - 1)) + 1 := by
      have : 0 < Made.depth := by decide
      omega
    simp only [e1, e2, callMethod, Sem.run_bind, program, Sem.run, Result.andThen_ok, hd, run_mthV hm (hu w hs)]
    have e3 : #[u] ++ args.toArray = (u :: args).toArray := by simp
    rw [e3, hc]
end
end Go.Proofs.Ytbomnihiapjmpaa.Sl

namespace Go.Proofs.Ytbomnihiapjmpaa.Ty
open Go.Proofs.Ytbomnihiapjmpaa.Sl
set_option maxRecDepth 100000
theorem sc1 : scal Try.prog 1 = true := by kernel_rfl
theorem ni1 : (match Try.prog.underlying 1 with | some (.interface _) => false | none => false | _ => true) = true := by kernel_rfl
theorem z1 : zeroC Try.prog 1 = some [.nilFunc] := by kernel_rfl
theorem sc2 : scal Try.prog 2 = true := by kernel_rfl
theorem ik2 : intK Try.prog 2 = some .i64 := by kernel_rfl
theorem un2 : (Try.prog.underlying 2).isSome = true := by kernel_rfl
theorem ni2 : (match Try.prog.underlying 2 with | some (.interface _) => false | none => false | _ => true) = true := by kernel_rfl
theorem z2 : zeroC Try.prog 2 = some [.int .i64 0] := by kernel_rfl
theorem sc3 : scal Try.prog 3 = true := by kernel_rfl
theorem ik3 : intK Try.prog 3 = some .i64 := by kernel_rfl
theorem un3 : (Try.prog.underlying 3).isSome = true := by kernel_rfl
theorem ni3 : (match Try.prog.underlying 3 with | some (.interface _) => false | none => false | _ => true) = true := by kernel_rfl
theorem z3 : zeroC Try.prog 3 = some [.int .i64 0] := by kernel_rfl
theorem sc4 : scal Try.prog 4 = true := by kernel_rfl
theorem ni4 : (match Try.prog.underlying 4 with | some (.interface _) => false | none => false | _ => true) = true := by kernel_rfl
theorem z4 : zeroC Try.prog 4 = some [.bool false] := by kernel_rfl
theorem sc5 : scal Try.prog 5 = true := by kernel_rfl
theorem ik5 : intK Try.prog 5 = some .u8 := by kernel_rfl
theorem un5 : (Try.prog.underlying 5).isSome = true := by kernel_rfl
theorem ni5 : (match Try.prog.underlying 5 with | some (.interface _) => false | none => false | _ => true) = true := by kernel_rfl
theorem z5 : zeroC Try.prog 5 = some [.int .u8 0] := by kernel_rfl
theorem sc6 : scal Try.prog 6 = true := by kernel_rfl
theorem ik6 : intK Try.prog 6 = some .u8 := by kernel_rfl
theorem un6 : (Try.prog.underlying 6).isSome = true := by kernel_rfl
theorem ni6 : (match Try.prog.underlying 6 with | some (.interface _) => false | none => false | _ => true) = true := by kernel_rfl
theorem z6 : zeroC Try.prog 6 = some [.int .u8 0] := by kernel_rfl
theorem ag7 : aggS Try.prog 7 = some 4 := by kernel_rfl
theorem fo7_0 : fldO Try.prog 7 0 = some 0 := by kernel_rfl
theorem fs7_0 : fldS Try.prog 7 0 = some 0 := by kernel_rfl
theorem fo7_1 : fldO Try.prog 7 1 = some 1 := by kernel_rfl
theorem fs7_1 : fldS Try.prog 7 1 = some 1 := by kernel_rfl
theorem fo7_2 : fldO Try.prog 7 2 = some 2 := by kernel_rfl
theorem fs7_2 : fldS Try.prog 7 2 = some 2 := by kernel_rfl
theorem fo7_3 : fldO Try.prog 7 3 = some 3 := by kernel_rfl
theorem fs7_3 : fldS Try.prog 7 3 = some 3 := by kernel_rfl
theorem ni7 : (match Try.prog.underlying 7 with | some (.interface _) => false | none => false | _ => true) = true := by kernel_rfl
theorem z7 : zeroC Try.prog 7 = some [.int .i64 0, .int .i64 0, .bool false, .int .u8 0] := by kernel_rfl
theorem ag8 : aggS Try.prog 8 = some 4 := by kernel_rfl
theorem fo8_0 : fldO Try.prog 8 0 = some 0 := by kernel_rfl
theorem fs8_0 : fldS Try.prog 8 0 = some 0 := by kernel_rfl
theorem fo8_1 : fldO Try.prog 8 1 = some 1 := by kernel_rfl
theorem fs8_1 : fldS Try.prog 8 1 = some 1 := by kernel_rfl
theorem fo8_2 : fldO Try.prog 8 2 = some 2 := by kernel_rfl
theorem fs8_2 : fldS Try.prog 8 2 = some 2 := by kernel_rfl
theorem fo8_3 : fldO Try.prog 8 3 = some 3 := by kernel_rfl
theorem fs8_3 : fldS Try.prog 8 3 = some 3 := by kernel_rfl
theorem ni8 : (match Try.prog.underlying 8 with | some (.interface _) => false | none => false | _ => true) = true := by kernel_rfl
theorem z8 : zeroC Try.prog 8 = some [.int .i64 0, .int .i64 0, .bool false, .int .u8 0] := by kernel_rfl
theorem sc9 : scal Try.prog 9 = true := by kernel_rfl
theorem st9 : isStr Try.prog 9 = true := by kernel_rfl
theorem ni9 : (match Try.prog.underlying 9 with | some (.interface _) => false | none => false | _ => true) = true := by kernel_rfl
theorem z9 : zeroC Try.prog 9 = some [.string ⟨#[]⟩] := by kernel_rfl
theorem sc10 : scal Try.prog 10 = true := by kernel_rfl
theorem st10 : isStr Try.prog 10 = true := by kernel_rfl
theorem ni10 : (match Try.prog.underlying 10 with | some (.interface _) => false | none => false | _ => true) = true := by kernel_rfl
theorem z10 : zeroC Try.prog 10 = some [.string ⟨#[]⟩] := by kernel_rfl
theorem sc11 : scal Try.prog 11 = true := by kernel_rfl
theorem st11 : isStr Try.prog 11 = true := by kernel_rfl
theorem ni11 : (match Try.prog.underlying 11 with | some (.interface _) => false | none => false | _ => true) = true := by kernel_rfl
theorem z11 : zeroC Try.prog 11 = some [.string ⟨#[]⟩] := by kernel_rfl
theorem sc12 : scal Try.prog 12 = true := by kernel_rfl
theorem ik12 : intK Try.prog 12 = some .u64 := by kernel_rfl
theorem un12 : (Try.prog.underlying 12).isSome = true := by kernel_rfl
theorem ni12 : (match Try.prog.underlying 12 with | some (.interface _) => false | none => false | _ => true) = true := by kernel_rfl
theorem z12 : zeroC Try.prog 12 = some [.int .u64 0] := by kernel_rfl
theorem ag13 : aggS Try.prog 13 = some 2 := by kernel_rfl
theorem fo13_0 : fldO Try.prog 13 0 = some 0 := by kernel_rfl
theorem fs13_0 : fldS Try.prog 13 0 = some 0 := by kernel_rfl
theorem fo13_1 : fldO Try.prog 13 1 = some 1 := by kernel_rfl
theorem fs13_1 : fldS Try.prog 13 1 = some 1 := by kernel_rfl
theorem ni13 : (match Try.prog.underlying 13 with | some (.interface _) => false | none => false | _ => true) = true := by kernel_rfl
theorem z13 : zeroC Try.prog 13 = some [.string ⟨#[]⟩, .int .u64 0] := by kernel_rfl
theorem ag14 : aggS Try.prog 14 = some 2 := by kernel_rfl
theorem fo14_0 : fldO Try.prog 14 0 = some 0 := by kernel_rfl
theorem fs14_0 : fldS Try.prog 14 0 = some 0 := by kernel_rfl
theorem fo14_1 : fldO Try.prog 14 1 = some 1 := by kernel_rfl
theorem fs14_1 : fldS Try.prog 14 1 = some 1 := by kernel_rfl
theorem ni14 : (match Try.prog.underlying 14 with | some (.interface _) => false | none => false | _ => true) = true := by kernel_rfl
theorem z14 : zeroC Try.prog 14 = some [.string ⟨#[]⟩, .int .u64 0] := by kernel_rfl
theorem sc15 : scal Try.prog 15 = true := by kernel_rfl
theorem ip15 : isPtr Try.prog 15 = true := by kernel_rfl
theorem ni15 : (match Try.prog.underlying 15 with | some (.interface _) => false | none => false | _ => true) = true := by kernel_rfl
theorem z15 : zeroC Try.prog 15 = some [.pointer none] := by kernel_rfl
theorem sc16 : scal Try.prog 16 = true := by kernel_rfl
theorem ip16 : isPtr Try.prog 16 = true := by kernel_rfl
theorem ni16 : (match Try.prog.underlying 16 with | some (.interface _) => false | none => false | _ => true) = true := by kernel_rfl
theorem z16 : zeroC Try.prog 16 = some [.pointer none] := by kernel_rfl
theorem sc17 : scal Try.prog 17 = true := by kernel_rfl
theorem ip17 : isPtr Try.prog 17 = true := by kernel_rfl
theorem ni17 : (match Try.prog.underlying 17 with | some (.interface _) => false | none => false | _ => true) = true := by kernel_rfl
theorem z17 : zeroC Try.prog 17 = some [.pointer none] := by kernel_rfl
theorem ag18 : aggS Try.prog 18 = some 1 := by kernel_rfl
theorem fo18_0 : fldO Try.prog 18 0 = some 0 := by kernel_rfl
theorem fs18_0 : fldS Try.prog 18 0 = some 0 := by kernel_rfl
theorem ni18 : (match Try.prog.underlying 18 with | some (.interface _) => false | none => false | _ => true) = true := by kernel_rfl
theorem z18 : zeroC Try.prog 18 = some [.pointer none] := by kernel_rfl
theorem ag19 : aggS Try.prog 19 = some 1 := by kernel_rfl
theorem fo19_0 : fldO Try.prog 19 0 = some 0 := by kernel_rfl
theorem fs19_0 : fldS Try.prog 19 0 = some 0 := by kernel_rfl
theorem ni19 : (match Try.prog.underlying 19 with | some (.interface _) => false | none => false | _ => true) = true := by kernel_rfl
theorem z19 : zeroC Try.prog 19 = some [.pointer none] := by kernel_rfl
theorem sc20 : scal Try.prog 20 = true := by kernel_rfl
theorem if20 : isIfc Try.prog 20 = true := by kernel_rfl
theorem z20 : zeroC Try.prog 20 = some [.nilIface] := by kernel_rfl
theorem sc21 : scal Try.prog 21 = true := by kernel_rfl
theorem ik21 : intK Try.prog 21 = some .i32 := by kernel_rfl
theorem un21 : (Try.prog.underlying 21).isSome = true := by kernel_rfl
theorem ni21 : (match Try.prog.underlying 21 with | some (.interface _) => false | none => false | _ => true) = true := by kernel_rfl
theorem z21 : zeroC Try.prog 21 = some [.int .i32 0] := by kernel_rfl
theorem sc22 : scal Try.prog 22 = true := by kernel_rfl
theorem sl22 : slcE Try.prog 22 = some (83, 7, 80) := by kernel_rfl
theorem is22 : isSlc Try.prog 22 = true := by kernel_rfl
theorem ni22 : (match Try.prog.underlying 22 with | some (.interface _) => false | none => false | _ => true) = true := by kernel_rfl
theorem z22 : zeroC Try.prog 22 = some [.slice none 0 0] := by kernel_rfl
theorem sc23 : scal Try.prog 23 = true := by kernel_rfl
theorem sl23 : slcE Try.prog 23 = some (25, 21, 208) := by kernel_rfl
theorem is23 : isSlc Try.prog 23 = true := by kernel_rfl
theorem ni23 : (match Try.prog.underlying 23 with | some (.interface _) => false | none => false | _ => true) = true := by kernel_rfl
theorem z23 : zeroC Try.prog 23 = some [.slice none 0 0] := by kernel_rfl
theorem ag24 : aggS Try.prog 24 = some 21 := by kernel_rfl
theorem fo24_0 : fldO Try.prog 24 0 = some 0 := by kernel_rfl
theorem fs24_0 : fldS Try.prog 24 0 = some 0 := by kernel_rfl
theorem fo24_1 : fldO Try.prog 24 1 = some 1 := by kernel_rfl
theorem fs24_1 : fldS Try.prog 24 1 = some 1 := by kernel_rfl
theorem fo24_2 : fldO Try.prog 24 2 = some 2 := by kernel_rfl
theorem fs24_2 : fldS Try.prog 24 2 = some 2 := by kernel_rfl
theorem fo24_3 : fldO Try.prog 24 3 = some 3 := by kernel_rfl
theorem fs24_3 : fldS Try.prog 24 3 = some 3 := by kernel_rfl
theorem fo24_4 : fldO Try.prog 24 4 = some 4 := by kernel_rfl
theorem fs24_4 : fldS Try.prog 24 4 = some 4 := by kernel_rfl
theorem fo24_5 : fldO Try.prog 24 5 = some 5 := by kernel_rfl
theorem fs24_5 : fldS Try.prog 24 5 = some 5 := by kernel_rfl
theorem fo24_6 : fldO Try.prog 24 6 = some 6 := by kernel_rfl
theorem fs24_6 : fldS Try.prog 24 6 = some 6 := by kernel_rfl
theorem fo24_7 : fldO Try.prog 24 7 = some 7 := by kernel_rfl
theorem fs24_7 : fldS Try.prog 24 7 = some 7 := by kernel_rfl
theorem fo24_8 : fldO Try.prog 24 8 = some 8 := by kernel_rfl
theorem fs24_8 : fldS Try.prog 24 8 = some 8 := by kernel_rfl
theorem fo24_9 : fldO Try.prog 24 9 = some 9 := by kernel_rfl
theorem fs24_9 : fldS Try.prog 24 9 = some 9 := by kernel_rfl
theorem fo24_10 : fldO Try.prog 24 10 = some 10 := by kernel_rfl
theorem fs24_10 : fldS Try.prog 24 10 = some 10 := by kernel_rfl
theorem fo24_11 : fldO Try.prog 24 11 = some 11 := by kernel_rfl
theorem fs24_11 : fldS Try.prog 24 11 = some 11 := by kernel_rfl
theorem fo24_12 : fldO Try.prog 24 12 = some 12 := by kernel_rfl
theorem fs24_12 : fldS Try.prog 24 12 = some 12 := by kernel_rfl
theorem fo24_13 : fldO Try.prog 24 13 = some 13 := by kernel_rfl
theorem fs24_13 : fldS Try.prog 24 13 = some 13 := by kernel_rfl
theorem fo24_14 : fldO Try.prog 24 14 = some 14 := by kernel_rfl
theorem fs24_14 : fldS Try.prog 24 14 = some 14 := by kernel_rfl
theorem fo24_15 : fldO Try.prog 24 15 = some 15 := by kernel_rfl
theorem fs24_15 : fldS Try.prog 24 15 = some 15 := by kernel_rfl
theorem fo24_16 : fldO Try.prog 24 16 = some 16 := by kernel_rfl
theorem fs24_16 : fldS Try.prog 24 16 = some 16 := by kernel_rfl
theorem fo24_17 : fldO Try.prog 24 17 = some 17 := by kernel_rfl
theorem fs24_17 : fldS Try.prog 24 17 = some 17 := by kernel_rfl
theorem fo24_18 : fldO Try.prog 24 18 = some 18 := by kernel_rfl
theorem fs24_18 : fldS Try.prog 24 18 = some 18 := by kernel_rfl
theorem fo24_19 : fldO Try.prog 24 19 = some 19 := by kernel_rfl
theorem fs24_19 : fldS Try.prog 24 19 = some 19 := by kernel_rfl
theorem fo24_20 : fldO Try.prog 24 20 = some 20 := by kernel_rfl
theorem fs24_20 : fldS Try.prog 24 20 = some 20 := by kernel_rfl
theorem ni24 : (match Try.prog.underlying 24 with | some (.interface _) => false | none => false | _ => true) = true := by kernel_rfl
theorem z24 : zeroC Try.prog 24 = some [.int .i64 0, .string ⟨#[]⟩, .string ⟨#[]⟩, .string ⟨#[]⟩, .int .i64 0, .int .i64 0, .int .i64 0, .int .i64 0, .int .i64 0, .int .i64 0, .int .i64 0, .int .i64 0, .int .i64 0, .bool false, .bool false, .bool false, .bool false, .bool false, .slice none 0 0, .slice none 0 0, .slice none 0 0] := by kernel_rfl
theorem ag25 : aggS Try.prog 25 = some 21 := by kernel_rfl
theorem fo25_0 : fldO Try.prog 25 0 = some 0 := by kernel_rfl
theorem fs25_0 : fldS Try.prog 25 0 = some 0 := by kernel_rfl
theorem fo25_1 : fldO Try.prog 25 1 = some 1 := by kernel_rfl
theorem fs25_1 : fldS Try.prog 25 1 = some 1 := by kernel_rfl
theorem fo25_2 : fldO Try.prog 25 2 = some 2 := by kernel_rfl
theorem fs25_2 : fldS Try.prog 25 2 = some 2 := by kernel_rfl
theorem fo25_3 : fldO Try.prog 25 3 = some 3 := by kernel_rfl
theorem fs25_3 : fldS Try.prog 25 3 = some 3 := by kernel_rfl
theorem fo25_4 : fldO Try.prog 25 4 = some 4 := by kernel_rfl
theorem fs25_4 : fldS Try.prog 25 4 = some 4 := by kernel_rfl
theorem fo25_5 : fldO Try.prog 25 5 = some 5 := by kernel_rfl
theorem fs25_5 : fldS Try.prog 25 5 = some 5 := by kernel_rfl
theorem fo25_6 : fldO Try.prog 25 6 = some 6 := by kernel_rfl
theorem fs25_6 : fldS Try.prog 25 6 = some 6 := by kernel_rfl
theorem fo25_7 : fldO Try.prog 25 7 = some 7 := by kernel_rfl
theorem fs25_7 : fldS Try.prog 25 7 = some 7 := by kernel_rfl
theorem fo25_8 : fldO Try.prog 25 8 = some 8 := by kernel_rfl
theorem fs25_8 : fldS Try.prog 25 8 = some 8 := by kernel_rfl
theorem fo25_9 : fldO Try.prog 25 9 = some 9 := by kernel_rfl
theorem fs25_9 : fldS Try.prog 25 9 = some 9 := by kernel_rfl
theorem fo25_10 : fldO Try.prog 25 10 = some 10 := by kernel_rfl
theorem fs25_10 : fldS Try.prog 25 10 = some 10 := by kernel_rfl
theorem fo25_11 : fldO Try.prog 25 11 = some 11 := by kernel_rfl
theorem fs25_11 : fldS Try.prog 25 11 = some 11 := by kernel_rfl
theorem fo25_12 : fldO Try.prog 25 12 = some 12 := by kernel_rfl
theorem fs25_12 : fldS Try.prog 25 12 = some 12 := by kernel_rfl
theorem fo25_13 : fldO Try.prog 25 13 = some 13 := by kernel_rfl
theorem fs25_13 : fldS Try.prog 25 13 = some 13 := by kernel_rfl
theorem fo25_14 : fldO Try.prog 25 14 = some 14 := by kernel_rfl
theorem fs25_14 : fldS Try.prog 25 14 = some 14 := by kernel_rfl
theorem fo25_15 : fldO Try.prog 25 15 = some 15 := by kernel_rfl
theorem fs25_15 : fldS Try.prog 25 15 = some 15 := by kernel_rfl
theorem fo25_16 : fldO Try.prog 25 16 = some 16 := by kernel_rfl
theorem fs25_16 : fldS Try.prog 25 16 = some 16 := by kernel_rfl
theorem fo25_17 : fldO Try.prog 25 17 = some 17 := by kernel_rfl
theorem fs25_17 : fldS Try.prog 25 17 = some 17 := by kernel_rfl
theorem fo25_18 : fldO Try.prog 25 18 = some 18 := by kernel_rfl
theorem fs25_18 : fldS Try.prog 25 18 = some 18 := by kernel_rfl
theorem fo25_19 : fldO Try.prog 25 19 = some 19 := by kernel_rfl
theorem fs25_19 : fldS Try.prog 25 19 = some 19 := by kernel_rfl
theorem fo25_20 : fldO Try.prog 25 20 = some 20 := by kernel_rfl
theorem fs25_20 : fldS Try.prog 25 20 = some 20 := by kernel_rfl
theorem ni25 : (match Try.prog.underlying 25 with | some (.interface _) => false | none => false | _ => true) = true := by kernel_rfl
theorem z25 : zeroC Try.prog 25 = some [.int .i64 0, .string ⟨#[]⟩, .string ⟨#[]⟩, .string ⟨#[]⟩, .int .i64 0, .int .i64 0, .int .i64 0, .int .i64 0, .int .i64 0, .int .i64 0, .int .i64 0, .int .i64 0, .int .i64 0, .bool false, .bool false, .bool false, .bool false, .bool false, .slice none 0 0, .slice none 0 0, .slice none 0 0] := by kernel_rfl
theorem sc26 : scal Try.prog 26 = true := by kernel_rfl
theorem ni26 : (match Try.prog.underlying 26 with | some (.interface _) => false | none => false | _ => true) = true := by kernel_rfl
theorem z26 : zeroC Try.prog 26 = some [.nilFunc] := by kernel_rfl
theorem sc27 : scal Try.prog 27 = true := by kernel_rfl
theorem ni27 : (match Try.prog.underlying 27 with | some (.interface _) => false | none => false | _ => true) = true := by kernel_rfl
theorem z27 : zeroC Try.prog 27 = some [.nilFunc] := by kernel_rfl
theorem sc28 : scal Try.prog 28 = true := by kernel_rfl
theorem ni28 : (match Try.prog.underlying 28 with | some (.interface _) => false | none => false | _ => true) = true := by kernel_rfl
theorem z28 : zeroC Try.prog 28 = some [.nilFunc] := by kernel_rfl
theorem sc29 : scal Try.prog 29 = true := by kernel_rfl
theorem ni29 : (match Try.prog.underlying 29 with | some (.interface _) => false | none => false | _ => true) = true := by kernel_rfl
theorem z29 : zeroC Try.prog 29 = some [.nilFunc] := by kernel_rfl
theorem sc30 : scal Try.prog 30 = true := by kernel_rfl
theorem sl30 : slcE Try.prog 30 = some (9, 1, 16) := by kernel_rfl
theorem is30 : isSlc Try.prog 30 = true := by kernel_rfl
theorem ni30 : (match Try.prog.underlying 30 with | some (.interface _) => false | none => false | _ => true) = true := by kernel_rfl
theorem z30 : zeroC Try.prog 30 = some [.slice none 0 0] := by kernel_rfl
theorem sc31 : scal Try.prog 31 = true := by kernel_rfl
theorem sl31 : slcE Try.prog 31 = some (89, 6, 64) := by kernel_rfl
theorem is31 : isSlc Try.prog 31 = true := by kernel_rfl
theorem ni31 : (match Try.prog.underlying 31 with | some (.interface _) => false | none => false | _ => true) = true := by kernel_rfl
theorem z31 : zeroC Try.prog 31 = some [.slice none 0 0] := by kernel_rfl
theorem ag32 : aggS Try.prog 32 = some 2 := by kernel_rfl
theorem fo32_0 : fldO Try.prog 32 0 = some 0 := by kernel_rfl
theorem fs32_0 : fldS Try.prog 32 0 = some 0 := by kernel_rfl
theorem fo32_1 : fldO Try.prog 32 1 = some 1 := by kernel_rfl
theorem fs32_1 : fldS Try.prog 32 1 = some 1 := by kernel_rfl
theorem ni32 : (match Try.prog.underlying 32 with | some (.interface _) => false | none => false | _ => true) = true := by kernel_rfl
theorem z32 : zeroC Try.prog 32 = some [.int .i64 0, .slice none 0 0] := by kernel_rfl
theorem ag33 : aggS Try.prog 33 = some 2 := by kernel_rfl
theorem fo33_0 : fldO Try.prog 33 0 = some 0 := by kernel_rfl
theorem fs33_0 : fldS Try.prog 33 0 = some 0 := by kernel_rfl
theorem fo33_1 : fldO Try.prog 33 1 = some 1 := by kernel_rfl
theorem fs33_1 : fldS Try.prog 33 1 = some 1 := by kernel_rfl
theorem ni33 : (match Try.prog.underlying 33 with | some (.interface _) => false | none => false | _ => true) = true := by kernel_rfl
theorem z33 : zeroC Try.prog 33 = some [.int .i64 0, .slice none 0 0] := by kernel_rfl
theorem ag34 : aggS Try.prog 34 = some 3 := by kernel_rfl
theorem fo34_0 : fldO Try.prog 34 0 = some 0 := by kernel_rfl
theorem fs34_0 : fldS Try.prog 34 0 = some 0 := by kernel_rfl
theorem fo34_1 : fldO Try.prog 34 1 = some 1 := by kernel_rfl
theorem fa34_1 : fldA Try.prog 34 1 = some (1, 2) := by kernel_rfl
theorem ni34 : (match Try.prog.underlying 34 with | some (.interface _) => false | none => false | _ => true) = true := by kernel_rfl
theorem z34 : zeroC Try.prog 34 = some [.slice none 0 0, .int .i64 0, .slice none 0 0] := by kernel_rfl
theorem ag35 : aggS Try.prog 35 = some 3 := by kernel_rfl
theorem fo35_0 : fldO Try.prog 35 0 = some 0 := by kernel_rfl
theorem fs35_0 : fldS Try.prog 35 0 = some 0 := by kernel_rfl
theorem fo35_1 : fldO Try.prog 35 1 = some 1 := by kernel_rfl
theorem fa35_1 : fldA Try.prog 35 1 = some (1, 2) := by kernel_rfl
theorem ni35 : (match Try.prog.underlying 35 with | some (.interface _) => false | none => false | _ => true) = true := by kernel_rfl
theorem z35 : zeroC Try.prog 35 = some [.slice none 0 0, .int .i64 0, .slice none 0 0] := by kernel_rfl
theorem sc37 : scal Try.prog 37 = true := by kernel_rfl
theorem ni37 : (match Try.prog.underlying 37 with | some (.interface _) => false | none => false | _ => true) = true := by kernel_rfl
theorem z37 : zeroC Try.prog 37 = some [.nilFunc] := by kernel_rfl
theorem sc38 : scal Try.prog 38 = true := by kernel_rfl
theorem ni38 : (match Try.prog.underlying 38 with | some (.interface _) => false | none => false | _ => true) = true := by kernel_rfl
theorem z38 : zeroC Try.prog 38 = some [.nilFunc] := by kernel_rfl
theorem sc39 : scal Try.prog 39 = true := by kernel_rfl
theorem sl39 : slcE Try.prog 39 = some (45, 3, 40) := by kernel_rfl
theorem is39 : isSlc Try.prog 39 = true := by kernel_rfl
theorem ni39 : (match Try.prog.underlying 39 with | some (.interface _) => false | none => false | _ => true) = true := by kernel_rfl
theorem z39 : zeroC Try.prog 39 = some [.slice none 0 0] := by kernel_rfl
theorem sc40 : scal Try.prog 40 = true := by kernel_rfl
theorem ni40 : (match Try.prog.underlying 40 with | some (.interface _) => false | none => false | _ => true) = true := by kernel_rfl
theorem z40 : zeroC Try.prog 40 = some [.nilFunc] := by kernel_rfl
theorem sc41 : scal Try.prog 41 = true := by kernel_rfl
theorem ni41 : (match Try.prog.underlying 41 with | some (.interface _) => false | none => false | _ => true) = true := by kernel_rfl
theorem z41 : zeroC Try.prog 41 = some [.nilFunc] := by kernel_rfl
theorem sc42 : scal Try.prog 42 = true := by kernel_rfl
theorem ni42 : (match Try.prog.underlying 42 with | some (.interface _) => false | none => false | _ => true) = true := by kernel_rfl
theorem z42 : zeroC Try.prog 42 = some [.nilFunc] := by kernel_rfl
theorem sc43 : scal Try.prog 43 = true := by kernel_rfl
theorem ni43 : (match Try.prog.underlying 43 with | some (.interface _) => false | none => false | _ => true) = true := by kernel_rfl
theorem z43 : zeroC Try.prog 43 = some [.nilFunc] := by kernel_rfl
theorem ag44 : aggS Try.prog 44 = some 3 := by kernel_rfl
theorem fo44_0 : fldO Try.prog 44 0 = some 0 := by kernel_rfl
theorem fs44_0 : fldS Try.prog 44 0 = some 0 := by kernel_rfl
theorem fo44_1 : fldO Try.prog 44 1 = some 1 := by kernel_rfl
theorem fs44_1 : fldS Try.prog 44 1 = some 1 := by kernel_rfl
theorem fo44_2 : fldO Try.prog 44 2 = some 2 := by kernel_rfl
theorem fs44_2 : fldS Try.prog 44 2 = some 2 := by kernel_rfl
theorem ni44 : (match Try.prog.underlying 44 with | some (.interface _) => false | none => false | _ => true) = true := by kernel_rfl
theorem z44 : zeroC Try.prog 44 = some [.int .i64 0, .string ⟨#[]⟩, .string ⟨#[]⟩] := by kernel_rfl
theorem ag45 : aggS Try.prog 45 = some 3 := by kernel_rfl
theorem fo45_0 : fldO Try.prog 45 0 = some 0 := by kernel_rfl
theorem fs45_0 : fldS Try.prog 45 0 = some 0 := by kernel_rfl
theorem fo45_1 : fldO Try.prog 45 1 = some 1 := by kernel_rfl
theorem fs45_1 : fldS Try.prog 45 1 = some 1 := by kernel_rfl
theorem fo45_2 : fldO Try.prog 45 2 = some 2 := by kernel_rfl
theorem fs45_2 : fldS Try.prog 45 2 = some 2 := by kernel_rfl
theorem ni45 : (match Try.prog.underlying 45 with | some (.interface _) => false | none => false | _ => true) = true := by kernel_rfl
theorem z45 : zeroC Try.prog 45 = some [.int .i64 0, .string ⟨#[]⟩, .string ⟨#[]⟩] := by kernel_rfl
theorem sc46 : scal Try.prog 46 = true := by kernel_rfl
theorem ni46 : (match Try.prog.underlying 46 with | some (.interface _) => false | none => false | _ => true) = true := by kernel_rfl
theorem z46 : zeroC Try.prog 46 = some [.nilFunc] := by kernel_rfl
theorem sc47 : scal Try.prog 47 = true := by kernel_rfl
theorem sl47 : slcE Try.prog 47 = some (60, 10, 128) := by kernel_rfl
theorem is47 : isSlc Try.prog 47 = true := by kernel_rfl
theorem ni47 : (match Try.prog.underlying 47 with | some (.interface _) => false | none => false | _ => true) = true := by kernel_rfl
theorem z47 : zeroC Try.prog 47 = some [.slice none 0 0] := by kernel_rfl
theorem sc48 : scal Try.prog 48 = true := by kernel_rfl
theorem ni48 : (match Try.prog.underlying 48 with | some (.interface _) => false | none => false | _ => true) = true := by kernel_rfl
theorem z48 : zeroC Try.prog 48 = some [.nilFunc] := by kernel_rfl
theorem sc49 : scal Try.prog 49 = true := by kernel_rfl
theorem ni49 : (match Try.prog.underlying 49 with | some (.interface _) => false | none => false | _ => true) = true := by kernel_rfl
theorem z49 : zeroC Try.prog 49 = some [.nilFunc] := by kernel_rfl
theorem sc50 : scal Try.prog 50 = true := by kernel_rfl
theorem sl50 : slcE Try.prog 50 = some (62, 5, 72) := by kernel_rfl
theorem is50 : isSlc Try.prog 50 = true := by kernel_rfl
theorem ni50 : (match Try.prog.underlying 50 with | some (.interface _) => false | none => false | _ => true) = true := by kernel_rfl
theorem z50 : zeroC Try.prog 50 = some [.slice none 0 0] := by kernel_rfl
theorem sc51 : scal Try.prog 51 = true := by kernel_rfl
theorem ni51 : (match Try.prog.underlying 51 with | some (.interface _) => false | none => false | _ => true) = true := by kernel_rfl
theorem z51 : zeroC Try.prog 51 = some [.nilFunc] := by kernel_rfl
theorem sc52 : scal Try.prog 52 = true := by kernel_rfl
theorem ip52 : isPtr Try.prog 52 = true := by kernel_rfl
theorem ni52 : (match Try.prog.underlying 52 with | some (.interface _) => false | none => false | _ => true) = true := by kernel_rfl
theorem z52 : zeroC Try.prog 52 = some [.pointer none] := by kernel_rfl
theorem ag53 : aggS Try.prog 53 = some 3 := by kernel_rfl
theorem fo53_0 : fldO Try.prog 53 0 = some 0 := by kernel_rfl
theorem fs53_0 : fldS Try.prog 53 0 = some 0 := by kernel_rfl
theorem fo53_1 : fldO Try.prog 53 1 = some 1 := by kernel_rfl
theorem fs53_1 : fldS Try.prog 53 1 = some 1 := by kernel_rfl
theorem fo53_2 : fldO Try.prog 53 2 = some 2 := by kernel_rfl
theorem fs53_2 : fldS Try.prog 53 2 = some 2 := by kernel_rfl
theorem ni53 : (match Try.prog.underlying 53 with | some (.interface _) => false | none => false | _ => true) = true := by kernel_rfl
theorem z53 : zeroC Try.prog 53 = some [.string ⟨#[]⟩, .string ⟨#[]⟩, .bool false] := by kernel_rfl
theorem ag54 : aggS Try.prog 54 = some 3 := by kernel_rfl
theorem fo54_0 : fldO Try.prog 54 0 = some 0 := by kernel_rfl
theorem fs54_0 : fldS Try.prog 54 0 = some 0 := by kernel_rfl
theorem fo54_1 : fldO Try.prog 54 1 = some 1 := by kernel_rfl
theorem fs54_1 : fldS Try.prog 54 1 = some 1 := by kernel_rfl
theorem fo54_2 : fldO Try.prog 54 2 = some 2 := by kernel_rfl
theorem fs54_2 : fldS Try.prog 54 2 = some 2 := by kernel_rfl
theorem ni54 : (match Try.prog.underlying 54 with | some (.interface _) => false | none => false | _ => true) = true := by kernel_rfl
theorem z54 : zeroC Try.prog 54 = some [.string ⟨#[]⟩, .string ⟨#[]⟩, .bool false] := by kernel_rfl
theorem ag55 : aggS Try.prog 55 = some 5 := by kernel_rfl
theorem fo55_0 : fldO Try.prog 55 0 = some 0 := by kernel_rfl
theorem fa55_0 : fldA Try.prog 55 0 = some (0, 3) := by kernel_rfl
theorem fo55_1 : fldO Try.prog 55 1 = some 3 := by kernel_rfl
theorem fs55_1 : fldS Try.prog 55 1 = some 3 := by kernel_rfl
theorem fo55_2 : fldO Try.prog 55 2 = some 4 := by kernel_rfl
theorem fs55_2 : fldS Try.prog 55 2 = some 4 := by kernel_rfl
theorem ni55 : (match Try.prog.underlying 55 with | some (.interface _) => false | none => false | _ => true) = true := by kernel_rfl
theorem z55 : zeroC Try.prog 55 = some [.string ⟨#[]⟩, .string ⟨#[]⟩, .bool false, .int .i64 0, .int .i64 0] := by kernel_rfl
theorem ag56 : aggS Try.prog 56 = some 5 := by kernel_rfl
theorem fo56_0 : fldO Try.prog 56 0 = some 0 := by kernel_rfl
theorem fa56_0 : fldA Try.prog 56 0 = some (0, 3) := by kernel_rfl
theorem fo56_1 : fldO Try.prog 56 1 = some 3 := by kernel_rfl
theorem fs56_1 : fldS Try.prog 56 1 = some 3 := by kernel_rfl
theorem fo56_2 : fldO Try.prog 56 2 = some 4 := by kernel_rfl
theorem fs56_2 : fldS Try.prog 56 2 = some 4 := by kernel_rfl
theorem ni56 : (match Try.prog.underlying 56 with | some (.interface _) => false | none => false | _ => true) = true := by kernel_rfl
theorem z56 : zeroC Try.prog 56 = some [.string ⟨#[]⟩, .string ⟨#[]⟩, .bool false, .int .i64 0, .int .i64 0] := by kernel_rfl
theorem sc57 : scal Try.prog 57 = true := by kernel_rfl
theorem sl57 : slcE Try.prog 57 = some (56, 5, 56) := by kernel_rfl
theorem is57 : isSlc Try.prog 57 = true := by kernel_rfl
theorem ni57 : (match Try.prog.underlying 57 with | some (.interface _) => false | none => false | _ => true) = true := by kernel_rfl
theorem z57 : zeroC Try.prog 57 = some [.slice none 0 0] := by kernel_rfl
theorem sc58 : scal Try.prog 58 = true := by kernel_rfl
theorem sl58 : slcE Try.prog 58 = some (3, 1, 8) := by kernel_rfl
theorem is58 : isSlc Try.prog 58 = true := by kernel_rfl
theorem ni58 : (match Try.prog.underlying 58 with | some (.interface _) => false | none => false | _ => true) = true := by kernel_rfl
theorem z58 : zeroC Try.prog 58 = some [.slice none 0 0] := by kernel_rfl
theorem ag59 : aggS Try.prog 59 = some 10 := by kernel_rfl
theorem fo59_0 : fldO Try.prog 59 0 = some 0 := by kernel_rfl
theorem fs59_0 : fldS Try.prog 59 0 = some 0 := by kernel_rfl
theorem fo59_1 : fldO Try.prog 59 1 = some 1 := by kernel_rfl
theorem fa59_1 : fldA Try.prog 59 1 = some (1, 5) := by kernel_rfl
theorem fo59_2 : fldO Try.prog 59 2 = some 6 := by kernel_rfl
theorem fs59_2 : fldS Try.prog 59 2 = some 6 := by kernel_rfl
theorem fo59_3 : fldO Try.prog 59 3 = some 7 := by kernel_rfl
theorem fs59_3 : fldS Try.prog 59 3 = some 7 := by kernel_rfl
theorem fo59_4 : fldO Try.prog 59 4 = some 8 := by kernel_rfl
theorem fs59_4 : fldS Try.prog 59 4 = some 8 := by kernel_rfl
theorem fo59_5 : fldO Try.prog 59 5 = some 9 := by kernel_rfl
theorem fs59_5 : fldS Try.prog 59 5 = some 9 := by kernel_rfl
theorem ni59 : (match Try.prog.underlying 59 with | some (.interface _) => false | none => false | _ => true) = true := by kernel_rfl
theorem z59 : zeroC Try.prog 59 = some [.int .i64 0, .string ⟨#[]⟩, .string ⟨#[]⟩, .bool false, .int .i64 0, .int .i64 0, .int .i64 0, .int .i64 0, .slice none 0 0, .slice none 0 0] := by kernel_rfl
theorem ag60 : aggS Try.prog 60 = some 10 := by kernel_rfl
theorem fo60_0 : fldO Try.prog 60 0 = some 0 := by kernel_rfl
theorem fs60_0 : fldS Try.prog 60 0 = some 0 := by kernel_rfl
theorem fo60_1 : fldO Try.prog 60 1 = some 1 := by kernel_rfl
theorem fa60_1 : fldA Try.prog 60 1 = some (1, 5) := by kernel_rfl
theorem fo60_2 : fldO Try.prog 60 2 = some 6 := by kernel_rfl
theorem fs60_2 : fldS Try.prog 60 2 = some 6 := by kernel_rfl
theorem fo60_3 : fldO Try.prog 60 3 = some 7 := by kernel_rfl
theorem fs60_3 : fldS Try.prog 60 3 = some 7 := by kernel_rfl
theorem fo60_4 : fldO Try.prog 60 4 = some 8 := by kernel_rfl
theorem fs60_4 : fldS Try.prog 60 4 = some 8 := by kernel_rfl
theorem fo60_5 : fldO Try.prog 60 5 = some 9 := by kernel_rfl
theorem fs60_5 : fldS Try.prog 60 5 = some 9 := by kernel_rfl
theorem ni60 : (match Try.prog.underlying 60 with | some (.interface _) => false | none => false | _ => true) = true := by kernel_rfl
theorem z60 : zeroC Try.prog 60 = some [.int .i64 0, .string ⟨#[]⟩, .string ⟨#[]⟩, .bool false, .int .i64 0, .int .i64 0, .int .i64 0, .int .i64 0, .slice none 0 0, .slice none 0 0] := by kernel_rfl
theorem ag61 : aggS Try.prog 61 = some 5 := by kernel_rfl
theorem fo61_0 : fldO Try.prog 61 0 = some 0 := by kernel_rfl
theorem fs61_0 : fldS Try.prog 61 0 = some 0 := by kernel_rfl
theorem fo61_1 : fldO Try.prog 61 1 = some 1 := by kernel_rfl
theorem fs61_1 : fldS Try.prog 61 1 = some 1 := by kernel_rfl
theorem fo61_2 : fldO Try.prog 61 2 = some 2 := by kernel_rfl
theorem fs61_2 : fldS Try.prog 61 2 = some 2 := by kernel_rfl
theorem fo61_3 : fldO Try.prog 61 3 = some 3 := by kernel_rfl
theorem fs61_3 : fldS Try.prog 61 3 = some 3 := by kernel_rfl
theorem fo61_4 : fldO Try.prog 61 4 = some 4 := by kernel_rfl
theorem fs61_4 : fldS Try.prog 61 4 = some 4 := by kernel_rfl
theorem ni61 : (match Try.prog.underlying 61 with | some (.interface _) => false | none => false | _ => true) = true := by kernel_rfl
theorem z61 : zeroC Try.prog 61 = some [.bool false, .int .i64 0, .int .i64 0, .slice none 0 0, .slice none 0 0] := by kernel_rfl
theorem ag62 : aggS Try.prog 62 = some 5 := by kernel_rfl
theorem fo62_0 : fldO Try.prog 62 0 = some 0 := by kernel_rfl
theorem fs62_0 : fldS Try.prog 62 0 = some 0 := by kernel_rfl
theorem fo62_1 : fldO Try.prog 62 1 = some 1 := by kernel_rfl
theorem fs62_1 : fldS Try.prog 62 1 = some 1 := by kernel_rfl
theorem fo62_2 : fldO Try.prog 62 2 = some 2 := by kernel_rfl
theorem fs62_2 : fldS Try.prog 62 2 = some 2 := by kernel_rfl
theorem fo62_3 : fldO Try.prog 62 3 = some 3 := by kernel_rfl
theorem fs62_3 : fldS Try.prog 62 3 = some 3 := by kernel_rfl
theorem fo62_4 : fldO Try.prog 62 4 = some 4 := by kernel_rfl
theorem fs62_4 : fldS Try.prog 62 4 = some 4 := by kernel_rfl
theorem ni62 : (match Try.prog.underlying 62 with | some (.interface _) => false | none => false | _ => true) = true := by kernel_rfl
theorem z62 : zeroC Try.prog 62 = some [.bool false, .int .i64 0, .int .i64 0, .slice none 0 0, .slice none 0 0] := by kernel_rfl
theorem sc63 : scal Try.prog 63 = true := by kernel_rfl
theorem ni63 : (match Try.prog.underlying 63 with | some (.interface _) => false | none => false | _ => true) = true := by kernel_rfl
theorem z63 : zeroC Try.prog 63 = some [.nilFunc] := by kernel_rfl
theorem sc64 : scal Try.prog 64 = true := by kernel_rfl
theorem ni64 : (match Try.prog.underlying 64 with | some (.interface _) => false | none => false | _ => true) = true := by kernel_rfl
theorem z64 : zeroC Try.prog 64 = some [.nilFunc] := by kernel_rfl
theorem sc65 : scal Try.prog 65 = true := by kernel_rfl
theorem ni65 : (match Try.prog.underlying 65 with | some (.interface _) => false | none => false | _ => true) = true := by kernel_rfl
theorem z65 : zeroC Try.prog 65 = some [.nilFunc] := by kernel_rfl
theorem sc66 : scal Try.prog 66 = true := by kernel_rfl
theorem ni66 : (match Try.prog.underlying 66 with | some (.interface _) => false | none => false | _ => true) = true := by kernel_rfl
theorem z66 : zeroC Try.prog 66 = some [.nilFunc] := by kernel_rfl
theorem sc67 : scal Try.prog 67 = true := by kernel_rfl
theorem ni67 : (match Try.prog.underlying 67 with | some (.interface _) => false | none => false | _ => true) = true := by kernel_rfl
theorem z67 : zeroC Try.prog 67 = some [.nilFunc] := by kernel_rfl
theorem sc69 : scal Try.prog 69 = true := by kernel_rfl
theorem ni69 : (match Try.prog.underlying 69 with | some (.interface _) => false | none => false | _ => true) = true := by kernel_rfl
theorem z69 : zeroC Try.prog 69 = some [.nilFunc] := by kernel_rfl
theorem sc70 : scal Try.prog 70 = true := by kernel_rfl
theorem ni70 : (match Try.prog.underlying 70 with | some (.interface _) => false | none => false | _ => true) = true := by kernel_rfl
theorem z70 : zeroC Try.prog 70 = some [.nilFunc] := by kernel_rfl
theorem sc71 : scal Try.prog 71 = true := by kernel_rfl
theorem ni71 : (match Try.prog.underlying 71 with | some (.interface _) => false | none => false | _ => true) = true := by kernel_rfl
theorem z71 : zeroC Try.prog 71 = some [.nilFunc] := by kernel_rfl
theorem sc73 : scal Try.prog 73 = true := by kernel_rfl
theorem ni73 : (match Try.prog.underlying 73 with | some (.interface _) => false | none => false | _ => true) = true := by kernel_rfl
theorem z73 : zeroC Try.prog 73 = some [.nilFunc] := by kernel_rfl
theorem sc74 : scal Try.prog 74 = true := by kernel_rfl
theorem ni74 : (match Try.prog.underlying 74 with | some (.interface _) => false | none => false | _ => true) = true := by kernel_rfl
theorem z74 : zeroC Try.prog 74 = some [.nilFunc] := by kernel_rfl
theorem sc75 : scal Try.prog 75 = true := by kernel_rfl
theorem ni75 : (match Try.prog.underlying 75 with | some (.interface _) => false | none => false | _ => true) = true := by kernel_rfl
theorem z75 : zeroC Try.prog 75 = some [.nilFunc] := by kernel_rfl
theorem sc76 : scal Try.prog 76 = true := by kernel_rfl
theorem ni76 : (match Try.prog.underlying 76 with | some (.interface _) => false | none => false | _ => true) = true := by kernel_rfl
theorem z76 : zeroC Try.prog 76 = some [.nilFunc] := by kernel_rfl
theorem sc77 : scal Try.prog 77 = true := by kernel_rfl
theorem ni77 : (match Try.prog.underlying 77 with | some (.interface _) => false | none => false | _ => true) = true := by kernel_rfl
theorem z77 : zeroC Try.prog 77 = some [.nilFunc] := by kernel_rfl
theorem sc78 : scal Try.prog 78 = true := by kernel_rfl
theorem ni78 : (match Try.prog.underlying 78 with | some (.interface _) => false | none => false | _ => true) = true := by kernel_rfl
theorem z78 : zeroC Try.prog 78 = some [.nilFunc] := by kernel_rfl
theorem sc79 : scal Try.prog 79 = true := by kernel_rfl
theorem ni79 : (match Try.prog.underlying 79 with | some (.interface _) => false | none => false | _ => true) = true := by kernel_rfl
theorem z79 : zeroC Try.prog 79 = some [.nilFunc] := by kernel_rfl
theorem sc80 : scal Try.prog 80 = true := by kernel_rfl
theorem ni80 : (match Try.prog.underlying 80 with | some (.interface _) => false | none => false | _ => true) = true := by kernel_rfl
theorem z80 : zeroC Try.prog 80 = some [.nilFunc] := by kernel_rfl
theorem sc81 : scal Try.prog 81 = true := by kernel_rfl
theorem ni81 : (match Try.prog.underlying 81 with | some (.interface _) => false | none => false | _ => true) = true := by kernel_rfl
theorem z81 : zeroC Try.prog 81 = some [.nilFunc] := by kernel_rfl
theorem ag82 : aggS Try.prog 82 = some 7 := by kernel_rfl
theorem fo82_0 : fldO Try.prog 82 0 = some 0 := by kernel_rfl
theorem fs82_0 : fldS Try.prog 82 0 = some 0 := by kernel_rfl
theorem fo82_1 : fldO Try.prog 82 1 = some 1 := by kernel_rfl
theorem fs82_1 : fldS Try.prog 82 1 = some 1 := by kernel_rfl
theorem fo82_2 : fldO Try.prog 82 2 = some 2 := by kernel_rfl
theorem fs82_2 : fldS Try.prog 82 2 = some 2 := by kernel_rfl
theorem fo82_3 : fldO Try.prog 82 3 = some 3 := by kernel_rfl
theorem fs82_3 : fldS Try.prog 82 3 = some 3 := by kernel_rfl
theorem fo82_4 : fldO Try.prog 82 4 = some 4 := by kernel_rfl
theorem fs82_4 : fldS Try.prog 82 4 = some 4 := by kernel_rfl
theorem fo82_5 : fldO Try.prog 82 5 = some 5 := by kernel_rfl
theorem fs82_5 : fldS Try.prog 82 5 = some 5 := by kernel_rfl
theorem fo82_6 : fldO Try.prog 82 6 = some 6 := by kernel_rfl
theorem fs82_6 : fldS Try.prog 82 6 = some 6 := by kernel_rfl
theorem ni82 : (match Try.prog.underlying 82 with | some (.interface _) => false | none => false | _ => true) = true := by kernel_rfl
theorem z82 : zeroC Try.prog 82 = some [.int .i64 0, .int .i64 0, .string ⟨#[]⟩, .string ⟨#[]⟩, .int .i64 0, .string ⟨#[]⟩, .bool false] := by kernel_rfl
theorem ag83 : aggS Try.prog 83 = some 7 := by kernel_rfl
theorem fo83_0 : fldO Try.prog 83 0 = some 0 := by kernel_rfl
theorem fs83_0 : fldS Try.prog 83 0 = some 0 := by kernel_rfl
theorem fo83_1 : fldO Try.prog 83 1 = some 1 := by kernel_rfl
theorem fs83_1 : fldS Try.prog 83 1 = some 1 := by kernel_rfl
theorem fo83_2 : fldO Try.prog 83 2 = some 2 := by kernel_rfl
theorem fs83_2 : fldS Try.prog 83 2 = some 2 := by kernel_rfl
theorem fo83_3 : fldO Try.prog 83 3 = some 3 := by kernel_rfl
theorem fs83_3 : fldS Try.prog 83 3 = some 3 := by kernel_rfl
theorem fo83_4 : fldO Try.prog 83 4 = some 4 := by kernel_rfl
theorem fs83_4 : fldS Try.prog 83 4 = some 4 := by kernel_rfl
theorem fo83_5 : fldO Try.prog 83 5 = some 5 := by kernel_rfl
theorem fs83_5 : fldS Try.prog 83 5 = some 5 := by kernel_rfl
theorem fo83_6 : fldO Try.prog 83 6 = some 6 := by kernel_rfl
theorem fs83_6 : fldS Try.prog 83 6 = some 6 := by kernel_rfl
theorem ni83 : (match Try.prog.underlying 83 with | some (.interface _) => false | none => false | _ => true) = true := by kernel_rfl
theorem z83 : zeroC Try.prog 83 = some [.int .i64 0, .int .i64 0, .string ⟨#[]⟩, .string ⟨#[]⟩, .int .i64 0, .string ⟨#[]⟩, .bool false] := by kernel_rfl
theorem sc84 : scal Try.prog 84 = true := by kernel_rfl
theorem ni84 : (match Try.prog.underlying 84 with | some (.interface _) => false | none => false | _ => true) = true := by kernel_rfl
theorem z84 : zeroC Try.prog 84 = some [.nilFunc] := by kernel_rfl
theorem sc85 : scal Try.prog 85 = true := by kernel_rfl
theorem ni85 : (match Try.prog.underlying 85 with | some (.interface _) => false | none => false | _ => true) = true := by kernel_rfl
theorem z85 : zeroC Try.prog 85 = some [.nilFunc] := by kernel_rfl
theorem sc86 : scal Try.prog 86 = true := by kernel_rfl
theorem ni86 : (match Try.prog.underlying 86 with | some (.interface _) => false | none => false | _ => true) = true := by kernel_rfl
theorem z86 : zeroC Try.prog 86 = some [.nilFunc] := by kernel_rfl
theorem sc87 : scal Try.prog 87 = true := by kernel_rfl
theorem ni87 : (match Try.prog.underlying 87 with | some (.interface _) => false | none => false | _ => true) = true := by kernel_rfl
theorem z87 : zeroC Try.prog 87 = some [.nilFunc] := by kernel_rfl
theorem ag88 : aggS Try.prog 88 = some 6 := by kernel_rfl
theorem fo88_0 : fldO Try.prog 88 0 = some 0 := by kernel_rfl
theorem fa88_0 : fldA Try.prog 88 0 = some (0, 5) := by kernel_rfl
theorem fo88_1 : fldO Try.prog 88 1 = some 5 := by kernel_rfl
theorem fs88_1 : fldS Try.prog 88 1 = some 5 := by kernel_rfl
theorem ni88 : (match Try.prog.underlying 88 with | some (.interface _) => false | none => false | _ => true) = true := by kernel_rfl
theorem z88 : zeroC Try.prog 88 = some [.string ⟨#[]⟩, .string ⟨#[]⟩, .bool false, .int .i64 0, .int .i64 0, .int .i64 0] := by kernel_rfl
theorem ag89 : aggS Try.prog 89 = some 6 := by kernel_rfl
theorem fo89_0 : fldO Try.prog 89 0 = some 0 := by kernel_rfl
theorem fa89_0 : fldA Try.prog 89 0 = some (0, 5) := by kernel_rfl
theorem fo89_1 : fldO Try.prog 89 1 = some 5 := by kernel_rfl
theorem fs89_1 : fldS Try.prog 89 1 = some 5 := by kernel_rfl
theorem ni89 : (match Try.prog.underlying 89 with | some (.interface _) => false | none => false | _ => true) = true := by kernel_rfl
theorem z89 : zeroC Try.prog 89 = some [.string ⟨#[]⟩, .string ⟨#[]⟩, .bool false, .int .i64 0, .int .i64 0, .int .i64 0] := by kernel_rfl
theorem sc90 : scal Try.prog 90 = true := by kernel_rfl
theorem ni90 : (match Try.prog.underlying 90 with | some (.interface _) => false | none => false | _ => true) = true := by kernel_rfl
theorem z90 : zeroC Try.prog 90 = some [.nilFunc] := by kernel_rfl
theorem sc91 : scal Try.prog 91 = true := by kernel_rfl
theorem if91 : isIfc Try.prog 91 = true := by kernel_rfl
theorem z91 : zeroC Try.prog 91 = some [.nilIface] := by kernel_rfl
theorem sc92 : scal Try.prog 92 = true := by kernel_rfl
theorem if92 : isIfc Try.prog 92 = true := by kernel_rfl
theorem z92 : zeroC Try.prog 92 = some [.nilIface] := by kernel_rfl
theorem sc93 : scal Try.prog 93 = true := by kernel_rfl
theorem ni93 : (match Try.prog.underlying 93 with | some (.interface _) => false | none => false | _ => true) = true := by kernel_rfl
theorem z93 : zeroC Try.prog 93 = some [.nilFunc] := by kernel_rfl
theorem sc94 : scal Try.prog 94 = true := by kernel_rfl
theorem ip94 : isPtr Try.prog 94 = true := by kernel_rfl
theorem ni94 : (match Try.prog.underlying 94 with | some (.interface _) => false | none => false | _ => true) = true := by kernel_rfl
theorem z94 : zeroC Try.prog 94 = some [.pointer none] := by kernel_rfl
theorem sc95 : scal Try.prog 95 = true := by kernel_rfl
theorem ni95 : (match Try.prog.underlying 95 with | some (.interface _) => false | none => false | _ => true) = true := by kernel_rfl
theorem z95 : zeroC Try.prog 95 = some [.nilFunc] := by kernel_rfl
theorem sc96 : scal Try.prog 96 = true := by kernel_rfl
theorem ni96 : (match Try.prog.underlying 96 with | some (.interface _) => false | none => false | _ => true) = true := by kernel_rfl
theorem z96 : zeroC Try.prog 96 = some [.nilFunc] := by kernel_rfl
theorem sc97 : scal Try.prog 97 = true := by kernel_rfl
theorem ip97 : isPtr Try.prog 97 = true := by kernel_rfl
theorem ni97 : (match Try.prog.underlying 97 with | some (.interface _) => false | none => false | _ => true) = true := by kernel_rfl
theorem z97 : zeroC Try.prog 97 = some [.pointer none] := by kernel_rfl
theorem sc98 : scal Try.prog 98 = true := by kernel_rfl
theorem ni98 : (match Try.prog.underlying 98 with | some (.interface _) => false | none => false | _ => true) = true := by kernel_rfl
theorem z98 : zeroC Try.prog 98 = some [.nilFunc] := by kernel_rfl
theorem sc99 : scal Try.prog 99 = true := by kernel_rfl
theorem ni99 : (match Try.prog.underlying 99 with | some (.interface _) => false | none => false | _ => true) = true := by kernel_rfl
theorem z99 : zeroC Try.prog 99 = some [.nilFunc] := by kernel_rfl
theorem sc100 : scal Try.prog 100 = true := by kernel_rfl
theorem ip100 : isPtr Try.prog 100 = true := by kernel_rfl
theorem ni100 : (match Try.prog.underlying 100 with | some (.interface _) => false | none => false | _ => true) = true := by kernel_rfl
theorem z100 : zeroC Try.prog 100 = some [.pointer none] := by kernel_rfl
theorem sc101 : scal Try.prog 101 = true := by kernel_rfl
theorem ni101 : (match Try.prog.underlying 101 with | some (.interface _) => false | none => false | _ => true) = true := by kernel_rfl
theorem z101 : zeroC Try.prog 101 = some [.nilFunc] := by kernel_rfl
theorem sc102 : scal Try.prog 102 = true := by kernel_rfl
theorem ni102 : (match Try.prog.underlying 102 with | some (.interface _) => false | none => false | _ => true) = true := by kernel_rfl
theorem z102 : zeroC Try.prog 102 = some [.nilFunc] := by kernel_rfl
theorem sc103 : scal Try.prog 103 = true := by kernel_rfl
theorem ip103 : isPtr Try.prog 103 = true := by kernel_rfl
theorem ni103 : (match Try.prog.underlying 103 with | some (.interface _) => false | none => false | _ => true) = true := by kernel_rfl
theorem z103 : zeroC Try.prog 103 = some [.pointer none] := by kernel_rfl
theorem sc104 : scal Try.prog 104 = true := by kernel_rfl
theorem ni104 : (match Try.prog.underlying 104 with | some (.interface _) => false | none => false | _ => true) = true := by kernel_rfl
theorem z104 : zeroC Try.prog 104 = some [.nilFunc] := by kernel_rfl
theorem sc105 : scal Try.prog 105 = true := by kernel_rfl
theorem ni105 : (match Try.prog.underlying 105 with | some (.interface _) => false | none => false | _ => true) = true := by kernel_rfl
theorem z105 : zeroC Try.prog 105 = some [.nilFunc] := by kernel_rfl
theorem sc106 : scal Try.prog 106 = true := by kernel_rfl
theorem sl106 : slcE Try.prog 106 = some (107, 1, 8) := by kernel_rfl
theorem is106 : isSlc Try.prog 106 = true := by kernel_rfl
theorem ni106 : (match Try.prog.underlying 106 with | some (.interface _) => false | none => false | _ => true) = true := by kernel_rfl
theorem z106 : zeroC Try.prog 106 = some [.slice none 0 0] := by kernel_rfl
theorem sc107 : scal Try.prog 107 = true := by kernel_rfl
theorem ip107 : isPtr Try.prog 107 = true := by kernel_rfl
theorem ni107 : (match Try.prog.underlying 107 with | some (.interface _) => false | none => false | _ => true) = true := by kernel_rfl
theorem z107 : zeroC Try.prog 107 = some [.pointer none] := by kernel_rfl
theorem sc108 : scal Try.prog 108 = true := by kernel_rfl
theorem ni108 : (match Try.prog.underlying 108 with | some (.interface _) => false | none => false | _ => true) = true := by kernel_rfl
theorem z108 : zeroC Try.prog 108 = some [.nilFunc] := by kernel_rfl
theorem sc109 : scal Try.prog 109 = true := by kernel_rfl
theorem ni109 : (match Try.prog.underlying 109 with | some (.interface _) => false | none => false | _ => true) = true := by kernel_rfl
theorem z109 : zeroC Try.prog 109 = some [.nilFunc] := by kernel_rfl
theorem sc110 : scal Try.prog 110 = true := by kernel_rfl
theorem sl110 : slcE Try.prog 110 = some (5, 1, 1) := by kernel_rfl
theorem is110 : isSlc Try.prog 110 = true := by kernel_rfl
theorem by110 : isBytes Try.prog 110 = some 5 := by kernel_rfl
theorem ni110 : (match Try.prog.underlying 110 with | some (.interface _) => false | none => false | _ => true) = true := by kernel_rfl
theorem z110 : zeroC Try.prog 110 = some [.slice none 0 0] := by kernel_rfl
theorem sc111 : scal Try.prog 111 = true := by kernel_rfl
theorem ik111 : intK Try.prog 111 = some .i32 := by kernel_rfl
theorem un111 : (Try.prog.underlying 111).isSome = true := by kernel_rfl
theorem ni111 : (match Try.prog.underlying 111 with | some (.interface _) => false | none => false | _ => true) = true := by kernel_rfl
theorem z111 : zeroC Try.prog 111 = some [.int .i32 0] := by kernel_rfl
theorem sc112 : scal Try.prog 112 = true := by kernel_rfl
theorem sl112 : slcE Try.prog 112 = some (115, 3, 40) := by kernel_rfl
theorem is112 : isSlc Try.prog 112 = true := by kernel_rfl
theorem ni112 : (match Try.prog.underlying 112 with | some (.interface _) => false | none => false | _ => true) = true := by kernel_rfl
theorem z112 : zeroC Try.prog 112 = some [.slice none 0 0] := by kernel_rfl
theorem sc113 : scal Try.prog 113 = true := by kernel_rfl
theorem ni113 : (match Try.prog.underlying 113 with | some (.interface _) => false | none => false | _ => true) = true := by kernel_rfl
theorem z113 : zeroC Try.prog 113 = some [.nilFunc] := by kernel_rfl
theorem ag114 : aggS Try.prog 114 = some 3 := by kernel_rfl
theorem fo114_0 : fldO Try.prog 114 0 = some 0 := by kernel_rfl
theorem fs114_0 : fldS Try.prog 114 0 = some 0 := by kernel_rfl
theorem fo114_1 : fldO Try.prog 114 1 = some 1 := by kernel_rfl
theorem fs114_1 : fldS Try.prog 114 1 = some 1 := by kernel_rfl
theorem fo114_2 : fldO Try.prog 114 2 = some 2 := by kernel_rfl
theorem fs114_2 : fldS Try.prog 114 2 = some 2 := by kernel_rfl
theorem ni114 : (match Try.prog.underlying 114 with | some (.interface _) => false | none => false | _ => true) = true := by kernel_rfl
theorem z114 : zeroC Try.prog 114 = some [.string ⟨#[]⟩, .string ⟨#[]⟩, .bool false] := by kernel_rfl
theorem ag115 : aggS Try.prog 115 = some 3 := by kernel_rfl
theorem fo115_0 : fldO Try.prog 115 0 = some 0 := by kernel_rfl
theorem fs115_0 : fldS Try.prog 115 0 = some 0 := by kernel_rfl
theorem fo115_1 : fldO Try.prog 115 1 = some 1 := by kernel_rfl
theorem fs115_1 : fldS Try.prog 115 1 = some 1 := by kernel_rfl
theorem fo115_2 : fldO Try.prog 115 2 = some 2 := by kernel_rfl
theorem fs115_2 : fldS Try.prog 115 2 = some 2 := by kernel_rfl
theorem ni115 : (match Try.prog.underlying 115 with | some (.interface _) => false | none => false | _ => true) = true := by kernel_rfl
theorem z115 : zeroC Try.prog 115 = some [.string ⟨#[]⟩, .string ⟨#[]⟩, .bool false] := by kernel_rfl
theorem sc116 : scal Try.prog 116 = true := by kernel_rfl
theorem ni116 : (match Try.prog.underlying 116 with | some (.interface _) => false | none => false | _ => true) = true := by kernel_rfl
theorem z116 : zeroC Try.prog 116 = some [.nilFunc] := by kernel_rfl
theorem sc117 : scal Try.prog 117 = true := by kernel_rfl
theorem ni117 : (match Try.prog.underlying 117 with | some (.interface _) => false | none => false | _ => true) = true := by kernel_rfl
theorem z117 : zeroC Try.prog 117 = some [.nilFunc] := by kernel_rfl
theorem sc118 : scal Try.prog 118 = true := by kernel_rfl
theorem ni118 : (match Try.prog.underlying 118 with | some (.interface _) => false | none => false | _ => true) = true := by kernel_rfl
theorem z118 : zeroC Try.prog 118 = some [.nilFunc] := by kernel_rfl
theorem sc120 : scal Try.prog 120 = true := by kernel_rfl
theorem ni120 : (match Try.prog.underlying 120 with | some (.interface _) => false | none => false | _ => true) = true := by kernel_rfl
theorem z120 : zeroC Try.prog 120 = some [.nilFunc] := by kernel_rfl
theorem sc121 : scal Try.prog 121 = true := by kernel_rfl
theorem if121 : isIfc Try.prog 121 = true := by kernel_rfl
theorem z121 : zeroC Try.prog 121 = some [.nilIface] := by kernel_rfl
theorem sc122 : scal Try.prog 122 = true := by kernel_rfl
theorem if122 : isIfc Try.prog 122 = true := by kernel_rfl
theorem z122 : zeroC Try.prog 122 = some [.nilIface] := by kernel_rfl
theorem sc123 : scal Try.prog 123 = true := by kernel_rfl
theorem ni123 : (match Try.prog.underlying 123 with | some (.interface _) => false | none => false | _ => true) = true := by kernel_rfl
theorem z123 : zeroC Try.prog 123 = some [.nilFunc] := by kernel_rfl
theorem sc124 : scal Try.prog 124 = true := by kernel_rfl
theorem ni124 : (match Try.prog.underlying 124 with | some (.interface _) => false | none => false | _ => true) = true := by kernel_rfl
theorem z124 : zeroC Try.prog 124 = some [.nilFunc] := by kernel_rfl
theorem sc125 : scal Try.prog 125 = true := by kernel_rfl
theorem ni125 : (match Try.prog.underlying 125 with | some (.interface _) => false | none => false | _ => true) = true := by kernel_rfl
theorem z125 : zeroC Try.prog 125 = some [.nilFunc] := by kernel_rfl
theorem sc126 : scal Try.prog 126 = true := by kernel_rfl
theorem ni126 : (match Try.prog.underlying 126 with | some (.interface _) => false | none => false | _ => true) = true := by kernel_rfl
theorem z126 : zeroC Try.prog 126 = some [.nilFunc] := by kernel_rfl
theorem sc127 : scal Try.prog 127 = true := by kernel_rfl
theorem ni127 : (match Try.prog.underlying 127 with | some (.interface _) => false | none => false | _ => true) = true := by kernel_rfl
theorem z127 : zeroC Try.prog 127 = some [.nilFunc] := by kernel_rfl
theorem sc128 : scal Try.prog 128 = true := by kernel_rfl
theorem ni128 : (match Try.prog.underlying 128 with | some (.interface _) => false | none => false | _ => true) = true := by kernel_rfl
theorem z128 : zeroC Try.prog 128 = some [.nilFunc] := by kernel_rfl
theorem sc129 : scal Try.prog 129 = true := by kernel_rfl
theorem ni129 : (match Try.prog.underlying 129 with | some (.interface _) => false | none => false | _ => true) = true := by kernel_rfl
theorem z129 : zeroC Try.prog 129 = some [.nilFunc] := by kernel_rfl
theorem sc130 : scal Try.prog 130 = true := by kernel_rfl
theorem st130 : isStr Try.prog 130 = true := by kernel_rfl
theorem ni130 : (match Try.prog.underlying 130 with | some (.interface _) => false | none => false | _ => true) = true := by kernel_rfl
theorem z130 : zeroC Try.prog 130 = some [.string ⟨#[]⟩] := by kernel_rfl
theorem sc131 : scal Try.prog 131 = true := by kernel_rfl
theorem ni131 : (match Try.prog.underlying 131 with | some (.interface _) => false | none => false | _ => true) = true := by kernel_rfl
theorem z131 : zeroC Try.prog 131 = some [.nilFunc] := by kernel_rfl
theorem sc132 : scal Try.prog 132 = true := by kernel_rfl
theorem sl132 : slcE Try.prog 132 = some (5, 1, 1) := by kernel_rfl
theorem is132 : isSlc Try.prog 132 = true := by kernel_rfl
theorem by132 : isBytes Try.prog 132 = some 5 := by kernel_rfl
theorem ni132 : (match Try.prog.underlying 132 with | some (.interface _) => false | none => false | _ => true) = true := by kernel_rfl
theorem z132 : zeroC Try.prog 132 = some [.slice none 0 0] := by kernel_rfl
theorem sc133 : scal Try.prog 133 = true := by kernel_rfl
theorem ik133 : intK Try.prog 133 = some .i64 := by kernel_rfl
theorem un133 : (Try.prog.underlying 133).isSome = true := by kernel_rfl
theorem ni133 : (match Try.prog.underlying 133 with | some (.interface _) => false | none => false | _ => true) = true := by kernel_rfl
theorem z133 : zeroC Try.prog 133 = some [.int .i64 0] := by kernel_rfl
theorem sc134 : scal Try.prog 134 = true := by kernel_rfl
theorem st134 : isStr Try.prog 134 = true := by kernel_rfl
theorem ni134 : (match Try.prog.underlying 134 with | some (.interface _) => false | none => false | _ => true) = true := by kernel_rfl
theorem z134 : zeroC Try.prog 134 = some [.string ⟨#[]⟩] := by kernel_rfl
theorem sc135 : scal Try.prog 135 = true := by kernel_rfl
theorem ni135 : (match Try.prog.underlying 135 with | some (.interface _) => false | none => false | _ => true) = true := by kernel_rfl
theorem z135 : zeroC Try.prog 135 = some [.nilFunc] := by kernel_rfl
theorem sc136 : scal Try.prog 136 = true := by kernel_rfl
theorem ni136 : (match Try.prog.underlying 136 with | some (.interface _) => false | none => false | _ => true) = true := by kernel_rfl
theorem z136 : zeroC Try.prog 136 = some [.nilFunc] := by kernel_rfl
theorem sc137 : scal Try.prog 137 = true := by kernel_rfl
theorem ip137 : isPtr Try.prog 137 = true := by kernel_rfl
theorem ni137 : (match Try.prog.underlying 137 with | some (.interface _) => false | none => false | _ => true) = true := by kernel_rfl
theorem z137 : zeroC Try.prog 137 = some [.pointer none] := by kernel_rfl
theorem sc138 : scal Try.prog 138 = true := by kernel_rfl
theorem st138 : isStr Try.prog 138 = true := by kernel_rfl
theorem ni138 : (match Try.prog.underlying 138 with | some (.interface _) => false | none => false | _ => true) = true := by kernel_rfl
theorem z138 : zeroC Try.prog 138 = some [.string ⟨#[]⟩] := by kernel_rfl
theorem sc139 : scal Try.prog 139 = true := by kernel_rfl
theorem ni139 : (match Try.prog.underlying 139 with | some (.interface _) => false | none => false | _ => true) = true := by kernel_rfl
theorem z139 : zeroC Try.prog 139 = some [.nilFunc] := by kernel_rfl
theorem sc140 : scal Try.prog 140 = true := by kernel_rfl
theorem ik140 : intK Try.prog 140 = some .i32 := by kernel_rfl
theorem un140 : (Try.prog.underlying 140).isSome = true := by kernel_rfl
theorem ni140 : (match Try.prog.underlying 140 with | some (.interface _) => false | none => false | _ => true) = true := by kernel_rfl
theorem z140 : zeroC Try.prog 140 = some [.int .i32 0] := by kernel_rfl
theorem sc141 : scal Try.prog 141 = true := by kernel_rfl
theorem ni141 : (match Try.prog.underlying 141 with | some (.interface _) => false | none => false | _ => true) = true := by kernel_rfl
theorem z141 : zeroC Try.prog 141 = some [.nilFunc] := by kernel_rfl
theorem sc142 : scal Try.prog 142 = true := by kernel_rfl
theorem ik142 : intK Try.prog 142 = some .i32 := by kernel_rfl
theorem un142 : (Try.prog.underlying 142).isSome = true := by kernel_rfl
theorem ni142 : (match Try.prog.underlying 142 with | some (.interface _) => false | none => false | _ => true) = true := by kernel_rfl
theorem z142 : zeroC Try.prog 142 = some [.int .i32 0] := by kernel_rfl
theorem ag143 : aggS Try.prog 143 = some 13 := by kernel_rfl
theorem fo143_0 : fldO Try.prog 143 0 = some 0 := by kernel_rfl
theorem fs143_0 : fldS Try.prog 143 0 = some 0 := by kernel_rfl
theorem fo143_1 : fldO Try.prog 143 1 = some 1 := by kernel_rfl
theorem fs143_1 : fldS Try.prog 143 1 = some 1 := by kernel_rfl
theorem fo143_2 : fldO Try.prog 143 2 = some 2 := by kernel_rfl
theorem fs143_2 : fldS Try.prog 143 2 = some 2 := by kernel_rfl
theorem fo143_3 : fldO Try.prog 143 3 = some 3 := by kernel_rfl
theorem fs143_3 : fldS Try.prog 143 3 = some 3 := by kernel_rfl
theorem fo143_4 : fldO Try.prog 143 4 = some 4 := by kernel_rfl
theorem fs143_4 : fldS Try.prog 143 4 = some 4 := by kernel_rfl
theorem fo143_5 : fldO Try.prog 143 5 = some 5 := by kernel_rfl
theorem fs143_5 : fldS Try.prog 143 5 = some 5 := by kernel_rfl
theorem fo143_6 : fldO Try.prog 143 6 = some 6 := by kernel_rfl
theorem fs143_6 : fldS Try.prog 143 6 = some 6 := by kernel_rfl
theorem fo143_7 : fldO Try.prog 143 7 = some 7 := by kernel_rfl
theorem fs143_7 : fldS Try.prog 143 7 = some 7 := by kernel_rfl
theorem fo143_8 : fldO Try.prog 143 8 = some 8 := by kernel_rfl
theorem fs143_8 : fldS Try.prog 143 8 = some 8 := by kernel_rfl
theorem fo143_9 : fldO Try.prog 143 9 = some 9 := by kernel_rfl
theorem fs143_9 : fldS Try.prog 143 9 = some 9 := by kernel_rfl
theorem fo143_10 : fldO Try.prog 143 10 = some 10 := by kernel_rfl
theorem fs143_10 : fldS Try.prog 143 10 = some 10 := by kernel_rfl
theorem fo143_11 : fldO Try.prog 143 11 = some 11 := by kernel_rfl
theorem fs143_11 : fldS Try.prog 143 11 = some 11 := by kernel_rfl
theorem fo143_12 : fldO Try.prog 143 12 = some 12 := by kernel_rfl
theorem fs143_12 : fldS Try.prog 143 12 = some 12 := by kernel_rfl
theorem ni143 : (match Try.prog.underlying 143 with | some (.interface _) => false | none => false | _ => true) = true := by kernel_rfl
theorem z143 : zeroC Try.prog 143 = some [.slice none 0 0, .slice none 0 0, .int .i64 0, .int .i64 0, .int .i32 0, .int .i32 0, .bool false, .bool false, .bool false, .int .i64 0, .int .i64 0, .int .i64 0, .int .i64 0] := by kernel_rfl
theorem ag144 : aggS Try.prog 144 = some 13 := by kernel_rfl
theorem fo144_0 : fldO Try.prog 144 0 = some 0 := by kernel_rfl
theorem fs144_0 : fldS Try.prog 144 0 = some 0 := by kernel_rfl
theorem fo144_1 : fldO Try.prog 144 1 = some 1 := by kernel_rfl
theorem fs144_1 : fldS Try.prog 144 1 = some 1 := by kernel_rfl
theorem fo144_2 : fldO Try.prog 144 2 = some 2 := by kernel_rfl
theorem fs144_2 : fldS Try.prog 144 2 = some 2 := by kernel_rfl
theorem fo144_3 : fldO Try.prog 144 3 = some 3 := by kernel_rfl
theorem fs144_3 : fldS Try.prog 144 3 = some 3 := by kernel_rfl
theorem fo144_4 : fldO Try.prog 144 4 = some 4 := by kernel_rfl
theorem fs144_4 : fldS Try.prog 144 4 = some 4 := by kernel_rfl
theorem fo144_5 : fldO Try.prog 144 5 = some 5 := by kernel_rfl
theorem fs144_5 : fldS Try.prog 144 5 = some 5 := by kernel_rfl
theorem fo144_6 : fldO Try.prog 144 6 = some 6 := by kernel_rfl
theorem fs144_6 : fldS Try.prog 144 6 = some 6 := by kernel_rfl
theorem fo144_7 : fldO Try.prog 144 7 = some 7 := by kernel_rfl
theorem fs144_7 : fldS Try.prog 144 7 = some 7 := by kernel_rfl
theorem fo144_8 : fldO Try.prog 144 8 = some 8 := by kernel_rfl
theorem fs144_8 : fldS Try.prog 144 8 = some 8 := by kernel_rfl
theorem fo144_9 : fldO Try.prog 144 9 = some 9 := by kernel_rfl
theorem fs144_9 : fldS Try.prog 144 9 = some 9 := by kernel_rfl
theorem fo144_10 : fldO Try.prog 144 10 = some 10 := by kernel_rfl
theorem fs144_10 : fldS Try.prog 144 10 = some 10 := by kernel_rfl
theorem fo144_11 : fldO Try.prog 144 11 = some 11 := by kernel_rfl
theorem fs144_11 : fldS Try.prog 144 11 = some 11 := by kernel_rfl
theorem fo144_12 : fldO Try.prog 144 12 = some 12 := by kernel_rfl
theorem fs144_12 : fldS Try.prog 144 12 = some 12 := by kernel_rfl
theorem ni144 : (match Try.prog.underlying 144 with | some (.interface _) => false | none => false | _ => true) = true := by kernel_rfl
theorem z144 : zeroC Try.prog 144 = some [.slice none 0 0, .slice none 0 0, .int .i64 0, .int .i64 0, .int .i32 0, .int .i32 0, .bool false, .bool false, .bool false, .int .i64 0, .int .i64 0, .int .i64 0, .int .i64 0] := by kernel_rfl
theorem ag145 : aggS Try.prog 145 = some 6 := by kernel_rfl
theorem fo145_0 : fldO Try.prog 145 0 = some 0 := by kernel_rfl
theorem fs145_0 : fldS Try.prog 145 0 = some 0 := by kernel_rfl
theorem fo145_1 : fldO Try.prog 145 1 = some 1 := by kernel_rfl
theorem fs145_1 : fldS Try.prog 145 1 = some 1 := by kernel_rfl
theorem fo145_2 : fldO Try.prog 145 2 = some 2 := by kernel_rfl
theorem fs145_2 : fldS Try.prog 145 2 = some 2 := by kernel_rfl
theorem fo145_3 : fldO Try.prog 145 3 = some 3 := by kernel_rfl
theorem fs145_3 : fldS Try.prog 145 3 = some 3 := by kernel_rfl
theorem fo145_4 : fldO Try.prog 145 4 = some 4 := by kernel_rfl
theorem fs145_4 : fldS Try.prog 145 4 = some 4 := by kernel_rfl
theorem fo145_5 : fldO Try.prog 145 5 = some 5 := by kernel_rfl
theorem fs145_5 : fldS Try.prog 145 5 = some 5 := by kernel_rfl
theorem ni145 : (match Try.prog.underlying 145 with | some (.interface _) => false | none => false | _ => true) = true := by kernel_rfl
theorem z145 : zeroC Try.prog 145 = some [.slice none 0 0, .slice none 0 0, .int .i64 0, .bool false, .bool false, .bool false] := by kernel_rfl
theorem ag146 : aggS Try.prog 146 = some 6 := by kernel_rfl
theorem fo146_0 : fldO Try.prog 146 0 = some 0 := by kernel_rfl
theorem fs146_0 : fldS Try.prog 146 0 = some 0 := by kernel_rfl
theorem fo146_1 : fldO Try.prog 146 1 = some 1 := by kernel_rfl
theorem fs146_1 : fldS Try.prog 146 1 = some 1 := by kernel_rfl
theorem fo146_2 : fldO Try.prog 146 2 = some 2 := by kernel_rfl
theorem fs146_2 : fldS Try.prog 146 2 = some 2 := by kernel_rfl
theorem fo146_3 : fldO Try.prog 146 3 = some 3 := by kernel_rfl
theorem fs146_3 : fldS Try.prog 146 3 = some 3 := by kernel_rfl
theorem fo146_4 : fldO Try.prog 146 4 = some 4 := by kernel_rfl
theorem fs146_4 : fldS Try.prog 146 4 = some 4 := by kernel_rfl
theorem fo146_5 : fldO Try.prog 146 5 = some 5 := by kernel_rfl
theorem fs146_5 : fldS Try.prog 146 5 = some 5 := by kernel_rfl
theorem ni146 : (match Try.prog.underlying 146 with | some (.interface _) => false | none => false | _ => true) = true := by kernel_rfl
theorem z146 : zeroC Try.prog 146 = some [.slice none 0 0, .slice none 0 0, .int .i64 0, .bool false, .bool false, .bool false] := by kernel_rfl
theorem ag147 : aggS Try.prog 147 = some 3 := by kernel_rfl
theorem fo147_0 : fldO Try.prog 147 0 = some 0 := by kernel_rfl
theorem fs147_0 : fldS Try.prog 147 0 = some 0 := by kernel_rfl
theorem fo147_1 : fldO Try.prog 147 1 = some 1 := by kernel_rfl
theorem fs147_1 : fldS Try.prog 147 1 = some 1 := by kernel_rfl
theorem fo147_2 : fldO Try.prog 147 2 = some 2 := by kernel_rfl
theorem fs147_2 : fldS Try.prog 147 2 = some 2 := by kernel_rfl
theorem ni147 : (match Try.prog.underlying 147 with | some (.interface _) => false | none => false | _ => true) = true := by kernel_rfl
theorem z147 : zeroC Try.prog 147 = some [.slice none 0 0, .slice none 0 0, .bool false] := by kernel_rfl
theorem ag148 : aggS Try.prog 148 = some 3 := by kernel_rfl
theorem fo148_0 : fldO Try.prog 148 0 = some 0 := by kernel_rfl
theorem fs148_0 : fldS Try.prog 148 0 = some 0 := by kernel_rfl
theorem fo148_1 : fldO Try.prog 148 1 = some 1 := by kernel_rfl
theorem fs148_1 : fldS Try.prog 148 1 = some 1 := by kernel_rfl
theorem fo148_2 : fldO Try.prog 148 2 = some 2 := by kernel_rfl
theorem fs148_2 : fldS Try.prog 148 2 = some 2 := by kernel_rfl
theorem ni148 : (match Try.prog.underlying 148 with | some (.interface _) => false | none => false | _ => true) = true := by kernel_rfl
theorem z148 : zeroC Try.prog 148 = some [.slice none 0 0, .slice none 0 0, .bool false] := by kernel_rfl
theorem sc149 : scal Try.prog 149 = true := by kernel_rfl
theorem ni149 : (match Try.prog.underlying 149 with | some (.interface _) => false | none => false | _ => true) = true := by kernel_rfl
theorem z149 : zeroC Try.prog 149 = some [.map none] := by kernel_rfl
theorem sc151 : scal Try.prog 151 = true := by kernel_rfl
theorem ni151 : (match Try.prog.underlying 151 with | some (.interface _) => false | none => false | _ => true) = true := by kernel_rfl
theorem z151 : zeroC Try.prog 151 = some [.nilFunc] := by kernel_rfl
theorem sc152 : scal Try.prog 152 = true := by kernel_rfl
theorem sl152 : slcE Try.prog 152 = some (156, 1, 8) := by kernel_rfl
theorem is152 : isSlc Try.prog 152 = true := by kernel_rfl
theorem ni152 : (match Try.prog.underlying 152 with | some (.interface _) => false | none => false | _ => true) = true := by kernel_rfl
theorem z152 : zeroC Try.prog 152 = some [.slice none 0 0] := by kernel_rfl
theorem sc153 : scal Try.prog 153 = true := by kernel_rfl
theorem sl153 : slcE Try.prog 153 = some (200, 1, 8) := by kernel_rfl
theorem is153 : isSlc Try.prog 153 = true := by kernel_rfl
theorem ni153 : (match Try.prog.underlying 153 with | some (.interface _) => false | none => false | _ => true) = true := by kernel_rfl
theorem z153 : zeroC Try.prog 153 = some [.slice none 0 0] := by kernel_rfl
theorem ag154 : aggS Try.prog 154 = some 3 := by kernel_rfl
theorem fo154_0 : fldO Try.prog 154 0 = some 0 := by kernel_rfl
theorem fs154_0 : fldS Try.prog 154 0 = some 0 := by kernel_rfl
theorem fo154_1 : fldO Try.prog 154 1 = some 1 := by kernel_rfl
theorem fs154_1 : fldS Try.prog 154 1 = some 1 := by kernel_rfl
theorem fo154_2 : fldO Try.prog 154 2 = some 2 := by kernel_rfl
theorem fs154_2 : fldS Try.prog 154 2 = some 2 := by kernel_rfl
theorem ni154 : (match Try.prog.underlying 154 with | some (.interface _) => false | none => false | _ => true) = true := by kernel_rfl
theorem z154 : zeroC Try.prog 154 = some [.slice none 0 0, .slice none 0 0, .slice none 0 0] := by kernel_rfl
theorem ag155 : aggS Try.prog 155 = some 3 := by kernel_rfl
theorem fo155_0 : fldO Try.prog 155 0 = some 0 := by kernel_rfl
theorem fs155_0 : fldS Try.prog 155 0 = some 0 := by kernel_rfl
theorem fo155_1 : fldO Try.prog 155 1 = some 1 := by kernel_rfl
theorem fs155_1 : fldS Try.prog 155 1 = some 1 := by kernel_rfl
theorem fo155_2 : fldO Try.prog 155 2 = some 2 := by kernel_rfl
theorem fs155_2 : fldS Try.prog 155 2 = some 2 := by kernel_rfl
theorem ni155 : (match Try.prog.underlying 155 with | some (.interface _) => false | none => false | _ => true) = true := by kernel_rfl
theorem z155 : zeroC Try.prog 155 = some [.slice none 0 0, .slice none 0 0, .slice none 0 0] := by kernel_rfl
theorem sc156 : scal Try.prog 156 = true := by kernel_rfl
theorem ip156 : isPtr Try.prog 156 = true := by kernel_rfl
theorem ni156 : (match Try.prog.underlying 156 with | some (.interface _) => false | none => false | _ => true) = true := by kernel_rfl
theorem z156 : zeroC Try.prog 156 = some [.pointer none] := by kernel_rfl
theorem sc157 : scal Try.prog 157 = true := by kernel_rfl
theorem ni157 : (match Try.prog.underlying 157 with | some (.interface _) => false | none => false | _ => true) = true := by kernel_rfl
theorem z157 : zeroC Try.prog 157 = some [.nilFunc] := by kernel_rfl
theorem sc158 : scal Try.prog 158 = true := by kernel_rfl
theorem ni158 : (match Try.prog.underlying 158 with | some (.interface _) => false | none => false | _ => true) = true := by kernel_rfl
theorem z158 : zeroC Try.prog 158 = some [.nilFunc] := by kernel_rfl
theorem ag159 : aggS Try.prog 159 = some 3 := by kernel_rfl
theorem fo159_0 : fldO Try.prog 159 0 = some 0 := by kernel_rfl
theorem fs159_0 : fldS Try.prog 159 0 = some 0 := by kernel_rfl
theorem fo159_1 : fldO Try.prog 159 1 = some 1 := by kernel_rfl
theorem fs159_1 : fldS Try.prog 159 1 = some 1 := by kernel_rfl
theorem fo159_2 : fldO Try.prog 159 2 = some 2 := by kernel_rfl
theorem fs159_2 : fldS Try.prog 159 2 = some 2 := by kernel_rfl
theorem ni159 : (match Try.prog.underlying 159 with | some (.interface _) => false | none => false | _ => true) = true := by kernel_rfl
theorem z159 : zeroC Try.prog 159 = some [.int .i32 0, .slice none 0 0, .slice none 0 0] := by kernel_rfl
theorem ag160 : aggS Try.prog 160 = some 3 := by kernel_rfl
theorem fo160_0 : fldO Try.prog 160 0 = some 0 := by kernel_rfl
theorem fs160_0 : fldS Try.prog 160 0 = some 0 := by kernel_rfl
theorem fo160_1 : fldO Try.prog 160 1 = some 1 := by kernel_rfl
theorem fs160_1 : fldS Try.prog 160 1 = some 1 := by kernel_rfl
theorem fo160_2 : fldO Try.prog 160 2 = some 2 := by kernel_rfl
theorem fs160_2 : fldS Try.prog 160 2 = some 2 := by kernel_rfl
theorem ni160 : (match Try.prog.underlying 160 with | some (.interface _) => false | none => false | _ => true) = true := by kernel_rfl
theorem z160 : zeroC Try.prog 160 = some [.int .i32 0, .slice none 0 0, .slice none 0 0] := by kernel_rfl
theorem sc161 : scal Try.prog 161 = true := by kernel_rfl
theorem ip161 : isPtr Try.prog 161 = true := by kernel_rfl
theorem ni161 : (match Try.prog.underlying 161 with | some (.interface _) => false | none => false | _ => true) = true := by kernel_rfl
theorem z161 : zeroC Try.prog 161 = some [.pointer none] := by kernel_rfl
theorem sc162 : scal Try.prog 162 = true := by kernel_rfl
theorem ni162 : (match Try.prog.underlying 162 with | some (.interface _) => false | none => false | _ => true) = true := by kernel_rfl
theorem z162 : zeroC Try.prog 162 = some [.nilFunc] := by kernel_rfl
theorem ag163 : aggS Try.prog 163 = some 1 := by kernel_rfl
theorem fo163_0 : fldO Try.prog 163 0 = some 0 := by kernel_rfl
theorem fs163_0 : fldS Try.prog 163 0 = some 0 := by kernel_rfl
theorem ni163 : (match Try.prog.underlying 163 with | some (.interface _) => false | none => false | _ => true) = true := by kernel_rfl
theorem z163 : zeroC Try.prog 163 = some [.slice none 0 0] := by kernel_rfl
theorem ag164 : aggS Try.prog 164 = some 1 := by kernel_rfl
theorem fo164_0 : fldO Try.prog 164 0 = some 0 := by kernel_rfl
theorem fs164_0 : fldS Try.prog 164 0 = some 0 := by kernel_rfl
theorem ni164 : (match Try.prog.underlying 164 with | some (.interface _) => false | none => false | _ => true) = true := by kernel_rfl
theorem z164 : zeroC Try.prog 164 = some [.slice none 0 0] := by kernel_rfl
theorem sc165 : scal Try.prog 165 = true := by kernel_rfl
theorem ni165 : (match Try.prog.underlying 165 with | some (.interface _) => false | none => false | _ => true) = true := by kernel_rfl
theorem z165 : zeroC Try.prog 165 = some [.nilFunc] := by kernel_rfl
theorem sc166 : scal Try.prog 166 = true := by kernel_rfl
theorem ni166 : (match Try.prog.underlying 166 with | some (.interface _) => false | none => false | _ => true) = true := by kernel_rfl
theorem z166 : zeroC Try.prog 166 = some [.nilFunc] := by kernel_rfl
theorem sc167 : scal Try.prog 167 = true := by kernel_rfl
theorem ni167 : (match Try.prog.underlying 167 with | some (.interface _) => false | none => false | _ => true) = true := by kernel_rfl
theorem z167 : zeroC Try.prog 167 = some [.nilFunc] := by kernel_rfl
theorem sc168 : scal Try.prog 168 = true := by kernel_rfl
theorem ip168 : isPtr Try.prog 168 = true := by kernel_rfl
theorem ni168 : (match Try.prog.underlying 168 with | some (.interface _) => false | none => false | _ => true) = true := by kernel_rfl
theorem z168 : zeroC Try.prog 168 = some [.pointer none] := by kernel_rfl
theorem sc169 : scal Try.prog 169 = true := by kernel_rfl
theorem if169 : isIfc Try.prog 169 = true := by kernel_rfl
theorem z169 : zeroC Try.prog 169 = some [.nilIface] := by kernel_rfl
theorem sc170 : scal Try.prog 170 = true := by kernel_rfl
theorem if170 : isIfc Try.prog 170 = true := by kernel_rfl
theorem z170 : zeroC Try.prog 170 = some [.nilIface] := by kernel_rfl
theorem ag171 : aggS Try.prog 171 = some 2 := by kernel_rfl
theorem fo171_0 : fldO Try.prog 171 0 = some 0 := by kernel_rfl
theorem fs171_0 : fldS Try.prog 171 0 = some 0 := by kernel_rfl
theorem fo171_1 : fldO Try.prog 171 1 = some 1 := by kernel_rfl
theorem fs171_1 : fldS Try.prog 171 1 = some 1 := by kernel_rfl
theorem ni171 : (match Try.prog.underlying 171 with | some (.interface _) => false | none => false | _ => true) = true := by kernel_rfl
theorem z171 : zeroC Try.prog 171 = some [.nilIface, .nilIface] := by kernel_rfl
theorem ag172 : aggS Try.prog 172 = some 2 := by kernel_rfl
theorem fo172_0 : fldO Try.prog 172 0 = some 0 := by kernel_rfl
theorem fs172_0 : fldS Try.prog 172 0 = some 0 := by kernel_rfl
theorem fo172_1 : fldO Try.prog 172 1 = some 1 := by kernel_rfl
theorem fs172_1 : fldS Try.prog 172 1 = some 1 := by kernel_rfl
theorem ni172 : (match Try.prog.underlying 172 with | some (.interface _) => false | none => false | _ => true) = true := by kernel_rfl
theorem z172 : zeroC Try.prog 172 = some [.nilIface, .nilIface] := by kernel_rfl
theorem ag173 : aggS Try.prog 173 = some 3 := by kernel_rfl
theorem fo173_0 : fldO Try.prog 173 0 = some 0 := by kernel_rfl
theorem fa173_0 : fldA Try.prog 173 0 = some (0, 2) := by kernel_rfl
theorem fo173_1 : fldO Try.prog 173 1 = some 2 := by kernel_rfl
theorem fs173_1 : fldS Try.prog 173 1 = some 2 := by kernel_rfl
theorem ni173 : (match Try.prog.underlying 173 with | some (.interface _) => false | none => false | _ => true) = true := by kernel_rfl
theorem z173 : zeroC Try.prog 173 = some [.nilIface, .nilIface, .nilIface] := by kernel_rfl
theorem ag174 : aggS Try.prog 174 = some 3 := by kernel_rfl
theorem fo174_0 : fldO Try.prog 174 0 = some 0 := by kernel_rfl
theorem fa174_0 : fldA Try.prog 174 0 = some (0, 2) := by kernel_rfl
theorem fo174_1 : fldO Try.prog 174 1 = some 2 := by kernel_rfl
theorem fs174_1 : fldS Try.prog 174 1 = some 2 := by kernel_rfl
theorem ni174 : (match Try.prog.underlying 174 with | some (.interface _) => false | none => false | _ => true) = true := by kernel_rfl
theorem z174 : zeroC Try.prog 174 = some [.nilIface, .nilIface, .nilIface] := by kernel_rfl
theorem sc175 : scal Try.prog 175 = true := by kernel_rfl
theorem ik175 : intK Try.prog 175 = some .i64 := by kernel_rfl
theorem un175 : (Try.prog.underlying 175).isSome = true := by kernel_rfl
theorem ni175 : (match Try.prog.underlying 175 with | some (.interface _) => false | none => false | _ => true) = true := by kernel_rfl
theorem z175 : zeroC Try.prog 175 = some [.int .i64 0] := by kernel_rfl
theorem ag176 : aggS Try.prog 176 = some 8 := by kernel_rfl
theorem fo176_0 : fldO Try.prog 176 0 = some 0 := by kernel_rfl
theorem fa176_0 : fldA Try.prog 176 0 = some (0, 3) := by kernel_rfl
theorem fo176_1 : fldO Try.prog 176 1 = some 3 := by kernel_rfl
theorem fs176_1 : fldS Try.prog 176 1 = some 3 := by kernel_rfl
theorem fo176_2 : fldO Try.prog 176 2 = some 4 := by kernel_rfl
theorem fs176_2 : fldS Try.prog 176 2 = some 4 := by kernel_rfl
theorem fo176_3 : fldO Try.prog 176 3 = some 5 := by kernel_rfl
theorem fs176_3 : fldS Try.prog 176 3 = some 5 := by kernel_rfl
theorem fo176_4 : fldO Try.prog 176 4 = some 6 := by kernel_rfl
theorem fs176_4 : fldS Try.prog 176 4 = some 6 := by kernel_rfl
theorem fo176_5 : fldO Try.prog 176 5 = some 7 := by kernel_rfl
theorem fs176_5 : fldS Try.prog 176 5 = some 7 := by kernel_rfl
theorem ni176 : (match Try.prog.underlying 176 with | some (.interface _) => false | none => false | _ => true) = true := by kernel_rfl
theorem z176 : zeroC Try.prog 176 = some [.nilIface, .nilIface, .nilIface, .nilIface, .pointer none, .pointer none, .pointer none, .int .i64 0] := by kernel_rfl
theorem ag177 : aggS Try.prog 177 = some 8 := by kernel_rfl
theorem fo177_0 : fldO Try.prog 177 0 = some 0 := by kernel_rfl
theorem fa177_0 : fldA Try.prog 177 0 = some (0, 3) := by kernel_rfl
theorem fo177_1 : fldO Try.prog 177 1 = some 3 := by kernel_rfl
theorem fs177_1 : fldS Try.prog 177 1 = some 3 := by kernel_rfl
theorem fo177_2 : fldO Try.prog 177 2 = some 4 := by kernel_rfl
theorem fs177_2 : fldS Try.prog 177 2 = some 4 := by kernel_rfl
theorem fo177_3 : fldO Try.prog 177 3 = some 5 := by kernel_rfl
theorem fs177_3 : fldS Try.prog 177 3 = some 5 := by kernel_rfl
theorem fo177_4 : fldO Try.prog 177 4 = some 6 := by kernel_rfl
theorem fs177_4 : fldS Try.prog 177 4 = some 6 := by kernel_rfl
theorem fo177_5 : fldO Try.prog 177 5 = some 7 := by kernel_rfl
theorem fs177_5 : fldS Try.prog 177 5 = some 7 := by kernel_rfl
theorem ni177 : (match Try.prog.underlying 177 with | some (.interface _) => false | none => false | _ => true) = true := by kernel_rfl
theorem z177 : zeroC Try.prog 177 = some [.nilIface, .nilIface, .nilIface, .nilIface, .pointer none, .pointer none, .pointer none, .int .i64 0] := by kernel_rfl
theorem sc178 : scal Try.prog 178 = true := by kernel_rfl
theorem ip178 : isPtr Try.prog 178 = true := by kernel_rfl
theorem ni178 : (match Try.prog.underlying 178 with | some (.interface _) => false | none => false | _ => true) = true := by kernel_rfl
theorem z178 : zeroC Try.prog 178 = some [.pointer none] := by kernel_rfl
theorem ag179 : aggS Try.prog 179 = some 3 := by kernel_rfl
theorem fo179_0 : fldO Try.prog 179 0 = some 0 := by kernel_rfl
theorem fs179_0 : fldS Try.prog 179 0 = some 0 := by kernel_rfl
theorem fo179_1 : fldO Try.prog 179 1 = some 1 := by kernel_rfl
theorem fs179_1 : fldS Try.prog 179 1 = some 1 := by kernel_rfl
theorem fo179_2 : fldO Try.prog 179 2 = some 2 := by kernel_rfl
theorem fs179_2 : fldS Try.prog 179 2 = some 2 := by kernel_rfl
theorem ni179 : (match Try.prog.underlying 179 with | some (.interface _) => false | none => false | _ => true) = true := by kernel_rfl
theorem z179 : zeroC Try.prog 179 = some [.pointer none, .int .i64 0, .pointer none] := by kernel_rfl
theorem ag180 : aggS Try.prog 180 = some 3 := by kernel_rfl
theorem fo180_0 : fldO Try.prog 180 0 = some 0 := by kernel_rfl
theorem fs180_0 : fldS Try.prog 180 0 = some 0 := by kernel_rfl
theorem fo180_1 : fldO Try.prog 180 1 = some 1 := by kernel_rfl
theorem fs180_1 : fldS Try.prog 180 1 = some 1 := by kernel_rfl
theorem fo180_2 : fldO Try.prog 180 2 = some 2 := by kernel_rfl
theorem fs180_2 : fldS Try.prog 180 2 = some 2 := by kernel_rfl
theorem ni180 : (match Try.prog.underlying 180 with | some (.interface _) => false | none => false | _ => true) = true := by kernel_rfl
theorem z180 : zeroC Try.prog 180 = some [.pointer none, .int .i64 0, .pointer none] := by kernel_rfl
theorem sc181 : scal Try.prog 181 = true := by kernel_rfl
theorem ni181 : (match Try.prog.underlying 181 with | some (.interface _) => false | none => false | _ => true) = true := by kernel_rfl
theorem z181 : zeroC Try.prog 181 = some [.nilFunc] := by kernel_rfl
theorem sc182 : scal Try.prog 182 = true := by kernel_rfl
theorem ip182 : isPtr Try.prog 182 = true := by kernel_rfl
theorem ni182 : (match Try.prog.underlying 182 with | some (.interface _) => false | none => false | _ => true) = true := by kernel_rfl
theorem z182 : zeroC Try.prog 182 = some [.pointer none] := by kernel_rfl
theorem sc183 : scal Try.prog 183 = true := by kernel_rfl
theorem ni183 : (match Try.prog.underlying 183 with | some (.interface _) => false | none => false | _ => true) = true := by kernel_rfl
theorem z183 : zeroC Try.prog 183 = some [.nilFunc] := by kernel_rfl
theorem sc184 : scal Try.prog 184 = true := by kernel_rfl
theorem ni184 : (match Try.prog.underlying 184 with | some (.interface _) => false | none => false | _ => true) = true := by kernel_rfl
theorem z184 : zeroC Try.prog 184 = some [.nilFunc] := by kernel_rfl
theorem sc185 : scal Try.prog 185 = true := by kernel_rfl
theorem ni185 : (match Try.prog.underlying 185 with | some (.interface _) => false | none => false | _ => true) = true := by kernel_rfl
theorem z185 : zeroC Try.prog 185 = some [.nilFunc] := by kernel_rfl
theorem sc186 : scal Try.prog 186 = true := by kernel_rfl
theorem ni186 : (match Try.prog.underlying 186 with | some (.interface _) => false | none => false | _ => true) = true := by kernel_rfl
theorem z186 : zeroC Try.prog 186 = some [.nilFunc] := by kernel_rfl
theorem sc187 : scal Try.prog 187 = true := by kernel_rfl
theorem ni187 : (match Try.prog.underlying 187 with | some (.interface _) => false | none => false | _ => true) = true := by kernel_rfl
theorem z187 : zeroC Try.prog 187 = some [.nilFunc] := by kernel_rfl
theorem sc188 : scal Try.prog 188 = true := by kernel_rfl
theorem sl188 : slcE Try.prog 188 = some (182, 1, 8) := by kernel_rfl
theorem is188 : isSlc Try.prog 188 = true := by kernel_rfl
theorem ni188 : (match Try.prog.underlying 188 with | some (.interface _) => false | none => false | _ => true) = true := by kernel_rfl
theorem z188 : zeroC Try.prog 188 = some [.slice none 0 0] := by kernel_rfl
theorem sc189 : scal Try.prog 189 = true := by kernel_rfl
theorem ni189 : (match Try.prog.underlying 189 with | some (.interface _) => false | none => false | _ => true) = true := by kernel_rfl
theorem z189 : zeroC Try.prog 189 = some [.nilFunc] := by kernel_rfl
theorem sc190 : scal Try.prog 190 = true := by kernel_rfl
theorem ni190 : (match Try.prog.underlying 190 with | some (.interface _) => false | none => false | _ => true) = true := by kernel_rfl
theorem z190 : zeroC Try.prog 190 = some [.nilFunc] := by kernel_rfl
theorem sc191 : scal Try.prog 191 = true := by kernel_rfl
theorem ni191 : (match Try.prog.underlying 191 with | some (.interface _) => false | none => false | _ => true) = true := by kernel_rfl
theorem z191 : zeroC Try.prog 191 = some [.nilFunc] := by kernel_rfl
theorem sc192 : scal Try.prog 192 = true := by kernel_rfl
theorem ni192 : (match Try.prog.underlying 192 with | some (.interface _) => false | none => false | _ => true) = true := by kernel_rfl
theorem z192 : zeroC Try.prog 192 = some [.nilFunc] := by kernel_rfl
theorem sc193 : scal Try.prog 193 = true := by kernel_rfl
theorem ni193 : (match Try.prog.underlying 193 with | some (.interface _) => false | none => false | _ => true) = true := by kernel_rfl
theorem z193 : zeroC Try.prog 193 = some [.nilFunc] := by kernel_rfl
theorem sc194 : scal Try.prog 194 = true := by kernel_rfl
theorem ni194 : (match Try.prog.underlying 194 with | some (.interface _) => false | none => false | _ => true) = true := by kernel_rfl
theorem z194 : zeroC Try.prog 194 = some [.nilFunc] := by kernel_rfl
theorem sc195 : scal Try.prog 195 = true := by kernel_rfl
theorem ni195 : (match Try.prog.underlying 195 with | some (.interface _) => false | none => false | _ => true) = true := by kernel_rfl
theorem z195 : zeroC Try.prog 195 = some [.nilFunc] := by kernel_rfl
theorem sc196 : scal Try.prog 196 = true := by kernel_rfl
theorem ik196 : intK Try.prog 196 = some .i32 := by kernel_rfl
theorem un196 : (Try.prog.underlying 196).isSome = true := by kernel_rfl
theorem ni196 : (match Try.prog.underlying 196 with | some (.interface _) => false | none => false | _ => true) = true := by kernel_rfl
theorem z196 : zeroC Try.prog 196 = some [.int .i32 0] := by kernel_rfl
theorem sc197 : scal Try.prog 197 = true := by kernel_rfl
theorem ik197 : intK Try.prog 197 = some .i32 := by kernel_rfl
theorem un197 : (Try.prog.underlying 197).isSome = true := by kernel_rfl
theorem ni197 : (match Try.prog.underlying 197 with | some (.interface _) => false | none => false | _ => true) = true := by kernel_rfl
theorem z197 : zeroC Try.prog 197 = some [.int .i32 0] := by kernel_rfl
theorem ag198 : aggS Try.prog 198 = some 5 := by kernel_rfl
theorem fo198_0 : fldO Try.prog 198 0 = some 0 := by kernel_rfl
theorem fs198_0 : fldS Try.prog 198 0 = some 0 := by kernel_rfl
theorem fo198_1 : fldO Try.prog 198 1 = some 1 := by kernel_rfl
theorem fs198_1 : fldS Try.prog 198 1 = some 1 := by kernel_rfl
theorem fo198_2 : fldO Try.prog 198 2 = some 2 := by kernel_rfl
theorem fs198_2 : fldS Try.prog 198 2 = some 2 := by kernel_rfl
theorem fo198_3 : fldO Try.prog 198 3 = some 3 := by kernel_rfl
theorem fs198_3 : fldS Try.prog 198 3 = some 3 := by kernel_rfl
theorem fo198_4 : fldO Try.prog 198 4 = some 4 := by kernel_rfl
theorem fs198_4 : fldS Try.prog 198 4 = some 4 := by kernel_rfl
theorem ni198 : (match Try.prog.underlying 198 with | some (.interface _) => false | none => false | _ => true) = true := by kernel_rfl
theorem z198 : zeroC Try.prog 198 = some [.int .i32 0, .int .i32 0, .slice none 0 0, .nilIface, .slice none 0 0] := by kernel_rfl
theorem ag199 : aggS Try.prog 199 = some 5 := by kernel_rfl
theorem fo199_0 : fldO Try.prog 199 0 = some 0 := by kernel_rfl
theorem fs199_0 : fldS Try.prog 199 0 = some 0 := by kernel_rfl
theorem fo199_1 : fldO Try.prog 199 1 = some 1 := by kernel_rfl
theorem fs199_1 : fldS Try.prog 199 1 = some 1 := by kernel_rfl
theorem fo199_2 : fldO Try.prog 199 2 = some 2 := by kernel_rfl
theorem fs199_2 : fldS Try.prog 199 2 = some 2 := by kernel_rfl
theorem fo199_3 : fldO Try.prog 199 3 = some 3 := by kernel_rfl
theorem fs199_3 : fldS Try.prog 199 3 = some 3 := by kernel_rfl
theorem fo199_4 : fldO Try.prog 199 4 = some 4 := by kernel_rfl
theorem fs199_4 : fldS Try.prog 199 4 = some 4 := by kernel_rfl
theorem ni199 : (match Try.prog.underlying 199 with | some (.interface _) => false | none => false | _ => true) = true := by kernel_rfl
theorem z199 : zeroC Try.prog 199 = some [.int .i32 0, .int .i32 0, .slice none 0 0, .nilIface, .slice none 0 0] := by kernel_rfl
theorem sc200 : scal Try.prog 200 = true := by kernel_rfl
theorem ip200 : isPtr Try.prog 200 = true := by kernel_rfl
theorem ni200 : (match Try.prog.underlying 200 with | some (.interface _) => false | none => false | _ => true) = true := by kernel_rfl
theorem z200 : zeroC Try.prog 200 = some [.pointer none] := by kernel_rfl
theorem sc201 : scal Try.prog 201 = true := by kernel_rfl
theorem ni201 : (match Try.prog.underlying 201 with | some (.interface _) => false | none => false | _ => true) = true := by kernel_rfl
theorem z201 : zeroC Try.prog 201 = some [.nilFunc] := by kernel_rfl
theorem sc202 : scal Try.prog 202 = true := by kernel_rfl
theorem ip202 : isPtr Try.prog 202 = true := by kernel_rfl
theorem ni202 : (match Try.prog.underlying 202 with | some (.interface _) => false | none => false | _ => true) = true := by kernel_rfl
theorem z202 : zeroC Try.prog 202 = some [.pointer none] := by kernel_rfl
theorem ag204 : aggS Try.prog 204 = some 1 := by kernel_rfl
theorem fo204_0 : fldO Try.prog 204 0 = some 0 := by kernel_rfl
theorem fs204_0 : fldS Try.prog 204 0 = some 0 := by kernel_rfl
theorem ni204 : (match Try.prog.underlying 204 with | some (.interface _) => false | none => false | _ => true) = true := by kernel_rfl
theorem z204 : zeroC Try.prog 204 = some [.nilIface] := by kernel_rfl
theorem ag205 : aggS Try.prog 205 = some 1 := by kernel_rfl
theorem fo205_0 : fldO Try.prog 205 0 = some 0 := by kernel_rfl
theorem fs205_0 : fldS Try.prog 205 0 = some 0 := by kernel_rfl
theorem ni205 : (match Try.prog.underlying 205 with | some (.interface _) => false | none => false | _ => true) = true := by kernel_rfl
theorem z205 : zeroC Try.prog 205 = some [.nilIface] := by kernel_rfl
theorem ag206 : aggS Try.prog 206 = some 1 := by kernel_rfl
theorem fo206_0 : fldO Try.prog 206 0 = some 0 := by kernel_rfl
theorem fs206_0 : fldS Try.prog 206 0 = some 0 := by kernel_rfl
theorem ni206 : (match Try.prog.underlying 206 with | some (.interface _) => false | none => false | _ => true) = true := by kernel_rfl
theorem z206 : zeroC Try.prog 206 = some [.pointer none] := by kernel_rfl
theorem ag207 : aggS Try.prog 207 = some 1 := by kernel_rfl
theorem fo207_0 : fldO Try.prog 207 0 = some 0 := by kernel_rfl
theorem fs207_0 : fldS Try.prog 207 0 = some 0 := by kernel_rfl
theorem ni207 : (match Try.prog.underlying 207 with | some (.interface _) => false | none => false | _ => true) = true := by kernel_rfl
theorem z207 : zeroC Try.prog 207 = some [.pointer none] := by kernel_rfl
theorem sc208 : scal Try.prog 208 = true := by kernel_rfl
theorem ni208 : (match Try.prog.underlying 208 with | some (.interface _) => false | none => false | _ => true) = true := by kernel_rfl
theorem z208 : zeroC Try.prog 208 = some [.nilFunc] := by kernel_rfl
theorem sc209 : scal Try.prog 209 = true := by kernel_rfl
theorem ni209 : (match Try.prog.underlying 209 with | some (.interface _) => false | none => false | _ => true) = true := by kernel_rfl
theorem z209 : zeroC Try.prog 209 = some [.nilFunc] := by kernel_rfl
theorem ag210 : aggS Try.prog 210 = some 0 := by kernel_rfl
theorem ni210 : (match Try.prog.underlying 210 with | some (.interface _) => false | none => false | _ => true) = true := by kernel_rfl
theorem z210 : zeroC Try.prog 210 = some [] := by kernel_rfl
theorem sc211 : scal Try.prog 211 = true := by kernel_rfl
theorem ip211 : isPtr Try.prog 211 = true := by kernel_rfl
theorem ni211 : (match Try.prog.underlying 211 with | some (.interface _) => false | none => false | _ => true) = true := by kernel_rfl
theorem z211 : zeroC Try.prog 211 = some [.pointer none] := by kernel_rfl
theorem ag213 : aggS Try.prog 213 = some 1 := by kernel_rfl
theorem fo213_0 : fldO Try.prog 213 0 = some 0 := by kernel_rfl
theorem fs213_0 : fldS Try.prog 213 0 = some 0 := by kernel_rfl
theorem ni213 : (match Try.prog.underlying 213 with | some (.interface _) => false | none => false | _ => true) = true := by kernel_rfl
theorem z213 : zeroC Try.prog 213 = some [.pointer none] := by kernel_rfl
theorem ag214 : aggS Try.prog 214 = some 1 := by kernel_rfl
theorem fo214_0 : fldO Try.prog 214 0 = some 0 := by kernel_rfl
theorem fs214_0 : fldS Try.prog 214 0 = some 0 := by kernel_rfl
theorem ni214 : (match Try.prog.underlying 214 with | some (.interface _) => false | none => false | _ => true) = true := by kernel_rfl
theorem z214 : zeroC Try.prog 214 = some [.pointer none] := by kernel_rfl
theorem sc216 : scal Try.prog 216 = true := by kernel_rfl
theorem ip216 : isPtr Try.prog 216 = true := by kernel_rfl
theorem ni216 : (match Try.prog.underlying 216 with | some (.interface _) => false | none => false | _ => true) = true := by kernel_rfl
theorem z216 : zeroC Try.prog 216 = some [.pointer none] := by kernel_rfl
theorem ag218 : aggS Try.prog 218 = some 1 := by kernel_rfl
theorem fo218_0 : fldO Try.prog 218 0 = some 0 := by kernel_rfl
theorem fs218_0 : fldS Try.prog 218 0 = some 0 := by kernel_rfl
theorem ni218 : (match Try.prog.underlying 218 with | some (.interface _) => false | none => false | _ => true) = true := by kernel_rfl
theorem z218 : zeroC Try.prog 218 = some [.pointer none] := by kernel_rfl
theorem ag219 : aggS Try.prog 219 = some 1 := by kernel_rfl
theorem fo219_0 : fldO Try.prog 219 0 = some 0 := by kernel_rfl
theorem fs219_0 : fldS Try.prog 219 0 = some 0 := by kernel_rfl
theorem ni219 : (match Try.prog.underlying 219 with | some (.interface _) => false | none => false | _ => true) = true := by kernel_rfl
theorem z219 : zeroC Try.prog 219 = some [.pointer none] := by kernel_rfl
theorem sc220 : scal Try.prog 220 = true := by kernel_rfl
theorem ip220 : isPtr Try.prog 220 = true := by kernel_rfl
theorem ni220 : (match Try.prog.underlying 220 with | some (.interface _) => false | none => false | _ => true) = true := by kernel_rfl
theorem z220 : zeroC Try.prog 220 = some [.pointer none] := by kernel_rfl
theorem ag221 : aggS Try.prog 221 = some 1 := by kernel_rfl
theorem fo221_0 : fldO Try.prog 221 0 = some 0 := by kernel_rfl
theorem fs221_0 : fldS Try.prog 221 0 = some 0 := by kernel_rfl
theorem ni221 : (match Try.prog.underlying 221 with | some (.interface _) => false | none => false | _ => true) = true := by kernel_rfl
theorem z221 : zeroC Try.prog 221 = some [.int .i64 0] := by kernel_rfl
theorem ag222 : aggS Try.prog 222 = some 1 := by kernel_rfl
theorem fo222_0 : fldO Try.prog 222 0 = some 0 := by kernel_rfl
theorem fs222_0 : fldS Try.prog 222 0 = some 0 := by kernel_rfl
theorem ni222 : (match Try.prog.underlying 222 with | some (.interface _) => false | none => false | _ => true) = true := by kernel_rfl
theorem z222 : zeroC Try.prog 222 = some [.int .i64 0] := by kernel_rfl
theorem sc223 : scal Try.prog 223 = true := by kernel_rfl
theorem ip223 : isPtr Try.prog 223 = true := by kernel_rfl
theorem ni223 : (match Try.prog.underlying 223 with | some (.interface _) => false | none => false | _ => true) = true := by kernel_rfl
theorem z223 : zeroC Try.prog 223 = some [.pointer none] := by kernel_rfl
theorem ag224 : aggS Try.prog 224 = some 1 := by kernel_rfl
theorem fo224_0 : fldO Try.prog 224 0 = some 0 := by kernel_rfl
theorem fs224_0 : fldS Try.prog 224 0 = some 0 := by kernel_rfl
theorem ni224 : (match Try.prog.underlying 224 with | some (.interface _) => false | none => false | _ => true) = true := by kernel_rfl
theorem z224 : zeroC Try.prog 224 = some [.int .i64 0] := by kernel_rfl
theorem ag225 : aggS Try.prog 225 = some 1 := by kernel_rfl
theorem fo225_0 : fldO Try.prog 225 0 = some 0 := by kernel_rfl
theorem fs225_0 : fldS Try.prog 225 0 = some 0 := by kernel_rfl
theorem ni225 : (match Try.prog.underlying 225 with | some (.interface _) => false | none => false | _ => true) = true := by kernel_rfl
theorem z225 : zeroC Try.prog 225 = some [.int .i64 0] := by kernel_rfl
theorem sc226 : scal Try.prog 226 = true := by kernel_rfl
theorem ip226 : isPtr Try.prog 226 = true := by kernel_rfl
theorem ni226 : (match Try.prog.underlying 226 with | some (.interface _) => false | none => false | _ => true) = true := by kernel_rfl
theorem z226 : zeroC Try.prog 226 = some [.pointer none] := by kernel_rfl
theorem ag227 : aggS Try.prog 227 = some 1 := by kernel_rfl
theorem fo227_0 : fldO Try.prog 227 0 = some 0 := by kernel_rfl
theorem fs227_0 : fldS Try.prog 227 0 = some 0 := by kernel_rfl
theorem ni227 : (match Try.prog.underlying 227 with | some (.interface _) => false | none => false | _ => true) = true := by kernel_rfl
theorem z227 : zeroC Try.prog 227 = some [.int .i64 0] := by kernel_rfl
theorem ag228 : aggS Try.prog 228 = some 1 := by kernel_rfl
theorem fo228_0 : fldO Try.prog 228 0 = some 0 := by kernel_rfl
theorem fs228_0 : fldS Try.prog 228 0 = some 0 := by kernel_rfl
theorem ni228 : (match Try.prog.underlying 228 with | some (.interface _) => false | none => false | _ => true) = true := by kernel_rfl
theorem z228 : zeroC Try.prog 228 = some [.int .i64 0] := by kernel_rfl
theorem sc229 : scal Try.prog 229 = true := by kernel_rfl
theorem ip229 : isPtr Try.prog 229 = true := by kernel_rfl
theorem ni229 : (match Try.prog.underlying 229 with | some (.interface _) => false | none => false | _ => true) = true := by kernel_rfl
theorem z229 : zeroC Try.prog 229 = some [.pointer none] := by kernel_rfl
theorem ag230 : aggS Try.prog 230 = some 1 := by kernel_rfl
theorem fo230_0 : fldO Try.prog 230 0 = some 0 := by kernel_rfl
theorem fs230_0 : fldS Try.prog 230 0 = some 0 := by kernel_rfl
theorem ni230 : (match Try.prog.underlying 230 with | some (.interface _) => false | none => false | _ => true) = true := by kernel_rfl
theorem z230 : zeroC Try.prog 230 = some [.slice none 0 0] := by kernel_rfl
theorem ag231 : aggS Try.prog 231 = some 1 := by kernel_rfl
theorem fo231_0 : fldO Try.prog 231 0 = some 0 := by kernel_rfl
theorem fs231_0 : fldS Try.prog 231 0 = some 0 := by kernel_rfl
theorem ni231 : (match Try.prog.underlying 231 with | some (.interface _) => false | none => false | _ => true) = true := by kernel_rfl
theorem z231 : zeroC Try.prog 231 = some [.slice none 0 0] := by kernel_rfl
theorem sc232 : scal Try.prog 232 = true := by kernel_rfl
theorem ip232 : isPtr Try.prog 232 = true := by kernel_rfl
theorem ni232 : (match Try.prog.underlying 232 with | some (.interface _) => false | none => false | _ => true) = true := by kernel_rfl
theorem z232 : zeroC Try.prog 232 = some [.pointer none] := by kernel_rfl
theorem ag233 : aggS Try.prog 233 = some 1 := by kernel_rfl
theorem fo233_0 : fldO Try.prog 233 0 = some 0 := by kernel_rfl
theorem fs233_0 : fldS Try.prog 233 0 = some 0 := by kernel_rfl
theorem ni233 : (match Try.prog.underlying 233 with | some (.interface _) => false | none => false | _ => true) = true := by kernel_rfl
theorem z233 : zeroC Try.prog 233 = some [.int .i64 0] := by kernel_rfl
theorem ag234 : aggS Try.prog 234 = some 1 := by kernel_rfl
theorem fo234_0 : fldO Try.prog 234 0 = some 0 := by kernel_rfl
theorem fs234_0 : fldS Try.prog 234 0 = some 0 := by kernel_rfl
theorem ni234 : (match Try.prog.underlying 234 with | some (.interface _) => false | none => false | _ => true) = true := by kernel_rfl
theorem z234 : zeroC Try.prog 234 = some [.int .i64 0] := by kernel_rfl
theorem sc235 : scal Try.prog 235 = true := by kernel_rfl
theorem ip235 : isPtr Try.prog 235 = true := by kernel_rfl
theorem ni235 : (match Try.prog.underlying 235 with | some (.interface _) => false | none => false | _ => true) = true := by kernel_rfl
theorem z235 : zeroC Try.prog 235 = some [.pointer none] := by kernel_rfl
theorem ag236 : aggS Try.prog 236 = some 1 := by kernel_rfl
theorem fo236_0 : fldO Try.prog 236 0 = some 0 := by kernel_rfl
theorem fs236_0 : fldS Try.prog 236 0 = some 0 := by kernel_rfl
theorem ni236 : (match Try.prog.underlying 236 with | some (.interface _) => false | none => false | _ => true) = true := by kernel_rfl
theorem z236 : zeroC Try.prog 236 = some [.pointer none] := by kernel_rfl
theorem ag237 : aggS Try.prog 237 = some 1 := by kernel_rfl
theorem fo237_0 : fldO Try.prog 237 0 = some 0 := by kernel_rfl
theorem fs237_0 : fldS Try.prog 237 0 = some 0 := by kernel_rfl
theorem ni237 : (match Try.prog.underlying 237 with | some (.interface _) => false | none => false | _ => true) = true := by kernel_rfl
theorem z237 : zeroC Try.prog 237 = some [.pointer none] := by kernel_rfl
theorem sc238 : scal Try.prog 238 = true := by kernel_rfl
theorem if238 : isIfc Try.prog 238 = true := by kernel_rfl
theorem z238 : zeroC Try.prog 238 = some [.nilIface] := by kernel_rfl
theorem sc239 : scal Try.prog 239 = true := by kernel_rfl
theorem if239 : isIfc Try.prog 239 = true := by kernel_rfl
theorem z239 : zeroC Try.prog 239 = some [.nilIface] := by kernel_rfl
theorem sc240 : scal Try.prog 240 = true := by kernel_rfl
theorem ip240 : isPtr Try.prog 240 = true := by kernel_rfl
theorem ni240 : (match Try.prog.underlying 240 with | some (.interface _) => false | none => false | _ => true) = true := by kernel_rfl
theorem z240 : zeroC Try.prog 240 = some [.pointer none] := by kernel_rfl
theorem sc241 : scal Try.prog 241 = true := by kernel_rfl
theorem ni241 : (match Try.prog.underlying 241 with | some (.interface _) => false | none => false | _ => true) = true := by kernel_rfl
theorem z241 : zeroC Try.prog 241 = some [.nilFunc] := by kernel_rfl
theorem sc242 : scal Try.prog 242 = true := by kernel_rfl
theorem ip242 : isPtr Try.prog 242 = true := by kernel_rfl
theorem ni242 : (match Try.prog.underlying 242 with | some (.interface _) => false | none => false | _ => true) = true := by kernel_rfl
theorem z242 : zeroC Try.prog 242 = some [.pointer none] := by kernel_rfl
theorem ag243 : aggS Try.prog 243 = some 4 := by kernel_rfl
theorem fo243_0 : fldO Try.prog 243 0 = some 0 := by kernel_rfl
theorem fs243_0 : fldS Try.prog 243 0 = some 0 := by kernel_rfl
theorem fo243_1 : fldO Try.prog 243 1 = some 1 := by kernel_rfl
theorem fs243_1 : fldS Try.prog 243 1 = some 1 := by kernel_rfl
theorem fo243_2 : fldO Try.prog 243 2 = some 2 := by kernel_rfl
theorem fs243_2 : fldS Try.prog 243 2 = some 2 := by kernel_rfl
theorem fo243_3 : fldO Try.prog 243 3 = some 3 := by kernel_rfl
theorem fs243_3 : fldS Try.prog 243 3 = some 3 := by kernel_rfl
theorem ni243 : (match Try.prog.underlying 243 with | some (.interface _) => false | none => false | _ => true) = true := by kernel_rfl
theorem z243 : zeroC Try.prog 243 = some [.slice none 0 0, .slice none 0 0, .slice none 0 0, .pointer none] := by kernel_rfl
theorem ag244 : aggS Try.prog 244 = some 4 := by kernel_rfl
theorem fo244_0 : fldO Try.prog 244 0 = some 0 := by kernel_rfl
theorem fs244_0 : fldS Try.prog 244 0 = some 0 := by kernel_rfl
theorem fo244_1 : fldO Try.prog 244 1 = some 1 := by kernel_rfl
theorem fs244_1 : fldS Try.prog 244 1 = some 1 := by kernel_rfl
theorem fo244_2 : fldO Try.prog 244 2 = some 2 := by kernel_rfl
theorem fs244_2 : fldS Try.prog 244 2 = some 2 := by kernel_rfl
theorem fo244_3 : fldO Try.prog 244 3 = some 3 := by kernel_rfl
theorem fs244_3 : fldS Try.prog 244 3 = some 3 := by kernel_rfl
theorem ni244 : (match Try.prog.underlying 244 with | some (.interface _) => false | none => false | _ => true) = true := by kernel_rfl
theorem z244 : zeroC Try.prog 244 = some [.slice none 0 0, .slice none 0 0, .slice none 0 0, .pointer none] := by kernel_rfl
theorem sc245 : scal Try.prog 245 = true := by kernel_rfl
theorem ip245 : isPtr Try.prog 245 = true := by kernel_rfl
theorem ni245 : (match Try.prog.underlying 245 with | some (.interface _) => false | none => false | _ => true) = true := by kernel_rfl
theorem z245 : zeroC Try.prog 245 = some [.pointer none] := by kernel_rfl
theorem sc246 : scal Try.prog 246 = true := by kernel_rfl
theorem ni246 : (match Try.prog.underlying 246 with | some (.interface _) => false | none => false | _ => true) = true := by kernel_rfl
theorem z246 : zeroC Try.prog 246 = some [.nilFunc] := by kernel_rfl
theorem ag247 : aggS Try.prog 247 = some 2 := by kernel_rfl
theorem fo247_0 : fldO Try.prog 247 0 = some 0 := by kernel_rfl
theorem fs247_0 : fldS Try.prog 247 0 = some 0 := by kernel_rfl
theorem fo247_1 : fldO Try.prog 247 1 = some 1 := by kernel_rfl
theorem fs247_1 : fldS Try.prog 247 1 = some 1 := by kernel_rfl
theorem ni247 : (match Try.prog.underlying 247 with | some (.interface _) => false | none => false | _ => true) = true := by kernel_rfl
theorem z247 : zeroC Try.prog 247 = some [.slice none 0 0, .slice none 0 0] := by kernel_rfl
theorem ag248 : aggS Try.prog 248 = some 2 := by kernel_rfl
theorem fo248_0 : fldO Try.prog 248 0 = some 0 := by kernel_rfl
theorem fs248_0 : fldS Try.prog 248 0 = some 0 := by kernel_rfl
theorem fo248_1 : fldO Try.prog 248 1 = some 1 := by kernel_rfl
theorem fs248_1 : fldS Try.prog 248 1 = some 1 := by kernel_rfl
theorem ni248 : (match Try.prog.underlying 248 with | some (.interface _) => false | none => false | _ => true) = true := by kernel_rfl
theorem z248 : zeroC Try.prog 248 = some [.slice none 0 0, .slice none 0 0] := by kernel_rfl
theorem sc249 : scal Try.prog 249 = true := by kernel_rfl
theorem ni249 : (match Try.prog.underlying 249 with | some (.interface _) => false | none => false | _ => true) = true := by kernel_rfl
theorem z249 : zeroC Try.prog 249 = some [.nilFunc] := by kernel_rfl
theorem sc250 : scal Try.prog 250 = true := by kernel_rfl
theorem ni250 : (match Try.prog.underlying 250 with | some (.interface _) => false | none => false | _ => true) = true := by kernel_rfl
theorem z250 : zeroC Try.prog 250 = some [.nilFunc] := by kernel_rfl
theorem ag251 : aggS Try.prog 251 = some 2 := by kernel_rfl
theorem fo251_0 : fldO Try.prog 251 0 = some 0 := by kernel_rfl
theorem fs251_0 : fldS Try.prog 251 0 = some 0 := by kernel_rfl
theorem fo251_1 : fldO Try.prog 251 1 = some 1 := by kernel_rfl
theorem fs251_1 : fldS Try.prog 251 1 = some 1 := by kernel_rfl
theorem ni251 : (match Try.prog.underlying 251 with | some (.interface _) => false | none => false | _ => true) = true := by kernel_rfl
theorem z251 : zeroC Try.prog 251 = some [.nilIface, .nilIface] := by kernel_rfl
theorem ag252 : aggS Try.prog 252 = some 2 := by kernel_rfl
theorem fo252_0 : fldO Try.prog 252 0 = some 0 := by kernel_rfl
theorem fs252_0 : fldS Try.prog 252 0 = some 0 := by kernel_rfl
theorem fo252_1 : fldO Try.prog 252 1 = some 1 := by kernel_rfl
theorem fs252_1 : fldS Try.prog 252 1 = some 1 := by kernel_rfl
theorem ni252 : (match Try.prog.underlying 252 with | some (.interface _) => false | none => false | _ => true) = true := by kernel_rfl
theorem z252 : zeroC Try.prog 252 = some [.nilIface, .nilIface] := by kernel_rfl
theorem sc253 : scal Try.prog 253 = true := by kernel_rfl
theorem ip253 : isPtr Try.prog 253 = true := by kernel_rfl
theorem ni253 : (match Try.prog.underlying 253 with | some (.interface _) => false | none => false | _ => true) = true := by kernel_rfl
theorem z253 : zeroC Try.prog 253 = some [.pointer none] := by kernel_rfl
theorem sc254 : scal Try.prog 254 = true := by kernel_rfl
theorem ni254 : (match Try.prog.underlying 254 with | some (.interface _) => false | none => false | _ => true) = true := by kernel_rfl
theorem z254 : zeroC Try.prog 254 = some [.nilFunc] := by kernel_rfl
theorem sc255 : scal Try.prog 255 = true := by kernel_rfl
theorem ni255 : (match Try.prog.underlying 255 with | some (.interface _) => false | none => false | _ => true) = true := by kernel_rfl
theorem z255 : zeroC Try.prog 255 = some [.nilFunc] := by kernel_rfl
theorem sc256 : scal Try.prog 256 = true := by kernel_rfl
theorem ni256 : (match Try.prog.underlying 256 with | some (.interface _) => false | none => false | _ => true) = true := by kernel_rfl
theorem z256 : zeroC Try.prog 256 = some [.nilFunc] := by kernel_rfl
theorem sc257 : scal Try.prog 257 = true := by kernel_rfl
theorem ni257 : (match Try.prog.underlying 257 with | some (.interface _) => false | none => false | _ => true) = true := by kernel_rfl
theorem z257 : zeroC Try.prog 257 = some [.nilFunc] := by kernel_rfl
theorem ag258 : aggS Try.prog 258 = some 4 := by kernel_rfl
theorem fo258_0 : fldO Try.prog 258 0 = some 0 := by kernel_rfl
theorem fs258_0 : fldS Try.prog 258 0 = some 0 := by kernel_rfl
theorem fo258_1 : fldO Try.prog 258 1 = some 1 := by kernel_rfl
theorem fs258_1 : fldS Try.prog 258 1 = some 1 := by kernel_rfl
theorem fo258_2 : fldO Try.prog 258 2 = some 2 := by kernel_rfl
theorem fs258_2 : fldS Try.prog 258 2 = some 2 := by kernel_rfl
theorem fo258_3 : fldO Try.prog 258 3 = some 3 := by kernel_rfl
theorem fs258_3 : fldS Try.prog 258 3 = some 3 := by kernel_rfl
theorem ni258 : (match Try.prog.underlying 258 with | some (.interface _) => false | none => false | _ => true) = true := by kernel_rfl
theorem z258 : zeroC Try.prog 258 = some [.pointer none, .pointer none, .pointer none, .string ⟨#[]⟩] := by kernel_rfl
theorem ag259 : aggS Try.prog 259 = some 4 := by kernel_rfl
theorem fo259_0 : fldO Try.prog 259 0 = some 0 := by kernel_rfl
theorem fs259_0 : fldS Try.prog 259 0 = some 0 := by kernel_rfl
theorem fo259_1 : fldO Try.prog 259 1 = some 1 := by kernel_rfl
theorem fs259_1 : fldS Try.prog 259 1 = some 1 := by kernel_rfl
theorem fo259_2 : fldO Try.prog 259 2 = some 2 := by kernel_rfl
theorem fs259_2 : fldS Try.prog 259 2 = some 2 := by kernel_rfl
theorem fo259_3 : fldO Try.prog 259 3 = some 3 := by kernel_rfl
theorem fs259_3 : fldS Try.prog 259 3 = some 3 := by kernel_rfl
theorem ni259 : (match Try.prog.underlying 259 with | some (.interface _) => false | none => false | _ => true) = true := by kernel_rfl
theorem z259 : zeroC Try.prog 259 = some [.pointer none, .pointer none, .pointer none, .string ⟨#[]⟩] := by kernel_rfl
theorem ag260 : aggS Try.prog 260 = some 0 := by kernel_rfl
theorem ar260 : arrE Try.prog 260 = some (0, 1) := by kernel_rfl
theorem ni260 : (match Try.prog.underlying 260 with | some (.interface _) => false | none => false | _ => true) = true := by kernel_rfl
theorem z260 : zeroC Try.prog 260 = some [] := by kernel_rfl
theorem ag261 : aggS Try.prog 261 = some 0 := by kernel_rfl
theorem fa261_0 : fldA Try.prog 261 0 = some (0, 0) := by kernel_rfl
theorem ni261 : (match Try.prog.underlying 261 with | some (.interface _) => false | none => false | _ => true) = true := by kernel_rfl
theorem z261 : zeroC Try.prog 261 = some [] := by kernel_rfl
theorem ag262 : aggS Try.prog 262 = some 0 := by kernel_rfl
theorem fa262_0 : fldA Try.prog 262 0 = some (0, 0) := by kernel_rfl
theorem ni262 : (match Try.prog.underlying 262 with | some (.interface _) => false | none => false | _ => true) = true := by kernel_rfl
theorem z262 : zeroC Try.prog 262 = some [] := by kernel_rfl
theorem sc263 : scal Try.prog 263 = true := by kernel_rfl
theorem ik263 : intK Try.prog 263 = some .u32 := by kernel_rfl
theorem un263 : (Try.prog.underlying 263).isSome = true := by kernel_rfl
theorem ni263 : (match Try.prog.underlying 263 with | some (.interface _) => false | none => false | _ => true) = true := by kernel_rfl
theorem z263 : zeroC Try.prog 263 = some [.int .u32 0] := by kernel_rfl
theorem sc264 : scal Try.prog 264 = true := by kernel_rfl
theorem ik264 : intK Try.prog 264 = some .u8 := by kernel_rfl
theorem un264 : (Try.prog.underlying 264).isSome = true := by kernel_rfl
theorem ni264 : (match Try.prog.underlying 264 with | some (.interface _) => false | none => false | _ => true) = true := by kernel_rfl
theorem z264 : zeroC Try.prog 264 = some [.int .u8 0] := by kernel_rfl
theorem sc265 : scal Try.prog 265 = true := by kernel_rfl
theorem ik265 : intK Try.prog 265 = some .u8 := by kernel_rfl
theorem un265 : (Try.prog.underlying 265).isSome = true := by kernel_rfl
theorem ni265 : (match Try.prog.underlying 265 with | some (.interface _) => false | none => false | _ => true) = true := by kernel_rfl
theorem z265 : zeroC Try.prog 265 = some [.int .u8 0] := by kernel_rfl
theorem sc266 : scal Try.prog 266 = true := by kernel_rfl
theorem ni266 : (match Try.prog.underlying 266 with | some (.interface _) => false | none => false | _ => true) = true := by kernel_rfl
theorem z266 : zeroC Try.prog 266 = some [.nilFunc] := by kernel_rfl
theorem sc267 : scal Try.prog 267 = true := by kernel_rfl
theorem ip267 : isPtr Try.prog 267 = true := by kernel_rfl
theorem ni267 : (match Try.prog.underlying 267 with | some (.interface _) => false | none => false | _ => true) = true := by kernel_rfl
theorem z267 : zeroC Try.prog 267 = some [.pointer none] := by kernel_rfl
theorem sc268 : scal Try.prog 268 = true := by kernel_rfl
theorem ik268 : intK Try.prog 268 = some .i32 := by kernel_rfl
theorem un268 : (Try.prog.underlying 268).isSome = true := by kernel_rfl
theorem ni268 : (match Try.prog.underlying 268 with | some (.interface _) => false | none => false | _ => true) = true := by kernel_rfl
theorem z268 : zeroC Try.prog 268 = some [.int .i32 0] := by kernel_rfl
theorem sc269 : scal Try.prog 269 = true := by kernel_rfl
theorem ik269 : intK Try.prog 269 = some .i32 := by kernel_rfl
theorem un269 : (Try.prog.underlying 269).isSome = true := by kernel_rfl
theorem ni269 : (match Try.prog.underlying 269 with | some (.interface _) => false | none => false | _ => true) = true := by kernel_rfl
theorem z269 : zeroC Try.prog 269 = some [.int .i32 0] := by kernel_rfl
theorem ag270 : aggS Try.prog 270 = some 11 := by kernel_rfl
theorem fo270_0 : fldO Try.prog 270 0 = some 0 := by kernel_rfl
theorem fs270_0 : fldS Try.prog 270 0 = some 0 := by kernel_rfl
theorem fo270_1 : fldO Try.prog 270 1 = some 1 := by kernel_rfl
theorem fs270_1 : fldS Try.prog 270 1 = some 1 := by kernel_rfl
theorem fo270_2 : fldO Try.prog 270 2 = some 2 := by kernel_rfl
theorem fs270_2 : fldS Try.prog 270 2 = some 2 := by kernel_rfl
theorem fo270_3 : fldO Try.prog 270 3 = some 3 := by kernel_rfl
theorem fs270_3 : fldS Try.prog 270 3 = some 3 := by kernel_rfl
theorem fo270_4 : fldO Try.prog 270 4 = some 4 := by kernel_rfl
theorem fs270_4 : fldS Try.prog 270 4 = some 4 := by kernel_rfl
theorem fo270_5 : fldO Try.prog 270 5 = some 5 := by kernel_rfl
theorem fs270_5 : fldS Try.prog 270 5 = some 5 := by kernel_rfl
theorem fo270_6 : fldO Try.prog 270 6 = some 6 := by kernel_rfl
theorem fs270_6 : fldS Try.prog 270 6 = some 6 := by kernel_rfl
theorem fo270_7 : fldO Try.prog 270 7 = some 7 := by kernel_rfl
theorem fs270_7 : fldS Try.prog 270 7 = some 7 := by kernel_rfl
theorem fo270_8 : fldO Try.prog 270 8 = some 8 := by kernel_rfl
theorem fs270_8 : fldS Try.prog 270 8 = some 8 := by kernel_rfl
theorem fo270_9 : fldO Try.prog 270 9 = some 9 := by kernel_rfl
theorem fs270_9 : fldS Try.prog 270 9 = some 9 := by kernel_rfl
theorem fo270_10 : fldO Try.prog 270 10 = some 10 := by kernel_rfl
theorem fs270_10 : fldS Try.prog 270 10 = some 10 := by kernel_rfl
theorem ni270 : (match Try.prog.underlying 270 with | some (.interface _) => false | none => false | _ => true) = true := by kernel_rfl
theorem z270 : zeroC Try.prog 270 = some [.int .u64 0, .int .u64 0, .int .u32 0, .int .u8 0, .int .u8 0, .int .u8 0, .int .u8 0, .nilFunc, .pointer none, .int .i32 0, .int .i32 0] := by kernel_rfl
theorem ag271 : aggS Try.prog 271 = some 11 := by kernel_rfl
theorem fo271_0 : fldO Try.prog 271 0 = some 0 := by kernel_rfl
theorem fs271_0 : fldS Try.prog 271 0 = some 0 := by kernel_rfl
theorem fo271_1 : fldO Try.prog 271 1 = some 1 := by kernel_rfl
theorem fs271_1 : fldS Try.prog 271 1 = some 1 := by kernel_rfl
theorem fo271_2 : fldO Try.prog 271 2 = some 2 := by kernel_rfl
theorem fs271_2 : fldS Try.prog 271 2 = some 2 := by kernel_rfl
theorem fo271_3 : fldO Try.prog 271 3 = some 3 := by kernel_rfl
theorem fs271_3 : fldS Try.prog 271 3 = some 3 := by kernel_rfl
theorem fo271_4 : fldO Try.prog 271 4 = some 4 := by kernel_rfl
theorem fs271_4 : fldS Try.prog 271 4 = some 4 := by kernel_rfl
theorem fo271_5 : fldO Try.prog 271 5 = some 5 := by kernel_rfl
theorem fs271_5 : fldS Try.prog 271 5 = some 5 := by kernel_rfl
theorem fo271_6 : fldO Try.prog 271 6 = some 6 := by kernel_rfl
theorem fs271_6 : fldS Try.prog 271 6 = some 6 := by kernel_rfl
theorem fo271_7 : fldO Try.prog 271 7 = some 7 := by kernel_rfl
theorem fs271_7 : fldS Try.prog 271 7 = some 7 := by kernel_rfl
theorem fo271_8 : fldO Try.prog 271 8 = some 8 := by kernel_rfl
theorem fs271_8 : fldS Try.prog 271 8 = some 8 := by kernel_rfl
theorem fo271_9 : fldO Try.prog 271 9 = some 9 := by kernel_rfl
theorem fs271_9 : fldS Try.prog 271 9 = some 9 := by kernel_rfl
theorem fo271_10 : fldO Try.prog 271 10 = some 10 := by kernel_rfl
theorem fs271_10 : fldS Try.prog 271 10 = some 10 := by kernel_rfl
theorem ni271 : (match Try.prog.underlying 271 with | some (.interface _) => false | none => false | _ => true) = true := by kernel_rfl
theorem z271 : zeroC Try.prog 271 = some [.int .u64 0, .int .u64 0, .int .u32 0, .int .u8 0, .int .u8 0, .int .u8 0, .int .u8 0, .nilFunc, .pointer none, .int .i32 0, .int .i32 0] := by kernel_rfl
theorem sc272 : scal Try.prog 272 = true := by kernel_rfl
theorem ni272 : (match Try.prog.underlying 272 with | some (.interface _) => false | none => false | _ => true) = true := by kernel_rfl
theorem z272 : zeroC Try.prog 272 = some [.nilFunc] := by kernel_rfl
theorem sc273 : scal Try.prog 273 = true := by kernel_rfl
theorem ni273 : (match Try.prog.underlying 273 with | some (.interface _) => false | none => false | _ => true) = true := by kernel_rfl
theorem z273 : zeroC Try.prog 273 = some [.nilFunc] := by kernel_rfl
theorem sc274 : scal Try.prog 274 = true := by kernel_rfl
theorem ni274 : (match Try.prog.underlying 274 with | some (.interface _) => false | none => false | _ => true) = true := by kernel_rfl
theorem z274 : zeroC Try.prog 274 = some [.nilFunc] := by kernel_rfl
theorem sc275 : scal Try.prog 275 = true := by kernel_rfl
theorem ni275 : (match Try.prog.underlying 275 with | some (.interface _) => false | none => false | _ => true) = true := by kernel_rfl
theorem z275 : zeroC Try.prog 275 = some [.nilFunc] := by kernel_rfl
theorem sc276 : scal Try.prog 276 = true := by kernel_rfl
theorem ni276 : (match Try.prog.underlying 276 with | some (.interface _) => false | none => false | _ => true) = true := by kernel_rfl
theorem z276 : zeroC Try.prog 276 = some [.nilFunc] := by kernel_rfl
theorem sc277 : scal Try.prog 277 = true := by kernel_rfl
theorem ni277 : (match Try.prog.underlying 277 with | some (.interface _) => false | none => false | _ => true) = true := by kernel_rfl
theorem z277 : zeroC Try.prog 277 = some [.nilFunc] := by kernel_rfl
theorem sc278 : scal Try.prog 278 = true := by kernel_rfl
theorem ni278 : (match Try.prog.underlying 278 with | some (.interface _) => false | none => false | _ => true) = true := by kernel_rfl
theorem z278 : zeroC Try.prog 278 = some [.nilFunc] := by kernel_rfl
theorem sc279 : scal Try.prog 279 = true := by kernel_rfl
theorem ip279 : isPtr Try.prog 279 = true := by kernel_rfl
theorem ni279 : (match Try.prog.underlying 279 with | some (.interface _) => false | none => false | _ => true) = true := by kernel_rfl
theorem z279 : zeroC Try.prog 279 = some [.pointer none] := by kernel_rfl
theorem sc280 : scal Try.prog 280 = true := by kernel_rfl
theorem ni280 : (match Try.prog.underlying 280 with | some (.interface _) => false | none => false | _ => true) = true := by kernel_rfl
theorem z280 : zeroC Try.prog 280 = some [.float .f64 0] := by kernel_rfl
theorem sc281 : scal Try.prog 281 = true := by kernel_rfl
theorem ni281 : (match Try.prog.underlying 281 with | some (.interface _) => false | none => false | _ => true) = true := by kernel_rfl
theorem z281 : zeroC Try.prog 281 = some [.nilFunc] := by kernel_rfl
theorem sc282 : scal Try.prog 282 = true := by kernel_rfl
theorem ni282 : (match Try.prog.underlying 282 with | some (.interface _) => false | none => false | _ => true) = true := by kernel_rfl
theorem z282 : zeroC Try.prog 282 = some [.nilFunc] := by kernel_rfl
theorem sc283 : scal Try.prog 283 = true := by kernel_rfl
theorem ni283 : (match Try.prog.underlying 283 with | some (.interface _) => false | none => false | _ => true) = true := by kernel_rfl
theorem z283 : zeroC Try.prog 283 = some [.nilFunc] := by kernel_rfl
theorem sc284 : scal Try.prog 284 = true := by kernel_rfl
theorem ni284 : (match Try.prog.underlying 284 with | some (.interface _) => false | none => false | _ => true) = true := by kernel_rfl
theorem z284 : zeroC Try.prog 284 = some [.nilFunc] := by kernel_rfl
theorem sc285 : scal Try.prog 285 = true := by kernel_rfl
theorem ni285 : (match Try.prog.underlying 285 with | some (.interface _) => false | none => false | _ => true) = true := by kernel_rfl
theorem z285 : zeroC Try.prog 285 = some [.nilFunc] := by kernel_rfl
theorem sc286 : scal Try.prog 286 = true := by kernel_rfl
theorem ni286 : (match Try.prog.underlying 286 with | some (.interface _) => false | none => false | _ => true) = true := by kernel_rfl
theorem z286 : zeroC Try.prog 286 = some [.nilFunc] := by kernel_rfl
theorem sc288 : scal Try.prog 288 = true := by kernel_rfl
theorem ni288 : (match Try.prog.underlying 288 with | some (.interface _) => false | none => false | _ => true) = true := by kernel_rfl
theorem z288 : zeroC Try.prog 288 = some [.nilFunc] := by kernel_rfl
theorem sc289 : scal Try.prog 289 = true := by kernel_rfl
theorem ni289 : (match Try.prog.underlying 289 with | some (.interface _) => false | none => false | _ => true) = true := by kernel_rfl
theorem z289 : zeroC Try.prog 289 = some [.nilFunc] := by kernel_rfl
theorem sc290 : scal Try.prog 290 = true := by kernel_rfl
theorem ni290 : (match Try.prog.underlying 290 with | some (.interface _) => false | none => false | _ => true) = true := by kernel_rfl
theorem z290 : zeroC Try.prog 290 = some [.nilFunc] := by kernel_rfl
theorem sc291 : scal Try.prog 291 = true := by kernel_rfl
theorem ik291 : intK Try.prog 291 = some .u64 := by kernel_rfl
theorem un291 : (Try.prog.underlying 291).isSome = true := by kernel_rfl
theorem ni291 : (match Try.prog.underlying 291 with | some (.interface _) => false | none => false | _ => true) = true := by kernel_rfl
theorem z291 : zeroC Try.prog 291 = some [.int .u64 0] := by kernel_rfl
theorem sc292 : scal Try.prog 292 = true := by kernel_rfl
theorem ni292 : (match Try.prog.underlying 292 with | some (.interface _) => false | none => false | _ => true) = true := by kernel_rfl
theorem z292 : zeroC Try.prog 292 = some [.nilFunc] := by kernel_rfl
theorem sc293 : scal Try.prog 293 = true := by kernel_rfl
theorem ik293 : intK Try.prog 293 = some .u64 := by kernel_rfl
theorem un293 : (Try.prog.underlying 293).isSome = true := by kernel_rfl
theorem ni293 : (match Try.prog.underlying 293 with | some (.interface _) => false | none => false | _ => true) = true := by kernel_rfl
theorem z293 : zeroC Try.prog 293 = some [.int .u64 0] := by kernel_rfl
theorem sc294 : scal Try.prog 294 = true := by kernel_rfl
theorem ni294 : (match Try.prog.underlying 294 with | some (.interface _) => false | none => false | _ => true) = true := by kernel_rfl
theorem z294 : zeroC Try.prog 294 = some [.nilFunc] := by kernel_rfl
theorem sc295 : scal Try.prog 295 = true := by kernel_rfl
theorem ni295 : (match Try.prog.underlying 295 with | some (.interface _) => false | none => false | _ => true) = true := by kernel_rfl
theorem z295 : zeroC Try.prog 295 = some [.nilFunc] := by kernel_rfl
theorem sc296 : scal Try.prog 296 = true := by kernel_rfl
theorem ni296 : (match Try.prog.underlying 296 with | some (.interface _) => false | none => false | _ => true) = true := by kernel_rfl
theorem z296 : zeroC Try.prog 296 = some [.nilFunc] := by kernel_rfl
theorem sc297 : scal Try.prog 297 = true := by kernel_rfl
theorem ni297 : (match Try.prog.underlying 297 with | some (.interface _) => false | none => false | _ => true) = true := by kernel_rfl
theorem z297 : zeroC Try.prog 297 = some [.nilFunc] := by kernel_rfl
theorem sc298 : scal Try.prog 298 = true := by kernel_rfl
theorem ni298 : (match Try.prog.underlying 298 with | some (.interface _) => false | none => false | _ => true) = true := by kernel_rfl
theorem z298 : zeroC Try.prog 298 = some [.nilFunc] := by kernel_rfl
theorem sc299 : scal Try.prog 299 = true := by kernel_rfl
theorem ni299 : (match Try.prog.underlying 299 with | some (.interface _) => false | none => false | _ => true) = true := by kernel_rfl
theorem z299 : zeroC Try.prog 299 = some [.nilFunc] := by kernel_rfl
theorem sc300 : scal Try.prog 300 = true := by kernel_rfl
theorem ni300 : (match Try.prog.underlying 300 with | some (.interface _) => false | none => false | _ => true) = true := by kernel_rfl
theorem z300 : zeroC Try.prog 300 = some [.nilFunc] := by kernel_rfl
theorem ag301 : aggS Try.prog 301 = some 1 := by kernel_rfl
theorem fo301_0 : fldO Try.prog 301 0 = some 0 := by kernel_rfl
theorem fs301_0 : fldS Try.prog 301 0 = some 0 := by kernel_rfl
theorem ni301 : (match Try.prog.underlying 301 with | some (.interface _) => false | none => false | _ => true) = true := by kernel_rfl
theorem z301 : zeroC Try.prog 301 = some [.bool false] := by kernel_rfl
theorem ag302 : aggS Try.prog 302 = some 1 := by kernel_rfl
theorem fo302_0 : fldO Try.prog 302 0 = some 0 := by kernel_rfl
theorem fs302_0 : fldS Try.prog 302 0 = some 0 := by kernel_rfl
theorem ni302 : (match Try.prog.underlying 302 with | some (.interface _) => false | none => false | _ => true) = true := by kernel_rfl
theorem z302 : zeroC Try.prog 302 = some [.bool false] := by kernel_rfl
theorem sc303 : scal Try.prog 303 = true := by kernel_rfl
theorem ni303 : (match Try.prog.underlying 303 with | some (.interface _) => false | none => false | _ => true) = true := by kernel_rfl
theorem z303 : zeroC Try.prog 303 = some [.nilFunc] := by kernel_rfl
theorem ag304 : aggS Try.prog 304 = some 0 := by kernel_rfl
theorem ni304 : (match Try.prog.underlying 304 with | some (.interface _) => false | none => false | _ => true) = true := by kernel_rfl
theorem z304 : zeroC Try.prog 304 = some [] := by kernel_rfl
theorem sc305 : scal Try.prog 305 = true := by kernel_rfl
theorem ni305 : (match Try.prog.underlying 305 with | some (.interface _) => false | none => false | _ => true) = true := by kernel_rfl
theorem z305 : zeroC Try.prog 305 = some [.pointer none] := by kernel_rfl
theorem sc306 : scal Try.prog 306 = true := by kernel_rfl
theorem sl306 : slcE Try.prog 306 = some (245, 1, 8) := by kernel_rfl
theorem is306 : isSlc Try.prog 306 = true := by kernel_rfl
theorem ni306 : (match Try.prog.underlying 306 with | some (.interface _) => false | none => false | _ => true) = true := by kernel_rfl
theorem z306 : zeroC Try.prog 306 = some [.slice none 0 0] := by kernel_rfl
theorem sc307 : scal Try.prog 307 = true := by kernel_rfl
theorem sl307 : slcE Try.prog 307 = some (240, 1, 8) := by kernel_rfl
theorem is307 : isSlc Try.prog 307 = true := by kernel_rfl
theorem ni307 : (match Try.prog.underlying 307 with | some (.interface _) => false | none => false | _ => true) = true := by kernel_rfl
theorem z307 : zeroC Try.prog 307 = some [.slice none 0 0] := by kernel_rfl
theorem sc308 : scal Try.prog 308 = true := by kernel_rfl
theorem sl308 : slcE Try.prog 308 = some (309, 0, 0) := by kernel_rfl
theorem is308 : isSlc Try.prog 308 = true := by kernel_rfl
theorem ni308 : (match Try.prog.underlying 308 with | some (.interface _) => false | none => false | _ => true) = true := by kernel_rfl
theorem z308 : zeroC Try.prog 308 = some [.slice none 0 0] := by kernel_rfl
theorem ag309 : aggS Try.prog 309 = some 0 := by kernel_rfl
theorem ni309 : (match Try.prog.underlying 309 with | some (.interface _) => false | none => false | _ => true) = true := by kernel_rfl
theorem z309 : zeroC Try.prog 309 = some [] := by kernel_rfl
theorem mixed : Try.prog.follows .mixedOrders = true := by kernel_rfl
end Go.Proofs.Ytbomnihiapjmpaa.Ty

namespace Go.Proofs.Ytbomnihiapjmpaa.Ty2
open Go.Proofs.Ytbomnihiapjmpaa.Sl
set_option maxRecDepth 100000
theorem bo4 : isBool Try.prog 4 = true := by kernel_rfl
theorem mp149 : mapT Try.prog 149 = some (9, 210, .string) := by kernel_rfl
theorem zv210 : zeroV Try.prog 210 = some (.agg #[]) := by kernel_rfl
end Go.Proofs.Ytbomnihiapjmpaa.Ty2

namespace Go.Proofs.Ytbomnihiapjmpaa.Ta
open Go.RowKit Go.Proofs.Ytbomnihiapjmpaa Go.Proofs.Ytbomnihiapjmpaa.Sl Go.Proofs.Ytbomnihiapjmpaa.TrP
set_option linter.unusedVariables false
set_option linter.unusedSimpArgs false
set_option linter.unusedSectionVars false


theorem ka_cmp (x y : ByteArray) : kcmp (ka x) (ka y) = if x.size = 0 then (if y.size = 0 then 0 else 1) else if y.size = 0 then -1 else if Op.bytesLess x.toList y.toList = true then -1 else if Op.bytesLess y.toList x.toList = true then 1 else 0 := by
  unfold ka
  split <;> split <;> simp_all [kcmp, klt, bl_irrefl]
theorem kb_cmp (x y : List UInt8) : kcmp (kb x) (kb y) = if x.length = 0 then (if y.length = 0 then 0 else 1) else if y.length = 0 then -1 else Lib.compareBytes x y := by
  rw [cb_eq]
  unfold kb
  split <;> split <;> simp_all [kcmp, klt, bl_irrefl]
theorem ks_cmp (x y : ByteArray) : kcmp (ks x) (ks y) = if Op.bytesLess x.toList y.toList = true then -1 else if Op.bytesLess y.toList x.toList = true then 1 else 0 := by simp [ks, kcmp, klt]
theorem ki_cmp (x y : Int) : kcmp (ki x) (ki y) = if x - y < 0 then -1 else if 0 < x - y then 1 else 0 := by
  simp only [ki, kcmp, klt, bl_irrefl]
  simp only [Int.lt_irrefl, Bool.false_eq_true, and_false, or_false]
  have e1 : (x - y < 0) ↔ x < y := by omega
  have e2 : (0 < x - y) ↔ y < x := by omega
  simp only [e1, e2]
set_option maxRecDepth 100000 in
set_option maxHeartbeats 2000000 in
theorem cmpa_spec (x y : ByteArray) : Does Try.prog 74 [.string x, .iface 130 (.string y)] [] (fun v L => v = .int .i64 (kcmp (ka x) (ka y)) ∧ L = []) := by
  refine Does.enter 23 Try.func74 rfl rfl rfl fun W F => ?_
  show WPc _ _ _ _ _ [(0, .string x), (1, .iface 130 (.string y))] (F)
  refine WPc.seq ?_
  refine WPc.region ?_
  refine WP.val rfl rfl rfl (Val.assign rfl rfl) ?_
  refine WP.nil ?_
  refine Out.next ?_
  refine WPc.seq ?_
  refine WPc.region ?_
  refine WP.val rfl rfl rfl (Val.move rfl rfl) ?_
  refine WP.val rfl rfl rfl (Val.assertC rfl Ty.ni130 rfl) ?_
  refine WP.val rfl rfl rfl (Val.assign rfl rfl) ?_
  refine WP.nil ?_
  refine Out.next ?_
  refine WPc.seq ?_
  refine WPc.seq ?_
  refine WPc.region ?_
  refine WP.val rfl rfl rfl (Val.move rfl rfl) ?_
  refine WP.val rfl rfl rfl (Val.lenS rfl Ty.st130 rfl) ?_
  refine WP.val rfl rfl rfl (Val.eql rfl rfl rfl) ?_
  refine WP.nil ?_
  refine Out.next ?_
  refine WPc.ifP rfl (fun h1 => ?_) (fun h1 => ?_)
  · skip
    have h1 : ((((x).size : Nat) : Int) = (0 : Int)) := h1
    refine WPc.seq ?_
    refine WPc.seq ?_
    refine WPc.region ?_
    refine WP.val rfl rfl rfl (Val.move rfl rfl) ?_
    refine WP.val rfl rfl rfl (Val.lenS rfl Ty.st130 rfl) ?_
    refine WP.val rfl rfl rfl (Val.eql rfl rfl rfl) ?_
    refine WP.nil ?_
    refine Out.next ?_
    refine WPc.ifP rfl (fun h2 => ?_) (fun h2 => ?_)
    · skip
      have h2 : ((((y).size : Nat) : Int) = (0 : Int)) := h2
      refine WPc.seq ?_
      refine WPc.region ?_
      refine WP.val rfl rfl rfl (Val.assign rfl rfl) ?_
      refine WP.nil ?_
      refine Out.next ?_
      refine WPc.ret ?_
      refine Out.then_ret ?_
      refine Out.then_ret ?_
      exact Out.ret1 (L' := []) Try.results74 rfl ⟨congrArg (Value.int .i64) (show (0 : Int) = _ from by rw [ka_cmp]; simp_all), rfl⟩ (fun _ h => h)
    · skip
      have h2 : ¬ ((((y).size : Nat) : Int) = (0 : Int)) := h2
      refine WPc.skip ?_
      refine Out.next ?_
      refine WPc.seq ?_
      refine WPc.region ?_
      refine WP.val rfl rfl rfl (Val.assign rfl rfl) ?_
      refine WP.nil ?_
      refine Out.next ?_
      refine WPc.ret ?_
      refine Out.then_ret ?_
      exact Out.ret1 (L' := []) Try.results74 rfl ⟨congrArg (Value.int .i64) (show (1 : Int) = _ from by rw [ka_cmp]; simp_all), rfl⟩ (fun _ h => h)
  · skip
    have h1 : ¬ ((((x).size : Nat) : Int) = (0 : Int)) := h1
    refine WPc.skip ?_
    refine Out.next ?_
    refine WPc.seq ?_
    refine WPc.seq ?_
    refine WPc.region ?_
    refine WP.val rfl rfl rfl (Val.move rfl rfl) ?_
    refine WP.val rfl rfl rfl (Val.lenS rfl Ty.st130 rfl) ?_
    refine WP.val rfl rfl rfl (Val.eql rfl rfl rfl) ?_
    refine WP.nil ?_
    refine Out.next ?_
    refine WPc.ifP rfl (fun h3 => ?_) (fun h3 => ?_)
    · skip
      have h3 : ((((y).size : Nat) : Int) = (0 : Int)) := h3
      refine WPc.seq ?_
      refine WPc.region ?_
      refine WP.val rfl rfl rfl (Val.assign rfl rfl) ?_
      refine WP.nil ?_
      refine Out.next ?_
      refine WPc.ret ?_
      refine Out.then_ret ?_
      exact Out.ret1 (L' := []) Try.results74 rfl ⟨congrArg (Value.int .i64) (show (-1 : Int) = _ from by rw [ka_cmp]; simp_all), rfl⟩ (fun _ h => h)
    · skip
      have h3 : ¬ ((((y).size : Nat) : Int) = (0 : Int)) := h3
      refine WPc.skip ?_
      refine Out.next ?_
      refine WPc.seq ?_
      refine WPc.seq ?_
      refine WPc.region ?_
      refine WP.val rfl rfl rfl (Val.move rfl rfl) ?_
      refine WP.val rfl rfl rfl (Val.move rfl rfl) ?_
      refine WP.val rfl rfl rfl (Val.lssS rfl rfl rfl) ?_
      refine WP.nil ?_
      refine Out.next ?_
      refine WPc.cond rfl (fun h4 => ?_) (fun h4 => ?_)
      · skip
        have h4 : (Op.bytesLess (x).toList (y).toList) = true := h4
        refine WPc.seq ?_
        refine WPc.region ?_
        refine WP.val rfl rfl rfl (Val.assign rfl rfl) ?_
        refine WP.nil ?_
        refine Out.next ?_
        refine WPc.ret ?_
        refine Out.then_ret ?_
        exact Out.ret1 (L' := []) Try.results74 rfl ⟨congrArg (Value.int .i64) (show (-1 : Int) = _ from by rw [ka_cmp]; simp_all), rfl⟩ (fun _ h => h)
      · skip
        have h4 : (Op.bytesLess (x).toList (y).toList) = false := h4
        refine WPc.skip ?_
        refine Out.next ?_
        refine WPc.seq ?_
        refine WPc.seq ?_
        refine WPc.region ?_
        refine WP.val rfl rfl rfl (Val.move rfl rfl) ?_
        refine WP.val rfl rfl rfl (Val.move rfl rfl) ?_
        refine WP.val rfl rfl rfl (Val.gtrS rfl rfl rfl) ?_
        refine WP.nil ?_
        refine Out.next ?_
        refine WPc.cond rfl (fun h5 => ?_) (fun h5 => ?_)
        · skip
          have h5 : (Op.bytesLess (y).toList (x).toList) = true := h5
          refine WPc.seq ?_
          refine WPc.region ?_
          refine WP.val rfl rfl rfl (Val.assign rfl rfl) ?_
          refine WP.nil ?_
          refine Out.next ?_
          refine WPc.ret ?_
          refine Out.then_ret ?_
          exact Out.ret1 (L' := []) Try.results74 rfl ⟨congrArg (Value.int .i64) (show (1 : Int) = _ from by rw [ka_cmp]; simp_all), rfl⟩ (fun _ h => h)
        · skip
          have h5 : (Op.bytesLess (y).toList (x).toList) = false := h5
          refine WPc.skip ?_
          refine Out.next ?_
          refine WPc.seq ?_
          refine WPc.region ?_
          refine WP.val rfl rfl rfl (Val.assign rfl rfl) ?_
          refine WP.nil ?_
          refine Out.next ?_
          refine WPc.ret ?_
          exact Out.ret1 (L' := []) Try.results74 rfl ⟨congrArg (Value.int .i64) (show (0 : Int) = _ from by rw [ka_cmp]; simp_all), rfl⟩ (fun _ h => h)
set_option maxRecDepth 100000 in
set_option maxHeartbeats 2000000 in
theorem cmps_spec (x y : ByteArray) : Does Try.prog 77 [.string x, .iface 134 (.string y)] [] (fun v L => v = .int .i64 (kcmp (ks x) (ks y)) ∧ L = []) := by
  refine Does.enter 14 Try.func77 rfl rfl rfl fun W F => ?_
  show WPc _ _ _ _ _ [(0, .string x), (1, .iface 134 (.string y))] (F)
  refine WPc.seq ?_
  refine WPc.region ?_
  refine WP.val rfl rfl rfl (Val.assign rfl rfl) ?_
  refine WP.nil ?_
  refine Out.next ?_
  refine WPc.seq ?_
  refine WPc.region ?_
  refine WP.val rfl rfl rfl (Val.move rfl rfl) ?_
  refine WP.val rfl rfl rfl (Val.assertC rfl Ty.ni134 rfl) ?_
  refine WP.val rfl rfl rfl (Val.assign rfl rfl) ?_
  refine WP.nil ?_
  refine Out.next ?_
  refine WPc.seq ?_
  refine WPc.seq ?_
  refine WPc.region ?_
  refine WP.val rfl rfl rfl (Val.move rfl rfl) ?_
  refine WP.val rfl rfl rfl (Val.move rfl rfl) ?_
  refine WP.val rfl rfl rfl (Val.lssS rfl rfl rfl) ?_
  refine WP.nil ?_
  refine Out.next ?_
  refine WPc.cond rfl (fun h1 => ?_) (fun h1 => ?_)
  · skip
    have h1 : (Op.bytesLess (x).toList (y).toList) = true := h1
    refine WPc.seq ?_
    refine WPc.region ?_
    refine WP.val rfl rfl rfl (Val.assign rfl rfl) ?_
    refine WP.nil ?_
    refine Out.next ?_
    refine WPc.ret ?_
    refine Out.then_ret ?_
    exact Out.ret1 (L' := []) Try.results77 rfl ⟨congrArg (Value.int .i64) (show (-1 : Int) = _ from by rw [ks_cmp]; simp_all), rfl⟩ (fun _ h => h)
  · skip
    have h1 : (Op.bytesLess (x).toList (y).toList) = false := h1
    refine WPc.skip ?_
    refine Out.next ?_
    refine WPc.seq ?_
    refine WPc.seq ?_
    refine WPc.region ?_
    refine WP.val rfl rfl rfl (Val.move rfl rfl) ?_
    refine WP.val rfl rfl rfl (Val.move rfl rfl) ?_
    refine WP.val rfl rfl rfl (Val.gtrS rfl rfl rfl) ?_
    refine WP.nil ?_
    refine Out.next ?_
    refine WPc.cond rfl (fun h2 => ?_) (fun h2 => ?_)
    · skip
      have h2 : (Op.bytesLess (y).toList (x).toList) = true := h2
      refine WPc.seq ?_
      refine WPc.region ?_
      refine WP.val rfl rfl rfl (Val.assign rfl rfl) ?_
      refine WP.nil ?_
      refine Out.next ?_
      refine WPc.ret ?_
      refine Out.then_ret ?_
      exact Out.ret1 (L' := []) Try.results77 rfl ⟨congrArg (Value.int .i64) (show (1 : Int) = _ from by rw [ks_cmp]; simp_all), rfl⟩ (fun _ h => h)
    · skip
      have h2 : (Op.bytesLess (y).toList (x).toList) = false := h2
      refine WPc.skip ?_
      refine Out.next ?_
      refine WPc.seq ?_
      refine WPc.region ?_
      refine WP.val rfl rfl rfl (Val.assign rfl rfl) ?_
      refine WP.nil ?_
      refine Out.next ?_
      refine WPc.ret ?_
      exact Out.ret1 (L' := []) Try.results77 rfl ⟨congrArg (Value.int .i64) (show (0 : Int) = _ from by rw [ks_cmp]; simp_all), rfl⟩ (fun _ h => h)
set_option maxRecDepth 100000 in
set_option maxHeartbeats 2000000 in
theorem cmpi_spec (x y : Int) (hx : -2305843009213693952 ≤ x ∧ x ≤ 2305843009213693952) (hy : -2305843009213693952 ≤ y ∧ y ≤ 2305843009213693952) : Does Try.prog 76 [.int .i64 (x), .iface 133 (.int .i64 (y))] [] (fun v L => v = .int .i64 (kcmp (ki x) (ki y)) ∧ L = []) := by
  refine Does.enter 16 Try.func76 rfl rfl rfl fun W F => ?_
  show WPc _ _ _ _ _ [(0, .int .i64 (x)), (1, .iface 133 (.int .i64 (y)))] (F)
  refine WPc.seq ?_
  refine WPc.region ?_
  refine WP.val rfl rfl rfl (Val.assign rfl rfl) ?_
  refine WP.nil ?_
  refine Out.next ?_
  refine WPc.seq ?_
  refine WPc.region ?_
  refine WP.val rfl rfl rfl (Val.move rfl rfl) ?_
  refine WP.val rfl rfl rfl (Val.assertC rfl Ty.ni133 rfl) ?_
  refine WP.val rfl rfl rfl (Val.assign rfl rfl) ?_
  refine WP.nil ?_
  refine Out.next ?_
  refine WPc.seq ?_
  refine WPc.region ?_
  refine WP.val rfl rfl rfl (Val.move rfl rfl) ?_
  refine WP.val rfl rfl rfl (Val.move rfl rfl) ?_
  refine WP.val rfl rfl rfl (Val.sub (z := x - y) rfl rfl rfl (w64 (by omega) (by omega))) ?_
  refine WP.val rfl rfl rfl (Val.assign rfl rfl) ?_
  refine WP.nil ?_
  refine Out.next ?_
  refine WPc.seq ?_
  refine WPc.seq ?_
  refine WPc.region ?_
  refine WP.val rfl rfl rfl (Val.move rfl rfl) ?_
  refine WP.val rfl rfl rfl (Val.lss rfl rfl rfl) ?_
  refine WP.nil ?_
  refine Out.next ?_
  refine WPc.ifP rfl (fun h1 => ?_) (fun h1 => ?_)
  · skip
    have h1 : ((x - y) < (0 : Int)) := h1
    refine WPc.seq ?_
    refine WPc.region ?_
    refine WP.val rfl rfl rfl (Val.assign rfl rfl) ?_
    refine WP.nil ?_
    refine Out.next ?_
    refine WPc.ret ?_
    refine Out.then_ret ?_
    exact Out.ret1 (L' := []) Try.results76 rfl ⟨congrArg (Value.int .i64) (show (-1 : Int) = _ from by rw [ki_cmp]; first | rw [if_pos (by omega)] | rw [if_neg (by omega), if_pos (by omega)] | rw [if_neg (by omega), if_neg (by omega)]), rfl⟩ (fun _ h => h)
  · skip
    have h1 : ¬ ((x - y) < (0 : Int)) := h1
    refine WPc.skip ?_
    refine Out.next ?_
    refine WPc.seq ?_
    refine WPc.seq ?_
    refine WPc.region ?_
    refine WP.val rfl rfl rfl (Val.move rfl rfl) ?_
    refine WP.val rfl rfl rfl (Val.gtr rfl rfl rfl) ?_
    refine WP.nil ?_
    refine Out.next ?_
    refine WPc.ifP rfl (fun h2 => ?_) (fun h2 => ?_)
    · skip
      have h2 : ((0 : Int) < (x - y)) := h2
      refine WPc.seq ?_
      refine WPc.region ?_
      refine WP.val rfl rfl rfl (Val.assign rfl rfl) ?_
      refine WP.nil ?_
      refine Out.next ?_
      refine WPc.ret ?_
      refine Out.then_ret ?_
      exact Out.ret1 (L' := []) Try.results76 rfl ⟨congrArg (Value.int .i64) (show (1 : Int) = _ from by rw [ki_cmp]; first | rw [if_pos (by omega)] | rw [if_neg (by omega), if_pos (by omega)] | rw [if_neg (by omega), if_neg (by omega)]), rfl⟩ (fun _ h => h)
    · skip
      have h2 : ¬ ((0 : Int) < (x - y)) := h2
      refine WPc.skip ?_
      refine Out.next ?_
      refine WPc.seq ?_
      refine WPc.region ?_
      refine WP.val rfl rfl rfl (Val.assign rfl rfl) ?_
      refine WP.nil ?_
      refine Out.next ?_
      refine WPc.ret ?_
      exact Out.ret1 (L' := []) Try.results76 rfl ⟨congrArg (Value.int .i64) (show (0 : Int) = _ from by rw [ki_cmp]; first | rw [if_pos (by omega)] | rw [if_neg (by omega), if_pos (by omega)] | rw [if_neg (by omega), if_neg (by omega)]), rfl⟩ (fun _ h => h)
set_option maxRecDepth 100000 in
set_option maxHeartbeats 2000000 in
theorem bcmp_spec (u v : Value) (x y : List UInt8) : Does Try.prog 100 [u, v] [Byts u x, Byts v y] (fun z L => z = .int .i64 (Lib.compareBytes x y) ∧ L = [Byts u x, Byts v y]) := by
  refine Does.enter 8 Try.func100 rfl rfl rfl fun W F => ?_
  show WPc _ _ _ _ _ [(0, u), (1, v)] (Byts u x :: Byts v y :: F)
  refine WPc.seq ?_
  refine WPc.region ?_
  refine WP.val rfl rfl rfl (Val.assign rfl rfl) ?_
  refine WP.nil ?_
  refine Out.next ?_
  refine WPc.seq ?_
  refine WPc.region ?_
  refine WP.val rfl rfl rfl (Val.move rfl rfl) ?_
  refine WP.val rfl rfl rfl (Val.move rfl rfl) ?_
  refine WP.val rfl rfl rfl (Val.cmpBytes (l1 := x) (l2 := y) rfl rfl rfl Try.func111 (by kernel_rfl) (by kernel_rfl) (by kernel_rfl) (by kernel_rfl) (fun w h => h.at 0 rfl) (fun w h => h.at 1 rfl)) ?_
  refine WP.val rfl rfl rfl (Val.assign rfl rfl) ?_
  refine WP.nil ?_
  refine Out.next ?_
  refine WPc.ret ?_
  exact Out.ret1 (L' := _) Try.results100 rfl ⟨rfl, rfl⟩ (fun _ h => h)
set_option maxRecDepth 100000 in
set_option maxHeartbeats 2000000 in
theorem cmpb_spec (u v : Value) (x y : List UInt8) : Does Try.prog 75 [u, .iface 132 (v)] [Byts u x, Byts v y] (fun z L => z = .int .i64 (kcmp (kb x) (kb y)) ∧ L = [Byts u x, Byts v y]) := by
  refine Does.enter 20 Try.func75 rfl rfl rfl fun W F => ?_
  show WPc _ _ _ _ _ [(0, u), (1, .iface 132 (v))] (Byts u x :: Byts v y :: F)
  refine WPc.seq ?_
  refine WPc.region ?_
  refine WP.val rfl rfl rfl (Val.assign rfl rfl) ?_
  refine WP.nil ?_
  refine Out.next ?_
  refine WPc.seq ?_
  refine WPc.region ?_
  refine WP.val rfl rfl rfl (Val.move rfl rfl) ?_
  refine WP.val rfl rfl rfl (Val.assertC rfl Ty.ni132 rfl) ?_
  refine WP.val rfl rfl rfl (Val.assign rfl rfl) ?_
  refine WP.nil ?_
  refine Out.next ?_
  refine WPc.seq ?_
  refine WPc.seq ?_
  refine WPc.region ?_
  refine WP.val rfl rfl rfl (Val.move rfl rfl) ?_
  refine WP.val rfl rfl rfl (Val.lenByts rfl Ty.sl132 rfl (fun w h => h.at 0 rfl)) ?_
  refine WP.val rfl rfl rfl (Val.eql rfl rfl rfl) ?_
  refine WP.nil ?_
  refine Out.next ?_
  refine WPc.ifP rfl (fun h1 => ?_) (fun h1 => ?_)
  · skip
    have h1 : (((x.length : Nat) : Int) = (0 : Int)) := h1
    refine WPc.seq ?_
    refine WPc.seq ?_
    refine WPc.region ?_
    refine WP.val rfl rfl rfl (Val.move rfl rfl) ?_
    refine WP.val rfl rfl rfl (Val.lenByts rfl Ty.sl132 rfl (fun w h => h.at 1 rfl)) ?_
    refine WP.val rfl rfl rfl (Val.eql rfl rfl rfl) ?_
    refine WP.nil ?_
    refine Out.next ?_
    refine WPc.ifP rfl (fun h2 => ?_) (fun h2 => ?_)
    · skip
      have h2 : (((y.length : Nat) : Int) = (0 : Int)) := h2
      refine WPc.seq ?_
      refine WPc.region ?_
      refine WP.val rfl rfl rfl (Val.assign rfl rfl) ?_
      refine WP.nil ?_
      refine Out.next ?_
      refine WPc.ret ?_
      refine Out.then_ret ?_
      refine Out.then_ret ?_
      exact Out.ret1 (L' := _) Try.results75 rfl ⟨congrArg (Value.int .i64) (show (0 : Int) = _ from by rw [kb_cmp]; simp_all), rfl⟩ (fun _ h => h)
    · skip
      have h2 : ¬ (((y.length : Nat) : Int) = (0 : Int)) := h2
      refine WPc.skip ?_
      refine Out.next ?_
      refine WPc.seq ?_
      refine WPc.region ?_
      refine WP.val rfl rfl rfl (Val.assign rfl rfl) ?_
      refine WP.nil ?_
      refine Out.next ?_
      refine WPc.ret ?_
      refine Out.then_ret ?_
      exact Out.ret1 (L' := _) Try.results75 rfl ⟨congrArg (Value.int .i64) (show (1 : Int) = _ from by rw [kb_cmp]; simp_all), rfl⟩ (fun _ h => h)
  · skip
    have h1 : ¬ (((x.length : Nat) : Int) = (0 : Int)) := h1
    refine WPc.skip ?_
    refine Out.next ?_
    refine WPc.seq ?_
    refine WPc.seq ?_
    refine WPc.region ?_
    refine WP.val rfl rfl rfl (Val.move rfl rfl) ?_
    refine WP.val rfl rfl rfl (Val.lenByts rfl Ty.sl132 rfl (fun w h => h.at 1 rfl)) ?_
    refine WP.val rfl rfl rfl (Val.eql rfl rfl rfl) ?_
    refine WP.nil ?_
    refine Out.next ?_
    refine WPc.ifP rfl (fun h3 => ?_) (fun h3 => ?_)
    · skip
      have h3 : (((y.length : Nat) : Int) = (0 : Int)) := h3
      refine WPc.seq ?_
      refine WPc.region ?_
      refine WP.val rfl rfl rfl (Val.assign rfl rfl) ?_
      refine WP.nil ?_
      refine Out.next ?_
      refine WPc.ret ?_
      refine Out.then_ret ?_
      exact Out.ret1 (L' := _) Try.results75 rfl ⟨congrArg (Value.int .i64) (show (-1 : Int) = _ from by rw [kb_cmp]; simp_all), rfl⟩ (fun _ h => h)
    · skip
      have h3 : ¬ (((y.length : Nat) : Int) = (0 : Int)) := h3
      refine WPc.skip ?_
      refine Out.next ?_
      refine WPc.seq ?_
      refine WPc.region ?_
      refine WP.val rfl rfl rfl (Val.move rfl rfl) ?_
      refine WP.val rfl rfl rfl (Val.move rfl rfl) ?_
      refine WP.perm pl1 ?_
      refine WP.perm pl1 ?_
      refine WP.eff rfl rfl rfl (Eff.call rfl rfl Try.call100 (bcmp_spec u v x y)) ?_
      rintro _ _ ⟨_, ⟨rfl, rfl⟩, rfl⟩
      show WP _ _ _ _ _ _ _ (Byts u x :: Byts v y :: F)
      refine WP.val rfl rfl rfl (Val.assign rfl rfl) ?_
      refine WP.nil ?_
      refine Out.next ?_
      refine WPc.ret ?_
      exact Out.ret1 (L' := _) Try.results75 rfl ⟨congrArg (Value.int .i64) (show (Lib.compareBytes x y : Int) = _ from by rw [kb_cmp]; simp_all), rfl⟩ (fun _ h => h)

end Go.Proofs.Ytbomnihiapjmpaa.Ta

namespace Go.Proofs.Ytbomnihiapjmpaa.Tc
open Go.RowKit Go.Proofs.Ytbomnihiapjmpaa Go.Proofs.Ytbomnihiapjmpaa.Sl Go.Proofs.Ytbomnihiapjmpaa.TrP Go.Proofs.Ytbomnihiapjmpaa.Ta
set_option linter.unusedVariables false
set_option linter.unusedSimpArgs false
set_option linter.unusedSectionVars false


inductive EV where
  | a (s : ByteArray)
  | s (s : ByteArray)
  | i (n : Int)
  | b (l : List UInt8)
/-- what an end's value reads as, for good -/
def Enp (e : En) : HProp := Ex fun x : EV => match x with
  | .a s => Pure (e.k = ka s ∧ e.t = 130 ∧ e.u = .string s)
  | .s s => Pure (e.k = ks s ∧ e.t = 134 ∧ e.u = .string s)
  | .i n => Pure (e.k = ki n ∧ e.t = 133 ∧ e.u = .int .i64 n ∧ (-2305843009213693952 ≤ n ∧ n ≤ 2305843009213693952))
  | .b l => Sep [Pure (e.k = kb l ∧ e.t = 132), Byts e.u l]
theorem Enp.pers {e : En} : Pers (Enp e) := Pers.ex fun x => by
  cases x with
  | a s => exact Pers.pure
  | s s => exact Pers.pure
  | i n => exact Pers.pure
  | b l => exact Pers.sep (by simp only [List.mem_cons, List.not_mem_nil, or_false]; rintro A (rfl | rfl); exact Pers.pure; exact Byts.pers)
/-- the ends that there are -/
abbrev Ens (EL : List En) : HProp := AllP Enp EL
section
variable [Dfs] {W : World} {n : Nat} {l : List (Nat × Value)} {L : List HProp} {o : Oper} {Q : Exit → Act → World → Prop}
theorem Eff.ofSat {R : Value → List HProp → Prop} {L' : List HProp} (h : ∀ w, Sat W L w → Sat W L' w) (he : Eff Try.prog W Q n l L' o R) : Eff Try.prog W Q n l L o R := fun a w hf hs K hK => he a w hf (h w hs) K hK
theorem Eff.to {R R' : Value → List HProp → Prop} (he : Eff Try.prog W Q n l L o R) (h : ∀ v M w, R v M → Sat W M w → ∃ M', R' v M' ∧ Sat W M' w) : Eff Try.prog W Q n l L o R' := fun a w hf hs K hK => he a w hf hs K fun v M w' hR hS => by
  obtain ⟨M', h1, h2⟩ := h v M w' hR hS
  exact hK v M' w' h1 h2
theorem Eff.sat {R : Value → List HProp → Prop} (h : ∀ w, Sat W L w → Eff Try.prog W Q n l L o R) : Eff Try.prog W Q n l L o R := fun a w hf hs K hK => h w hs a w hf hs K hK
/-- ends are compared -/
theorem Eff.cmp {EL : List En} {a b : En} {x y : Operand} {ats : Array TypeId} (ho : o.op = .call { callee := .invoke x "Compare", args := #[y], argTypes := ats }) (hx : ev l x = some (.iface a.t a.u)) (hy : ev l y = some (.iface b.t b.u)) (ha : a ∈ EL) (hb : b ∈ EL) (ht : a.t = b.t) :
    Eff Try.prog W Q n l (Ens EL :: L) o (One (.int .i64 (kcmp a.k b.k)) (Ens EL :: L)) := by
  have hys : evs l [y] = some [.iface b.t b.u] := by simp only [evs, hy]
  refine Eff.ofSat (L' := Enp b :: Enp a :: Ens EL :: L) (fun w h => (h.allGet ha).perm pl1 |>.allGet hb |>.perm (List.Perm.cons _ pl1)) ?_
  refine fun ac w hf hs K hK => ?_
  obtain ⟨eb, hs⟩ := hs.ex
  obtain ⟨ea, hs⟩ := (hs.perm pl1).ex
  cases ea with
  | a s =>
    obtain ⟨hk, hta, hu⟩ := hs.pure
    have hs := hs.drop
    cases eb with
    | a t =>
      obtain ⟨hk2, htb, hu2⟩ := hs.pure
      rw [hta, hu] at hx
      rw [htb, hu2] at hys
      refine Eff.invoke (f := 74) (L0 := []) ho hx hys (fun _ => by kernel_rfl) Try.call74 (cmpa_spec s t) ac w hf hs.drop K fun v M w' hR hS => ?_
      obtain ⟨M, ⟨rfl, rfl⟩, rfl⟩ := hR
      exact hK _ _ _ ⟨by rw [hk, hk2], rfl⟩ hS
    | s t => exact absurd (hta.symm.trans (ht.trans hs.pure.2.1)) (by decide)
    | i t => exact absurd (hta.symm.trans (ht.trans hs.pure.2.1)) (by decide)
    | b t => exact absurd (hta.symm.trans (ht.trans hs.sep.pure.2)) (by decide)
  | s s =>
    obtain ⟨hk, hta, hu⟩ := hs.pure
    have hs := hs.drop
    cases eb with
    | s t =>
      obtain ⟨hk2, htb, hu2⟩ := hs.pure
      rw [hta, hu] at hx
      rw [htb, hu2] at hys
      refine Eff.invoke (f := 77) (L0 := []) ho hx hys (fun _ => by kernel_rfl) Try.call77 (cmps_spec s t) ac w hf hs.drop K fun v M w' hR hS => ?_
      obtain ⟨M, ⟨rfl, rfl⟩, rfl⟩ := hR
      exact hK _ _ _ ⟨by rw [hk, hk2], rfl⟩ hS
    | a t => exact absurd (hta.symm.trans (ht.trans hs.pure.2.1)) (by decide)
    | i t => exact absurd (hta.symm.trans (ht.trans hs.pure.2.1)) (by decide)
    | b t => exact absurd (hta.symm.trans (ht.trans hs.sep.pure.2)) (by decide)
  | i s =>
    obtain ⟨hk, hta, hu, hn⟩ := hs.pure
    have hs := hs.drop
    cases eb with
    | i t =>
      obtain ⟨hk2, htb, hu2, hn2⟩ := hs.pure
      rw [hta, hu] at hx
      rw [htb, hu2] at hys
      refine Eff.invoke (f := 76) (L0 := []) ho hx hys (fun _ => by kernel_rfl) Try.call76 (cmpi_spec s t hn hn2) ac w hf hs.drop K fun v M w' hR hS => ?_
      obtain ⟨M, ⟨rfl, rfl⟩, rfl⟩ := hR
      exact hK _ _ _ ⟨by rw [hk, hk2], rfl⟩ hS
    | a t => exact absurd (hta.symm.trans (ht.trans hs.pure.2.1)) (by decide)
    | s t => exact absurd (hta.symm.trans (ht.trans hs.pure.2.1)) (by decide)
    | b t => exact absurd (hta.symm.trans (ht.trans hs.sep.pure.2)) (by decide)
  | b s =>
    have hs : Sat W (Pure (a.k = kb s ∧ a.t = 132) :: Byts a.u s :: _) w := hs.sep
    obtain ⟨hk, hta⟩ := hs.pure
    have hs := hs.drop.perm pl1
    cases eb with
    | b t =>
      have hs : Sat W (Pure (b.k = kb t ∧ b.t = 132) :: Byts b.u t :: _) w := hs.sep
      obtain ⟨hk2, htb⟩ := hs.pure
      rw [hta] at hx
      rw [htb] at hys
      refine Eff.invoke (f := 75) (L0 := [Byts a.u s, Byts b.u t]) ho hx hys (fun _ => by kernel_rfl) Try.call75 (cmpb_spec a.u b.u s t) ac w hf (hs.drop.perm pl1) K fun v M w' hR hS => ?_
      obtain ⟨M, ⟨rfl, rfl⟩, rfl⟩ := hR
      exact hK _ _ _ ⟨by rw [hk, hk2], rfl⟩ hS.drop.drop
    | a t => exact absurd (hta.symm.trans (ht.trans hs.pure.2.1)) (by decide)
    | s t => exact absurd (hta.symm.trans (ht.trans hs.pure.2.1)) (by decide)
    | i t => exact absurd (hta.symm.trans (ht.trans hs.pure.2.1)) (by decide)
end
/-! the store -/
abbrev Sto (S : St) (D : List Nat) : HProp := Kds (fun i => Blk i (S i).cells 177) D
theorem pn168 : ptrN Try.prog 168 = true := by kernel_rfl
theorem whole {S : St} {D : List Nat} {s a : Nat} {ZC : List Value} {w : World} (h1 : Holds (Sto S D) w) (h2 : Holds (Blk s ZC 177) w) (h : Is s D a) : ∃ C, Holds (Blk a C 177) w := by
  rcases h with rfl | h
  · exact ⟨_, h2⟩
  · exact ⟨_, h1.kds h⟩
theorem sto_l {S : St} {D : List Nat} {x q : Nat} {w : World} (h : Holds (Sto S D) w) (hx : x ∈ D) (hk : (S x).l = q) : w.cell? ⟨x, 4, none⟩ = some (.pointer (some ⟨q, 0, none⟩)) := by subst hk; exact (h.kds hx).cell 4
theorem sto_r {S : St} {D : List Nat} {x q : Nat} {w : World} (h : Holds (Sto S D) w) (hx : x ∈ D) (hk : (S x).r = q) : w.cell? ⟨x, 5, none⟩ = some (.pointer (some ⟨q, 0, none⟩)) := by subst hk; exact (h.kds hx).cell 5
theorem sto_p {S : St} {D : List Nat} {x q : Nat} {w : World} (h : Holds (Sto S D) w) (hx : x ∈ D) (hk : (S x).p = q) : w.cell? ⟨x, 6, none⟩ = some (.pointer (some ⟨q, 0, none⟩)) := by subst hk; exact (h.kds hx).cell 6
theorem sto_c {S : St} {D : List Nat} {x : Nat} {q : Int} {w : World} (h : Holds (Sto S D) w) (hx : x ∈ D) (hk : (S x).c = q) : w.cell? ⟨x, 7, none⟩ = some (.int .i64 q) := by subst hk; exact (h.kds hx).cell 7
theorem sto_m {S : St} {D : List Nat} {x : Nat} {q : En} {w : World} (h : Holds (Sto S D) w) (hx : x ∈ D) (hk : (S x).m = q) : w.cell? ⟨x, 3, none⟩ = some (.iface q.t q.u) := by subst hk; exact (h.kds hx).cell 3
theorem sto_b {S : St} {D : List Nat} {x : Nat} {q : En} {w : World} (h : Holds (Sto S D) w) (hx : x ∈ D) (hk : (S x).it.b = q) : w.cell? ⟨x, 0, none⟩ = some (.iface q.t q.u) := by subst hk; exact (h.kds hx).cell 0
theorem sto_e {S : St} {D : List Nat} {x : Nat} {q : En} {w : World} (h : Holds (Sto S D) w) (hx : x ∈ D) (hk : (S x).it.e = q) : w.cell? ⟨x, 1, none⟩ = some (.iface q.t q.u) := by subst hk; exact (h.kds hx).cell 1
theorem sto_v {S : St} {D : List Nat} {x : Nat} {q : Value} {w : World} (h : Holds (Sto S D) w) (hx : x ∈ D) (hk : (S x).it.v = q) : w.cell? ⟨x, 2, none⟩ = some q := by subst hk; exact (h.kds hx).cell 2
theorem cells_other {S : St} {x : Nat} {y : NR} : ∀ j, j ≠ x → (upd S x y j).cells = (S j).cells := fun j hj => by rw [upd_other _ _ hj]

end Go.Proofs.Ytbomnihiapjmpaa.Tc

namespace Go.Proofs.Ytbomnihiapjmpaa.Td
open Go.RowKit Go.Proofs.Ytbomnihiapjmpaa Go.Proofs.Ytbomnihiapjmpaa.Sl Go.Proofs.Ytbomnihiapjmpaa.TrP Go.Proofs.Ytbomnihiapjmpaa.Tc
set_option linter.unusedVariables false
set_option linter.unusedSimpArgs false
set_option linter.unusedSectionVars false


theorem pe168 : ptrE Try.prog 168 = true := by kernel_rfl
/-- the place of a span among others: -1, 1, or 0 where they meet -/
def icmp (ab ae bb be : Ky) : Int := if klt ab bb ∧ ¬ klt bb ae then -1 else if ¬ klt ab be then 1 else 0
theorem icmp_n {ab ae bb be : Ky} (h1 : kcmp ab bb < 0) (h2 : kcmp ae bb ≤ 0) : (-1 : Int) = icmp ab ae bb be := by
  unfold icmp; rw [if_pos ⟨kcmp_lt.1 h1, fun h => by have := kcmp_gt.2 h; omega⟩]
theorem icmp_p {ab ae bb be : Ky} (h1 : ¬ (kcmp ab bb < 0 ∧ kcmp ae bb ≤ 0)) (h2 : 0 ≤ kcmp ab be) : (1 : Int) = icmp ab ae bb be := by
  unfold icmp; rw [if_neg (fun h => h1 ⟨kcmp_lt.2 h.1, by rcases Int.lt_or_le 0 (kcmp ae bb) with h3 | h3; exact absurd (kcmp_gt.1 h3) h.2; exact h3⟩), if_pos (fun h => by have := kcmp_lt.2 h; omega)]
theorem icmp_z {ab ae bb be : Ky} (h1 : ¬ (kcmp ab bb < 0 ∧ kcmp ae bb ≤ 0)) (h2 : kcmp ab be < 0) : (0 : Int) = icmp ab ae bb be := by
  unfold icmp; rw [if_neg (fun h => h1 ⟨kcmp_lt.2 h.1, by rcases Int.lt_or_le 0 (kcmp ae bb) with h3 | h3; exact absurd (kcmp_gt.1 h3) h.2; exact h3⟩), if_neg (fun h => h (kcmp_lt.1 h2))]
set_option maxRecDepth 100000 in
set_option maxHeartbeats 2000000 in
theorem icmp_does (A B : HProp) (EL : List En) (t0 : TypeId) (hE : ∀ e ∈ EL, e.t = t0) (pa pb : Nat) (xab xae xbb xbe : En) (mab : xab ∈ EL) (mae : xae ∈ EL) (mbb : xbb ∈ EL) (mbe : xbe ∈ EL) (hab : ∀ w, Holds A w → w.cell? ⟨pa, 0, none⟩ = some (.iface xab.t xab.u)) (hae : ∀ w, Holds A w → w.cell? ⟨pa, 1, none⟩ = some (.iface xae.t xae.u)) (hbb : ∀ w, Holds B w → w.cell? ⟨pb, 0, none⟩ = some (.iface xbb.t xbb.u)) (hbe : ∀ w, Holds B w → w.cell? ⟨pb, 1, none⟩ = some (.iface xbe.t xbe.u)) : Does Try.prog 153 [.pointer (some ⟨pa, 0, none⟩), .iface 279 (.pointer (some ⟨pb, 0, none⟩))] [A, B, Ens EL] (fun v L => v = .int .i64 (icmp xab.k xae.k xbb.k xbe.k) ∧ L = [A, B, Ens EL]) := by
  refine Does.enter 52 Try.func153 rfl rfl rfl fun W F => ?_
  show WPc _ _ _ _ _ [(0, .pointer (some ⟨pa, 0, none⟩)), (1, .iface 279 (.pointer (some ⟨pb, 0, none⟩)))] (A :: B :: Ens EL :: F)
  refine WPc.seq ?_
  refine WPc.region ?_
  refine WP.val rfl rfl rfl (Val.assign rfl rfl) ?_
  refine WP.nil ?_
  refine Out.next ?_
  refine WPc.seq ?_
  refine WPc.region ?_
  refine WP.val rfl rfl rfl (Val.move rfl rfl) ?_
  refine WP.val rfl rfl rfl (Val.assertC rfl Ty.ni279 rfl) ?_
  refine WP.val rfl rfl rfl (Val.assign rfl rfl) ?_
  refine WP.nil ?_
  refine Out.next ?_
  refine WPc.seq ?_
  refine WPD.start (Sat W (A :: B :: Ens EL :: F)) Ty.mixed ?_
  refine WPD.takeM 0 rfl rfl rfl rfl (by kernel_rfl) (by kernel_rfl) (by kernel_rfl) (by kernel_rfl) (fun _ _ _ h => h) (fun _ h => h) (Val.move rfl rfl) ?_
  refine WPD.takeM 1 rfl rfl rfl rfl (by kernel_rfl) (by kernel_rfl) (by kernel_rfl) (by kernel_rfl) (fun _ _ _ h => h) (fun _ h => h) (Val.nilCheck rfl rfl) ?_
  refine WPD.takeM 2 rfl rfl rfl rfl (by kernel_rfl) (by kernel_rfl) (by kernel_rfl) (by kernel_rfl) (fun _ _ _ h => h) (fun _ h => h) (Val.fieldAddr (j := 0) rfl Ty.fo172_0 rfl rfl) ?_
  refine WPD.take 3 rfl rfl rfl rfl (by kernel_rfl) (by kernel_rfl) (by kernel_rfl) (by kernel_rfl) (fun _ _ _ h => h) (by kernel_rfl) (fun _ h => h) (Val.load (v := .iface xab.t (xab.u)) rfl Ty.sc170 rfl (fun w h => hab w (h.at 0 rfl))) ?_
  refine WPD.takeM 4 rfl rfl rfl rfl (by kernel_rfl) (by kernel_rfl) (by kernel_rfl) (by kernel_rfl) (fun _ _ _ h => h) (fun _ h => h) (Val.move rfl rfl) ?_
  refine WPD.takeM 5 rfl rfl rfl rfl (by kernel_rfl) (by kernel_rfl) (by kernel_rfl) (by kernel_rfl) (fun _ _ _ h => h) (fun _ h => h) (Val.nilCheck rfl rfl) ?_
  refine WPD.takeM 6 rfl rfl rfl rfl (by kernel_rfl) (by kernel_rfl) (by kernel_rfl) (by kernel_rfl) (fun _ _ _ h => h) (fun _ h => h) (Val.fieldAddr (j := 0) rfl Ty.fo172_0 rfl rfl) ?_
  refine WPD.take 7 rfl rfl rfl rfl (by kernel_rfl) (by kernel_rfl) (by kernel_rfl) (by kernel_rfl) (fun _ _ _ h => h) (by kernel_rfl) (fun _ h => h) (Val.load (v := .iface xbb.t (xbb.u)) rfl Ty.sc170 rfl (fun w h => hbb w (h.at 1 rfl))) ?_
  refine WPD.takeM 8 rfl rfl rfl rfl (by kernel_rfl) (by kernel_rfl) (by kernel_rfl) (by kernel_rfl) (fun _ _ _ h => h) (fun _ h => h) (Val.nilCheckI rfl rfl) ?_
  refine WPD.takeM 9 rfl rfl rfl rfl (by kernel_rfl) (by kernel_rfl) (by kernel_rfl) (by kernel_rfl) (fun _ _ _ h => h) (fun _ h => h) (Val.move rfl rfl) ?_
  refine WPD.perm pl2 ?_
  refine WPD.stepC 10 (by kernel_rfl) rfl rfl rfl rfl (by kernel_rfl) (Eff.cmp (a := xab) (b := xbb) rfl rfl rfl mab mbb ((hE _ mab).trans (hE _ mbb).symm)) ?_
  rintro _ _ ⟨rfl, rfl⟩
  refine ⟨(Sat W (Ens EL :: A :: B :: F)), (fun _ h => h), ?_⟩
  refine WPD.takeM 11 rfl rfl rfl rfl (by kernel_rfl) (by kernel_rfl) (by kernel_rfl) (by kernel_rfl) (fun _ _ _ h => h) (fun _ h => h) (Val.assign rfl rfl) ?_
  refine WPD.done (by kernel_rfl) ?_
  refine Out.next ?_
  refine WPc.seq ?_
  refine WPD.start (Sat W (Ens EL :: A :: B :: F)) Ty.mixed ?_
  refine WPD.takeM 0 rfl rfl rfl rfl (by kernel_rfl) (by kernel_rfl) (by kernel_rfl) (by kernel_rfl) (fun _ _ _ h => h) (fun _ h => h) (Val.move rfl rfl) ?_
  refine WPD.takeM 1 rfl rfl rfl rfl (by kernel_rfl) (by kernel_rfl) (by kernel_rfl) (by kernel_rfl) (fun _ _ _ h => h) (fun _ h => h) (Val.nilCheck rfl rfl) ?_
  refine WPD.takeM 2 rfl rfl rfl rfl (by kernel_rfl) (by kernel_rfl) (by kernel_rfl) (by kernel_rfl) (fun _ _ _ h => h) (fun _ h => h) (Val.fieldAddr (j := 0) rfl Ty.fo172_0 rfl rfl) ?_
  refine WPD.take 3 rfl rfl rfl rfl (by kernel_rfl) (by kernel_rfl) (by kernel_rfl) (by kernel_rfl) (fun _ _ _ h => h) (by kernel_rfl) (fun _ h => h) (Val.load (v := .iface xab.t (xab.u)) rfl Ty.sc170 rfl (fun w h => hab w (h.at 1 rfl))) ?_
  refine WPD.takeM 4 rfl rfl rfl rfl (by kernel_rfl) (by kernel_rfl) (by kernel_rfl) (by kernel_rfl) (fun _ _ _ h => h) (fun _ h => h) (Val.move rfl rfl) ?_
  refine WPD.takeM 5 rfl rfl rfl rfl (by kernel_rfl) (by kernel_rfl) (by kernel_rfl) (by kernel_rfl) (fun _ _ _ h => h) (fun _ h => h) (Val.nilCheck rfl rfl) ?_
  refine WPD.takeM 6 rfl rfl rfl rfl (by kernel_rfl) (by kernel_rfl) (by kernel_rfl) (by kernel_rfl) (fun _ _ _ h => h) (fun _ h => h) (Val.fieldAddr (j := 1) rfl Ty.fo172_1 rfl rfl) ?_
  refine WPD.take 7 rfl rfl rfl rfl (by kernel_rfl) (by kernel_rfl) (by kernel_rfl) (by kernel_rfl) (fun _ _ _ h => h) (by kernel_rfl) (fun _ h => h) (Val.load (v := .iface xbe.t (xbe.u)) rfl Ty.sc170 rfl (fun w h => hbe w (h.at 2 rfl))) ?_
  refine WPD.takeM 8 rfl rfl rfl rfl (by kernel_rfl) (by kernel_rfl) (by kernel_rfl) (by kernel_rfl) (fun _ _ _ h => h) (fun _ h => h) (Val.nilCheckI rfl rfl) ?_
  refine WPD.takeM 9 rfl rfl rfl rfl (by kernel_rfl) (by kernel_rfl) (by kernel_rfl) (by kernel_rfl) (fun _ _ _ h => h) (fun _ h => h) (Val.move rfl rfl) ?_
  refine WPD.stepC 10 (by kernel_rfl) rfl rfl rfl rfl (by kernel_rfl) (Eff.cmp (a := xab) (b := xbe) rfl rfl rfl mab mbe ((hE _ mab).trans (hE _ mbe).symm)) ?_
  rintro _ _ ⟨rfl, rfl⟩
  refine ⟨(Sat W (Ens EL :: A :: B :: F)), (fun _ h => h), ?_⟩
  refine WPD.takeM 11 rfl rfl rfl rfl (by kernel_rfl) (by kernel_rfl) (by kernel_rfl) (by kernel_rfl) (fun _ _ _ h => h) (fun _ h => h) (Val.assign rfl rfl) ?_
  refine WPD.done (by kernel_rfl) ?_
  refine Out.next ?_
  refine WPc.seq ?_
  refine WPD.start (Sat W (Ens EL :: A :: B :: F)) Ty.mixed ?_
  refine WPD.takeM 0 rfl rfl rfl rfl (by kernel_rfl) (by kernel_rfl) (by kernel_rfl) (by kernel_rfl) (fun _ _ _ h => h) (fun _ h => h) (Val.move rfl rfl) ?_
  refine WPD.takeM 1 rfl rfl rfl rfl (by kernel_rfl) (by kernel_rfl) (by kernel_rfl) (by kernel_rfl) (fun _ _ _ h => h) (fun _ h => h) (Val.nilCheck rfl rfl) ?_
  refine WPD.takeM 2 rfl rfl rfl rfl (by kernel_rfl) (by kernel_rfl) (by kernel_rfl) (by kernel_rfl) (fun _ _ _ h => h) (fun _ h => h) (Val.fieldAddr (j := 1) rfl Ty.fo172_1 rfl rfl) ?_
  refine WPD.take 3 rfl rfl rfl rfl (by kernel_rfl) (by kernel_rfl) (by kernel_rfl) (by kernel_rfl) (fun _ _ _ h => h) (by kernel_rfl) (fun _ h => h) (Val.load (v := .iface xae.t (xae.u)) rfl Ty.sc170 rfl (fun w h => hae w (h.at 1 rfl))) ?_
  refine WPD.takeM 4 rfl rfl rfl rfl (by kernel_rfl) (by kernel_rfl) (by kernel_rfl) (by kernel_rfl) (fun _ _ _ h => h) (fun _ h => h) (Val.move rfl rfl) ?_
  refine WPD.takeM 5 rfl rfl rfl rfl (by kernel_rfl) (by kernel_rfl) (by kernel_rfl) (by kernel_rfl) (fun _ _ _ h => h) (fun _ h => h) (Val.nilCheck rfl rfl) ?_
  refine WPD.takeM 6 rfl rfl rfl rfl (by kernel_rfl) (by kernel_rfl) (by kernel_rfl) (by kernel_rfl) (fun _ _ _ h => h) (fun _ h => h) (Val.fieldAddr (j := 0) rfl Ty.fo172_0 rfl rfl) ?_
  refine WPD.take 7 rfl rfl rfl rfl (by kernel_rfl) (by kernel_rfl) (by kernel_rfl) (by kernel_rfl) (fun _ _ _ h => h) (by kernel_rfl) (fun _ h => h) (Val.load (v := .iface xbb.t (xbb.u)) rfl Ty.sc170 rfl (fun w h => hbb w (h.at 2 rfl))) ?_
  refine WPD.takeM 8 rfl rfl rfl rfl (by kernel_rfl) (by kernel_rfl) (by kernel_rfl) (by kernel_rfl) (fun _ _ _ h => h) (fun _ h => h) (Val.nilCheckI rfl rfl) ?_
  refine WPD.takeM 9 rfl rfl rfl rfl (by kernel_rfl) (by kernel_rfl) (by kernel_rfl) (by kernel_rfl) (fun _ _ _ h => h) (fun _ h => h) (Val.move rfl rfl) ?_
  refine WPD.stepC 10 (by kernel_rfl) rfl rfl rfl rfl (by kernel_rfl) (Eff.cmp (a := xae) (b := xbb) rfl rfl rfl mae mbb ((hE _ mae).trans (hE _ mbb).symm)) ?_
  rintro _ _ ⟨rfl, rfl⟩
  refine ⟨(Sat W (Ens EL :: A :: B :: F)), (fun _ h => h), ?_⟩
  refine WPD.takeM 11 rfl rfl rfl rfl (by kernel_rfl) (by kernel_rfl) (by kernel_rfl) (by kernel_rfl) (fun _ _ _ h => h) (fun _ h => h) (Val.assign rfl rfl) ?_
  refine WPD.done (by kernel_rfl) ?_
  refine Out.next ?_
  refine WPc.seq ?_
  refine WPc.seq ?_
  refine WPc.region ?_
  refine WP.val rfl rfl rfl (Val.move rfl rfl) ?_
  refine WP.val rfl rfl rfl (Val.lss rfl rfl rfl) ?_
  refine WP.val rfl rfl rfl (Val.move rfl rfl) ?_
  refine WP.split 46 rfl (fun h1 => ?_) (fun h1 => ?_)
  · skip
    have h1 : ((kcmp xab.k xbb.k) < (0 : Int)) := h1
    refine WP.valG rfl rfl rfl rfl rfl rfl rfl (Val.move rfl rfl) ?_
    refine WP.valG rfl rfl rfl rfl rfl rfl rfl (Val.leq rfl rfl rfl) ?_
    refine WP.val rfl rfl rfl (Val.pickT rfl rfl rfl) ?_
    refine WP.nil ?_
    refine Out.next ?_
    refine WPc.ifP rfl (fun h2 => ?_) (fun h2 => ?_)
    · skip
      have h2 : ((kcmp xae.k xbb.k) ≤ (0 : Int)) := h2
      refine WPc.seq ?_
      refine WPc.region ?_
      refine WP.val rfl rfl rfl (Val.assign rfl rfl) ?_
      refine WP.nil ?_
      refine Out.next ?_
      refine WPc.ret ?_
      refine Out.then_ret ?_
      refine Out.perm pl2 ?_
      refine Out.perm pl2 ?_
      exact Out.ret1 (L' := _) Try.results153 rfl ⟨congrArg (Value.int .i64) (icmp_n (by assumption) (by assumption)), rfl⟩ (fun _ h => h)
    · skip
      have h2 : ¬ ((kcmp xae.k xbb.k) ≤ (0 : Int)) := h2
      refine WPc.skip ?_
      refine Out.next ?_
      refine WPc.seq ?_
      refine WPc.seq ?_
      refine WPc.region ?_
      refine WP.val rfl rfl rfl (Val.move rfl rfl) ?_
      refine WP.val rfl rfl rfl (Val.geq rfl rfl rfl) ?_
      refine WP.nil ?_
      refine Out.next ?_
      refine WPc.ifP rfl (fun h3 => ?_) (fun h3 => ?_)
      · skip
        have h3 : ((0 : Int) ≤ (kcmp xab.k xbe.k)) := h3
        refine WPc.seq ?_
        refine WPc.region ?_
        refine WP.val rfl rfl rfl (Val.assign rfl rfl) ?_
        refine WP.nil ?_
        refine Out.next ?_
        refine WPc.ret ?_
        refine Out.then_ret ?_
        refine Out.perm pl2 ?_
        refine Out.perm pl2 ?_
        exact Out.ret1 (L' := _) Try.results153 rfl ⟨congrArg (Value.int .i64) (icmp_p (by omega) (by omega)), rfl⟩ (fun _ h => h)
      · skip
        have h3 : ¬ ((0 : Int) ≤ (kcmp xab.k xbe.k)) := h3
        refine WPc.skip ?_
        refine Out.next ?_
        refine WPc.seq ?_
        refine WPc.region ?_
        refine WP.val rfl rfl rfl (Val.assign rfl rfl) ?_
        refine WP.nil ?_
        refine Out.next ?_
        refine WPc.ret ?_
        refine Out.perm pl2 ?_
        refine Out.perm pl2 ?_
        exact Out.ret1 (L' := _) Try.results153 rfl ⟨congrArg (Value.int .i64) (icmp_z (by omega) (by omega)), rfl⟩ (fun _ h => h)
  · skip
    have h1 : ¬ ((kcmp xab.k xbb.k) < (0 : Int)) := h1
    refine WP.skip rfl rfl rfl rfl rfl rfl rfl ?_
    refine WP.skip rfl rfl rfl rfl rfl rfl rfl ?_
    refine WP.val rfl rfl rfl (Val.pickF rfl rfl rfl) ?_
    refine WP.nil ?_
    refine Out.next ?_
    refine WPc.condF rfl rfl ?_
    refine WPc.skip ?_
    refine Out.next ?_
    refine WPc.seq ?_
    refine WPc.seq ?_
    refine WPc.region ?_
    refine WP.val rfl rfl rfl (Val.move rfl rfl) ?_
    refine WP.val rfl rfl rfl (Val.geq rfl rfl rfl) ?_
    refine WP.nil ?_
    refine Out.next ?_
    refine WPc.ifP rfl (fun h4 => ?_) (fun h4 => ?_)
    · skip
      have h4 : ((0 : Int) ≤ (kcmp xab.k xbe.k)) := h4
      refine WPc.seq ?_
      refine WPc.region ?_
      refine WP.val rfl rfl rfl (Val.assign rfl rfl) ?_
      refine WP.nil ?_
      refine Out.next ?_
      refine WPc.ret ?_
      refine Out.then_ret ?_
      refine Out.perm pl2 ?_
      refine Out.perm pl2 ?_
      exact Out.ret1 (L' := _) Try.results153 rfl ⟨congrArg (Value.int .i64) (icmp_p (by omega) (by omega)), rfl⟩ (fun _ h => h)
    · skip
      have h4 : ¬ ((0 : Int) ≤ (kcmp xab.k xbe.k)) := h4
      refine WPc.skip ?_
      refine Out.next ?_
      refine WPc.seq ?_
      refine WPc.region ?_
      refine WP.val rfl rfl rfl (Val.assign rfl rfl) ?_
      refine WP.nil ?_
      refine Out.next ?_
      refine WPc.ret ?_
      refine Out.perm pl2 ?_
      refine Out.perm pl2 ?_
      exact Out.ret1 (L' := _) Try.results153 rfl ⟨congrArg (Value.int .i64) (icmp_z (by omega) (by omega)), rfl⟩ (fun _ h => h)

end Go.Proofs.Ytbomnihiapjmpaa.Td

namespace Go.Proofs.Ytbomnihiapjmpaa.TrP
open Go.RowKit Go.Lib Go.Proofs.Ytbomnihiapjmpaa Go.Proofs.Ytbomnihiapjmpaa.Sl
set_option linter.unusedVariables false
set_option linter.unusedSimpArgs false
set_option linter.unusedSectionVars false

/-- y in x's place, below x's parent -/
def rp (s n : Nat) (S : St) (root x y : Nat) : St × Nat :=
  if (S x).p = s then (upd (upd S y { S y with p := (S x).p }) x { upd S y { S y with p := (S x).p } x with p := y }, y)
  else
    (upd (um s n (if x = (S (S x).p).l then upd (upd S y { S y with p := (S x).p }) (S x).p { upd S y { S y with p := (S x).p } (S x).p with l := y } else upd (upd S y { S y with p := (S x).p }) (S x).p { upd S y { S y with p := (S x).p } (S x).p with r := y }) (S x).p) x
      { um s n (if x = (S (S x).p).l then upd (upd S y { S y with p := (S x).p }) (S x).p { upd S y { S y with p := (S x).p } (S x).p with l := y } else upd (upd S y { S y with p := (S x).p }) (S x).p { upd S y { S y with p := (S x).p } (S x).p with r := y }) (S x).p x with p := y }, root)
theorem rp_top {s n root x y : Nat} {S : St} (h : (S x).p = s) : rp s n S root x y = (setP (setP S y (S x).p) x y, y) := if_pos h
theorem rp_left {s n root x y : Nat} {S : St} (h : (S x).p ≠ s) (h2 : x = (S (S x).p).l) : rp s n S root x y = (setP (um s n (setL (setP S y (S x).p) (S x).p y) (S x).p) x y, root) := by
  unfold rp
  rw [if_neg h]
  simp only [if_pos h2]
  rfl
theorem rp_right {s n root x y : Nat} {S : St} (h : (S x).p ≠ s) (h2 : ¬ x = (S (S x).p).l) : rp s n S root x y = (setP (um s n (setR (setP S y (S x).p) (S x).p y) (S x).p) x y, root) := by
  unfold rp
  rw [if_neg h]
  simp only [if_neg h2]
  rfl
theorem rp_ok {s n root x y : Nat} {S : St} {EL : List En} {D : List Nat} (h : Ok s EL D S) (hx : x ∈ D) (hy : y ∈ D) : Ok s EL D (rp s n S root x y).1 := by
  by_cases h1 : (S x).p = s
  · rw [rp_top h1]
    exact (h.setP (h.p hx)).setP (.inr hy)
  · by_cases h2 : x = (S (S x).p).l
    · rw [rp_left h1 h2]
      exact (um_ok _ _ _ ((h.setP (h.p hx)).setL (.inr hy)) (h.p hx)).setP (.inr hy)
    · rw [rp_right h1 h2]
      exact (um_ok _ _ _ ((h.setP (h.p hx)).setR (.inr hy)) (h.p hx)).setP (.inr hy)
/-! rotations -/
theorem rp_root {s n root x y : Nat} {S : St} {D : List Nat} (h : Is s D root) (hy : y ∈ D) : Is s D (rp s n S root x y).2 := by
  by_cases h1 : (S x).p = s
  · rw [rp_top h1]; exact .inr hy
  · by_cases h2 : x = (S (S x).p).l
    · rw [rp_left h1 h2]; exact h
    · rw [rp_right h1 h2]; exact h

def rl2 (s : Nat) (S : St) (x : Nat) : St := if (S (S x).r).l ≠ s then setP (setR S x (S (S x).r).l) (S (S x).r).l x else setR S x (S (S x).r).l
def rl3 (s n : Nat) (S : St) (x : Nat) : St := um s n (rl2 s S x) x
def rl4 (s n : Nat) (S : St) (root x : Nat) : St × Nat := rp s n (rl3 s n S x) root x (S x).r
def rl5 (s n : Nat) (S : St) (root x : Nat) : St := setL (rl4 s n S root x).1 (S x).r x
/-- x's other child in its place -/
def rl (s n : Nat) (S : St) (root x : Nat) : St × Nat := if (S x).r = s then (S, root) else (um s n (rl5 s n S root x) (S x).r, (rl4 s n S root x).2)
structure RlOk (s n : Nat) (S : St) (root x : Nat) : Prop where
  ne : x ≠ (S x).r
  d1 : Dep s (rl2 s S x) n x
  d2 : (rl3 s n S x x).p ≠ s → Dep s (setP (rl3 s n S x) (S x).r (rl3 s n S x x).p) n (rl3 s n S x x).p
  d3 : Dep s (rl5 s n S root x) n (S x).r
theorem rl_s {s n root x : Nat} {S : St} (h : (S x).r = s) : rl s n S root x = (S, root) := if_pos h
theorem rl_ne {s n root x : Nat} {S : St} (h : ¬ (S x).r = s) : rl s n S root x = (um s n (rl5 s n S root x) (S x).r, (rl4 s n S root x).2) := if_neg h
theorem rl2_pos {s x : Nat} {S : St} (h : (S (S x).r).l ≠ s) : rl2 s S x = setP (setR S x (S (S x).r).l) (S (S x).r).l x := if_pos h
theorem rl2_neg {s x : Nat} {S : St} (h : ¬ (S (S x).r).l ≠ s) : rl2 s S x = setR S x (S (S x).r).l := if_neg h
theorem rl2_ok {s x : Nat} {S : St} {EL : List En} {D : List Nat} (h : Ok s EL D S) (hx : x ∈ D) (hr : (S x).r ≠ s) : Ok s EL D (rl2 s S x) := by
  have hy : (S x).r ∈ D := (h.r hx).mem hr
  by_cases hb : (S (S x).r).l ≠ s
  · rw [rl2_pos hb]; exact (h.setR (h.l hy)).setP (.inr hx)
  · rw [rl2_neg hb]; exact h.setR (h.l hy)
theorem rl_ok {s n root x : Nat} {S : St} {EL : List En} {D : List Nat} (h : Ok s EL D S) (hx : x ∈ D) : Ok s EL D (rl s n S root x).1 := by
  by_cases hr : (S x).r = s
  · rw [rl_s hr]; exact h
  · have hy : (S x).r ∈ D := (h.r hx).mem hr
    rw [rl_ne hr]
    exact um_ok _ _ _ ((rp_ok (um_ok _ _ _ (rl2_ok h hx hr) (.inr hx)) hx hy).setL (.inr hx)) (.inr hy)
theorem rl_root {s n root x : Nat} {S : St} {EL : List En} {D : List Nat} (h : Ok s EL D S) (hx : x ∈ D) (hroot : Is s D root) : Is s D (rl s n S root x).2 := by
  by_cases hr : (S x).r = s
  · rw [rl_s hr]; exact hroot
  · rw [rl_ne hr]; exact rp_root hroot ((h.r hx).mem hr)

def rr2 (s : Nat) (S : St) (x : Nat) : St := if (S (S x).l).r ≠ s then setP (setL S x (S (S x).l).r) (S (S x).l).r x else setL S x (S (S x).l).r
def rr3 (s n : Nat) (S : St) (x : Nat) : St := um s n (rr2 s S x) x
def rr4 (s n : Nat) (S : St) (root x : Nat) : St × Nat := rp s n (rr3 s n S x) root x (S x).l
def rr5 (s n : Nat) (S : St) (root x : Nat) : St := setR (rr4 s n S root x).1 (S x).l x
/-- x's other child in its place -/
def rr (s n : Nat) (S : St) (root x : Nat) : St × Nat := if (S x).l = s then (S, root) else (um s n (rr5 s n S root x) (S x).l, (rr4 s n S root x).2)
structure RrOk (s n : Nat) (S : St) (root x : Nat) : Prop where
  ne : x ≠ (S x).l
  d1 : Dep s (rr2 s S x) n x
  d2 : (rr3 s n S x x).p ≠ s → Dep s (setP (rr3 s n S x) (S x).l (rr3 s n S x x).p) n (rr3 s n S x x).p
  d3 : Dep s (rr5 s n S root x) n (S x).l
theorem rr_s {s n root x : Nat} {S : St} (h : (S x).l = s) : rr s n S root x = (S, root) := if_pos h
theorem rr_ne {s n root x : Nat} {S : St} (h : ¬ (S x).l = s) : rr s n S root x = (um s n (rr5 s n S root x) (S x).l, (rr4 s n S root x).2) := if_neg h
theorem rr2_pos {s x : Nat} {S : St} (h : (S (S x).l).r ≠ s) : rr2 s S x = setP (setL S x (S (S x).l).r) (S (S x).l).r x := if_pos h
theorem rr2_neg {s x : Nat} {S : St} (h : ¬ (S (S x).l).r ≠ s) : rr2 s S x = setL S x (S (S x).l).r := if_neg h
theorem rr2_ok {s x : Nat} {S : St} {EL : List En} {D : List Nat} (h : Ok s EL D S) (hx : x ∈ D) (hr : (S x).l ≠ s) : Ok s EL D (rr2 s S x) := by
  have hy : (S x).l ∈ D := (h.l hx).mem hr
  by_cases hb : (S (S x).l).r ≠ s
  · rw [rr2_pos hb]; exact (h.setL (h.r hy)).setP (.inr hx)
  · rw [rr2_neg hb]; exact h.setL (h.r hy)
theorem rr_ok {s n root x : Nat} {S : St} {EL : List En} {D : List Nat} (h : Ok s EL D S) (hx : x ∈ D) : Ok s EL D (rr s n S root x).1 := by
  by_cases hr : (S x).l = s
  · rw [rr_s hr]; exact h
  · have hy : (S x).l ∈ D := (h.l hx).mem hr
    rw [rr_ne hr]
    exact um_ok _ _ _ ((rp_ok (um_ok _ _ _ (rr2_ok h hx hr) (.inr hx)) hx hy).setR (.inr hx)) (.inr hy)
theorem rr_root {s n root x : Nat} {S : St} {EL : List En} {D : List Nat} (h : Ok s EL D S) (hx : x ∈ D) (hroot : Is s D root) : Is s D (rr s n S root x).2 := by
  by_cases hr : (S x).l = s
  · rw [rr_s hr]; exact hroot
  · rw [rr_ne hr]; exact rp_root hroot ((h.l hx).mem hr)
end Go.Proofs.Ytbomnihiapjmpaa.TrP

namespace Go.Proofs.Ytbomnihiapjmpaa.TrP
open Go.RowKit Go.Lib Go.Proofs.Ytbomnihiapjmpaa Go.Proofs.Ytbomnihiapjmpaa.Sl
set_option linter.unusedVariables false
set_option linter.unusedSimpArgs false
set_option linter.unusedSectionVars false
/-- black where there is no node -/
def colr (s : Nat) (S : St) (x : Nat) : Int := if x = s then 0 else (S x).c
theorem colr_ne {s x : Nat} {S : St} (h : colr s S x = 1) : x ≠ s := fun e => by unfold colr at h; rw [if_pos e] at h; cases h

def fxUl (s : Nat) (S : St) (z : Nat) : Bool := decide (colr s S (S (S (S z).p).p).r = 1)
def fxQl (s n : Nat) (S : St) (root z : Nat) : St × Nat := if z = (S (S z).p).r then rl s n S root (S z).p else (S, root)
def fxZl (S : St) (z : Nat) : Nat := if z = (S (S z).p).r then (S z).p else z
def fx3 (S : St) (z : Nat) : St := setC (setC S (S z).p 0) (S (S z).p).p 1
def fxBl (s n : Nat) (S : St) (root z : Nat) : St × Nat := rr s n (fx3 S z) root (S (S z).p).p
def fxCl (S : St) (z : Nat) : St := setC (setC (setC S (S (S (S z).p).p).r 0) (S z).p 0) (S (S z).p).p 1
def fxl (s n : Nat) (S : St) (root z : Nat) : St × Nat × Nat :=
  if colr s S (S (S (S z).p).p).r = 1 then (fxCl S z, root, (S (S z).p).p)
  else ((fxBl s n (fxQl s n S root z).1 (fxQl s n S root z).2 (fxZl S z)).1, (fxBl s n (fxQl s n S root z).1 (fxQl s n S root z).2 (fxZl S z)).2, fxZl S z)
structure FxBl (s n : Nat) (S : St) (root z : Nat) : Prop where
  p : (S z).p ≠ s
  g : (S (S z).p).p ≠ s
  ok : ¬ (fx3 S z (S (S z).p).p).l = s → RrOk s n (fx3 S z) root (S (S z).p).p
structure FxL (s n : Nat) (S : St) (root z : Nat) : Prop where
  rot : ¬ colr s S (S (S (S z).p).p).r = 1 → z = (S (S z).p).r → ¬ (S (S z).p).r = s → RlOk s n S root (S z).p
  b : ¬ colr s S (S (S (S z).p).p).r = 1 → FxBl s n (fxQl s n S root z).1 (fxQl s n S root z).2 (fxZl S z)
theorem fxl_c {s n root z : Nat} {S : St} (h : colr s S (S (S (S z).p).p).r = 1) : fxl s n S root z = (fxCl S z, root, (S (S z).p).p) := if_pos h
theorem fxl_b {s n root z : Nat} {S : St} (h : ¬ colr s S (S (S (S z).p).p).r = 1) : fxl s n S root z = ((fxBl s n (fxQl s n S root z).1 (fxQl s n S root z).2 (fxZl S z)).1, (fxBl s n (fxQl s n S root z).1 (fxQl s n S root z).2 (fxZl S z)).2, fxZl S z) := if_neg h
theorem fxQl_y {s n root z : Nat} {S : St} (h : z = (S (S z).p).r) : fxQl s n S root z = rl s n S root (S z).p := if_pos h
theorem fxQl_n {s n root z : Nat} {S : St} (h : ¬ z = (S (S z).p).r) : fxQl s n S root z = (S, root) := if_neg h
theorem fxZl_y {z : Nat} {S : St} (h : z = (S (S z).p).r) : fxZl S z = (S z).p := if_pos h
theorem fxZl_n {z : Nat} {S : St} (h : ¬ z = (S (S z).p).r) : fxZl S z = z := if_neg h

theorem fx3_ok {s z : Nat} {S : St} {EL : List En} {D : List Nat} (h : Ok s EL D S) : Ok s EL D (fx3 S z) := h.setC.setC

theorem fxl_ok {s n root z : Nat} {S : St} {EL : List En} {D : List Nat} (h : Ok s EL D S) (hz : z ∈ D) (hroot : Is s D root) (hp : (S z).p ≠ s) (hg : (S (S z).p).p ≠ s) (hf : FxL s n S root z) : Ok s EL D (fxl s n S root z).1 ∧ Is s D (fxl s n S root z).2.1 ∧ (fxl s n S root z).2.2 ∈ D := by
  have hpD := (h.p hz).mem hp
  by_cases hu : colr s S (S (S (S z).p).p).r = 1
  · rw [fxl_c hu]
    exact ⟨h.setC.setC.setC, hroot, (h.p hpD).mem hg⟩
  · rw [fxl_b hu]
    have hb := hf.b hu
    have hq : Ok s EL D (fxQl s n S root z).1 ∧ Is s D (fxQl s n S root z).2 ∧ fxZl S z ∈ D := by
      by_cases hin : z = (S (S z).p).r
      · rw [fxQl_y hin, fxZl_y hin]; exact ⟨rl_ok h hpD, rl_root h hpD hroot, hpD⟩
      · rw [fxQl_n hin, fxZl_n hin]; exact ⟨h, hroot, hz⟩
    have h1 := (hq.1.p hq.2.2).mem hb.p
    have h2 := (hq.1.p h1).mem hb.g
    exact ⟨rr_ok (fx3_ok hq.1) h2, rr_root (fx3_ok hq.1) h2 hq.2.1, hq.2.2⟩

def fxUr (s : Nat) (S : St) (z : Nat) : Bool := decide (colr s S (S (S (S z).p).p).l = 1)
def fxQr (s n : Nat) (S : St) (root z : Nat) : St × Nat := if z = (S (S z).p).l then rr s n S root (S z).p else (S, root)
def fxZr (S : St) (z : Nat) : Nat := if z = (S (S z).p).l then (S z).p else z
def fxBr (s n : Nat) (S : St) (root z : Nat) : St × Nat := rl s n (fx3 S z) root (S (S z).p).p
def fxCr (S : St) (z : Nat) : St := setC (setC (setC S (S (S (S z).p).p).l 0) (S z).p 0) (S (S z).p).p 1
def fxr (s n : Nat) (S : St) (root z : Nat) : St × Nat × Nat :=
  if colr s S (S (S (S z).p).p).l = 1 then (fxCr S z, root, (S (S z).p).p)
  else ((fxBr s n (fxQr s n S root z).1 (fxQr s n S root z).2 (fxZr S z)).1, (fxBr s n (fxQr s n S root z).1 (fxQr s n S root z).2 (fxZr S z)).2, fxZr S z)
structure FxBr (s n : Nat) (S : St) (root z : Nat) : Prop where
  p : (S z).p ≠ s
  g : (S (S z).p).p ≠ s
  ok : ¬ (fx3 S z (S (S z).p).p).r = s → RlOk s n (fx3 S z) root (S (S z).p).p
structure FxR (s n : Nat) (S : St) (root z : Nat) : Prop where
  rot : ¬ colr s S (S (S (S z).p).p).l = 1 → z = (S (S z).p).l → ¬ (S (S z).p).l = s → RrOk s n S root (S z).p
  b : ¬ colr s S (S (S (S z).p).p).l = 1 → FxBr s n (fxQr s n S root z).1 (fxQr s n S root z).2 (fxZr S z)
theorem fxr_c {s n root z : Nat} {S : St} (h : colr s S (S (S (S z).p).p).l = 1) : fxr s n S root z = (fxCr S z, root, (S (S z).p).p) := if_pos h
theorem fxr_b {s n root z : Nat} {S : St} (h : ¬ colr s S (S (S (S z).p).p).l = 1) : fxr s n S root z = ((fxBr s n (fxQr s n S root z).1 (fxQr s n S root z).2 (fxZr S z)).1, (fxBr s n (fxQr s n S root z).1 (fxQr s n S root z).2 (fxZr S z)).2, fxZr S z) := if_neg h
theorem fxQr_y {s n root z : Nat} {S : St} (h : z = (S (S z).p).l) : fxQr s n S root z = rr s n S root (S z).p := if_pos h
theorem fxQr_n {s n root z : Nat} {S : St} (h : ¬ z = (S (S z).p).l) : fxQr s n S root z = (S, root) := if_neg h
theorem fxZr_y {z : Nat} {S : St} (h : z = (S (S z).p).l) : fxZr S z = (S z).p := if_pos h
theorem fxZr_n {z : Nat} {S : St} (h : ¬ z = (S (S z).p).l) : fxZr S z = z := if_neg h

theorem fxr_ok {s n root z : Nat} {S : St} {EL : List En} {D : List Nat} (h : Ok s EL D S) (hz : z ∈ D) (hroot : Is s D root) (hp : (S z).p ≠ s) (hg : (S (S z).p).p ≠ s) (hf : FxR s n S root z) : Ok s EL D (fxr s n S root z).1 ∧ Is s D (fxr s n S root z).2.1 ∧ (fxr s n S root z).2.2 ∈ D := by
  have hpD := (h.p hz).mem hp
  by_cases hu : colr s S (S (S (S z).p).p).l = 1
  · rw [fxr_c hu]
    exact ⟨h.setC.setC.setC, hroot, (h.p hpD).mem hg⟩
  · rw [fxr_b hu]
    have hb := hf.b hu
    have hq : Ok s EL D (fxQr s n S root z).1 ∧ Is s D (fxQr s n S root z).2 ∧ fxZr S z ∈ D := by
      by_cases hin : z = (S (S z).p).l
      · rw [fxQr_y hin, fxZr_y hin]; exact ⟨rr_ok h hpD, rr_root h hpD hroot, hpD⟩
      · rw [fxQr_n hin, fxZr_n hin]; exact ⟨h, hroot, hz⟩
    have h1 := (hq.1.p hq.2.2).mem hb.p
    have h2 := (hq.1.p h1).mem hb.g
    exact ⟨rl_ok (fx3_ok hq.1) h2, rl_root (fx3_ok hq.1) h2 hq.2.1, hq.2.2⟩

/-- one round -/
def fxs (s n : Nat) (S : St) (root z : Nat) : St × Nat × Nat := if (S z).p = (S (S (S z).p).p).l then fxl s n S root z else fxr s n S root z
def fx (s n : Nat) : Nat → St → Nat → Nat → St × Nat
  | 0, S, root, _ => (S, root)
  | k + 1, S, root, z => if colr s S (S z).p = 1 then fx s n k (fxs s n S root z).1 (fxs s n S root z).2.1 (fxs s n S root z).2.2 else (S, root)
/-- each round can be gone -/
def FxOk (s n : Nat) : Nat → St → Nat → Nat → Prop
  | 0, S, _, z => ¬ colr s S (S z).p = 1
  | k + 1, S, root, z => colr s S (S z).p = 1 → ((S (S z).p).p ≠ s ∧ ((S z).p = (S (S (S z).p).p).l → FxL s n S root z) ∧ (¬ (S z).p = (S (S (S z).p).p).l → FxR s n S root z)) ∧
    FxOk s n k (fxs s n S root z).1 (fxs s n S root z).2.1 (fxs s n S root z).2.2
theorem fxs_l {s n root z : Nat} {S : St} (h : (S z).p = (S (S (S z).p).p).l) : fxs s n S root z = fxl s n S root z := if_pos h
theorem fxs_r {s n root z : Nat} {S : St} (h : ¬ (S z).p = (S (S (S z).p).p).l) : fxs s n S root z = fxr s n S root z := if_neg h
theorem fx_no {s n k root z : Nat} {S : St} (h : ¬ colr s S (S z).p = 1) : fx s n k S root z = (S, root) := by
  cases k with
  | zero => rfl
  | succ k => unfold fx; rw [if_neg h]
theorem fx_yes {s n k root z : Nat} {S : St} (h : colr s S (S z).p = 1) : fx s n (k + 1) S root z = fx s n k (fxs s n S root z).1 (fxs s n S root z).2.1 (fxs s n S root z).2.2 := by
  conv => lhs; unfold fx
  rw [if_pos h]
theorem FxOk.yes {s n k root z : Nat} {S : St} (h : FxOk s n k S root z) (hc : colr s S (S z).p = 1) : ∃ m, k = m + 1 ∧ ((S (S z).p).p ≠ s ∧ ((S z).p = (S (S (S z).p).p).l → FxL s n S root z) ∧ (¬ (S z).p = (S (S (S z).p).p).l → FxR s n S root z)) ∧
    FxOk s n m (fxs s n S root z).1 (fxs s n S root z).2.1 (fxs s n S root z).2.2 := by
  cases k with
  | zero => exact absurd hc h
  | succ k => exact ⟨k, rfl, h hc⟩

theorem fx_ok {s n : Nat} {EL : List En} {D : List Nat} : ∀ {k : Nat} {S : St} {root z : Nat}, Ok s EL D S → z ∈ D → Is s D root → FxOk s n k S root z → Ok s EL D (fx s n k S root z).1
  | 0, S, root, z, h, _, _, _ => h
  | k + 1, S, root, z, h, hz, hr, hf => by
    by_cases hc : colr s S (S z).p = 1
    · obtain ⟨m, e, ⟨hg, h1, h2⟩, h3⟩ := hf.yes hc
      obtain rfl : k = m := by omega
      rw [fx_yes hc]
      have hs : Ok s EL D (fxs s n S root z).1 ∧ Is s D (fxs s n S root z).2.1 ∧ (fxs s n S root z).2.2 ∈ D := by
        by_cases hside : (S z).p = (S (S (S z).p).p).l
        · rw [fxs_l hside]; exact fxl_ok h hz hr (colr_ne hc) hg (h1 hside)
        · rw [fxs_r hside]; exact fxr_ok h hz hr (colr_ne hc) hg (h2 hside)
      exact fx_ok hs.1 hs.2.2 hs.2.1 h3
    · rw [fx_no hc]; exact h
theorem fx_root {s n : Nat} {EL : List En} {D : List Nat} : ∀ {k : Nat} {S : St} {root z : Nat}, Ok s EL D S → z ∈ D → Is s D root → FxOk s n k S root z → Is s D (fx s n k S root z).2
  | 0, S, root, z, _, _, h, _ => h
  | k + 1, S, root, z, h, hz, hr, hf => by
    by_cases hc : colr s S (S z).p = 1
    · obtain ⟨m, e, ⟨hg, h1, h2⟩, h3⟩ := hf.yes hc
      obtain rfl : k = m := by omega
      rw [fx_yes hc]
      have hs : Ok s EL D (fxs s n S root z).1 ∧ Is s D (fxs s n S root z).2.1 ∧ (fxs s n S root z).2.2 ∈ D := by
        by_cases hside : (S z).p = (S (S (S z).p).p).l
        · rw [fxs_l hside]; exact fxl_ok h hz hr (colr_ne hc) hg (h1 hside)
        · rw [fxs_r hside]; exact fxr_ok h hz hr (colr_ne hc) hg (h2 hside)
      exact fx_root hs.1 hs.2.2 hs.2.1 h3
    · rw [fx_no hc]; exact hr
end Go.Proofs.Ytbomnihiapjmpaa.TrP

