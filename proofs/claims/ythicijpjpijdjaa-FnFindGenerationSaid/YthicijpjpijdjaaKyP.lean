import Derived.Test.YthicijpjpijdjaaSlRead
namespace Go.Proofs.Ythicijpjpijdjaa.KyP
open Go.RowKit
set_option linter.unusedVariables false
set_option linter.unusedSimpArgs false
/-! one key's changes, in plain Lean -/
structure Rv where
  m : Int
  s : Int
structure Vn where
  r : Rv
  c : Rv
  v : Int
  g : Bool
structure Gn where
  v : Int
  c : Rv
  revs : List Rv
def Rv.cells (x : Rv) : List Value := [.int .i64 x.m, .int .i64 x.s]
theorem Rv.len (x : Rv) : x.cells.length = 2 := rfl
def Vn.cells (x : Vn) : List Value := [.int .i64 x.r.m, .int .i64 x.r.s, .int .i64 x.c.m, .int .i64 x.c.s, .int .i64 x.v, .bool x.g]
theorem Vn.len (x : Vn) : x.cells.length = 6 := rfl
def less (a b : Rv) : Prop := a.m < b.m ∨ (a.m = b.m ∧ a.s < b.s)
instance (a b : Rv) : Decidable (less a b) := by unfold less; infer_instance
def Rv0 : Rv := ⟨0, 0⟩
def modi (l : List Vn) : Rv := match l[l.length - 1]? with
  | some x => x.r
  | none => Rv0
def lives (l : List Vn) : Bool := match l[l.length - 1]? with
  | some x => !x.g
  | none => false
def nx (v : Int) : Int := IntKind.i64.wrap (v + 1)
def putV (l : List Vn) (r : Rv) : Vn := match l[l.length - 1]? with
  | some x => if x.g then ⟨r, r, 1, false⟩ else ⟨r, x.c, nx x.v, false⟩
  | none => ⟨r, r, 1, false⟩
def endV (x : Vn) (r : Rv) : Vn := ⟨r, x.c, nx x.v, true⟩
/-- one more than the place of the last change, of the first i, at or below a number -/
def lastN (l : List Vn) (at_ : Int) : Nat → Nat
  | 0 => 0
  | i + 1 => match l[i]? with
    | some x => if at_ < x.r.m then lastN l at_ i else i + 1
    | none => lastN l at_ i
def stays (l : List Vn) (at_ : Int) (i : Nat) (x : Vn) : Bool := decide (at_ < x.r.m) || (decide (i + 1 = lastN l at_ l.length) && (!x.g || decide (x.r.m = at_)))
def comp (l : List Vn) (at_ : Int) : Nat → List Vn
  | 0 => []
  | i + 1 => match l[i]? with
    | some x => if stays l at_ i x then comp l at_ i ++ [x] else comp l at_ i
    | none => comp l at_ i
/-- lives as they are told -/
def dstep (p : List Gn × Bool) (x : Vn) : List Gn × Bool :=
  (match p.2, p.1[p.1.length - 1]? with
    | true, some g => p.1.take (p.1.length - 1) ++ [⟨x.v, g.c, g.revs ++ [x.r]⟩]
    | _, _ => p.1 ++ [⟨x.v, x.c, [x.r]⟩], !x.g)
def dgo (l : List Vn) : List Gn × Bool := l.foldl dstep ([], false)
def dgens (l : List Vn) : List Gn := (dgo l).1 ++ (if 0 < l.length ∧ lives l = false then [⟨0, Rv0, []⟩] else [])
def fstM (g : Gn) : Int := match g.revs[0]? with
  | some x => x.m
  | none => 0
def lstM (g : Gn) : Int := match g.revs[g.revs.length - 1]? with
  | some x => x.m
  | none => 0
/-- the generation that the code finds, from behind -/
def fg (gs : List Gn) (at_ : Int) : Nat → Int
  | 0 => -1
  | k + 1 => match gs[k]? with
    | some g => if g.revs.length = 0 then fg gs at_ k else if k + 1 ≠ gs.length ∧ lstM g ≤ at_ then -1 else if fstM g ≤ at_ then (k : Int) else fg gs at_ k
    | none => fg gs at_ k
/-- the generation that is wanted, from ahead -/
def wl (gs : List Gn) (at_ : Int) : Nat → Int
  | 0 => -1
  | i + 1 => match gs[i]? with
    | some g => if 0 < g.revs.length ∧ fstM g ≤ at_ ∧ (i + 1 = gs.length ∨ at_ < lstM g) then (i : Int) else wl gs at_ i
    | none => wl gs at_ i
/-- the ends of lives rise -/
def Ends (gs : List Gn) : Prop := ∀ (i k : Nat) (a b : Gn), i < k → gs[i]? = some a → gs[k]? = some b → 0 < a.revs.length → 0 < b.revs.length → lstM a ≤ lstM b
theorem wl_none {gs : List Gn} {at_ : Int} (he : Ends gs) {k : Nat} {b : Gn} (hk : gs[k]? = some b) (hb : 0 < b.revs.length) (hle : lstM b ≤ at_) : ∀ i, i ≤ k → wl gs at_ i = -1
  | 0, _ => rfl
  | i + 1, h => by
    have hlen := (List.getElem?_eq_some_iff.1 hk).1
    unfold wl
    split
    · rename_i a ha
      rw [if_neg ?_]
      · exact wl_none he hk hb hle i (by omega)
      · rintro ⟨h1, h2, h3⟩
        have := he i k a b (by omega) ha hk h1 hb
        omega
    · exact wl_none he hk hb hle i (by omega)
theorem fg_wl {gs : List Gn} {at_ : Int} (he : Ends gs) : ∀ k, k ≤ gs.length → fg gs at_ k = wl gs at_ k
  | 0, _ => rfl
  | k + 1, h => by
    have ih := fg_wl (at_ := at_) he k (by omega)
    unfold fg wl
    cases hk : gs[k]? with
    | none => exact ih
    | some g =>
      dsimp only
      by_cases h0 : g.revs.length = 0
      · rw [if_pos h0, if_neg (by omega)]; exact ih
      rw [if_neg h0]
      by_cases h1 : k + 1 ≠ gs.length ∧ lstM g ≤ at_
      · rw [if_pos h1, if_neg (by omega)]
        exact (wl_none he hk (by omega) h1.2 k (Nat.le_refl _)).symm
      rw [if_neg h1]
      by_cases h2 : fstM g ≤ at_
      · rw [if_pos h2, if_pos ⟨by omega, h2, by omega⟩]
      · rw [if_neg h2, if_neg (by omega)]; exact ih
/-! changes rise -/
def Rise (l : List Vn) : Prop := l.Pairwise fun a b => less a.r b.r
def revsOf (gs : List Gn) : List Rv := gs.flatMap (·.revs)
theorem ends_of {gs : List Gn} (h : (revsOf gs).Pairwise fun a b => a.m ≤ b.m) : Ends gs := by
  intro i k a b hik ha hb h1 h2
  have hb' : gs.drop (i + 1) = (gs.drop (i + 1)) := rfl
  have hs : gs = gs.take i ++ a :: gs.drop (i + 1) := by
    have := List.getElem?_eq_some_iff.1 ha
    obtain ⟨h3, rfl⟩ := this
    exact (List.take_append_drop i gs).symm.trans (by rw [List.drop_eq_getElem_cons h3])
  have hbm : b ∈ gs.drop (i + 1) := by
    refine List.mem_iff_getElem?.2 ⟨k - (i + 1), ?_⟩
    rw [List.getElem?_drop, show i + 1 + (k - (i + 1)) = k from by omega]; exact hb
  unfold revsOf at h
  rw [hs, List.flatMap_append, List.flatMap_cons] at h
  have h3 := (List.pairwise_append.1 h).2.1
  have h4 := (List.pairwise_append.1 h3).2.2
  have hx : ∃ x, a.revs[a.revs.length - 1]? = some x := ⟨_, List.getElem?_eq_getElem (by omega)⟩
  have hy : ∃ y, b.revs[b.revs.length - 1]? = some y := ⟨_, List.getElem?_eq_getElem (by omega)⟩
  obtain ⟨x, hx⟩ := hx
  obtain ⟨y, hy⟩ := hy
  unfold lstM
  rw [hx, hy]
  exact h4 x (List.mem_iff_getElem?.2 ⟨_, hx⟩) y (List.mem_flatMap.2 ⟨b, hbm, List.mem_iff_getElem?.2 ⟨_, hy⟩⟩)
theorem dstep_revs (p : List Gn × Bool) (x : Vn) : revsOf (dstep p x).1 = revsOf p.1 ++ [x.r] := by
  unfold dstep revsOf
  dsimp only
  split
  · rename_i g hb hg
    obtain ⟨h1, h2⟩ := List.getElem?_eq_some_iff.1 hg
    rw [List.flatMap_append]
    have hs : p.1 = p.1.take (p.1.length - 1) ++ [g] := by
      refine (List.take_append_drop (p.1.length - 1) p.1).symm.trans ?_
      rw [List.drop_eq_getElem_cons h1, h2, show p.1.length - 1 + 1 = p.1.length from by omega, List.drop_length]
    conv => rhs; rw [hs]
    simp [List.flatMap_append]
  · simp [List.flatMap_append]
theorem dgo_revs : ∀ (l : List Vn) (p : List Gn × Bool), revsOf (l.foldl dstep p).1 = revsOf p.1 ++ l.map (·.r)
  | [], p => by simp
  | x :: l, p => by
    rw [List.foldl_cons, dgo_revs l, dstep_revs, List.map_cons, List.append_assoc]; rfl
theorem dgens_revs (l : List Vn) : revsOf (dgens l) = l.map (·.r) := by
  unfold dgens
  have h := dgo_revs l ([], false)
  have h' : revsOf (dgo l).1 = l.map (·.r) := h.trans (by simp [revsOf])
  unfold revsOf at h' ⊢
  rw [List.flatMap_append, h']
  split <;> simp
theorem ends_dgens {l : List Vn} (h : Rise l) : Ends (dgens l) := by
  refine ends_of ?_
  rw [dgens_revs, List.pairwise_map]
  exact h.imp fun h => by unfold less at h; omega
theorem find_law {l : List Vn} (h : Rise l) (at_ : Int) : fg (dgens l) at_ (dgens l).length = wl (dgens l) at_ (dgens l).length := fg_wl (ends_dgens h) _ (Nat.le_refl _)
/-! operations keep what rises -/
theorem rise_snoc {l : List Vn} {x : Vn} (h : Rise l) (hx : l = [] ∨ less (modi l) x.r) : Rise (l ++ [x]) := by
  unfold Rise
  refine List.pairwise_append.2 ⟨h, List.pairwise_singleton _ _, ?_⟩
  intro a ha b hb
  obtain rfl : b = x := by simpa using hb
  rcases hx with rfl | hx
  · cases ha
  obtain ⟨i, hi⟩ := List.mem_iff_getElem?.1 ha
  obtain ⟨hil, rfl⟩ := List.getElem?_eq_some_iff.1 hi
  unfold modi at hx
  rw [List.getElem?_eq_getElem (by omega)] at hx
  dsimp only at hx
  by_cases he : i = l.length - 1
  · subst he; exact hx
  · have h1 := List.pairwise_iff_getElem.1 h i (l.length - 1) hil (by omega) (by omega)
    unfold less at *
    omega
theorem comp_sub (l : List Vn) (at_ : Int) : ∀ i, i ≤ l.length → (comp l at_ i).Sublist (l.take i)
  | 0, _ => by simp [comp]
  | i + 1, h => by
    have ih := comp_sub l at_ i (by omega)
    unfold comp
    rw [List.getElem?_eq_getElem (by omega)]
    dsimp only
    rw [List.take_succ_eq_append_getElem (by omega)]
    split
    · exact ih.append (List.Sublist.refl _)
    · exact ih.trans (List.sublist_append_left _ _)
theorem rise_comp {l : List Vn} (h : Rise l) (at_ : Int) : Rise (comp l at_ l.length) := h.sublist ((comp_sub l at_ l.length (Nat.le_refl _)).trans (by rw [List.take_length]; exact List.Sublist.refl _))
end Go.Proofs.Ythicijpjpijdjaa.KyP
