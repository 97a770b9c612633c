import Derived.Test.YthicijpjpijdjaaSlRead
import Derived.Test.YthicijpjpijdjaaSlK
import Derived.Test.YthicijpjpijdjaaSlX
import Derived.Test.YthicijpjpijdjaaSlBits
import Derived.Test.YthicijpjpijdjaaSlOne
import Derived.Test.YthicijpjpijdjaaSlPtr
import Derived.Test.YthicijpjpijdjaaTyKy
namespace Go.Proofs.Ythicijpjpijdjaa.KyP
open Go.RowKit
set_option linter.unusedVariables false
set_option linter.unusedSimpArgs false
/-! one key's changes, in plain Lean -/
structure Rv where
  m : Int
  s : Int
structure Vn where
  r : Rv
  c : Rv
  v : Int
  g : Bool
structure Gn where
  v : Int
  c : Rv
  revs : List Rv
def Rv.cells (x : Rv) : List Value := [.int .i64 x.m, .int .i64 x.s]
theorem Rv.len (x : Rv) : x.cells.length = 2 := rfl
def Vn.cells (x : Vn) : List Value := [.int .i64 x.r.m, .int .i64 x.r.s, .int .i64 x.c.m, .int .i64 x.c.s, .int .i64 x.v, .bool x.g]
theorem Vn.len (x : Vn) : x.cells.length = 6 := rfl
def less (a b : Rv) : Prop := a.m < b.m ∨ (a.m = b.m ∧ a.s < b.s)
instance (a b : Rv) : Decidable (less a b) := by unfold less; infer_instance
def Rv0 : Rv := ⟨0, 0⟩
def modi (l : List Vn) : Rv := match l[l.length - 1]? with
  | some x => x.r
  | none => Rv0
def lives (l : List Vn) : Bool := match l[l.length - 1]? with
  | some x => !x.g
  | none => false
def nx (v : Int) : Int := IntKind.i64.wrap (v + 1)
def putV (l : List Vn) (r : Rv) : Vn := match l[l.length - 1]? with
  | some x => if x.g then ⟨r, r, 1, false⟩ else ⟨r, x.c, nx x.v, false⟩
  | none => ⟨r, r, 1, false⟩
def endV (x : Vn) (r : Rv) : Vn := ⟨r, x.c, nx x.v, true⟩
/-- one more than the place of the last change, of the first i, at or below a number -/
def lastN (l : List Vn) (at_ : Int) : Nat → Nat
  | 0 => 0
  | i + 1 => match l[i]? with
    | some x => if at_ < x.r.m then lastN l at_ i else i + 1
    | none => lastN l at_ i
def stays (l : List Vn) (at_ : Int) (i : Nat) (x : Vn) : Bool := decide (at_ < x.r.m) || (decide (i + 1 = lastN l at_ l.length) && (!x.g || decide (x.r.m = at_)))
def comp (l : List Vn) (at_ : Int) : Nat → List Vn
  | 0 => []
  | i + 1 => match l[i]? with
    | some x => if stays l at_ i x then comp l at_ i ++ [x] else comp l at_ i
    | none => comp l at_ i
/-- lives as they are told -/
def dstep (p : List Gn × Bool) (x : Vn) : List Gn × Bool :=
  (match p.2, p.1[p.1.length - 1]? with
    | true, some g => p.1.take (p.1.length - 1) ++ [⟨x.v, g.c, g.revs ++ [x.r]⟩]
    | _, _ => p.1 ++ [⟨x.v, x.c, [x.r]⟩], !x.g)
def dgo (l : List Vn) : List Gn × Bool := l.foldl dstep ([], false)
def dgens (l : List Vn) : List Gn := (dgo l).1 ++ (if 0 < l.length ∧ lives l = false then [⟨0, Rv0, []⟩] else [])
def fstM (g : Gn) : Int := match g.revs[0]? with
  | some x => x.m
  | none => 0
def lstM (g : Gn) : Int := match g.revs[g.revs.length - 1]? with
  | some x => x.m
  | none => 0
/-- the generation that the code finds, from behind -/
def fg (gs : List Gn) (at_ : Int) : Nat → Int
  | 0 => -1
  | k + 1 => match gs[k]? with
    | some g => if g.revs.length = 0 then fg gs at_ k else if k + 1 ≠ gs.length ∧ lstM g ≤ at_ then -1 else if fstM g ≤ at_ then (k : Int) else fg gs at_ k
    | none => fg gs at_ k
/-- the generation that is wanted, from ahead -/
def wl (gs : List Gn) (at_ : Int) : Nat → Int
  | 0 => -1
  | i + 1 => match gs[i]? with
    | some g => if 0 < g.revs.length ∧ fstM g ≤ at_ ∧ (i + 1 = gs.length ∨ at_ < lstM g) then (i : Int) else wl gs at_ i
    | none => wl gs at_ i
/-- the ends of lives rise -/
def Ends (gs : List Gn) : Prop := ∀ (i k : Nat) (a b : Gn), i < k → gs[i]? = some a → gs[k]? = some b → 0 < a.revs.length → 0 < b.revs.length → lstM a ≤ lstM b
theorem wl_none {gs : List Gn} {at_ : Int} (he : Ends gs) {k : Nat} {b : Gn} (hk : gs[k]? = some b) (hb : 0 < b.revs.length) (hle : lstM b ≤ at_) : ∀ i, i ≤ k → wl gs at_ i = -1
  | 0, _ => rfl
  | i + 1, h => by
    have hlen := (List.getElem?_eq_some_iff.1 hk).1
    unfold wl
    split
    · rename_i a ha
      rw [if_neg ?_]
      · exact wl_none he hk hb hle i (by omega)
      · rintro ⟨h1, h2, h3⟩
        have := he i k a b (by omega) ha hk h1 hb
        omega
    · exact wl_none he hk hb hle i (by omega)
theorem fg_wl {gs : List Gn} {at_ : Int} (he : Ends gs) : ∀ k, k ≤ gs.length → fg gs at_ k = wl gs at_ k
  | 0, _ => rfl
  | k + 1, h => by
    have ih := fg_wl (at_ := at_) he k (by omega)
    unfold fg wl
    cases hk : gs[k]? with
    | none => exact ih
    | some g =>
      dsimp only
      by_cases h0 : g.revs.length = 0
      · rw [if_pos h0, if_neg (by omega)]; exact ih
      rw [if_neg h0]
      by_cases h1 : k + 1 ≠ gs.length ∧ lstM g ≤ at_
      · rw [if_pos h1, if_neg (by omega)]
        exact (wl_none he hk (by omega) h1.2 k (Nat.le_refl _)).symm
      rw [if_neg h1]
      by_cases h2 : fstM g ≤ at_
      · rw [if_pos h2, if_pos ⟨by omega, h2, by omega⟩]
      · rw [if_neg h2, if_neg (by omega)]; exact ih
/-! changes rise -/
def Rise (l : List Vn) : Prop := l.Pairwise fun a b => less a.r b.r
def revsOf (gs : List Gn) : List Rv := gs.flatMap (·.revs)
theorem ends_of {gs : List Gn} (h : (revsOf gs).Pairwise fun a b => a.m ≤ b.m) : Ends gs := by
  intro i k a b hik ha hb h1 h2
  have hb' : gs.drop (i + 1) = (gs.drop (i + 1)) := rfl
  have hs : gs = gs.take i ++ a :: gs.drop (i + 1) := by
    have := List.getElem?_eq_some_iff.1 ha
    obtain ⟨h3, rfl⟩ := this
    exact (List.take_append_drop i gs).symm.trans (by rw [List.drop_eq_getElem_cons h3])
  have hbm : b ∈ gs.drop (i + 1) := by
    refine List.mem_iff_getElem?.2 ⟨k - (i + 1), ?_⟩
    rw [List.getElem?_drop, show i + 1 + (k - (i + 1)) = k from by omega]; exact hb
  unfold revsOf at h
  rw [hs, List.flatMap_append, List.flatMap_cons] at h
  have h3 := (List.pairwise_append.1 h).2.1
  have h4 := (List.pairwise_append.1 h3).2.2
  have hx : ∃ x, a.revs[a.revs.length - 1]? = some x := ⟨_, List.getElem?_eq_getElem (by omega)⟩
  have hy : ∃ y, b.revs[b.revs.length - 1]? = some y := ⟨_, List.getElem?_eq_getElem (by omega)⟩
  obtain ⟨x, hx⟩ := hx
  obtain ⟨y, hy⟩ := hy
  unfold lstM
  rw [hx, hy]
  exact h4 x (List.mem_iff_getElem?.2 ⟨_, hx⟩) y (List.mem_flatMap.2 ⟨b, hbm, List.mem_iff_getElem?.2 ⟨_, hy⟩⟩)
theorem dstep_revs (p : List Gn × Bool) (x : Vn) : revsOf (dstep p x).1 = revsOf p.1 ++ [x.r] := by
  unfold dstep revsOf
  dsimp only
  split
  · rename_i g hb hg
    obtain ⟨h1, h2⟩ := List.getElem?_eq_some_iff.1 hg
    rw [List.flatMap_append]
    have hs : p.1 = p.1.take (p.1.length - 1) ++ [g] := by
      refine (List.take_append_drop (p.1.length - 1) p.1).symm.trans ?_
      rw [List.drop_eq_getElem_cons h1, h2, show p.1.length - 1 + 1 = p.1.length from by omega, List.drop_length]
    conv => rhs; rw [hs]
    simp [List.flatMap_append]
  · simp [List.flatMap_append]
theorem dgo_revs : ∀ (l : List Vn) (p : List Gn × Bool), revsOf (l.foldl dstep p).1 = revsOf p.1 ++ l.map (·.r)
  | [], p => by simp
  | x :: l, p => by
    rw [List.foldl_cons, dgo_revs l, dstep_revs, List.map_cons, List.append_assoc]; rfl
theorem dgens_revs (l : List Vn) : revsOf (dgens l) = l.map (·.r) := by
  unfold dgens
  have h := dgo_revs l ([], false)
  have h' : revsOf (dgo l).1 = l.map (·.r) := h.trans (by simp [revsOf])
  unfold revsOf at h' ⊢
  rw [List.flatMap_append, h']
  split <;> simp
theorem ends_dgens {l : List Vn} (h : Rise l) : Ends (dgens l) := by
  refine ends_of ?_
  rw [dgens_revs, List.pairwise_map]
  exact h.imp fun h => by unfold less at h; omega
theorem find_law {l : List Vn} (h : Rise l) (at_ : Int) : fg (dgens l) at_ (dgens l).length = wl (dgens l) at_ (dgens l).length := fg_wl (ends_dgens h) _ (Nat.le_refl _)
/-! operations keep what rises -/
theorem rise_snoc {l : List Vn} {x : Vn} (h : Rise l) (hx : l = [] ∨ less (modi l) x.r) : Rise (l ++ [x]) := by
  unfold Rise
  refine List.pairwise_append.2 ⟨h, List.pairwise_singleton _ _, ?_⟩
  intro a ha b hb
  obtain rfl : b = x := by simpa using hb
  rcases hx with rfl | hx
  · cases ha
  obtain ⟨i, hi⟩ := List.mem_iff_getElem?.1 ha
  obtain ⟨hil, rfl⟩ := List.getElem?_eq_some_iff.1 hi
  unfold modi at hx
  rw [List.getElem?_eq_getElem (by omega)] at hx
  dsimp only at hx
  by_cases he : i = l.length - 1
  · subst he; exact hx
  · have h1 := List.pairwise_iff_getElem.1 h i (l.length - 1) hil (by omega) (by omega)
    unfold less at *
    omega
theorem comp_sub (l : List Vn) (at_ : Int) : ∀ i, i ≤ l.length → (comp l at_ i).Sublist (l.take i)
  | 0, _ => by simp [comp]
  | i + 1, h => by
    have ih := comp_sub l at_ i (by omega)
    unfold comp
    rw [List.getElem?_eq_getElem (by omega)]
    dsimp only
    rw [List.take_succ_eq_append_getElem (by omega)]
    split
    · exact ih.append (List.Sublist.refl _)
    · exact ih.trans (List.sublist_append_left _ _)
theorem rise_comp {l : List Vn} (h : Rise l) (at_ : Int) : Rise (comp l at_ l.length) := h.sublist ((comp_sub l at_ l.length (Nat.le_refl _)).trans (by rw [List.take_length]; exact List.Sublist.refl _))
end Go.Proofs.Ythicijpjpijdjaa.KyP

namespace Go.Proofs.Ythicijpjpijdjaa.Ka
open Go.RowKit Go.Proofs.Ythicijpjpijdjaa Go.Proofs.Ythicijpjpijdjaa.Sl Go.Proofs.Ythicijpjpijdjaa.KyP
set_option linter.unusedVariables false
set_option linter.unusedSimpArgs false
set_option linter.unusedSectionVars false


def rk (x : Rv) : Value := .agg #[.int .i64 x.m, .int .i64 x.s]
def vk (x : Vn) : Value := .agg #[.int .i64 x.r.m, .int .i64 x.r.s, .int .i64 x.c.m, .int .i64 x.c.s, .int .i64 x.v, .bool x.g]
theorem lives_at {l : List Vn} {x : Vn} (h : l[l.length - 1]? = some x) : lives l = !x.g := by unfold lives; rw [h]
theorem lives_no {l : List Vn} (h : l.length = 0) : lives l = false := by unfold lives; rw [List.getElem?_eq_none (by omega)]
theorem modi_at {l : List Vn} {x : Vn} (h : l[l.length - 1]? = some x) : modi l = x.r := by unfold modi; rw [h]
theorem modi_no {l : List Vn} (h : l.length = 0) : modi l = Rv0 := by unfold modi; rw [List.getElem?_eq_none (by omega)]
set_option maxRecDepth 100000 in
set_option maxHeartbeats 2000000 in
theorem less_spec (a b : Rv) : Does Try.prog 16 [.agg #[.int .i64 (a.m), .int .i64 (a.s)], .agg #[.int .i64 (b.m), .int .i64 (b.s)]] [] (fun v L => v = .bool (decide (less a b)) ∧ L = []) := by
 refine Does.enter 24 Try.func16 rfl rfl rfl fun W F => ?_
 show WPc _ _ _ _ _ [(0, .agg #[.int .i64 (a.m), .int .i64 (a.s)]), (1, .agg #[.int .i64 (b.m), .int .i64 (b.s)])] (F)
 refine WPc.sr ?_
 refine WP.eff rfl rfl rfl (Eff.box (C := [.int .i64 (a.m), .int .i64 (a.s)]) rfl rfl rfl) ?_
 rintro _ _ ⟨b1, rfl, rfl⟩
 refine WP.eff rfl rfl rfl (Eff.box (C := [.int .i64 (b.m), .int .i64 (b.s)]) rfl rfl rfl) ?_
 rintro _ _ ⟨b2, rfl, rfl⟩
 refine WP.val rfl rfl rfl (Val.assign rfl rfl) ?_
 refine WP.nx ?_
 refine WPc.sr ?_
 refine WP.val rfl rfl rfl (Val.fieldAddr (j := 0) rfl Ty.fo32_0 rfl rfl) ?_
 refine WP.val rfl rfl rfl (Val.load rfl Ty.sc2 rfl (fun w h => h.cell 1 rfl rfl)) ?_
 refine WP.val rfl rfl rfl (Val.fieldAddr (j := 0) rfl Ty.fo32_0 rfl rfl) ?_
 refine WP.val rfl rfl rfl (Val.load rfl Ty.sc2 rfl (fun w h => h.cell 0 rfl rfl)) ?_
 refine WP.val rfl rfl rfl (Val.lss rfl rfl rfl) ?_
 refine WP.val rfl rfl rfl (Val.move rfl rfl) ?_
 refine WP.split 10 rfl (fun h1 => ?_) (fun h1 => ?_)
 ·
  have h1 : (a.m < b.m) := h1
  iterate 6 (refine WP.skip rfl rfl rfl rfl rfl rfl rfl ?_)
  iterate 5 (refine WP.skipU rfl rfl rfl rfl rfl rfl ?_)
  refine WP.skip rfl rfl rfl rfl rfl rfl rfl ?_
  refine WP.val rfl rfl rfl (Val.pickT rfl rfl rfl) ?_
  refine WP.val rfl rfl rfl (Val.assign rfl rfl) ?_
  refine WP.nx ?_
  refine WPc.ret ?_
  refine Out.drop ?_
  refine Out.drop ?_
  exact Out.ret1 (L' := []) Try.results16 rfl ⟨congrArg Value.bool (show _ = decide (less a b) by rw [decide_eq_true (by unfold less; omega)]), rfl⟩ (fun _ h => h)
 ·
  have h1 : ¬ (a.m < b.m) := h1
  refine WP.valG rfl rfl rfl rfl rfl rfl rfl (Val.fieldAddr (j := 0) rfl Ty.fo32_0 rfl rfl) ?_
  refine WP.valG rfl rfl rfl rfl rfl rfl rfl (Val.load rfl Ty.sc2 rfl (fun w h => h.cell 1 rfl rfl)) ?_
  refine WP.valG rfl rfl rfl rfl rfl rfl rfl (Val.fieldAddr (j := 0) rfl Ty.fo32_0 rfl rfl) ?_
  refine WP.valG rfl rfl rfl rfl rfl rfl rfl (Val.load rfl Ty.sc2 rfl (fun w h => h.cell 0 rfl rfl)) ?_
  refine WP.valG rfl rfl rfl rfl rfl rfl rfl (Val.eql rfl rfl rfl) ?_
  refine WP.valG rfl rfl rfl rfl rfl rfl rfl (Val.move rfl rfl) ?_
  refine WP.split 16 rfl (fun h2 => ?_) (fun h2 => ?_)
  ·
   have h2 : (a.m = b.m) := h2
   refine WP.valG rfl rfl rfl rfl rfl rfl rfl (Val.fieldAddr (j := 1) rfl Ty.fo32_1 rfl rfl) ?_
   refine WP.valG rfl rfl rfl rfl rfl rfl rfl (Val.load rfl Ty.sc2 rfl (fun w h => h.cell 1 rfl rfl)) ?_
   refine WP.valG rfl rfl rfl rfl rfl rfl rfl (Val.fieldAddr (j := 1) rfl Ty.fo32_1 rfl rfl) ?_
   refine WP.valG rfl rfl rfl rfl rfl rfl rfl (Val.load rfl Ty.sc2 rfl (fun w h => h.cell 0 rfl rfl)) ?_
   refine WP.valG rfl rfl rfl rfl rfl rfl rfl (Val.lss rfl rfl rfl) ?_
   refine WP.valG rfl rfl rfl rfl rfl rfl rfl (Val.pickT rfl rfl rfl) ?_
   refine WP.val rfl rfl rfl (Val.pickF rfl rfl rfl) ?_
   refine WP.val rfl rfl rfl (Val.assign rfl rfl) ?_
   refine WP.nx ?_
   refine WPc.ret ?_
   refine Out.drop ?_
   refine Out.drop ?_
   exact Out.ret1 (L' := []) Try.results16 rfl ⟨congrArg Value.bool (show _ = decide (less a b) by exact decide_eq_decide.2 (by unfold less; omega)), rfl⟩ (fun _ h => h)
  ·
   have h2 : ¬ (a.m = b.m) := h2
   iterate 5 (refine WP.skip rfl rfl rfl rfl rfl rfl rfl ?_)
   refine WP.valG rfl rfl rfl rfl rfl rfl rfl (Val.pickF rfl rfl rfl) ?_
   refine WP.val rfl rfl rfl (Val.pickF rfl rfl rfl) ?_
   refine WP.val rfl rfl rfl (Val.assign rfl rfl) ?_
   refine WP.nx ?_
   refine WPc.ret ?_
   refine Out.drop ?_
   refine Out.drop ?_
   exact Out.ret1 (L' := []) Try.results16 rfl ⟨congrArg Value.bool (show _ = decide (less a b) by rw [decide_eq_false (by unfold less; omega)]), rfl⟩ (fun _ h => h)
set_option maxRecDepth 100000 in
set_option maxHeartbeats 2000000 in
theorem ixrev_spec (a : Rv) : Does Try.prog 15 [.agg #[.int .i64 (a.m), .int .i64 (a.s)]] [] (fun v L => v = .bool (decide (1 ≤ a.m ∧ 0 ≤ a.s)) ∧ L = []) := by
 refine Does.enter 11 Try.func15 rfl rfl rfl fun W F => ?_
 show WPc _ _ _ _ _ [(0, .agg #[.int .i64 (a.m), .int .i64 (a.s)])] (F)
 refine WPc.sr ?_
 refine WP.eff rfl rfl rfl (Eff.box (C := [.int .i64 (a.m), .int .i64 (a.s)]) rfl rfl rfl) ?_
 rintro _ _ ⟨b1, rfl, rfl⟩
 refine WP.val rfl rfl rfl (Val.assign rfl rfl) ?_
 refine WP.nx ?_
 refine WPc.sr ?_
 refine WP.val rfl rfl rfl (Val.fieldAddr (j := 0) rfl Ty.fo32_0 rfl rfl) ?_
 refine WP.val rfl rfl rfl (Val.load rfl Ty.sc2 rfl (fun w h => h.cell 0 rfl rfl)) ?_
 refine WP.val rfl rfl rfl (Val.geq rfl rfl rfl) ?_
 refine WP.val rfl rfl rfl (Val.move rfl rfl) ?_
 refine WP.split 6 rfl (fun h1 => ?_) (fun h1 => ?_)
 ·
  have h1 : ((1 : Int) ≤ a.m) := h1
  refine WP.valG rfl rfl rfl rfl rfl rfl rfl (Val.fieldAddr (j := 1) rfl Ty.fo32_1 rfl rfl) ?_
  refine WP.valG rfl rfl rfl rfl rfl rfl rfl (Val.load rfl Ty.sc2 rfl (fun w h => h.cell 0 rfl rfl)) ?_
  refine WP.valG rfl rfl rfl rfl rfl rfl rfl (Val.geq rfl rfl rfl) ?_
  refine WP.val rfl rfl rfl (Val.pickT rfl rfl rfl) ?_
  refine WP.val rfl rfl rfl (Val.assign rfl rfl) ?_
  refine WP.nx ?_
  refine WPc.ret ?_
  refine Out.drop ?_
  exact Out.ret1 (L' := []) Try.results15 rfl ⟨congrArg Value.bool (show _ = decide (1 ≤ a.m ∧ 0 ≤ a.s) by exact decide_eq_decide.2 (by omega)), rfl⟩ (fun _ h => h)
 ·
  have h1 : ¬ ((1 : Int) ≤ a.m) := h1
  iterate 3 (refine WP.skip rfl rfl rfl rfl rfl rfl rfl ?_)
  refine WP.val rfl rfl rfl (Val.pickF rfl rfl rfl) ?_
  refine WP.val rfl rfl rfl (Val.assign rfl rfl) ?_
  refine WP.nx ?_
  refine WPc.ret ?_
  refine Out.drop ?_
  exact Out.ret1 (L' := []) Try.results15 rfl ⟨congrArg Value.bool (show _ = decide (1 ≤ a.m ∧ 0 ≤ a.s) by rw [decide_eq_false (by omega)]), rfl⟩ (fun _ h => h)
set_option maxRecDepth 100000 in
set_option maxHeartbeats 1000000 in
theorem lives_nil (A : HProp) (a : Option Addr) (c : Nat) : Does Try.prog 27 [.slice a 0 c] [A] (fun v L => v = .bool (lives ([] : List Vn)) ∧ L = [A]) := by
 refine Does.enter 16 Try.func27 rfl rfl rfl fun W F => ?_
 show WPc _ _ _ _ _ [(0, .slice a 0 c)] (A :: F)
 refine WPc.sr ?_
 refine WP.val rfl rfl rfl (Val.assign rfl rfl) ?_
 refine WP.nx ?_
 refine WPc.sr ?_
 refine WP.val rfl rfl rfl (Val.move rfl rfl) ?_
 refine WP.val rfl rfl rfl (Val.len rfl Ty.sl23 rfl) ?_
 refine WP.val rfl rfl rfl (Val.gtr rfl rfl rfl) ?_
 refine WP.val rfl rfl rfl (Val.move rfl rfl) ?_
 refine WP.split 6 rfl (fun h1 => ?_) (fun h1 => ?_)
 ·
  have h1 : ((0 : Int) < (0 : Int)) := h1
  exfalso; omega
 ·
  have h1 : ¬ ((0 : Int) < (0 : Int)) := h1
  iterate 8 (refine WP.skip rfl rfl rfl rfl rfl rfl rfl ?_)
  refine WP.val rfl rfl rfl (Val.pickF rfl rfl rfl) ?_
  refine WP.val rfl rfl rfl (Val.assign rfl rfl) ?_
  refine WP.nx ?_
  refine WPc.ret ?_
  exact Out.ret1 (L' := _) Try.results27 rfl ⟨congrArg Value.bool (show _ = lives [] by rfl), rfl⟩ (fun _ h => h)

set_option maxRecDepth 100000 in
set_option maxHeartbeats 1000000 in
theorem lives_row (A : HProp) (l : List Vn) (hl : l.length ≤ 100000) (b0 o0 c0 : Nat) (hr : ∀ w, Holds A w → ∀ i x, l[i]? = some x → w.rangeAt b0 (o0 + i * 6) (Vn.cells x)) : Does Try.prog 27 [.slice (some ⟨b0, o0, none⟩) l.length c0] [A] (fun v L => v = .bool (lives l) ∧ L = [A]) := by
 refine Does.enter 16 Try.func27 rfl rfl rfl fun W F => ?_
 show WPc _ _ _ _ _ [(0, .slice (some ⟨b0, o0, none⟩) l.length c0)] (A :: F)
 refine WPc.sr ?_
 refine WP.val rfl rfl rfl (Val.assign rfl rfl) ?_
 refine WP.nx ?_
 refine WPc.sr ?_
 refine WP.val rfl rfl rfl (Val.move rfl rfl) ?_
 refine WP.val rfl rfl rfl (Val.len rfl Ty.sl23 rfl) ?_
 refine WP.val rfl rfl rfl (Val.gtr rfl rfl rfl) ?_
 refine WP.val rfl rfl rfl (Val.move rfl rfl) ?_
 refine WP.split 6 rfl (fun h1 => ?_) (fun h1 => ?_)
 ·
  have h1 : ((0 : Int) < ((l.length : Nat) : Int)) := h1
  have hlt : (l.length - 1) < l.length := by omega
  obtain ⟨x, hx⟩ : ∃ x, l[(l.length - 1)]? = some x := ⟨_, List.getElem?_eq_getElem hlt⟩
  refine WP.valG rfl rfl rfl rfl rfl rfl rfl (Val.move rfl rfl) ?_
  refine WP.valG rfl rfl rfl rfl rfl rfl rfl (Val.move rfl rfl) ?_
  refine WP.valG rfl rfl rfl rfl rfl rfl rfl (Val.len rfl Ty.sl23 rfl) ?_
  refine WP.valG rfl rfl rfl rfl rfl rfl rfl (Val.sub (z := ((l.length - 1 : Nat) : Int)) rfl rfl rfl ((w64 (by omega) (by omega)).trans (by omega))) ?_
  refine WP.valG rfl rfl rfl rfl rfl rfl rfl (Val.indexAddr (j := l.length - 1) (q := o0 + (l.length - 1) * 6) rfl Ty.sl23 rfl rfl (by omega) (by omega) (by omega)) ?_
  refine WP.valG rfl rfl rfl rfl rfl rfl rfl (Val.fieldAddr (j := o0 + (l.length - 1) * 6 + 5) rfl Ty.fo47_3 rfl rfl) ?_
  refine WP.valG rfl rfl rfl rfl rfl rfl rfl (Val.load (v := .bool (x.g)) rfl Ty.sc4 rfl (fun w h => hr w (h.at 0 rfl) (l.length - 1) x hx 5 _ rfl)) ?_
  refine WP.valG rfl rfl rfl rfl rfl rfl rfl (Val.not rfl rfl) ?_
  refine WP.val rfl rfl rfl (Val.pickT rfl rfl rfl) ?_
  refine WP.val rfl rfl rfl (Val.assign rfl rfl) ?_
  refine WP.nx ?_
  refine WPc.ret ?_
  exact Out.ret1 (L' := _) Try.results27 rfl ⟨congrArg Value.bool (show _ = lives l by rw [lives_at hx]), rfl⟩ (fun _ h => h)
 ·
  have h1 : ¬ ((0 : Int) < ((l.length : Nat) : Int)) := h1
  iterate 8 (refine WP.skip rfl rfl rfl rfl rfl rfl rfl ?_)
  refine WP.val rfl rfl rfl (Val.pickF rfl rfl rfl) ?_
  refine WP.val rfl rfl rfl (Val.assign rfl rfl) ?_
  refine WP.nx ?_
  refine WPc.ret ?_
  exact Out.ret1 (L' := _) Try.results27 rfl ⟨congrArg Value.bool (show _ = lives l by rw [lives_no (by omega)]), rfl⟩ (fun _ h => h)

theorem lives_spec (A : HProp) (l : List Vn) (hl : l.length ≤ 100000) (va : Value) (hva : Rd A 6 Vn.cells va l) : Does Try.prog 27 [va] [A] (fun v L => v = .bool (lives l) ∧ L = [A]) := by
 rcases hva with ⟨b0, o0, c0, rfl, hr⟩ | ⟨rfl, a, c, rfl⟩
 ·
  exact lives_row A l hl b0 o0 c0 hr
 ·
  exact lives_nil A a c
set_option maxRecDepth 100000 in
set_option maxHeartbeats 1000000 in
theorem mod_nil (A : HProp) (a : Option Addr) (c : Nat) : Does Try.prog 28 [.slice a 0 c] [A] (fun v L => v = rk (modi ([] : List Vn)) ∧ L = [A]) := by
 refine Does.enter 14 Try.func28 rfl rfl rfl fun W F => ?_
 show WPc _ _ _ _ _ [(0, .slice a 0 c)] (A :: F)
 refine WPc.sr ?_
 refine WP.eff rfl rfl rfl (Eff.alloc rfl Ty.z32) ?_
 rintro _ _ ⟨b1, rfl, rfl⟩
 refine WP.nx ?_
 refine WPc.seq ?_
 refine WPc.sr ?_
 refine WP.val rfl rfl rfl (Val.move rfl rfl) ?_
 refine WP.val rfl rfl rfl (Val.len rfl Ty.sl23 rfl) ?_
 refine WP.val rfl rfl rfl (Val.eqlK rfl rfl rfl rfl) ?_
 refine WP.nx ?_
 refine WPc.condT rfl rfl ?_
 refine WPc.sr ?_
 refine WP.val rfl rfl rfl (Val.mk (cs := [.int .i64 0, .int .i64 0]) rfl rfl (fun _ => by kernel_rfl)) ?_
 refine WP.eff0 rfl rfl (Eff.storeAgg (cs := [.int .i64 0, .int .i64 0]) (C' := [.int .i64 0, .int .i64 0]) rfl Ty.ag32 rfl rfl rfl rfl (by simp) rfl) ?_
 rintro _ _ rfl
 refine WP.nx ?_
 refine WPc.ret ?_
 refine Out.then_ret ?_
 exact Out.retRun (L' := _) (results_cell (cs := _) Try.results28 Ty.ag32 rfl rfl (fun w h => h.range 0 rfl rfl)) ⟨by rw [modi_no (l := []) rfl]; rfl, rfl⟩ (fun w h => h.drop)

set_option maxRecDepth 100000 in
set_option maxHeartbeats 1000000 in
theorem mod_row (A : HProp) (l : List Vn) (hl : l.length ≤ 100000) (b0 o0 c0 : Nat) (hr : ∀ w, Holds A w → ∀ i x, l[i]? = some x → w.rangeAt b0 (o0 + i * 6) (Vn.cells x)) : Does Try.prog 28 [.slice (some ⟨b0, o0, none⟩) l.length c0] [A] (fun v L => v = rk (modi l) ∧ L = [A]) := by
 refine Does.enter 14 Try.func28 rfl rfl rfl fun W F => ?_
 show WPc _ _ _ _ _ [(0, .slice (some ⟨b0, o0, none⟩) l.length c0)] (A :: F)
 refine WPc.sr ?_
 refine WP.eff rfl rfl rfl (Eff.alloc rfl Ty.z32) ?_
 rintro _ _ ⟨b1, rfl, rfl⟩
 refine WP.nx ?_
 refine WPc.seq ?_
 refine WPc.sr ?_
 refine WP.val rfl rfl rfl (Val.move rfl rfl) ?_
 refine WP.val rfl rfl rfl (Val.len rfl Ty.sl23 rfl) ?_
 refine WP.val rfl rfl rfl (Val.eql rfl rfl rfl) ?_
 refine WP.nx ?_
 refine WPc.ifP rfl (fun h1 => ?_) (fun h1 => ?_)
 ·
  have h1 : (((l.length : Nat) : Int) = (0 : Int)) := h1
  refine WPc.sr ?_
  refine WP.val rfl rfl rfl (Val.mk (cs := [.int .i64 0, .int .i64 0]) rfl rfl (fun _ => by kernel_rfl)) ?_
  refine WP.eff0 rfl rfl (Eff.storeAgg (cs := [.int .i64 0, .int .i64 0]) (C' := [.int .i64 0, .int .i64 0]) rfl Ty.ag32 rfl rfl rfl rfl (by simp) rfl) ?_
  rintro _ _ rfl
  refine WP.nx ?_
  refine WPc.ret ?_
  refine Out.then_ret ?_
  exact Out.retRun (L' := _) (results_cell (cs := _) Try.results28 Ty.ag32 rfl rfl (fun w h => h.range 0 rfl rfl)) ⟨by rw [modi_no (by omega)]; rfl, rfl⟩ (fun w h => h.drop)
 ·
  have h1 : ¬ (((l.length : Nat) : Int) = (0 : Int)) := h1
  refine WPc.skip ?_
  refine Out.next ?_
  refine WPc.seq ?_
  have hlt : (l.length - 1) < l.length := by omega
  obtain ⟨x, hx⟩ : ∃ x, l[(l.length - 1)]? = some x := ⟨_, List.getElem?_eq_getElem hlt⟩
  refine WPc.region ?_
  refine WP.val rfl rfl rfl (Val.move rfl rfl) ?_
  refine WP.val rfl rfl rfl (Val.move rfl rfl) ?_
  refine WP.val rfl rfl rfl (Val.len rfl Ty.sl23 rfl) ?_
  refine WP.val rfl rfl rfl (Val.sub (z := ((l.length - 1 : Nat) : Int)) rfl rfl rfl ((w64 (by omega) (by omega)).trans (by omega))) ?_
  refine WP.val rfl rfl rfl (Val.indexAddr (j := l.length - 1) (q := o0 + (l.length - 1) * 6) rfl Ty.sl23 rfl rfl (by omega) (by omega) (by omega)) ?_
  refine WP.val rfl rfl rfl (Val.fieldAddr (j := o0 + (l.length - 1) * 6) rfl Ty.fo47_0 rfl rfl) ?_
  refine WP.val rfl rfl rfl (Val.loadAgg (cs := [.int .i64 (x.r.m), .int .i64 (x.r.s)]) rfl Ty.ag32 rfl (by rfl) (fun w h => (fun j v hj => hr w (h.at 1 rfl) (l.length - 1) x hx j v (by match j, hj with | 0, hj => exact hj | 1, hj => exact hj | j + 2, hj => simp at hj)))) ?_
  refine WP.eff0 rfl rfl (Eff.storeAgg (cs := [.int .i64 (x.r.m), .int .i64 (x.r.s)]) (C' := [.int .i64 (x.r.m), .int .i64 (x.r.s)]) rfl Ty.ag32 rfl rfl rfl rfl (by simp) rfl) ?_
  rintro _ _ rfl
  refine WP.nx ?_
  refine WPc.ret ?_
  exact Out.retRun (L' := _) (results_cell (cs := _) Try.results28 Ty.ag32 rfl rfl (fun w h => h.range 0 rfl rfl)) ⟨by rw [modi_at hx]; rfl, rfl⟩ (fun w h => h.drop)

theorem mod_spec (A : HProp) (l : List Vn) (hl : l.length ≤ 100000) (va : Value) (hva : Rd A 6 Vn.cells va l) : Does Try.prog 28 [va] [A] (fun v L => v = rk (modi l) ∧ L = [A]) := by
 rcases hva with ⟨b0, o0, c0, rfl, hr⟩ | ⟨rfl, a, c, rfl⟩
 ·
  exact mod_row A l hl b0 o0 c0 hr
 ·
  exact mod_nil A a c

end Go.Proofs.Ythicijpjpijdjaa.Ka

namespace Go.Proofs.Ythicijpjpijdjaa.Kb
open Go.RowKit Go.Proofs.Ythicijpjpijdjaa Go.Proofs.Ythicijpjpijdjaa.Sl Go.Proofs.Ythicijpjpijdjaa.KyP Go.Proofs.Ythicijpjpijdjaa.Ka
set_option linter.unusedVariables false
set_option linter.unusedSimpArgs false
set_option linter.unusedSectionVars false


theorem lastN_top {l : List Vn} {at_ : Int} {k : Nat} {x : Vn} (hx : l[k]? = some x) (h : at_ < x.r.m) : lastN l at_ (k + 1) = lastN l at_ k := by
 conv => lhs; unfold lastN
 rw [hx]; dsimp only; rw [if_pos h]
theorem lastN_stop {l : List Vn} {at_ : Int} {k : Nat} {x : Vn} (hx : l[k]? = some x) (h : ¬ at_ < x.r.m) : lastN l at_ (k + 1) = k + 1 := by
 unfold lastN
 rw [hx]; dsimp only; rw [if_neg h]
theorem lastN_le (l : List Vn) (at_ : Int) : ∀ k, lastN l at_ k ≤ k
 | 0 => Nat.le_refl _
 | k + 1 => by
  have := lastN_le l at_ k
  unfold lastN
  split
  ·
   split <;> omega
  ·
   omega
set_option maxRecDepth 100000 in
set_option maxHeartbeats 1000000 in
theorem last_nil (A : HProp) (at_ : Int) (a : Option Addr) (c : Nat) : Does Try.prog 61 [.slice a 0 c, .int .i64 (at_)] [A] (fun v L => v = .int .i64 (((lastN ([] : List Vn) at_ 0 : Nat) : Int) - 1) ∧ L = [A]) := by
 refine Does.enter 24 Try.func61 rfl rfl rfl fun W F => ?_
 show WPc _ _ _ _ _ [(0, .slice a 0 c), (1, .int .i64 (at_))] (A :: F)
 refine WPc.sr ?_
 refine WP.val rfl rfl rfl (Val.assign rfl rfl) ?_
 refine WP.nx ?_
 refine WPc.sr ?_
 refine WP.val rfl rfl rfl (Val.move rfl rfl) ?_
 refine WP.val rfl rfl rfl (Val.len rfl Ty.sl23 rfl) ?_
 refine WP.val rfl rfl rfl (Val.sub (z := ((0 : Nat) : Int) - 1) rfl rfl rfl ((w64 (by omega) (by omega)).trans (by omega))) ?_
 refine WP.val rfl rfl rfl (Val.assign rfl rfl) ?_
 refine WP.nx ?_
 refine WPc.seq ?_
 refine WPc.block ?_
 refine WPc.loop (ι := Nat) (fun k => k ≤ 0 ∧ lastN ([] : List Vn) at_ 0 = lastN ([] : List Vn) at_ k) (fun k => [(0, .slice a 0 c), (1, .int .i64 (at_)), (5, .int .i64 (((k : Nat) : Int) - 1))]) (fun k => A :: F) (fun k => k) 0 ⟨Nat.le_refl _, rfl⟩ ((Sub.cons rfl (Sub.cons rfl (Sub.cons rfl Sub.nil)))) (fun _ h => h) ?_
 rintro k hk
 show WPc _ _ _ _ _ [(0, _), (1, _), (5, .int .i64 (((k : Nat) : Int) - 1))] _
 replace hk : k ≤ 0 ∧ lastN ([] : List Vn) at_ 0 = lastN ([] : List Vn) at_ k := hk
 refine WPc.seq ?_
 refine WPc.seq ?_
 rcases k with _ | k
 ·
  refine WPc.know 5 (.int .i64 (-1)) rfl rfl ?_
  refine WPc.region ?_
  refine WP.val rfl rfl rfl (Val.move rfl rfl) ?_
  refine WP.val rfl rfl rfl (Val.geq rfl rfl rfl) ?_
  refine WP.val rfl rfl rfl (Val.move rfl rfl) ?_
  refine WP.split 11 rfl (fun h1 => ?_) (fun h1 => ?_)
  ·
   have h1 : ((0 : Int) ≤ (-1 : Int)) := h1
   exfalso; omega
  ·
   have h1 : ¬ ((0 : Int) ≤ (-1 : Int)) := h1
   iterate 8 (refine WP.skip rfl rfl rfl rfl rfl rfl rfl ?_)
   refine WP.val rfl rfl rfl (Val.pickF rfl rfl rfl) ?_
   refine WP.nx ?_
   refine WPc.condF rfl rfl ?_
   refine WPc.exit ?_
   refine Out.then_exit ?_
   refine Out.then_exit ?_
   refine Out.block_exit ?_
   refine Out.next ?_
   refine WPc.sr ?_
   refine WP.val rfl rfl rfl (Val.move rfl rfl) ?_
   refine WP.val rfl rfl rfl (Val.assign rfl rfl) ?_
   refine WP.nx ?_
   refine WPc.ret ?_
   exact Out.ret1 (L' := _) Try.results61 rfl ⟨by rw [hk.2]; first | rfl | exact congrArg (Value.int .i64) (by simp [lastN] <;> omega), rfl⟩ (fun _ h => h)
 ·
  refine WPc.know 5 (.int .i64 ((k : Nat) : Int)) rfl (congrArg (Value.int .i64) (by omega)) ?_
  refine WPc.region ?_
  refine WP.val rfl rfl rfl (Val.move rfl rfl) ?_
  refine WP.val rfl rfl rfl (Val.geq rfl rfl rfl) ?_
  refine WP.val rfl rfl rfl (Val.move rfl rfl) ?_
  refine WP.split 11 rfl (fun h2 => ?_) (fun h2 => ?_)
  ·
   have h2 : ((0 : Int) ≤ ((k : Nat) : Int)) := h2
   exfalso; omega
  ·
   have h2 : ¬ ((0 : Int) ≤ ((k : Nat) : Int)) := h2
   exfalso; omega

set_option maxRecDepth 100000 in
set_option maxHeartbeats 1000000 in
theorem last_row (A : HProp) (at_ : Int) (l : List Vn) (hl : l.length ≤ 100000) (b0 o0 c0 : Nat) (hr : ∀ w, Holds A w → ∀ i x, l[i]? = some x → w.rangeAt b0 (o0 + i * 6) (Vn.cells x)) : Does Try.prog 61 [.slice (some ⟨b0, o0, none⟩) l.length c0, .int .i64 (at_)] [A] (fun v L => v = .int .i64 (((lastN l at_ l.length : Nat) : Int) - 1) ∧ L = [A]) := by
 refine Does.enter 24 Try.func61 rfl rfl rfl fun W F => ?_
 show WPc _ _ _ _ _ [(0, .slice (some ⟨b0, o0, none⟩) l.length c0), (1, .int .i64 (at_))] (A :: F)
 refine WPc.sr ?_
 refine WP.val rfl rfl rfl (Val.assign rfl rfl) ?_
 refine WP.nx ?_
 refine WPc.sr ?_
 refine WP.val rfl rfl rfl (Val.move rfl rfl) ?_
 refine WP.val rfl rfl rfl (Val.len rfl Ty.sl23 rfl) ?_
 refine WP.val rfl rfl rfl (Val.sub (z := ((l.length : Nat) : Int) - 1) rfl rfl rfl ((w64 (by omega) (by omega)).trans (by omega))) ?_
 refine WP.val rfl rfl rfl (Val.assign rfl rfl) ?_
 refine WP.nx ?_
 refine WPc.seq ?_
 refine WPc.block ?_
 refine WPc.loop (ι := Nat) (fun k => k ≤ l.length ∧ lastN l at_ l.length = lastN l at_ k) (fun k => [(0, .slice (some ⟨b0, o0, none⟩) l.length c0), (1, .int .i64 (at_)), (5, .int .i64 (((k : Nat) : Int) - 1))]) (fun k => A :: F) (fun k => k) l.length ⟨Nat.le_refl _, rfl⟩ ((Sub.cons rfl (Sub.cons rfl (Sub.cons rfl Sub.nil)))) (fun _ h => h) ?_
 rintro k hk
 show WPc _ _ _ _ _ [(0, _), (1, _), (5, .int .i64 (((k : Nat) : Int) - 1))] _
 replace hk : k ≤ l.length ∧ lastN l at_ l.length = lastN l at_ k := hk
 refine WPc.seq ?_
 refine WPc.seq ?_
 rcases k with _ | k
 ·
  refine WPc.know 5 (.int .i64 (-1)) rfl rfl ?_
  refine WPc.region ?_
  refine WP.val rfl rfl rfl (Val.move rfl rfl) ?_
  refine WP.val rfl rfl rfl (Val.geq rfl rfl rfl) ?_
  refine WP.val rfl rfl rfl (Val.move rfl rfl) ?_
  refine WP.split 11 rfl (fun h1 => ?_) (fun h1 => ?_)
  ·
   have h1 : ((0 : Int) ≤ (-1 : Int)) := h1
   exfalso; omega
  ·
   have h1 : ¬ ((0 : Int) ≤ (-1 : Int)) := h1
   iterate 8 (refine WP.skip rfl rfl rfl rfl rfl rfl rfl ?_)
   refine WP.val rfl rfl rfl (Val.pickF rfl rfl rfl) ?_
   refine WP.nx ?_
   refine WPc.condF rfl rfl ?_
   refine WPc.exit ?_
   refine Out.then_exit ?_
   refine Out.then_exit ?_
   refine Out.block_exit ?_
   refine Out.next ?_
   refine WPc.sr ?_
   refine WP.val rfl rfl rfl (Val.move rfl rfl) ?_
   refine WP.val rfl rfl rfl (Val.assign rfl rfl) ?_
   refine WP.nx ?_
   refine WPc.ret ?_
   exact Out.ret1 (L' := _) Try.results61 rfl ⟨by rw [hk.2]; first | rfl | exact congrArg (Value.int .i64) (by simp [lastN] <;> omega), rfl⟩ (fun _ h => h)
 ·
  refine WPc.know 5 (.int .i64 ((k : Nat) : Int)) rfl (congrArg (Value.int .i64) (by omega)) ?_
  refine WPc.region ?_
  refine WP.val rfl rfl rfl (Val.move rfl rfl) ?_
  refine WP.val rfl rfl rfl (Val.geq rfl rfl rfl) ?_
  refine WP.val rfl rfl rfl (Val.move rfl rfl) ?_
  refine WP.split 11 rfl (fun h2 => ?_) (fun h2 => ?_)
  ·
   have h2 : ((0 : Int) ≤ ((k : Nat) : Int)) := h2
   have hlt : k < l.length := by omega
   obtain ⟨x, hx⟩ : ∃ x, l[k]? = some x := ⟨_, List.getElem?_eq_getElem hlt⟩
   refine WP.valG rfl rfl rfl rfl rfl rfl rfl (Val.move rfl rfl) ?_
   refine WP.valG rfl rfl rfl rfl rfl rfl rfl (Val.move rfl rfl) ?_
   refine WP.valG rfl rfl rfl rfl rfl rfl rfl (Val.indexAddr (j := k) (q := o0 + k * 6) rfl Ty.sl23 rfl rfl (by omega) (by omega) (by omega)) ?_
   refine WP.valG rfl rfl rfl rfl rfl rfl rfl (Val.fieldAddr (j := o0 + k * 6) rfl Ty.fo47_0 rfl rfl) ?_
   refine WP.valG rfl rfl rfl rfl rfl rfl rfl (Val.fieldAddr (j := o0 + k * 6) rfl Ty.fo32_0 rfl rfl) ?_
   refine WP.valG rfl rfl rfl rfl rfl rfl rfl (Val.load (v := .int .i64 (x.r.m)) rfl Ty.sc2 rfl (fun w h => hr w (h.at 0 rfl) k x hx 0 _ rfl)) ?_
   refine WP.valG rfl rfl rfl rfl rfl rfl rfl (Val.move rfl rfl) ?_
   refine WP.valG rfl rfl rfl rfl rfl rfl rfl (Val.gtr rfl rfl rfl) ?_
   refine WP.val rfl rfl rfl (Val.pickT rfl rfl rfl) ?_
   refine WP.nx ?_
   refine WPc.ifP rfl (fun h3 => ?_) (fun h3 => ?_)
   ·
    have h3 : (at_ < x.r.m) := h3
    refine WPc.skip ?_
    refine Out.next ?_
    refine WPc.block ?_
    refine WPc.region ?_
    refine WP.val rfl rfl rfl (Val.move rfl rfl) ?_
    refine WP.val rfl rfl rfl (Val.sub (z := ((k : Nat) : Int) - 1) rfl rfl rfl ((w64 (by omega) (by omega)).trans (by omega))) ?_
    refine WP.val rfl rfl rfl (Val.assign rfl rfl) ?_
    refine WP.nil ?_
    refine Out.block ?_
    refine Out.again k ?_ ?_ ?_ ?_
    ·
     exact ⟨by omega, hk.2.trans (lastN_top hx (by omega))⟩
    ·
     (first | omega | (dsimp only; omega))
    ·
     exact (Sub.cons rfl (Sub.cons rfl (Sub.cons rfl Sub.nil)))
    ·
     exact (fun _ h => h)
   ·
    have h3 : ¬ (at_ < x.r.m) := h3
    refine WPc.exit ?_
    refine Out.then_exit ?_
    refine Out.then_exit ?_
    refine Out.block_exit ?_
    refine Out.next ?_
    refine WPc.sr ?_
    refine WP.val rfl rfl rfl (Val.move rfl rfl) ?_
    refine WP.val rfl rfl rfl (Val.assign rfl rfl) ?_
    refine WP.nx ?_
    refine WPc.ret ?_
    exact Out.ret1 (L' := _) Try.results61 rfl ⟨by rw [hk.2.trans (lastN_stop hx (by omega))]; first | rfl | exact congrArg (Value.int .i64) (by simp [lastN] <;> omega), rfl⟩ (fun _ h => h)
  ·
   have h2 : ¬ ((0 : Int) ≤ ((k : Nat) : Int)) := h2
   exfalso; omega

theorem last_spec (A : HProp) (at_ : Int) (l : List Vn) (hl : l.length ≤ 100000) (va : Value) (hva : Rd A 6 Vn.cells va l) : Does Try.prog 61 [va, .int .i64 (at_)] [A] (fun v L => v = .int .i64 (((lastN l at_ l.length : Nat) : Int) - 1) ∧ L = [A]) := by
 rcases hva with ⟨b0, o0, c0, rfl, hr⟩ | ⟨rfl, a, c, rfl⟩
 ·
  exact last_row A at_ l hl b0 o0 c0 hr
 ·
  exact last_nil A at_ a c

end Go.Proofs.Ythicijpjpijdjaa.Kb

