import Derived.Test.YthicijpjpijdjaaNb
namespace Go.Proofs.Ythicijpjpijdjaa.Kf
open Go.RowKit Go.Proofs.Ythicijpjpijdjaa Go.Proofs.Ythicijpjpijdjaa.Sl Go.Proofs.Ythicijpjpijdjaa.KyP Go.Proofs.Ythicijpjpijdjaa.Ka Go.Proofs.Ythicijpjpijdjaa.Kb Go.Proofs.Ythicijpjpijdjaa.Kc Go.Proofs.Ythicijpjpijdjaa.Kd Go.Proofs.Ythicijpjpijdjaa.Ke
set_option linter.unusedVariables false
set_option linter.unusedSimpArgs false
set_option linter.unusedSectionVars false


theorem comp_yes {l : List Vn} {at_ : Int} {i : Nat} {x : Vn} (hx : l[i]? = some x) (h : stays l at_ i x = true) : comp l at_ (i + 1) = comp l at_ i ++ [x] := by
 conv => lhs; unfold comp
 rw [hx]; dsimp only; rw [if_pos h]
theorem comp_no {l : List Vn} {at_ : Int} {i : Nat} {x : Vn} (hx : l[i]? = some x) (h : stays l at_ i x = false) : comp l at_ (i + 1) = comp l at_ i := by
 conv => lhs; unfold comp
 rw [hx]; dsimp only; rw [if_neg (by rw [h]; exact Bool.noConfusion)]
theorem comp_len (l : List Vn) (at_ : Int) : ∀ i, (comp l at_ i).length ≤ i
 | 0 => Nat.le_refl _
 | i + 1 => by
  have := comp_len l at_ i
  unfold comp
  split
  ·
   split
   ·
    rw [List.length_append, List.length_singleton]; omega
   ·
    omega
  ·
   omega
set_option maxRecDepth 100000 in
set_option maxHeartbeats 1000000 in
theorem compacted_nil (A : HProp) (at_ : Int) (a : Option Addr) (c : Nat) : Does Try.prog 8 [.slice a 0 c, .int .i64 (at_)] [A] (fun v L => L = [Own 47 6 v (comp ([] : List Vn) at_ 0).length (flatOf Vn.cells (comp ([] : List Vn) at_ 0)), A]) := by
 refine Does.enter 25 Try.func8 rfl rfl rfl fun W F => ?_
 show WPc _ _ _ _ _ [(0, .slice a 0 c), (1, .int .i64 (at_))] (A :: F)
 refine WPc.sr ?_
 refine WP.val rfl rfl rfl (Val.assign rfl rfl) ?_
 refine WP.nx ?_
 refine WPc.sr ?_
 refine WP.val rfl rfl rfl (Val.assign rfl rfl) ?_
 refine WP.nx ?_
 refine WPc.seq ?_
 refine WPc.seq ?_
 refine WPc.conv (fun w h => h.ownNil (e := 47) (k := 6)) ?_
 show WPc _ _ _ _ _ _ (Own 47 6 (.slice none 0 0) 0 ([]) :: _)
 refine WPc.region ?_
 refine WP.val rfl rfl rfl (Val.move rfl rfl) ?_
 refine WP.val rfl rfl rfl (Val.len rfl Ty.sl23 rfl) ?_
 refine WP.val rfl rfl rfl (Val.move rfl rfl) ?_
 refine WP.nx ?_
 refine WPc.block ?_
 refine WPc.loop (ι := Nat × Value) (fun ⟨i, v⟩ => i ≤ 0) (fun ⟨i, v⟩ => [(0, .slice a 0 c), (1, .int .i64 (at_)), (5, v), (8, .slice a 0 c), (9, .int .i64 0), (10, .int .i64 (((i : Nat) : Int)))]) (fun ⟨i, v⟩ => Own 47 6 v ((comp ([] : List Vn) at_ i).length) (flatOf Vn.cells (comp ([] : List Vn) at_ i)) :: A :: F) (fun ⟨i, v⟩ => 0 - i) (0, .slice none 0 0) (Nat.zero_le _) ((Sub.cons rfl (Sub.cons rfl (Sub.cons rfl (Sub.cons rfl (Sub.cons rfl (Sub.cons rfl Sub.nil))))))) (fun _ h => h) ?_
 rintro ⟨i, v⟩ hi
 show WPc _ _ _ _ _ [(0, _), (1, _), (5, v), (8, .slice a 0 c), (9, .int .i64 0), (10, .int .i64 (((i : Nat) : Int)))] (Own 47 6 v ((comp ([] : List Vn) at_ i).length) (flatOf Vn.cells (comp ([] : List Vn) at_ i)) :: _)
 replace hi : i ≤ 0 := hi
 have hcl := comp_len ([] : List Vn) at_ i
 refine WPc.sr ?_
 refine WP.val rfl rfl rfl (Val.lss rfl rfl rfl) ?_
 refine WP.nx ?_
 refine WPc.seq ?_
 refine WPc.ifP rfl (fun h1 => ?_) (fun h1 => ?_)
 ·
  have h1 : (((i : Nat) : Int) < (0 : Int)) := h1
  exfalso; omega
 ·
  have h1 : ¬ (((i : Nat) : Int) < (0 : Int)) := h1
  refine WPc.exit ?_
  refine Out.then_exit ?_
  refine Out.then_exit ?_
  refine Out.block_exit ?_
  refine Out.next ?_
  refine WPc.sr ?_
  refine WP.val rfl rfl rfl (Val.move rfl rfl) ?_
  refine WP.val rfl rfl rfl (Val.assign rfl rfl) ?_
  refine WP.nx ?_
  refine WPc.ret ?_
  have hil : i = 0 := by omega
  exact Out.ret1 (L' := _) Try.results8 rfl rfl (fun w h => by rw [hil] at h; exact h)

set_option maxRecDepth 100000 in
set_option maxHeartbeats 1000000 in
theorem compacted_row (A : HProp) (at_ : Int) (l : List Vn) (hl : l.length ≤ 100000) (b0 o0 c0 : Nat) (hr : ∀ w, Holds A w → ∀ i x, l[i]? = some x → w.rangeAt b0 (o0 + i * 6) (Vn.cells x)) : Does Try.prog 8 [.slice (some ⟨b0, o0, none⟩) l.length c0, .int .i64 (at_)] [A] (fun v L => L = [Own 47 6 v (comp l at_ l.length).length (flatOf Vn.cells (comp l at_ l.length)), A]) := by
 refine Does.enter 25 Try.func8 rfl rfl rfl fun W F => ?_
 show WPc _ _ _ _ _ [(0, .slice (some ⟨b0, o0, none⟩) l.length c0), (1, .int .i64 (at_))] (A :: F)
 refine WPc.sr ?_
 refine WP.val rfl rfl rfl (Val.assign rfl rfl) ?_
 refine WP.nx ?_
 refine WPc.sr ?_
 refine WP.val rfl rfl rfl (Val.assign rfl rfl) ?_
 refine WP.nx ?_
 refine WPc.seq ?_
 refine WPc.seq ?_
 refine WPc.conv (fun w h => h.ownNil (e := 47) (k := 6)) ?_
 show WPc _ _ _ _ _ _ (Own 47 6 (.slice none 0 0) 0 ([]) :: _)
 refine WPc.region ?_
 refine WP.val rfl rfl rfl (Val.move rfl rfl) ?_
 refine WP.val rfl rfl rfl (Val.len rfl Ty.sl23 rfl) ?_
 refine WP.val rfl rfl rfl (Val.move rfl rfl) ?_
 refine WP.nx ?_
 refine WPc.block ?_
 refine WPc.loop (ι := Nat × Value) (fun ⟨i, v⟩ => i ≤ l.length) (fun ⟨i, v⟩ => [(0, .slice (some ⟨b0, o0, none⟩) l.length c0), (1, .int .i64 (at_)), (5, v), (8, .slice (some ⟨b0, o0, none⟩) l.length c0), (9, .int .i64 (((l.length : Nat) : Int))), (10, .int .i64 (((i : Nat) : Int)))]) (fun ⟨i, v⟩ => Own 47 6 v ((comp l at_ i).length) (flatOf Vn.cells (comp l at_ i)) :: A :: F) (fun ⟨i, v⟩ => l.length - i) (0, .slice none 0 0) (Nat.zero_le _) ((Sub.cons rfl (Sub.cons rfl (Sub.cons rfl (Sub.cons rfl (Sub.cons rfl (Sub.cons rfl Sub.nil))))))) (fun _ h => h) ?_
 rintro ⟨i, v⟩ hi
 show WPc _ _ _ _ _ [(0, _), (1, _), (5, v), (8, .slice (some ⟨b0, o0, none⟩) l.length c0), (9, .int .i64 (((l.length : Nat) : Int))), (10, .int .i64 (((i : Nat) : Int)))] (Own 47 6 v ((comp l at_ i).length) (flatOf Vn.cells (comp l at_ i)) :: _)
 replace hi : i ≤ l.length := hi
 have hcl := comp_len l at_ i
 refine WPc.sr ?_
 refine WP.val rfl rfl rfl (Val.lss rfl rfl rfl) ?_
 refine WP.nx ?_
 refine WPc.seq ?_
 refine WPc.ifP rfl (fun h1 => ?_) (fun h1 => ?_)
 ·
  have h1 : (((i : Nat) : Int) < ((l.length : Nat) : Int)) := h1
  refine WPc.skip ?_
  refine Out.next ?_
  refine WPc.seq ?_
  refine WPc.block ?_
  refine WPc.seq ?_
  have hlt : i < l.length := by omega
  obtain ⟨x, hx⟩ : ∃ x, l[i]? = some x := ⟨_, List.getElem?_eq_getElem hlt⟩
  refine WPc.region ?_
  refine WP.val rfl rfl rfl (Val.move rfl rfl) ?_
  refine WP.val rfl rfl rfl (Val.indexAddr (j := i) (q := o0 + i * 6) rfl Ty.sl23 rfl rfl (by omega) (by omega) (by omega)) ?_
  refine WP.val rfl rfl rfl (Val.loadAgg (cs := (Vn.cells x)) rfl Ty.ag47 rfl (by rfl) (fun w h => hr w (h.at 1 rfl) i x hx)) ?_
  refine WP.eff rfl rfl rfl (Eff.alloc rfl Ty.z47) ?_
  rintro _ _ ⟨b1, rfl, rfl⟩
  refine WP.val rfl rfl rfl (Val.assign rfl rfl) ?_
  refine WP.eff0 rfl rfl (Eff.storeAgg (cs := [.int .i64 (x.r.m), .int .i64 (x.r.s), .int .i64 (x.c.m), .int .i64 (x.c.s), .int .i64 (x.v), .bool (x.g)]) (C' := [.int .i64 (x.r.m), .int .i64 (x.r.s), .int .i64 (x.c.m), .int .i64 (x.c.s), .int .i64 (x.v), .bool (x.g)]) rfl Ty.ag47 rfl rfl rfl rfl (by simp) rfl) ?_
  rintro _ _ rfl
  refine WP.nx ?_
  refine WPc.sr ?_
  iterate 3 (refine WP.val rfl rfl rfl (Val.move rfl rfl) ?_)
  refine WP.perm pl2 ?_
  refine WP.eff rfl rfl rfl (Eff.call rfl rfl Try.call30 (stays_spec A at_ l hl (.slice (some ⟨b0, o0, none⟩) l.length c0) (.inl ⟨b0, o0, c0, rfl, hr⟩) i x hx)) ?_
  rintro _ _ ⟨_, ⟨rfl, rfl⟩, rfl⟩
  show WP _ _ _ _ _ _ _ (_ :: Blk b1 [.int .i64 (x.r.m), .int .i64 (x.r.s), .int .i64 (x.c.m), .int .i64 (x.c.s), .int .i64 (x.v), .bool (x.g)] 47 :: _)
  refine WP.nx ?_
  refine WPc.cond rfl (fun h2 => ?_) (fun h2 => ?_)
  ·
   have h2 : ((stays l at_ i x)) = true := h2
   refine WPc.region ?_
   refine WP.val rfl rfl rfl (Val.move rfl rfl) ?_
   refine WP.val rfl rfl rfl (Val.loadAgg (cs := [.int .i64 (x.r.m), .int .i64 (x.r.s), .int .i64 (x.c.m), .int .i64 (x.c.s), .int .i64 (x.v), .bool (x.g)]) rfl Ty.ag47 rfl rfl (fun w h => h.range 1 rfl rfl)) ?_
   refine WP.eff rfl rfl rfl (Eff.mkSlice (C := [.int .i64 (x.r.m), .int .i64 (x.r.s), .int .i64 (x.c.m), .int .i64 (x.c.s), .int .i64 (x.v), .bool (x.g)]) rfl Ty.sl23 rfl (fun _ => by kernel_rfl)) ?_
   rintro _ _ ⟨b2, rfl, rfl⟩
   refine WP.perm pl3 ?_
   refine WP.eff rfl rfl rfl (Eff.append (m := 1) (n0 := (comp l at_ i).length) (news := [.int .i64 (x.r.m), .int .i64 (x.r.s), .int .i64 (x.c.m), .int .i64 (x.c.s), .int .i64 (x.v), .bool (x.g)]) rfl Ty.sl23 Ty.z47 rfl rfl rfl (.slice Ty.sl23 rfl rfl (fun w h => cells_range (h.range 1 rfl rfl))) (by omega) (by omega)) ?_
   rintro v3 _ ⟨onev3, rfl⟩
   refine WP.val rfl rfl rfl (Val.assign rfl rfl) ?_
   refine WP.nil ?_
   refine Out.block ?_
   refine Out.next ?_
   refine WPc.region ?_
   refine WP.val rfl rfl rfl (Val.add (z := ((i + 1 : Nat) : Int)) rfl rfl rfl ((w64 (by omega) (by omega)).trans (by omega))) ?_
   refine WP.val rfl rfl rfl (Val.move rfl rfl) ?_
   refine WP.nil ?_
   refine Out.perm pl1 ?_
   refine Out.drop ?_
   refine Out.perm pl2 ?_
   refine Out.drop ?_
   refine Out.again (i + 1, v3) ?_ ?_ ?_ ?_
   ·
    exact (by first | omega | (dsimp only; omega))
   ·
    (dsimp only; omega)
   ·
    exact (Sub.cons rfl (Sub.cons rfl (Sub.cons rfl (Sub.cons rfl (Sub.cons rfl (Sub.cons rfl Sub.nil))))))
   ·
    exact (fun w h => by dsimp only; rw [comp_yes hx (by assumption), flatOf_append, flatOf_one, List.length_append]; exact h)
  ·
   have h2 : ((stays l at_ i x)) = false := h2
   refine WPc.skip ?_
   refine Out.block ?_
   refine Out.next ?_
   refine WPc.region ?_
   refine WP.val rfl rfl rfl (Val.add (z := ((i + 1 : Nat) : Int)) rfl rfl rfl ((w64 (by omega) (by omega)).trans (by omega))) ?_
   refine WP.val rfl rfl rfl (Val.move rfl rfl) ?_
   refine WP.nil ?_
   refine Out.perm pl1 ?_
   refine Out.drop ?_
   refine Out.perm pl1 ?_
   refine Out.again (i + 1, v) ?_ ?_ ?_ ?_
   ·
    exact (by first | omega | (dsimp only; omega))
   ·
    (dsimp only; omega)
   ·
    exact (Sub.cons rfl (Sub.cons rfl (Sub.cons rfl (Sub.cons rfl (Sub.cons rfl (Sub.cons rfl Sub.nil))))))
   ·
    exact (fun w h => by dsimp only; rw [comp_no hx (by assumption)]; exact h)
 ·
  have h1 : ¬ (((i : Nat) : Int) < ((l.length : Nat) : Int)) := h1
  refine WPc.exit ?_
  refine Out.then_exit ?_
  refine Out.then_exit ?_
  refine Out.block_exit ?_
  refine Out.next ?_
  refine WPc.sr ?_
  refine WP.val rfl rfl rfl (Val.move rfl rfl) ?_
  refine WP.val rfl rfl rfl (Val.assign rfl rfl) ?_
  refine WP.nx ?_
  refine WPc.ret ?_
  have hil : i = l.length := by omega
  exact Out.ret1 (L' := _) Try.results8 rfl rfl (fun w h => by rw [hil] at h; exact h)

theorem compacted_spec (A : HProp) (at_ : Int) (l : List Vn) (hl : l.length ≤ 100000) (va : Value) (hva : Rd A 6 Vn.cells va l) : Does Try.prog 8 [va, .int .i64 (at_)] [A] (fun v L => L = [Own 47 6 v (comp l at_ l.length).length (flatOf Vn.cells (comp l at_ l.length)), A]) := by
 rcases hva with ⟨b0, o0, c0, rfl, hr⟩ | ⟨rfl, a, c, rfl⟩
 ·
  exact compacted_row A at_ l hl b0 o0 c0 hr
 ·
  exact compacted_nil A at_ a c

end Go.Proofs.Ythicijpjpijdjaa.Kf

namespace Go.Proofs.Ythicijpjpijdjaa.Kg
open Go.RowKit Go.Proofs.Ythicijpjpijdjaa Go.Proofs.Ythicijpjpijdjaa.Sl Go.Proofs.Ythicijpjpijdjaa.KyP Go.Proofs.Ythicijpjpijdjaa.Ka Go.Proofs.Ythicijpjpijdjaa.Kb Go.Proofs.Ythicijpjpijdjaa.Kc Go.Proofs.Ythicijpjpijdjaa.Kd Go.Proofs.Ythicijpjpijdjaa.Ke Go.Proofs.Ythicijpjpijdjaa.Kf
set_option linter.unusedVariables false
set_option linter.unusedSimpArgs false
set_option linter.unusedSectionVars false


def kpc (l : List Vn) (at_ : Int) (en : Bool) (i : Nat) (x : Vn) : Bool := decide (x.r.m ≤ at_) && (stays l at_ i x && (en || !x.g))
def keptV (l : List Vn) (at_ : Int) (en : Bool) : Nat → List Rv
 | 0 => []
 | i + 1 => match l[i]? with
  | some x => if kpc l at_ en i x then keptV l at_ en i ++ [x.r] else keptV l at_ en i
  | none => keptV l at_ en i
theorem kept_yes {l : List Vn} {at_ : Int} {en : Bool} {i : Nat} {x : Vn} (hx : l[i]? = some x) (h : kpc l at_ en i x = true) : keptV l at_ en (i + 1) = keptV l at_ en i ++ [x.r] := by
 conv => lhs; unfold keptV
 rw [hx]; dsimp only; rw [if_pos h]
theorem kept_no {l : List Vn} {at_ : Int} {en : Bool} {i : Nat} {x : Vn} (hx : l[i]? = some x) (h : kpc l at_ en i x = false) : keptV l at_ en (i + 1) = keptV l at_ en i := by
 conv => lhs; unfold keptV
 rw [hx]; dsimp only; rw [if_neg (by rw [h]; exact Bool.noConfusion)]
theorem kept_len (l : List Vn) (at_ : Int) (en : Bool) : ∀ i, (keptV l at_ en i).length ≤ i
 | 0 => Nat.le_refl _
 | i + 1 => by
  have := kept_len l at_ en i
  unfold keptV
  split
  ·
   split
   ·
    rw [List.length_append, List.length_singleton]; omega
   ·
    omega
  ·
   omega
set_option maxRecDepth 100000 in
set_option maxHeartbeats 1000000 in
theorem kept_nil (A : HProp) (at_ : Int) (en : Bool) (a : Option Addr) (c : Nat) : Does Try.prog 14 [.slice a 0 c, .int .i64 (at_), .bool (en)] [A] (fun v L => L = [Own 32 2 v (keptV ([] : List Vn) at_ en 0).length (flatOf Rv.cells (keptV ([] : List Vn) at_ en 0)), A]) := by
 refine Does.enter 43 Try.func14 rfl rfl rfl fun W F => ?_
 show WPc _ _ _ _ _ [(0, .slice a 0 c), (1, .int .i64 (at_)), (2, .bool (en))] (A :: F)
 refine WPc.sr ?_
 refine WP.val rfl rfl rfl (Val.assign rfl rfl) ?_
 refine WP.nx ?_
 refine WPc.sr ?_
 refine WP.val rfl rfl rfl (Val.assign rfl rfl) ?_
 refine WP.nx ?_
 refine WPc.seq ?_
 refine WPc.seq ?_
 refine WPc.conv (fun w h => h.ownNil (e := 32) (k := 2)) ?_
 show WPc _ _ _ _ _ _ (Own 32 2 (.slice none 0 0) 0 ([]) :: _)
 refine WPc.region ?_
 refine WP.val rfl rfl rfl (Val.move rfl rfl) ?_
 refine WP.val rfl rfl rfl (Val.len rfl Ty.sl23 rfl) ?_
 refine WP.val rfl rfl rfl (Val.move rfl rfl) ?_
 refine WP.nx ?_
 refine WPc.block ?_
 refine WPc.loop (ι := Nat × Value) (fun ⟨i, v⟩ => i ≤ 0) (fun ⟨i, v⟩ => [(0, .slice a 0 c), (1, .int .i64 (at_)), (2, .bool (en)), (7, v), (10, .slice a 0 c), (11, .int .i64 0), (12, .int .i64 (((i : Nat) : Int)))]) (fun ⟨i, v⟩ => Own 32 2 v ((keptV ([] : List Vn) at_ en i).length) (flatOf Rv.cells (keptV ([] : List Vn) at_ en i)) :: A :: F) (fun ⟨i, v⟩ => 0 - i) (0, .slice none 0 0) (Nat.zero_le _) ((Sub.cons rfl (Sub.cons rfl (Sub.cons rfl (Sub.cons rfl (Sub.cons rfl (Sub.cons rfl (Sub.cons rfl Sub.nil)))))))) (fun _ h => h) ?_
 rintro ⟨i, v⟩ hi
 show WPc _ _ _ _ _ [(0, _), (1, _), (2, _), (7, v), (10, .slice a 0 c), (11, .int .i64 0), (12, .int .i64 (((i : Nat) : Int)))] (Own 32 2 v ((keptV ([] : List Vn) at_ en i).length) (flatOf Rv.cells (keptV ([] : List Vn) at_ en i)) :: _)
 replace hi : i ≤ 0 := hi
 have hcl := kept_len ([] : List Vn) at_ en i
 refine WPc.sr ?_
 refine WP.val rfl rfl rfl (Val.lss rfl rfl rfl) ?_
 refine WP.nx ?_
 refine WPc.seq ?_
 refine WPc.ifP rfl (fun h1 => ?_) (fun h1 => ?_)
 ·
  have h1 : (((i : Nat) : Int) < (0 : Int)) := h1
  exfalso; omega
 ·
  have h1 : ¬ (((i : Nat) : Int) < (0 : Int)) := h1
  refine WPc.exit ?_
  refine Out.then_exit ?_
  refine Out.then_exit ?_
  refine Out.block_exit ?_
  refine Out.next ?_
  refine WPc.sr ?_
  refine WP.val rfl rfl rfl (Val.move rfl rfl) ?_
  refine WP.val rfl rfl rfl (Val.assign rfl rfl) ?_
  refine WP.nx ?_
  refine WPc.ret ?_
  have hil : i = 0 := by omega
  exact Out.ret1 (L' := _) Try.results14 rfl rfl (fun w h => by rw [hil] at h; exact h)

set_option maxRecDepth 100000 in
set_option maxHeartbeats 1000000 in
theorem kept_row (A : HProp) (at_ : Int) (en : Bool) (l : List Vn) (hl : l.length ≤ 100000) (b0 o0 c0 : Nat) (hr : ∀ w, Holds A w → ∀ i x, l[i]? = some x → w.rangeAt b0 (o0 + i * 6) (Vn.cells x)) : Does Try.prog 14 [.slice (some ⟨b0, o0, none⟩) l.length c0, .int .i64 (at_), .bool (en)] [A] (fun v L => L = [Own 32 2 v (keptV l at_ en l.length).length (flatOf Rv.cells (keptV l at_ en l.length)), A]) := by
 refine Does.enter 43 Try.func14 rfl rfl rfl fun W F => ?_
 show WPc _ _ _ _ _ [(0, .slice (some ⟨b0, o0, none⟩) l.length c0), (1, .int .i64 (at_)), (2, .bool (en))] (A :: F)
 refine WPc.sr ?_
 refine WP.val rfl rfl rfl (Val.assign rfl rfl) ?_
 refine WP.nx ?_
 refine WPc.sr ?_
 refine WP.val rfl rfl rfl (Val.assign rfl rfl) ?_
 refine WP.nx ?_
 refine WPc.seq ?_
 refine WPc.seq ?_
 refine WPc.conv (fun w h => h.ownNil (e := 32) (k := 2)) ?_
 show WPc _ _ _ _ _ _ (Own 32 2 (.slice none 0 0) 0 ([]) :: _)
 refine WPc.region ?_
 refine WP.val rfl rfl rfl (Val.move rfl rfl) ?_
 refine WP.val rfl rfl rfl (Val.len rfl Ty.sl23 rfl) ?_
 refine WP.val rfl rfl rfl (Val.move rfl rfl) ?_
 refine WP.nx ?_
 refine WPc.block ?_
 refine WPc.loop (ι := Nat × Value) (fun ⟨i, v⟩ => i ≤ l.length) (fun ⟨i, v⟩ => [(0, .slice (some ⟨b0, o0, none⟩) l.length c0), (1, .int .i64 (at_)), (2, .bool (en)), (7, v), (10, .slice (some ⟨b0, o0, none⟩) l.length c0), (11, .int .i64 (((l.length : Nat) : Int))), (12, .int .i64 (((i : Nat) : Int)))]) (fun ⟨i, v⟩ => Own 32 2 v ((keptV l at_ en i).length) (flatOf Rv.cells (keptV l at_ en i)) :: A :: F) (fun ⟨i, v⟩ => l.length - i) (0, .slice none 0 0) (Nat.zero_le _) ((Sub.cons rfl (Sub.cons rfl (Sub.cons rfl (Sub.cons rfl (Sub.cons rfl (Sub.cons rfl (Sub.cons rfl Sub.nil)))))))) (fun _ h => h) ?_
 rintro ⟨i, v⟩ hi
 show WPc _ _ _ _ _ [(0, _), (1, _), (2, _), (7, v), (10, .slice (some ⟨b0, o0, none⟩) l.length c0), (11, .int .i64 (((l.length : Nat) : Int))), (12, .int .i64 (((i : Nat) : Int)))] (Own 32 2 v ((keptV l at_ en i).length) (flatOf Rv.cells (keptV l at_ en i)) :: _)
 replace hi : i ≤ l.length := hi
 have hcl := kept_len l at_ en i
 refine WPc.sr ?_
 refine WP.val rfl rfl rfl (Val.lss rfl rfl rfl) ?_
 refine WP.nx ?_
 refine WPc.seq ?_
 refine WPc.ifP rfl (fun h1 => ?_) (fun h1 => ?_)
 ·
  have h1 : (((i : Nat) : Int) < ((l.length : Nat) : Int)) := h1
  refine WPc.skip ?_
  refine Out.next ?_
  refine WPc.seq ?_
  refine WPc.block ?_
  refine WPc.seq ?_
  have hlt : i < l.length := by omega
  obtain ⟨x, hx⟩ : ∃ x, l[i]? = some x := ⟨_, List.getElem?_eq_getElem hlt⟩
  refine WPc.region ?_
  refine WP.val rfl rfl rfl (Val.move rfl rfl) ?_
  refine WP.val rfl rfl rfl (Val.indexAddr (j := i) (q := o0 + i * 6) rfl Ty.sl23 rfl rfl (by omega) (by omega) (by omega)) ?_
  refine WP.val rfl rfl rfl (Val.loadAgg (cs := (Vn.cells x)) rfl Ty.ag47 rfl (by rfl) (fun w h => hr w (h.at 1 rfl) i x hx)) ?_
  refine WP.eff rfl rfl rfl (Eff.alloc rfl Ty.z47) ?_
  rintro _ _ ⟨b1, rfl, rfl⟩
  refine WP.val rfl rfl rfl (Val.assign rfl rfl) ?_
  refine WP.eff0 rfl rfl (Eff.storeAgg (cs := [.int .i64 (x.r.m), .int .i64 (x.r.s), .int .i64 (x.c.m), .int .i64 (x.c.s), .int .i64 (x.v), .bool (x.g)]) (C' := [.int .i64 (x.r.m), .int .i64 (x.r.s), .int .i64 (x.c.m), .int .i64 (x.c.s), .int .i64 (x.v), .bool (x.g)]) rfl Ty.ag47 rfl rfl rfl rfl (by simp) rfl) ?_
  rintro _ _ rfl
  refine WP.nx ?_
  refine WPc.sr ?_
  refine WP.val rfl rfl rfl (Val.fieldAddr (j := 0) rfl Ty.fo47_0 rfl rfl) ?_
  refine WP.val rfl rfl rfl (Val.fieldAddr (j := 0) rfl Ty.fo32_0 rfl rfl) ?_
  refine WP.val rfl rfl rfl (Val.load rfl Ty.sc2 rfl (fun w h => h.cell 0 rfl rfl)) ?_
  refine WP.val rfl rfl rfl (Val.move rfl rfl) ?_
  refine WP.val rfl rfl rfl (Val.leq rfl rfl rfl) ?_
  refine WP.val rfl rfl rfl (Val.move rfl rfl) ?_
  refine WP.split 22 rfl (fun h2 => ?_) (fun h2 => ?_)
  ·
   have h2 : (x.r.m ≤ at_) := h2
   iterate 3 (refine WP.valG rfl rfl rfl rfl rfl rfl rfl (Val.move rfl rfl) ?_)
   refine WP.perm pl2 ?_
   refine WP.effG rfl rfl rfl rfl rfl rfl rfl (Eff.call rfl rfl Try.call30 (stays_spec A at_ l hl (.slice (some ⟨b0, o0, none⟩) l.length c0) (.inl ⟨b0, o0, c0, rfl, hr⟩) i x hx)) ?_
   rintro _ _ ⟨_, ⟨rfl, rfl⟩, rfl⟩
   show WP _ _ _ _ _ _ _ (_ :: Blk b1 [.int .i64 (x.r.m), .int .i64 (x.r.s), .int .i64 (x.c.m), .int .i64 (x.c.s), .int .i64 (x.v), .bool (x.g)] 47 :: _)
   refine WP.val rfl rfl rfl (Val.pickT rfl rfl rfl) ?_
   refine WP.val rfl rfl rfl (Val.move rfl rfl) ?_
   refine WP.splitB 28 rfl (fun h3 => ?_) (fun h3 => ?_)
   ·
    refine WP.valG rfl rfl rfl rfl rfl rfl rfl (Val.move rfl rfl) ?_
    refine WP.valG rfl rfl rfl rfl rfl rfl rfl (Val.move rfl rfl) ?_
    refine WP.splitB 30 rfl (fun h4 => ?_) (fun h4 => ?_)
    ·
     iterate 3 (refine WP.skip rfl rfl rfl rfl rfl rfl rfl ?_)
     refine WP.valG rfl rfl rfl rfl rfl rfl rfl (Val.pickT rfl rfl rfl) ?_
     refine WP.val rfl rfl rfl (Val.pickT rfl rfl rfl) ?_
     refine WP.nx ?_
     refine WPc.condT rfl rfl ?_
     refine WPc.region ?_
     refine WP.val rfl rfl rfl (Val.move rfl rfl) ?_
     refine WP.val rfl rfl rfl (Val.fieldAddr (j := 0) rfl Ty.fo47_0 rfl rfl) ?_
     refine WP.val rfl rfl rfl (Val.loadAgg (cs := [.int .i64 (x.r.m), .int .i64 (x.r.s)]) rfl Ty.ag32 rfl rfl (fun w h => h.range 1 rfl rfl)) ?_
     refine WP.eff rfl rfl rfl (Eff.mkSlice (C := [.int .i64 (x.r.m), .int .i64 (x.r.s)]) rfl Ty.sl40 rfl (fun _ => by kernel_rfl)) ?_
     rintro _ _ ⟨b2, rfl, rfl⟩
     refine WP.perm pl3 ?_
     refine WP.eff rfl rfl rfl (Eff.append (m := 1) (n0 := (keptV l at_ en i).length) (news := [.int .i64 (x.r.m), .int .i64 (x.r.s)]) rfl Ty.sl40 Ty.z32 rfl rfl rfl (.slice Ty.sl40 rfl rfl (fun w h => cells_range (h.range 1 rfl rfl))) (by omega) (by omega)) ?_
     rintro v3 _ ⟨onev3, rfl⟩
     refine WP.val rfl rfl rfl (Val.assign rfl rfl) ?_
     refine WP.nil ?_
     refine Out.block ?_
     refine Out.next ?_
     refine WPc.region ?_
     refine WP.val rfl rfl rfl (Val.add (z := ((i + 1 : Nat) : Int)) rfl rfl rfl ((w64 (by omega) (by omega)).trans (by omega))) ?_
     refine WP.val rfl rfl rfl (Val.move rfl rfl) ?_
     refine WP.nil ?_
     refine Out.perm pl1 ?_
     refine Out.drop ?_
     refine Out.perm pl2 ?_
     refine Out.drop ?_
     refine Out.again (i + 1, v3) ?_ ?_ ?_ ?_
     ·
      exact (by first | omega | (dsimp only; omega))
     ·
      (dsimp only; omega)
     ·
      exact (Sub.cons rfl (Sub.cons rfl (Sub.cons rfl (Sub.cons rfl (Sub.cons rfl (Sub.cons rfl (Sub.cons rfl Sub.nil)))))))
     ·
      exact (fun w h => by dsimp only; rw [kept_yes hx (by unfold kpc; simp_all <;> omega), flatOf_append, flatOf_one, List.length_append]; exact h)
    ·
     refine WP.valG rfl rfl rfl rfl rfl rfl rfl (Val.fieldAddr (j := 5) rfl Ty.fo47_3 rfl rfl) ?_
     refine WP.valG rfl rfl rfl rfl rfl rfl rfl (Val.load rfl Ty.sc4 rfl (fun w h => h.cell 1 rfl rfl)) ?_
     refine WP.valG rfl rfl rfl rfl rfl rfl rfl (Val.not rfl rfl) ?_
     refine WP.valG rfl rfl rfl rfl rfl rfl rfl (Val.pickF rfl rfl rfl) ?_
     refine WP.val rfl rfl rfl (Val.pickT rfl rfl rfl) ?_
     refine WP.nx ?_
     refine WPc.cond rfl (fun h5 => ?_) (fun h5 => ?_)
     ·
      have h5 : (!x.g) = true := h5
      refine WPc.region ?_
      refine WP.val rfl rfl rfl (Val.move rfl rfl) ?_
      refine WP.val rfl rfl rfl (Val.fieldAddr (j := 0) rfl Ty.fo47_0 rfl rfl) ?_
      refine WP.val rfl rfl rfl (Val.loadAgg (cs := [.int .i64 (x.r.m), .int .i64 (x.r.s)]) rfl Ty.ag32 rfl rfl (fun w h => h.range 1 rfl rfl)) ?_
      refine WP.eff rfl rfl rfl (Eff.mkSlice (C := [.int .i64 (x.r.m), .int .i64 (x.r.s)]) rfl Ty.sl40 rfl (fun _ => by kernel_rfl)) ?_
      rintro _ _ ⟨b4, rfl, rfl⟩
      refine WP.perm pl3 ?_
      refine WP.eff rfl rfl rfl (Eff.append (m := 1) (n0 := (keptV l at_ en i).length) (news := [.int .i64 (x.r.m), .int .i64 (x.r.s)]) rfl Ty.sl40 Ty.z32 rfl rfl rfl (.slice Ty.sl40 rfl rfl (fun w h => cells_range (h.range 1 rfl rfl))) (by omega) (by omega)) ?_
      rintro v5 _ ⟨onev5, rfl⟩
      refine WP.val rfl rfl rfl (Val.assign rfl rfl) ?_
      refine WP.nil ?_
      refine Out.block ?_
      refine Out.next ?_
      refine WPc.region ?_
      refine WP.val rfl rfl rfl (Val.add (z := ((i + 1 : Nat) : Int)) rfl rfl rfl ((w64 (by omega) (by omega)).trans (by omega))) ?_
      refine WP.val rfl rfl rfl (Val.move rfl rfl) ?_
      refine WP.nil ?_
      refine Out.perm pl1 ?_
      refine Out.drop ?_
      refine Out.perm pl2 ?_
      refine Out.drop ?_
      refine Out.again (i + 1, v5) ?_ ?_ ?_ ?_
      ·
       exact (by first | omega | (dsimp only; omega))
      ·
       (dsimp only; omega)
      ·
       exact (Sub.cons rfl (Sub.cons rfl (Sub.cons rfl (Sub.cons rfl (Sub.cons rfl (Sub.cons rfl (Sub.cons rfl Sub.nil)))))))
      ·
       exact (fun w h => by dsimp only; rw [kept_yes hx (by unfold kpc; simp_all <;> omega), flatOf_append, flatOf_one, List.length_append]; exact h)
     ·
      have h5 : (!x.g) = false := h5
      refine WPc.skip ?_
      refine Out.block ?_
      refine Out.next ?_
      refine WPc.region ?_
      refine WP.val rfl rfl rfl (Val.add (z := ((i + 1 : Nat) : Int)) rfl rfl rfl ((w64 (by omega) (by omega)).trans (by omega))) ?_
      refine WP.val rfl rfl rfl (Val.move rfl rfl) ?_
      refine WP.nil ?_
      refine Out.perm pl1 ?_
      refine Out.drop ?_
      refine Out.perm pl1 ?_
      refine Out.again (i + 1, v) ?_ ?_ ?_ ?_
      ·
       exact (by first | omega | (dsimp only; omega))
      ·
       (dsimp only; omega)
      ·
       exact (Sub.cons rfl (Sub.cons rfl (Sub.cons rfl (Sub.cons rfl (Sub.cons rfl (Sub.cons rfl (Sub.cons rfl Sub.nil)))))))
      ·
       exact (fun w h => by dsimp only; rw [kept_no hx (by unfold kpc; simp_all <;> intros <;> omega)]; exact h)
   ·
    refine WP.skip rfl rfl rfl rfl rfl rfl rfl ?_
    refine WP.skip rfl rfl rfl rfl rfl rfl rfl ?_
    iterate 3 (refine WP.skipU rfl rfl rfl rfl rfl rfl ?_)
    refine WP.skip rfl rfl rfl rfl rfl rfl rfl ?_
    refine WP.val rfl rfl rfl (Val.pickF rfl rfl rfl) ?_
    refine WP.nx ?_
    refine WPc.condF rfl rfl ?_
    refine WPc.skip ?_
    refine Out.block ?_
    refine Out.next ?_
    refine WPc.region ?_
    refine WP.val rfl rfl rfl (Val.add (z := ((i + 1 : Nat) : Int)) rfl rfl rfl ((w64 (by omega) (by omega)).trans (by omega))) ?_
    refine WP.val rfl rfl rfl (Val.move rfl rfl) ?_
    refine WP.nil ?_
    refine Out.perm pl1 ?_
    refine Out.drop ?_
    refine Out.perm pl1 ?_
    refine Out.again (i + 1, v) ?_ ?_ ?_ ?_
    ·
     exact (by first | omega | (dsimp only; omega))
    ·
     (dsimp only; omega)
    ·
     exact (Sub.cons rfl (Sub.cons rfl (Sub.cons rfl (Sub.cons rfl (Sub.cons rfl (Sub.cons rfl (Sub.cons rfl Sub.nil)))))))
    ·
     exact (fun w h => by dsimp only; rw [kept_no hx (by unfold kpc; simp_all <;> intros <;> omega)]; exact h)
  ·
   have h2 : ¬ (x.r.m ≤ at_) := h2
   iterate 4 (refine WP.skip rfl rfl rfl rfl rfl rfl rfl ?_)
   refine WP.val rfl rfl rfl (Val.pickF rfl rfl rfl) ?_
   refine WP.val rfl rfl rfl (Val.move rfl rfl) ?_
   refine WP.skip rfl rfl rfl rfl rfl rfl rfl ?_
   refine WP.skip rfl rfl rfl rfl rfl rfl rfl ?_
   iterate 3 (refine WP.skipU rfl rfl rfl rfl rfl rfl ?_)
   refine WP.skip rfl rfl rfl rfl rfl rfl rfl ?_
   refine WP.val rfl rfl rfl (Val.pickF rfl rfl rfl) ?_
   refine WP.nx ?_
   refine WPc.condF rfl rfl ?_
   refine WPc.skip ?_
   refine Out.block ?_
   refine Out.next ?_
   refine WPc.region ?_
   refine WP.val rfl rfl rfl (Val.add (z := ((i + 1 : Nat) : Int)) rfl rfl rfl ((w64 (by omega) (by omega)).trans (by omega))) ?_
   refine WP.val rfl rfl rfl (Val.move rfl rfl) ?_
   refine WP.nil ?_
   refine Out.drop ?_
   refine Out.again (i + 1, v) ?_ ?_ ?_ ?_
   ·
    exact (by first | omega | (dsimp only; omega))
   ·
    (dsimp only; omega)
   ·
    exact (Sub.cons rfl (Sub.cons rfl (Sub.cons rfl (Sub.cons rfl (Sub.cons rfl (Sub.cons rfl (Sub.cons rfl Sub.nil)))))))
   ·
    exact (fun w h => by dsimp only; rw [kept_no hx (by unfold kpc; simp_all <;> intros <;> omega)]; exact h)
 ·
  have h1 : ¬ (((i : Nat) : Int) < ((l.length : Nat) : Int)) := h1
  refine WPc.exit ?_
  refine Out.then_exit ?_
  refine Out.then_exit ?_
  refine Out.block_exit ?_
  refine Out.next ?_
  refine WPc.sr ?_
  refine WP.val rfl rfl rfl (Val.move rfl rfl) ?_
  refine WP.val rfl rfl rfl (Val.assign rfl rfl) ?_
  refine WP.nx ?_
  refine WPc.ret ?_
  have hil : i = l.length := by omega
  exact Out.ret1 (L' := _) Try.results14 rfl rfl (fun w h => by rw [hil] at h; exact h)

theorem kept_spec (A : HProp) (at_ : Int) (en : Bool) (l : List Vn) (hl : l.length ≤ 100000) (va : Value) (hva : Rd A 6 Vn.cells va l) : Does Try.prog 14 [va, .int .i64 (at_), .bool (en)] [A] (fun v L => L = [Own 32 2 v (keptV l at_ en l.length).length (flatOf Rv.cells (keptV l at_ en l.length)), A]) := by
 rcases hva with ⟨b0, o0, c0, rfl, hr⟩ | ⟨rfl, a, c, rfl⟩
 ·
  exact kept_row A at_ en l hl b0 o0 c0 hr
 ·
  exact kept_nil A at_ en a c

end Go.Proofs.Ythicijpjpijdjaa.Kg

namespace Go.Proofs.Ythicijpjpijdjaa.Kh
open Go.RowKit Go.Proofs.Ythicijpjpijdjaa Go.Proofs.Ythicijpjpijdjaa.Sl Go.Proofs.Ythicijpjpijdjaa.KyP Go.Proofs.Ythicijpjpijdjaa.Ka Go.Proofs.Ythicijpjpijdjaa.Kb Go.Proofs.Ythicijpjpijdjaa.Kc Go.Proofs.Ythicijpjpijdjaa.Kd Go.Proofs.Ythicijpjpijdjaa.Ke Go.Proofs.Ythicijpjpijdjaa.Kf Go.Proofs.Ythicijpjpijdjaa.Kg
set_option linter.unusedVariables false
set_option linter.unusedSimpArgs false
set_option linter.unusedSectionVars false


def spc (l : List Vn) (at_ : Int) (i : Nat) (x : Vn) : Bool := decide (at_ ≤ x.r.m) && (decide (i + 1 = l.length) || (match l[i + 1]? with | some y => decide (y.r.m ≠ x.r.m) | none => false))
def sinceV (l : List Vn) (at_ : Int)  : Nat → List Rv
 | 0 => []
 | i + 1 => match l[i]? with
  | some x => if spc l at_ i x then sinceV l at_ i ++ [x.r] else sinceV l at_ i
  | none => sinceV l at_ i
theorem since_yes {l : List Vn} {at_ : Int} {i : Nat} {x : Vn} (hx : l[i]? = some x) (h : spc l at_ i x = true) : sinceV l at_ (i + 1) = sinceV l at_ i ++ [x.r] := by
 conv => lhs; unfold sinceV
 rw [hx]; dsimp only; rw [if_pos h]
theorem since_no {l : List Vn} {at_ : Int} {i : Nat} {x : Vn} (hx : l[i]? = some x) (h : spc l at_ i x = false) : sinceV l at_ (i + 1) = sinceV l at_ i := by
 conv => lhs; unfold sinceV
 rw [hx]; dsimp only; rw [if_neg (by rw [h]; exact Bool.noConfusion)]
theorem since_len (l : List Vn) (at_ : Int)  : ∀ i, (sinceV l at_ i).length ≤ i
 | 0 => Nat.le_refl _
 | i + 1 => by
  have := since_len l at_ i
  unfold sinceV
  split
  ·
   split
   ·
    rw [List.length_append, List.length_singleton]; omega
   ·
    omega
  ·
   omega
set_option maxRecDepth 100000 in
set_option maxHeartbeats 1000000 in
theorem since_nil (A : HProp) (at_ : Int)  (a : Option Addr) (c : Nat) : Does Try.prog 60 [.slice a 0 c, .int .i64 (at_)] [A] (fun v L => L = [Own 32 2 v (sinceV ([] : List Vn) at_ 0).length (flatOf Rv.cells (sinceV ([] : List Vn) at_ 0)), A]) := by
 refine Does.enter 47 Try.func60 rfl rfl rfl fun W F => ?_
 show WPc _ _ _ _ _ [(0, .slice a 0 c), (1, .int .i64 (at_))] (A :: F)
 refine WPc.sr ?_
 refine WP.val rfl rfl rfl (Val.assign rfl rfl) ?_
 refine WP.nx ?_
 refine WPc.sr ?_
 refine WP.val rfl rfl rfl (Val.assign rfl rfl) ?_
 refine WP.nx ?_
 refine WPc.seq ?_
 refine WPc.seq ?_
 refine WPc.conv (fun w h => h.ownNil (e := 32) (k := 2)) ?_
 show WPc _ _ _ _ _ _ (Own 32 2 (.slice none 0 0) 0 ([]) :: _)
 refine WPc.region ?_
 refine WP.val rfl rfl rfl (Val.move rfl rfl) ?_
 refine WP.val rfl rfl rfl (Val.len rfl Ty.sl23 rfl) ?_
 refine WP.val rfl rfl rfl (Val.move rfl rfl) ?_
 refine WP.nx ?_
 refine WPc.block ?_
 refine WPc.loop (ι := Nat × Value) (fun ⟨i, v⟩ => i ≤ 0) (fun ⟨i, v⟩ => [(0, .slice a 0 c), (1, .int .i64 (at_)), (5, v), (8, .slice a 0 c), (9, .int .i64 0), (10, .int .i64 (((i : Nat) : Int)))]) (fun ⟨i, v⟩ => Own 32 2 v ((sinceV ([] : List Vn) at_ i).length) (flatOf Rv.cells (sinceV ([] : List Vn) at_ i)) :: A :: F) (fun ⟨i, v⟩ => 0 - i) (0, .slice none 0 0) (Nat.zero_le _) ((Sub.cons rfl (Sub.cons rfl (Sub.cons rfl (Sub.cons rfl (Sub.cons rfl (Sub.cons rfl Sub.nil))))))) (fun _ h => h) ?_
 rintro ⟨i, v⟩ hi
 show WPc _ _ _ _ _ [(0, _), (1, _), (5, v), (8, .slice a 0 c), (9, .int .i64 0), (10, .int .i64 (((i : Nat) : Int)))] (Own 32 2 v ((sinceV ([] : List Vn) at_ i).length) (flatOf Rv.cells (sinceV ([] : List Vn) at_ i)) :: _)
 replace hi : i ≤ 0 := hi
 have hcl := since_len ([] : List Vn) at_ i
 refine WPc.sr ?_
 refine WP.val rfl rfl rfl (Val.lss rfl rfl rfl) ?_
 refine WP.nx ?_
 refine WPc.seq ?_
 refine WPc.ifP rfl (fun h1 => ?_) (fun h1 => ?_)
 ·
  have h1 : (((i : Nat) : Int) < (0 : Int)) := h1
  exfalso; omega
 ·
  have h1 : ¬ (((i : Nat) : Int) < (0 : Int)) := h1
  refine WPc.exit ?_
  refine Out.then_exit ?_
  refine Out.then_exit ?_
  refine Out.block_exit ?_
  refine Out.next ?_
  refine WPc.sr ?_
  refine WP.val rfl rfl rfl (Val.move rfl rfl) ?_
  refine WP.val rfl rfl rfl (Val.assign rfl rfl) ?_
  refine WP.nx ?_
  refine WPc.ret ?_
  have hil : i = 0 := by omega
  exact Out.ret1 (L' := _) Try.results60 rfl rfl (fun w h => by rw [hil] at h; exact h)

set_option maxRecDepth 100000 in
set_option maxHeartbeats 1000000 in
theorem since_row (A : HProp) (at_ : Int)  (l : List Vn) (hl : l.length ≤ 100000) (b0 o0 c0 : Nat) (hr : ∀ w, Holds A w → ∀ i x, l[i]? = some x → w.rangeAt b0 (o0 + i * 6) (Vn.cells x)) : Does Try.prog 60 [.slice (some ⟨b0, o0, none⟩) l.length c0, .int .i64 (at_)] [A] (fun v L => L = [Own 32 2 v (sinceV l at_ l.length).length (flatOf Rv.cells (sinceV l at_ l.length)), A]) := by
 refine Does.enter 47 Try.func60 rfl rfl rfl fun W F => ?_
 show WPc _ _ _ _ _ [(0, .slice (some ⟨b0, o0, none⟩) l.length c0), (1, .int .i64 (at_))] (A :: F)
 refine WPc.sr ?_
 refine WP.val rfl rfl rfl (Val.assign rfl rfl) ?_
 refine WP.nx ?_
 refine WPc.sr ?_
 refine WP.val rfl rfl rfl (Val.assign rfl rfl) ?_
 refine WP.nx ?_
 refine WPc.seq ?_
 refine WPc.seq ?_
 refine WPc.conv (fun w h => h.ownNil (e := 32) (k := 2)) ?_
 show WPc _ _ _ _ _ _ (Own 32 2 (.slice none 0 0) 0 ([]) :: _)
 refine WPc.region ?_
 refine WP.val rfl rfl rfl (Val.move rfl rfl) ?_
 refine WP.val rfl rfl rfl (Val.len rfl Ty.sl23 rfl) ?_
 refine WP.val rfl rfl rfl (Val.move rfl rfl) ?_
 refine WP.nx ?_
 refine WPc.block ?_
 refine WPc.loop (ι := Nat × Value) (fun ⟨i, v⟩ => i ≤ l.length) (fun ⟨i, v⟩ => [(0, .slice (some ⟨b0, o0, none⟩) l.length c0), (1, .int .i64 (at_)), (5, v), (8, .slice (some ⟨b0, o0, none⟩) l.length c0), (9, .int .i64 (((l.length : Nat) : Int))), (10, .int .i64 (((i : Nat) : Int)))]) (fun ⟨i, v⟩ => Own 32 2 v ((sinceV l at_ i).length) (flatOf Rv.cells (sinceV l at_ i)) :: A :: F) (fun ⟨i, v⟩ => l.length - i) (0, .slice none 0 0) (Nat.zero_le _) ((Sub.cons rfl (Sub.cons rfl (Sub.cons rfl (Sub.cons rfl (Sub.cons rfl (Sub.cons rfl Sub.nil))))))) (fun _ h => h) ?_
 rintro ⟨i, v⟩ hi
 show WPc _ _ _ _ _ [(0, _), (1, _), (5, v), (8, .slice (some ⟨b0, o0, none⟩) l.length c0), (9, .int .i64 (((l.length : Nat) : Int))), (10, .int .i64 (((i : Nat) : Int)))] (Own 32 2 v ((sinceV l at_ i).length) (flatOf Rv.cells (sinceV l at_ i)) :: _)
 replace hi : i ≤ l.length := hi
 have hcl := since_len l at_ i
 refine WPc.sr ?_
 refine WP.val rfl rfl rfl (Val.lss rfl rfl rfl) ?_
 refine WP.nx ?_
 refine WPc.seq ?_
 refine WPc.ifP rfl (fun h1 => ?_) (fun h1 => ?_)
 ·
  have h1 : (((i : Nat) : Int) < ((l.length : Nat) : Int)) := h1
  refine WPc.skip ?_
  refine Out.next ?_
  refine WPc.seq ?_
  refine WPc.block ?_
  refine WPc.seq ?_
  have hlt : i < l.length := by omega
  obtain ⟨x, hx⟩ : ∃ x, l[i]? = some x := ⟨_, List.getElem?_eq_getElem hlt⟩
  refine WPc.region ?_
  refine WP.val rfl rfl rfl (Val.move rfl rfl) ?_
  refine WP.val rfl rfl rfl (Val.indexAddr (j := i) (q := o0 + i * 6) rfl Ty.sl23 rfl rfl (by omega) (by omega) (by omega)) ?_
  refine WP.val rfl rfl rfl (Val.loadAgg (cs := (Vn.cells x)) rfl Ty.ag47 rfl (by rfl) (fun w h => hr w (h.at 1 rfl) i x hx)) ?_
  refine WP.eff rfl rfl rfl (Eff.alloc rfl Ty.z47) ?_
  rintro _ _ ⟨b1, rfl, rfl⟩
  refine WP.val rfl rfl rfl (Val.assign rfl rfl) ?_
  refine WP.eff0 rfl rfl (Eff.storeAgg (cs := [.int .i64 (x.r.m), .int .i64 (x.r.s), .int .i64 (x.c.m), .int .i64 (x.c.s), .int .i64 (x.v), .bool (x.g)]) (C' := [.int .i64 (x.r.m), .int .i64 (x.r.s), .int .i64 (x.c.m), .int .i64 (x.c.s), .int .i64 (x.v), .bool (x.g)]) rfl Ty.ag47 rfl rfl rfl rfl (by simp) rfl) ?_
  rintro _ _ rfl
  refine WP.nx ?_
  refine WPc.seq ?_
  refine WPD.s0 Ty.mixed ?_
  refine WPD.tM 0 rfl rfl rfl rfl (Val.fieldAddr (j := 0) rfl Ty.fo47_0 rfl rfl) ?_
  refine WPD.tM 1 rfl rfl rfl rfl (Val.fieldAddr (j := 0) rfl Ty.fo32_0 rfl rfl) ?_
  refine WPD.tL 2 rfl rfl rfl rfl (fun _ h => h) (Val.load rfl Ty.sc2 rfl (fun w h => h.cell 0 rfl rfl)) ?_
  refine WPD.tM 3 rfl rfl rfl rfl (Val.move rfl rfl) ?_
  refine WPD.tM 4 rfl rfl rfl rfl (Val.geq rfl rfl rfl) ?_
  refine WPD.tM 5 rfl rfl rfl rfl (Val.move rfl rfl) ?_
  refine WPD.split 20 rfl (fun h2 => ?_) (fun h2 => ?_)
  ·
   have h2 : (at_ ≤ x.r.m) := h2
   refine WPD.takeGM 6 rfl rfl rfl rfl rfl rfl rfl rfl (by kernel_rfl) (by kernel_rfl) (by kernel_rfl) (by kernel_rfl) (fun _ _ _ h => h) (fun _ h => h) (Val.move rfl rfl) ?_
   refine WPD.takeGM 7 rfl rfl rfl rfl rfl rfl rfl rfl (by kernel_rfl) (by kernel_rfl) (by kernel_rfl) (by kernel_rfl) (fun _ _ _ h => h) (fun _ h => h) (Val.move rfl rfl) ?_
   refine WPD.takeG 8 rfl rfl rfl rfl rfl rfl rfl rfl (by kernel_rfl) (by kernel_rfl) (by kernel_rfl) (by kernel_rfl) (fun _ _ _ h => h) (by kernel_rfl) (fun _ h => h) (Val.len rfl Ty.sl23 rfl) ?_
   refine WPD.takeGM 9 rfl rfl rfl rfl rfl rfl rfl rfl (by kernel_rfl) (by kernel_rfl) (by kernel_rfl) (by kernel_rfl) (fun _ _ _ h => h) (fun _ h => h) (Val.sub (z := ((l.length - 1 : Nat) : Int)) rfl rfl rfl ((w64 (by omega) (by omega)).trans (by omega))) ?_
   refine WPD.takeGM 10 rfl rfl rfl rfl rfl rfl rfl rfl (by kernel_rfl) (by kernel_rfl) (by kernel_rfl) (by kernel_rfl) (fun _ _ _ h => h) (fun _ h => h) (Val.eql rfl rfl rfl) ?_
   refine WPD.takeGM 11 rfl rfl rfl rfl rfl rfl rfl rfl (by kernel_rfl) (by kernel_rfl) (by kernel_rfl) (by kernel_rfl) (fun _ _ _ h => h) (fun _ h => h) (Val.move rfl rfl) ?_
   refine WPD.split 26 rfl (fun h3 => ?_) (fun h3 => ?_)
   ·
    have h3 : (((i : Nat) : Int) = ((l.length - 1 : Nat) : Int)) := h3
    refine WPD.skip 12 rfl rfl rfl rfl rfl rfl rfl rfl (by kernel_rfl) (by kernel_rfl) (by kernel_rfl) (by kernel_rfl) (fun _ _ _ h => h) (fun _ h => h) ?_
    refine WPD.skip 13 rfl rfl rfl rfl rfl rfl rfl rfl (by kernel_rfl) (by kernel_rfl) (by kernel_rfl) (by kernel_rfl) (fun _ _ _ h => h) (fun _ h => h) ?_
    refine WPD.skip 14 rfl rfl rfl rfl rfl rfl rfl rfl (by kernel_rfl) (by kernel_rfl) (by kernel_rfl) (by kernel_rfl) (fun _ _ _ h => h) (fun _ h => h) ?_
    refine WPD.skip 15 rfl rfl rfl rfl rfl rfl rfl rfl (by kernel_rfl) (by kernel_rfl) (by kernel_rfl) (by kernel_rfl) (fun _ _ _ h => h) (fun _ h => h) ?_
    refine WPD.skip 16 rfl rfl rfl rfl rfl rfl rfl rfl (by kernel_rfl) (by kernel_rfl) (by kernel_rfl) (by kernel_rfl) (fun _ _ _ h => h) (fun _ h => h) ?_
    refine WPD.skip 17 rfl rfl rfl rfl rfl rfl rfl rfl (by kernel_rfl) (by kernel_rfl) (by kernel_rfl) (by kernel_rfl) (fun _ _ _ h => h) (fun _ h => h) ?_
    refine WPD.skip 18 rfl rfl rfl rfl rfl rfl rfl rfl (by kernel_rfl) (by kernel_rfl) (by kernel_rfl) (by kernel_rfl) (fun _ _ _ h => h) (fun _ h => h) ?_
    refine WPD.skip 19 rfl rfl rfl rfl rfl rfl rfl rfl (by kernel_rfl) (by kernel_rfl) (by kernel_rfl) (by kernel_rfl) (fun _ _ _ h => h) (fun _ h => h) ?_
    refine WPD.skip 20 rfl rfl rfl rfl rfl rfl rfl rfl (by kernel_rfl) (by kernel_rfl) (by kernel_rfl) (by kernel_rfl) (fun _ _ _ h => h) (fun _ h => h) ?_
    refine WPD.skip 21 rfl rfl rfl rfl rfl rfl rfl rfl (by kernel_rfl) (by kernel_rfl) (by kernel_rfl) (by kernel_rfl) (fun _ _ _ h => h) (fun _ h => h) ?_
    refine WPD.skip 22 rfl rfl rfl rfl rfl rfl rfl rfl (by kernel_rfl) (by kernel_rfl) (by kernel_rfl) (by kernel_rfl) (fun _ _ _ h => h) (fun _ h => h) ?_
    refine WPD.takeGM 23 rfl rfl rfl rfl rfl rfl rfl rfl (by kernel_rfl) (by kernel_rfl) (by kernel_rfl) (by kernel_rfl) (fun _ _ _ h => h) (fun _ h => h) (Val.pickT rfl rfl rfl) ?_
    refine WPD.tM 24 rfl rfl rfl rfl (Val.pickT rfl rfl rfl) ?_
    refine WPD.done (by kernel_rfl) ?_
    refine Out.next ?_
    refine WPc.condT rfl rfl ?_
    refine WPc.region ?_
    refine WP.val rfl rfl rfl (Val.move rfl rfl) ?_
    refine WP.val rfl rfl rfl (Val.fieldAddr (j := 0) rfl Ty.fo47_0 rfl rfl) ?_
    refine WP.val rfl rfl rfl (Val.loadAgg (cs := [.int .i64 (x.r.m), .int .i64 (x.r.s)]) rfl Ty.ag32 rfl rfl (fun w h => h.range 0 rfl rfl)) ?_
    refine WP.eff rfl rfl rfl (Eff.mkSlice (C := [.int .i64 (x.r.m), .int .i64 (x.r.s)]) rfl Ty.sl40 rfl (fun _ => by kernel_rfl)) ?_
    rintro _ _ ⟨b2, rfl, rfl⟩
    refine WP.perm pl2 ?_
    refine WP.eff rfl rfl rfl (Eff.append (m := 1) (n0 := (sinceV l at_ i).length) (news := [.int .i64 (x.r.m), .int .i64 (x.r.s)]) rfl Ty.sl40 Ty.z32 rfl rfl rfl (.slice Ty.sl40 rfl rfl (fun w h => cells_range (h.range 1 rfl rfl))) (by omega) (by omega)) ?_
    rintro v3 _ ⟨onev3, rfl⟩
    refine WP.val rfl rfl rfl (Val.assign rfl rfl) ?_
    refine WP.nil ?_
    refine Out.block ?_
    refine Out.next ?_
    refine WPc.region ?_
    refine WP.val rfl rfl rfl (Val.add (z := ((i + 1 : Nat) : Int)) rfl rfl rfl ((w64 (by omega) (by omega)).trans (by omega))) ?_
    refine WP.val rfl rfl rfl (Val.move rfl rfl) ?_
    refine WP.nil ?_
    refine Out.perm pl1 ?_
    refine Out.drop ?_
    refine Out.perm pl1 ?_
    refine Out.drop ?_
    refine Out.again (i + 1, v3) ?_ ?_ ?_ ?_
    ·
     exact (by first | omega | (dsimp only; omega))
    ·
     (dsimp only; omega)
    ·
     exact (Sub.cons rfl (Sub.cons rfl (Sub.cons rfl (Sub.cons rfl (Sub.cons rfl (Sub.cons rfl Sub.nil))))))
    ·
     exact (fun w h => by dsimp only; rw [since_yes hx (by unfold spc; rw [show decide (i + 1 = l.length) = decide (((i : Nat) : Int) = ((l.length - 1 : Nat) : Int)) from decide_eq_decide.2 (by omega)]; simp_all <;> intros <;> omega), flatOf_append, flatOf_one, List.length_append]; exact h)
   ·
    have h3 : ¬ (((i : Nat) : Int) = ((l.length - 1 : Nat) : Int)) := h3
    refine WPD.takeGM 12 rfl rfl rfl rfl rfl rfl rfl rfl (by kernel_rfl) (by kernel_rfl) (by kernel_rfl) (by kernel_rfl) (fun _ _ _ h => h) (fun _ h => h) (Val.move rfl rfl) ?_
    refine WPD.takeGM 13 rfl rfl rfl rfl rfl rfl rfl rfl (by kernel_rfl) (by kernel_rfl) (by kernel_rfl) (by kernel_rfl) (fun _ _ _ h => h) (fun _ h => h) (Val.move rfl rfl) ?_
    refine WPD.takeGM 14 rfl rfl rfl rfl rfl rfl rfl rfl (by kernel_rfl) (by kernel_rfl) (by kernel_rfl) (by kernel_rfl) (fun _ _ _ h => h) (fun _ h => h) (Val.add (z := ((i + 1 : Nat) : Int)) rfl rfl rfl ((w64 (by omega) (by omega)).trans (by omega))) ?_
    obtain ⟨y, hy⟩ : ∃ y, l[i + 1]? = some y := ⟨_, List.getElem?_eq_getElem (by omega)⟩
    refine WPD.takeGM 15 rfl rfl rfl rfl rfl rfl rfl rfl (by kernel_rfl) (by kernel_rfl) (by kernel_rfl) (by kernel_rfl) (fun _ _ _ h => h) (fun _ h => h) (Val.indexAddr (j := i + 1) (q := o0 + (i + 1) * 6) rfl Ty.sl23 rfl rfl (by omega) (by omega) (by omega)) ?_
    refine WPD.takeGM 16 rfl rfl rfl rfl rfl rfl rfl rfl (by kernel_rfl) (by kernel_rfl) (by kernel_rfl) (by kernel_rfl) (fun _ _ _ h => h) (fun _ h => h) (Val.fieldAddr (j := o0 + (i + 1) * 6) rfl Ty.fo47_0 rfl rfl) ?_
    refine WPD.takeGM 17 rfl rfl rfl rfl rfl rfl rfl rfl (by kernel_rfl) (by kernel_rfl) (by kernel_rfl) (by kernel_rfl) (fun _ _ _ h => h) (fun _ h => h) (Val.fieldAddr (j := o0 + (i + 1) * 6) rfl Ty.fo32_0 rfl rfl) ?_
    refine WPD.takeG 18 rfl rfl rfl rfl rfl rfl rfl rfl (by kernel_rfl) (by kernel_rfl) (by kernel_rfl) (by kernel_rfl) (fun _ _ _ h => h) (by kernel_rfl) (fun _ h => h) (Val.load (v := .int .i64 (y.r.m)) rfl Ty.sc2 rfl (fun w h => hr w (h.at 2 rfl) (i + 1) y hy 0 _ rfl)) ?_
    refine WPD.takeGM 19 rfl rfl rfl rfl rfl rfl rfl rfl (by kernel_rfl) (by kernel_rfl) (by kernel_rfl) (by kernel_rfl) (fun _ _ _ h => h) (fun _ h => h) (Val.fieldAddr (j := 0) rfl Ty.fo47_0 rfl rfl) ?_
    refine WPD.takeGM 20 rfl rfl rfl rfl rfl rfl rfl rfl (by kernel_rfl) (by kernel_rfl) (by kernel_rfl) (by kernel_rfl) (fun _ _ _ h => h) (fun _ h => h) (Val.fieldAddr (j := 0) rfl Ty.fo32_0 rfl rfl) ?_
    refine WPD.takeG 21 rfl rfl rfl rfl rfl rfl rfl rfl (by kernel_rfl) (by kernel_rfl) (by kernel_rfl) (by kernel_rfl) (fun _ _ _ h => h) (by kernel_rfl) (fun _ h => h) (Val.load rfl Ty.sc2 rfl (fun w h => h.cell 0 rfl rfl)) ?_
    refine WPD.takeGM 22 rfl rfl rfl rfl rfl rfl rfl rfl (by kernel_rfl) (by kernel_rfl) (by kernel_rfl) (by kernel_rfl) (fun _ _ _ h => h) (fun _ h => h) (Val.neq rfl rfl rfl) ?_
    refine WPD.takeGM 23 rfl rfl rfl rfl rfl rfl rfl rfl (by kernel_rfl) (by kernel_rfl) (by kernel_rfl) (by kernel_rfl) (fun _ _ _ h => h) (fun _ h => h) (Val.pickF rfl rfl rfl) ?_
    refine WPD.tM 24 rfl rfl rfl rfl (Val.pickT rfl rfl rfl) ?_
    refine WPD.done (by kernel_rfl) ?_
    refine Out.next ?_
    refine WPc.ifP rfl (fun h4 => ?_) (fun h4 => ?_)
    ·
     have h4 : (y.r.m ≠ x.r.m) := h4
     refine WPc.region ?_
     refine WP.val rfl rfl rfl (Val.move rfl rfl) ?_
     refine WP.val rfl rfl rfl (Val.fieldAddr (j := 0) rfl Ty.fo47_0 rfl rfl) ?_
     refine WP.val rfl rfl rfl (Val.loadAgg (cs := [.int .i64 (x.r.m), .int .i64 (x.r.s)]) rfl Ty.ag32 rfl rfl (fun w h => h.range 0 rfl rfl)) ?_
     refine WP.eff rfl rfl rfl (Eff.mkSlice (C := [.int .i64 (x.r.m), .int .i64 (x.r.s)]) rfl Ty.sl40 rfl (fun _ => by kernel_rfl)) ?_
     rintro _ _ ⟨b4, rfl, rfl⟩
     refine WP.perm pl2 ?_
     refine WP.eff rfl rfl rfl (Eff.append (m := 1) (n0 := (sinceV l at_ i).length) (news := [.int .i64 (x.r.m), .int .i64 (x.r.s)]) rfl Ty.sl40 Ty.z32 rfl rfl rfl (.slice Ty.sl40 rfl rfl (fun w h => cells_range (h.range 1 rfl rfl))) (by omega) (by omega)) ?_
     rintro v5 _ ⟨onev5, rfl⟩
     refine WP.val rfl rfl rfl (Val.assign rfl rfl) ?_
     refine WP.nil ?_
     refine Out.block ?_
     refine Out.next ?_
     refine WPc.region ?_
     refine WP.val rfl rfl rfl (Val.add (z := ((i + 1 : Nat) : Int)) rfl rfl rfl ((w64 (by omega) (by omega)).trans (by omega))) ?_
     refine WP.val rfl rfl rfl (Val.move rfl rfl) ?_
     refine WP.nil ?_
     refine Out.perm pl1 ?_
     refine Out.drop ?_
     refine Out.perm pl1 ?_
     refine Out.drop ?_
     refine Out.again (i + 1, v5) ?_ ?_ ?_ ?_
     ·
      exact (by first | omega | (dsimp only; omega))
     ·
      (dsimp only; omega)
     ·
      exact (Sub.cons rfl (Sub.cons rfl (Sub.cons rfl (Sub.cons rfl (Sub.cons rfl (Sub.cons rfl Sub.nil))))))
     ·
      exact (fun w h => by dsimp only; rw [since_yes hx (by unfold spc; rw [show decide (i + 1 = l.length) = decide (((i : Nat) : Int) = ((l.length - 1 : Nat) : Int)) from decide_eq_decide.2 (by omega)]; simp_all <;> intros <;> omega), flatOf_append, flatOf_one, List.length_append]; exact h)
    ·
     have h4 : ¬ (y.r.m ≠ x.r.m) := h4
     refine WPc.skip ?_
     refine Out.block ?_
     refine Out.next ?_
     refine WPc.region ?_
     refine WP.val rfl rfl rfl (Val.add (z := ((i + 1 : Nat) : Int)) rfl rfl rfl ((w64 (by omega) (by omega)).trans (by omega))) ?_
     refine WP.val rfl rfl rfl (Val.move rfl rfl) ?_
     refine WP.nil ?_
     refine Out.drop ?_
     refine Out.again (i + 1, v) ?_ ?_ ?_ ?_
     ·
      exact (by first | omega | (dsimp only; omega))
     ·
      (dsimp only; omega)
     ·
      exact (Sub.cons rfl (Sub.cons rfl (Sub.cons rfl (Sub.cons rfl (Sub.cons rfl (Sub.cons rfl Sub.nil))))))
     ·
      exact (fun w h => by dsimp only; rw [since_no hx (by unfold spc; rw [show decide (i + 1 = l.length) = decide (((i : Nat) : Int) = ((l.length - 1 : Nat) : Int)) from decide_eq_decide.2 (by omega)]; simp_all <;> intros <;> omega)]; exact h)
  ·
   have h2 : ¬ (at_ ≤ x.r.m) := h2
   refine WPD.skip 6 rfl rfl rfl rfl rfl rfl rfl rfl (by kernel_rfl) (by kernel_rfl) (by kernel_rfl) (by kernel_rfl) (fun _ _ _ h => h) (fun _ h => h) ?_
   refine WPD.skip 7 rfl rfl rfl rfl rfl rfl rfl rfl (by kernel_rfl) (by kernel_rfl) (by kernel_rfl) (by kernel_rfl) (fun _ _ _ h => h) (fun _ h => h) ?_
   refine WPD.skip 8 rfl rfl rfl rfl rfl rfl rfl rfl (by kernel_rfl) (by kernel_rfl) (by kernel_rfl) (by kernel_rfl) (fun _ _ _ h => h) (fun _ h => h) ?_
   refine WPD.skip 9 rfl rfl rfl rfl rfl rfl rfl rfl (by kernel_rfl) (by kernel_rfl) (by kernel_rfl) (by kernel_rfl) (fun _ _ _ h => h) (fun _ h => h) ?_
   refine WPD.skip 10 rfl rfl rfl rfl rfl rfl rfl rfl (by kernel_rfl) (by kernel_rfl) (by kernel_rfl) (by kernel_rfl) (fun _ _ _ h => h) (fun _ h => h) ?_
   refine WPD.skip 11 rfl rfl rfl rfl rfl rfl rfl rfl (by kernel_rfl) (by kernel_rfl) (by kernel_rfl) (by kernel_rfl) (fun _ _ _ h => h) (fun _ h => h) ?_
   refine WPD.skipU 12 rfl rfl rfl rfl rfl rfl rfl (by kernel_rfl) (by kernel_rfl) (by kernel_rfl) (by kernel_rfl) (fun _ _ _ h => h) (fun _ h => h) ?_
   refine WPD.skipU 13 rfl rfl rfl rfl rfl rfl rfl (by kernel_rfl) (by kernel_rfl) (by kernel_rfl) (by kernel_rfl) (fun _ _ _ h => h) (fun _ h => h) ?_
   refine WPD.skipU 14 rfl rfl rfl rfl rfl rfl rfl (by kernel_rfl) (by kernel_rfl) (by kernel_rfl) (by kernel_rfl) (fun _ _ _ h => h) (fun _ h => h) ?_
   refine WPD.skipU 15 rfl rfl rfl rfl rfl rfl rfl (by kernel_rfl) (by kernel_rfl) (by kernel_rfl) (by kernel_rfl) (fun _ _ _ h => h) (fun _ h => h) ?_
   refine WPD.skipU 16 rfl rfl rfl rfl rfl rfl rfl (by kernel_rfl) (by kernel_rfl) (by kernel_rfl) (by kernel_rfl) (fun _ _ _ h => h) (fun _ h => h) ?_
   refine WPD.skipU 17 rfl rfl rfl rfl rfl rfl rfl (by kernel_rfl) (by kernel_rfl) (by kernel_rfl) (by kernel_rfl) (fun _ _ _ h => h) (fun _ h => h) ?_
   refine WPD.skipU 18 rfl rfl rfl rfl rfl rfl rfl (by kernel_rfl) (by kernel_rfl) (by kernel_rfl) (by kernel_rfl) (fun _ _ _ h => h) (fun _ h => h) ?_
   refine WPD.skipU 19 rfl rfl rfl rfl rfl rfl rfl (by kernel_rfl) (by kernel_rfl) (by kernel_rfl) (by kernel_rfl) (fun _ _ _ h => h) (fun _ h => h) ?_
   refine WPD.skipU 20 rfl rfl rfl rfl rfl rfl rfl (by kernel_rfl) (by kernel_rfl) (by kernel_rfl) (by kernel_rfl) (fun _ _ _ h => h) (fun _ h => h) ?_
   refine WPD.skipU 21 rfl rfl rfl rfl rfl rfl rfl (by kernel_rfl) (by kernel_rfl) (by kernel_rfl) (by kernel_rfl) (fun _ _ _ h => h) (fun _ h => h) ?_
   refine WPD.skipU 22 rfl rfl rfl rfl rfl rfl rfl (by kernel_rfl) (by kernel_rfl) (by kernel_rfl) (by kernel_rfl) (fun _ _ _ h => h) (fun _ h => h) ?_
   refine WPD.skip 23 rfl rfl rfl rfl rfl rfl rfl rfl (by kernel_rfl) (by kernel_rfl) (by kernel_rfl) (by kernel_rfl) (fun _ _ _ h => h) (fun _ h => h) ?_
   refine WPD.tM 24 rfl rfl rfl rfl (Val.pickF rfl rfl rfl) ?_
   refine WPD.done (by kernel_rfl) ?_
   refine Out.next ?_
   refine WPc.condF rfl rfl ?_
   refine WPc.skip ?_
   refine Out.block ?_
   refine Out.next ?_
   refine WPc.region ?_
   refine WP.val rfl rfl rfl (Val.add (z := ((i + 1 : Nat) : Int)) rfl rfl rfl ((w64 (by omega) (by omega)).trans (by omega))) ?_
   refine WP.val rfl rfl rfl (Val.move rfl rfl) ?_
   refine WP.nil ?_
   refine Out.drop ?_
   refine Out.again (i + 1, v) ?_ ?_ ?_ ?_
   ·
    exact (by first | omega | (dsimp only; omega))
   ·
    (dsimp only; omega)
   ·
    exact (Sub.cons rfl (Sub.cons rfl (Sub.cons rfl (Sub.cons rfl (Sub.cons rfl (Sub.cons rfl Sub.nil))))))
   ·
    exact (fun w h => by dsimp only; rw [since_no hx (by unfold spc; rw [show decide (i + 1 = l.length) = decide (((i : Nat) : Int) = ((l.length - 1 : Nat) : Int)) from decide_eq_decide.2 (by omega)]; simp_all <;> intros <;> omega)]; exact h)
 ·
  have h1 : ¬ (((i : Nat) : Int) < ((l.length : Nat) : Int)) := h1
  refine WPc.exit ?_
  refine Out.then_exit ?_
  refine Out.then_exit ?_
  refine Out.block_exit ?_
  refine Out.next ?_
  refine WPc.sr ?_
  refine WP.val rfl rfl rfl (Val.move rfl rfl) ?_
  refine WP.val rfl rfl rfl (Val.assign rfl rfl) ?_
  refine WP.nx ?_
  refine WPc.ret ?_
  have hil : i = l.length := by omega
  exact Out.ret1 (L' := _) Try.results60 rfl rfl (fun w h => by rw [hil] at h; exact h)

theorem since_spec (A : HProp) (at_ : Int)  (l : List Vn) (hl : l.length ≤ 100000) (va : Value) (hva : Rd A 6 Vn.cells va l) : Does Try.prog 60 [va, .int .i64 (at_)] [A] (fun v L => L = [Own 32 2 v (sinceV l at_ l.length).length (flatOf Rv.cells (sinceV l at_ l.length)), A]) := by
 rcases hva with ⟨b0, o0, c0, rfl, hr⟩ | ⟨rfl, a, c, rfl⟩
 ·
  exact since_row A at_ l hl b0 o0 c0 hr
 ·
  exact since_nil A at_ a c

end Go.Proofs.Ythicijpjpijdjaa.Kh

