import Derived.Test.YthicijpjpijdjaaMd
namespace Go.Proofs.Ythicijpjpijdjaa.Kh
open Go.RowKit Go.Proofs.Ythicijpjpijdjaa Go.Proofs.Ythicijpjpijdjaa.Sl Go.Proofs.Ythicijpjpijdjaa.KyP Go.Proofs.Ythicijpjpijdjaa.Ka Go.Proofs.Ythicijpjpijdjaa.Kb Go.Proofs.Ythicijpjpijdjaa.Kc Go.Proofs.Ythicijpjpijdjaa.Kd Go.Proofs.Ythicijpjpijdjaa.Ke Go.Proofs.Ythicijpjpijdjaa.Kf Go.Proofs.Ythicijpjpijdjaa.Kg
set_option linter.unusedVariables false
set_option linter.unusedSimpArgs false
set_option linter.unusedSectionVars false


def spc (l : List Vn) (at_ : Int) (i : Nat) (x : Vn) : Bool := decide (at_ ≤ x.r.m) && (decide (i + 1 = l.length) || (match l[i + 1]? with | some y => decide (y.r.m ≠ x.r.m) | none => false))
def sinceV (l : List Vn) (at_ : Int)  : Nat → List Rv
  | 0 => []
  | i + 1 => match l[i]? with
    | some x => if spc l at_ i x then sinceV l at_ i ++ [x.r] else sinceV l at_ i
    | none => sinceV l at_ i
theorem since_yes {l : List Vn} {at_ : Int} {i : Nat} {x : Vn} (hx : l[i]? = some x) (h : spc l at_ i x = true) : sinceV l at_ (i + 1) = sinceV l at_ i ++ [x.r] := by
  conv => lhs; unfold sinceV
  rw [hx]; dsimp only; rw [if_pos h]
theorem since_no {l : List Vn} {at_ : Int} {i : Nat} {x : Vn} (hx : l[i]? = some x) (h : spc l at_ i x = false) : sinceV l at_ (i + 1) = sinceV l at_ i := by
  conv => lhs; unfold sinceV
  rw [hx]; dsimp only; rw [if_neg (by rw [h]; exact Bool.noConfusion)]
theorem since_len (l : List Vn) (at_ : Int)  : ∀ i, (sinceV l at_ i).length ≤ i
  | 0 => Nat.le_refl _
  | i + 1 => by
    have := since_len l at_ i
    unfold sinceV
    split
    · split
      · rw [List.length_append, List.length_singleton]; omega
      · omega
    · omega
set_option maxRecDepth 100000 in
set_option maxHeartbeats 1000000 in
theorem since_nil (A : HProp) (at_ : Int)  (a : Option Addr) (c : Nat) : Does Try.prog 60 [.slice a 0 c, .int .i64 (at_)] [A] (fun v L => L = [Own 32 2 v (sinceV ([] : List Vn) at_ 0).length (flatOf Rv.cells (sinceV ([] : List Vn) at_ 0)), A]) := by
  refine Does.enter 47 Try.func60 rfl rfl rfl fun W F => ?_
  show WPc _ _ _ _ _ [(0, .slice a 0 c), (1, .int .i64 (at_))] (A :: F)
  refine WPc.seq ?_
  refine WPc.region ?_
  refine WP.val rfl rfl rfl (Val.assign rfl rfl) ?_
  refine WP.nil ?_
  refine Out.next ?_
  refine WPc.seq ?_
  refine WPc.region ?_
  refine WP.val rfl rfl rfl (Val.assign rfl rfl) ?_
  refine WP.nil ?_
  refine Out.next ?_
  refine WPc.seq ?_
  refine WPc.seq ?_
  refine WPc.conv (fun w h => h.ownNil (e := 32) (k := 2)) ?_
  show WPc _ _ _ _ _ _ (Own 32 2 (.slice none 0 0) 0 ([]) :: A :: F)
  refine WPc.region ?_
  refine WP.val rfl rfl rfl (Val.move rfl rfl) ?_
  refine WP.val rfl rfl rfl (Val.len rfl Ty.sl23 rfl) ?_
  refine WP.val rfl rfl rfl (Val.move rfl rfl) ?_
  refine WP.nil ?_
  refine Out.next ?_
  refine WPc.block ?_
  refine WPc.loop (ι := Nat × Value) (fun ⟨i, v⟩ => i ≤ 0) (fun ⟨i, v⟩ => [(0, .slice a 0 c), (1, .int .i64 (at_)), (5, v), (8, .slice a 0 c), (9, .int .i64 0), (10, .int .i64 (((i : Nat) : Int)))]) (fun ⟨i, v⟩ => Own 32 2 v ((sinceV ([] : List Vn) at_ i).length) (flatOf Rv.cells (sinceV ([] : List Vn) at_ i)) :: A :: F) (fun ⟨i, v⟩ => 0 - i) (0, .slice none 0 0) (Nat.zero_le _) ((Sub.cons rfl (Sub.cons rfl (Sub.cons rfl (Sub.cons rfl (Sub.cons rfl (Sub.cons rfl Sub.nil))))))) (fun _ h => h) ?_
  rintro ⟨i, v⟩ hi
  show WPc _ _ _ _ _ [(0, .slice a 0 c), (1, .int .i64 (at_)), (5, v), (8, .slice a 0 c), (9, .int .i64 0), (10, .int .i64 (((i : Nat) : Int)))] (Own 32 2 v ((sinceV ([] : List Vn) at_ i).length) (flatOf Rv.cells (sinceV ([] : List Vn) at_ i)) :: A :: F)
  replace hi : i ≤ 0 := hi
  have hcl := since_len ([] : List Vn) at_ i
  refine WPc.seq ?_
  refine WPc.region ?_
  refine WP.val rfl rfl rfl (Val.lss rfl rfl rfl) ?_
  refine WP.nil ?_
  refine Out.next ?_
  refine WPc.seq ?_
  refine WPc.ifP rfl (fun h1 => ?_) (fun h1 => ?_)
  · skip
    have h1 : (((i : Nat) : Int) < (0 : Int)) := h1
    exfalso; omega
  · skip
    have h1 : ¬ (((i : Nat) : Int) < (0 : Int)) := h1
    refine WPc.exit ?_
    refine Out.then_exit ?_
    refine Out.then_exit ?_
    refine Out.block_exit ?_
    refine Out.next ?_
    refine WPc.seq ?_
    refine WPc.region ?_
    refine WP.val rfl rfl rfl (Val.move rfl rfl) ?_
    refine WP.val rfl rfl rfl (Val.assign rfl rfl) ?_
    refine WP.nil ?_
    refine Out.next ?_
    refine WPc.ret ?_
    have hil : i = 0 := by omega
    exact Out.ret1 (L' := _) Try.results60 rfl rfl (fun w h => by rw [hil] at h; exact h)

set_option maxRecDepth 100000 in
set_option maxHeartbeats 1000000 in
theorem since_row (A : HProp) (at_ : Int)  (l : List Vn) (hl : l.length ≤ 100000) (b0 o0 c0 : Nat) (hr : ∀ w, Holds A w → ∀ i x, l[i]? = some x → w.rangeAt b0 (o0 + i * 6) (Vn.cells x)) : Does Try.prog 60 [.slice (some ⟨b0, o0, none⟩) l.length c0, .int .i64 (at_)] [A] (fun v L => L = [Own 32 2 v (sinceV l at_ l.length).length (flatOf Rv.cells (sinceV l at_ l.length)), A]) := by
  refine Does.enter 47 Try.func60 rfl rfl rfl fun W F => ?_
  show WPc _ _ _ _ _ [(0, .slice (some ⟨b0, o0, none⟩) l.length c0), (1, .int .i64 (at_))] (A :: F)
  refine WPc.seq ?_
  refine WPc.region ?_
  refine WP.val rfl rfl rfl (Val.assign rfl rfl) ?_
  refine WP.nil ?_
  refine Out.next ?_
  refine WPc.seq ?_
  refine WPc.region ?_
  refine WP.val rfl rfl rfl (Val.assign rfl rfl) ?_
  refine WP.nil ?_
  refine Out.next ?_
  refine WPc.seq ?_
  refine WPc.seq ?_
  refine WPc.conv (fun w h => h.ownNil (e := 32) (k := 2)) ?_
  show WPc _ _ _ _ _ _ (Own 32 2 (.slice none 0 0) 0 ([]) :: A :: F)
  refine WPc.region ?_
  refine WP.val rfl rfl rfl (Val.move rfl rfl) ?_
  refine WP.val rfl rfl rfl (Val.len rfl Ty.sl23 rfl) ?_
  refine WP.val rfl rfl rfl (Val.move rfl rfl) ?_
  refine WP.nil ?_
  refine Out.next ?_
  refine WPc.block ?_
  refine WPc.loop (ι := Nat × Value) (fun ⟨i, v⟩ => i ≤ l.length) (fun ⟨i, v⟩ => [(0, .slice (some ⟨b0, o0, none⟩) l.length c0), (1, .int .i64 (at_)), (5, v), (8, .slice (some ⟨b0, o0, none⟩) l.length c0), (9, .int .i64 (((l.length : Nat) : Int))), (10, .int .i64 (((i : Nat) : Int)))]) (fun ⟨i, v⟩ => Own 32 2 v ((sinceV l at_ i).length) (flatOf Rv.cells (sinceV l at_ i)) :: A :: F) (fun ⟨i, v⟩ => l.length - i) (0, .slice none 0 0) (Nat.zero_le _) ((Sub.cons rfl (Sub.cons rfl (Sub.cons rfl (Sub.cons rfl (Sub.cons rfl (Sub.cons rfl Sub.nil))))))) (fun _ h => h) ?_
  rintro ⟨i, v⟩ hi
  show WPc _ _ _ _ _ [(0, .slice (some ⟨b0, o0, none⟩) l.length c0), (1, .int .i64 (at_)), (5, v), (8, .slice (some ⟨b0, o0, none⟩) l.length c0), (9, .int .i64 (((l.length : Nat) : Int))), (10, .int .i64 (((i : Nat) : Int)))] (Own 32 2 v ((sinceV l at_ i).length) (flatOf Rv.cells (sinceV l at_ i)) :: A :: F)
  replace hi : i ≤ l.length := hi
  have hcl := since_len l at_ i
  refine WPc.seq ?_
  refine WPc.region ?_
  refine WP.val rfl rfl rfl (Val.lss rfl rfl rfl) ?_
  refine WP.nil ?_
  refine Out.next ?_
  refine WPc.seq ?_
  refine WPc.ifP rfl (fun h1 => ?_) (fun h1 => ?_)
  · skip
    have h1 : (((i : Nat) : Int) < ((l.length : Nat) : Int)) := h1
    refine WPc.skip ?_
    refine Out.next ?_
    refine WPc.seq ?_
    refine WPc.block ?_
    refine WPc.seq ?_
    have hlt : i < l.length := by omega
    obtain ⟨x, hx⟩ : ∃ x, l[i]? = some x := ⟨_, List.getElem?_eq_getElem hlt⟩
    refine WPc.region ?_
    refine WP.val rfl rfl rfl (Val.move rfl rfl) ?_
    refine WP.val rfl rfl rfl (Val.indexAddr (j := i) (q := o0 + i * 6) rfl Ty.sl23 rfl rfl (by omega) (by omega) (by omega)) ?_
    refine WP.val rfl rfl rfl (Val.loadAgg (cs := (Vn.cells x)) rfl Ty.ag47 rfl (by rfl) (fun w h => hr w (h.at 1 rfl) i x hx)) ?_
    refine WP.eff rfl rfl rfl (Eff.alloc rfl Ty.z47) ?_
    rintro _ _ ⟨b1, rfl, rfl⟩
    refine WP.val rfl rfl rfl (Val.assign rfl rfl) ?_
    refine WP.eff0 rfl rfl (Eff.storeAgg (cs := [.int .i64 (x.r.m), .int .i64 (x.r.s), .int .i64 (x.c.m), .int .i64 (x.c.s), .int .i64 (x.v), .bool (x.g)]) (C' := [.int .i64 (x.r.m), .int .i64 (x.r.s), .int .i64 (x.c.m), .int .i64 (x.c.s), .int .i64 (x.v), .bool (x.g)]) rfl Ty.ag47 rfl rfl rfl rfl (by simp) rfl) ?_
    rintro _ _ rfl
    refine WP.nil ?_
    refine Out.next ?_
    refine WPc.seq ?_
    refine WPD.start (Sat W (Blk b1 [.int .i64 (x.r.m), .int .i64 (x.r.s), .int .i64 (x.c.m), .int .i64 (x.c.s), .int .i64 (x.v), .bool (x.g)] 47 :: Own 32 2 v ((sinceV l at_ i).length) (flatOf Rv.cells (sinceV l at_ i)) :: A :: F)) Ty.mixed ?_
    refine WPD.takeM 0 rfl rfl rfl rfl (by kernel_rfl) (by kernel_rfl) (by kernel_rfl) (by kernel_rfl) (fun _ _ _ h => h) (fun _ h => h) (Val.fieldAddr (j := 0) rfl Ty.fo47_0 rfl rfl) ?_
    refine WPD.takeM 1 rfl rfl rfl rfl (by kernel_rfl) (by kernel_rfl) (by kernel_rfl) (by kernel_rfl) (fun _ _ _ h => h) (fun _ h => h) (Val.fieldAddr (j := 0) rfl Ty.fo32_0 rfl rfl) ?_
    refine WPD.take 2 rfl rfl rfl rfl (by kernel_rfl) (by kernel_rfl) (by kernel_rfl) (by kernel_rfl) (fun _ _ _ h => h) (by kernel_rfl) (fun _ h => h) (Val.load rfl Ty.sc2 rfl (fun w h => h.cell 0 rfl rfl)) ?_
    refine WPD.takeM 3 rfl rfl rfl rfl (by kernel_rfl) (by kernel_rfl) (by kernel_rfl) (by kernel_rfl) (fun _ _ _ h => h) (fun _ h => h) (Val.move rfl rfl) ?_
    refine WPD.takeM 4 rfl rfl rfl rfl (by kernel_rfl) (by kernel_rfl) (by kernel_rfl) (by kernel_rfl) (fun _ _ _ h => h) (fun _ h => h) (Val.geq rfl rfl rfl) ?_
    refine WPD.takeM 5 rfl rfl rfl rfl (by kernel_rfl) (by kernel_rfl) (by kernel_rfl) (by kernel_rfl) (fun _ _ _ h => h) (fun _ h => h) (Val.move rfl rfl) ?_
    refine WPD.split 20 rfl (fun h2 => ?_) (fun h2 => ?_)
    · skip
      have h2 : (at_ ≤ x.r.m) := h2
      refine WPD.takeGM 6 rfl rfl rfl rfl rfl rfl rfl rfl (by kernel_rfl) (by kernel_rfl) (by kernel_rfl) (by kernel_rfl) (fun _ _ _ h => h) (fun _ h => h) (Val.move rfl rfl) ?_
      refine WPD.takeGM 7 rfl rfl rfl rfl rfl rfl rfl rfl (by kernel_rfl) (by kernel_rfl) (by kernel_rfl) (by kernel_rfl) (fun _ _ _ h => h) (fun _ h => h) (Val.move rfl rfl) ?_
      refine WPD.takeG 8 rfl rfl rfl rfl rfl rfl rfl rfl (by kernel_rfl) (by kernel_rfl) (by kernel_rfl) (by kernel_rfl) (fun _ _ _ h => h) (by kernel_rfl) (fun _ h => h) (Val.len rfl Ty.sl23 rfl) ?_
      refine WPD.takeGM 9 rfl rfl rfl rfl rfl rfl rfl rfl (by kernel_rfl) (by kernel_rfl) (by kernel_rfl) (by kernel_rfl) (fun _ _ _ h => h) (fun _ h => h) (Val.sub (z := ((l.length - 1 : Nat) : Int)) rfl rfl rfl ((w64 (by omega) (by omega)).trans (by omega))) ?_
      refine WPD.takeGM 10 rfl rfl rfl rfl rfl rfl rfl rfl (by kernel_rfl) (by kernel_rfl) (by kernel_rfl) (by kernel_rfl) (fun _ _ _ h => h) (fun _ h => h) (Val.eql rfl rfl rfl) ?_
      refine WPD.takeGM 11 rfl rfl rfl rfl rfl rfl rfl rfl (by kernel_rfl) (by kernel_rfl) (by kernel_rfl) (by kernel_rfl) (fun _ _ _ h => h) (fun _ h => h) (Val.move rfl rfl) ?_
      refine WPD.split 26 rfl (fun h3 => ?_) (fun h3 => ?_)
      · skip
        have h3 : (((i : Nat) : Int) = ((l.length - 1 : Nat) : Int)) := h3
        refine WPD.skip 12 rfl rfl rfl rfl rfl rfl rfl rfl (by kernel_rfl) (by kernel_rfl) (by kernel_rfl) (by kernel_rfl) (fun _ _ _ h => h) (fun _ h => h) ?_
        refine WPD.skip 13 rfl rfl rfl rfl rfl rfl rfl rfl (by kernel_rfl) (by kernel_rfl) (by kernel_rfl) (by kernel_rfl) (fun _ _ _ h => h) (fun _ h => h) ?_
        refine WPD.skip 14 rfl rfl rfl rfl rfl rfl rfl rfl (by kernel_rfl) (by kernel_rfl) (by kernel_rfl) (by kernel_rfl) (fun _ _ _ h => h) (fun _ h => h) ?_
        refine WPD.skip 15 rfl rfl rfl rfl rfl rfl rfl rfl (by kernel_rfl) (by kernel_rfl) (by kernel_rfl) (by kernel_rfl) (fun _ _ _ h => h) (fun _ h => h) ?_
        refine WPD.skip 16 rfl rfl rfl rfl rfl rfl rfl rfl (by kernel_rfl) (by kernel_rfl) (by kernel_rfl) (by kernel_rfl) (fun _ _ _ h => h) (fun _ h => h) ?_
        refine WPD.skip 17 rfl rfl rfl rfl rfl rfl rfl rfl (by kernel_rfl) (by kernel_rfl) (by kernel_rfl) (by kernel_rfl) (fun _ _ _ h => h) (fun _ h => h) ?_
        refine WPD.skip 18 rfl rfl rfl rfl rfl rfl rfl rfl (by kernel_rfl) (by kernel_rfl) (by kernel_rfl) (by kernel_rfl) (fun _ _ _ h => h) (fun _ h => h) ?_
        refine WPD.skip 19 rfl rfl rfl rfl rfl rfl rfl rfl (by kernel_rfl) (by kernel_rfl) (by kernel_rfl) (by kernel_rfl) (fun _ _ _ h => h) (fun _ h => h) ?_
        refine WPD.skip 20 rfl rfl rfl rfl rfl rfl rfl rfl (by kernel_rfl) (by kernel_rfl) (by kernel_rfl) (by kernel_rfl) (fun _ _ _ h => h) (fun _ h => h) ?_
        refine WPD.skip 21 rfl rfl rfl rfl rfl rfl rfl rfl (by kernel_rfl) (by kernel_rfl) (by kernel_rfl) (by kernel_rfl) (fun _ _ _ h => h) (fun _ h => h) ?_
        refine WPD.skip 22 rfl rfl rfl rfl rfl rfl rfl rfl (by kernel_rfl) (by kernel_rfl) (by kernel_rfl) (by kernel_rfl) (fun _ _ _ h => h) (fun _ h => h) ?_
        refine WPD.takeGM 23 rfl rfl rfl rfl rfl rfl rfl rfl (by kernel_rfl) (by kernel_rfl) (by kernel_rfl) (by kernel_rfl) (fun _ _ _ h => h) (fun _ h => h) (Val.pickT rfl rfl rfl) ?_
        refine WPD.takeM 24 rfl rfl rfl rfl (by kernel_rfl) (by kernel_rfl) (by kernel_rfl) (by kernel_rfl) (fun _ _ _ h => h) (fun _ h => h) (Val.pickT rfl rfl rfl) ?_
        refine WPD.done (by kernel_rfl) ?_
        refine Out.next ?_
        refine WPc.condT rfl rfl ?_
        refine WPc.region ?_
        refine WP.val rfl rfl rfl (Val.move rfl rfl) ?_
        refine WP.val rfl rfl rfl (Val.fieldAddr (j := 0) rfl Ty.fo47_0 rfl rfl) ?_
        refine WP.val rfl rfl rfl (Val.loadAgg (cs := [.int .i64 (x.r.m), .int .i64 (x.r.s)]) rfl Ty.ag32 rfl rfl (fun w h => h.range 0 rfl rfl)) ?_
        refine WP.eff rfl rfl rfl (Eff.mkSlice (C := [.int .i64 (x.r.m), .int .i64 (x.r.s)]) rfl Ty.sl40 rfl (fun _ => by kernel_rfl)) ?_
        rintro _ _ ⟨b2, rfl, rfl⟩
        refine WP.perm pl2 ?_
        refine WP.eff rfl rfl rfl (Eff.append (m := 1) (n0 := (sinceV l at_ i).length) (news := [.int .i64 (x.r.m), .int .i64 (x.r.s)]) rfl Ty.sl40 Ty.z32 rfl rfl rfl (.slice Ty.sl40 rfl rfl (fun w h => cells_range (h.range 1 rfl rfl))) (by omega) (by omega)) ?_
        rintro v3 _ ⟨onev3, rfl⟩
        refine WP.val rfl rfl rfl (Val.assign rfl rfl) ?_
        refine WP.nil ?_
        refine Out.block ?_
        refine Out.next ?_
        refine WPc.region ?_
        refine WP.val rfl rfl rfl (Val.add (z := ((i + 1 : Nat) : Int)) rfl rfl rfl ((w64 (by omega) (by omega)).trans (by omega))) ?_
        refine WP.val rfl rfl rfl (Val.move rfl rfl) ?_
        refine WP.nil ?_
        refine Out.perm pl1 ?_
        refine Out.drop ?_
        refine Out.perm pl1 ?_
        refine Out.drop ?_
        refine Out.again (i + 1, v3) ?_ ?_ ?_ ?_
        · exact (by first | omega | (dsimp only; omega))
        · (dsimp only; omega)
        · exact (Sub.cons rfl (Sub.cons rfl (Sub.cons rfl (Sub.cons rfl (Sub.cons rfl (Sub.cons rfl Sub.nil))))))
        · exact (fun w h => by dsimp only; rw [since_yes hx (by unfold spc; rw [show decide (i + 1 = l.length) = decide (((i : Nat) : Int) = ((l.length - 1 : Nat) : Int)) from decide_eq_decide.2 (by omega)]; simp_all <;> intros <;> omega), flatOf_append, flatOf_one, List.length_append]; exact h)
      · skip
        have h3 : ¬ (((i : Nat) : Int) = ((l.length - 1 : Nat) : Int)) := h3
        refine WPD.takeGM 12 rfl rfl rfl rfl rfl rfl rfl rfl (by kernel_rfl) (by kernel_rfl) (by kernel_rfl) (by kernel_rfl) (fun _ _ _ h => h) (fun _ h => h) (Val.move rfl rfl) ?_
        refine WPD.takeGM 13 rfl rfl rfl rfl rfl rfl rfl rfl (by kernel_rfl) (by kernel_rfl) (by kernel_rfl) (by kernel_rfl) (fun _ _ _ h => h) (fun _ h => h) (Val.move rfl rfl) ?_
        refine WPD.takeGM 14 rfl rfl rfl rfl rfl rfl rfl rfl (by kernel_rfl) (by kernel_rfl) (by kernel_rfl) (by kernel_rfl) (fun _ _ _ h => h) (fun _ h => h) (Val.add (z := ((i + 1 : Nat) : Int)) rfl rfl rfl ((w64 (by omega) (by omega)).trans (by omega))) ?_
        obtain ⟨y, hy⟩ : ∃ y, l[i + 1]? = some y := ⟨_, List.getElem?_eq_getElem (by omega)⟩
        refine WPD.takeGM 15 rfl rfl rfl rfl rfl rfl rfl rfl (by kernel_rfl) (by kernel_rfl) (by kernel_rfl) (by kernel_rfl) (fun _ _ _ h => h) (fun _ h => h) (Val.indexAddr (j := i + 1) (q := o0 + (i + 1) * 6) rfl Ty.sl23 rfl rfl (by omega) (by omega) (by omega)) ?_
        refine WPD.takeGM 16 rfl rfl rfl rfl rfl rfl rfl rfl (by kernel_rfl) (by kernel_rfl) (by kernel_rfl) (by kernel_rfl) (fun _ _ _ h => h) (fun _ h => h) (Val.fieldAddr (j := o0 + (i + 1) * 6) rfl Ty.fo47_0 rfl rfl) ?_
        refine WPD.takeGM 17 rfl rfl rfl rfl rfl rfl rfl rfl (by kernel_rfl) (by kernel_rfl) (by kernel_rfl) (by kernel_rfl) (fun _ _ _ h => h) (fun _ h => h) (Val.fieldAddr (j := o0 + (i + 1) * 6) rfl Ty.fo32_0 rfl rfl) ?_
        refine WPD.takeG 18 rfl rfl rfl rfl rfl rfl rfl rfl (by kernel_rfl) (by kernel_rfl) (by kernel_rfl) (by kernel_rfl) (fun _ _ _ h => h) (by kernel_rfl) (fun _ h => h) (Val.load (v := .int .i64 (y.r.m)) rfl Ty.sc2 rfl (fun w h => hr w (h.at 2 rfl) (i + 1) y hy 0 _ rfl)) ?_
        refine WPD.takeGM 19 rfl rfl rfl rfl rfl rfl rfl rfl (by kernel_rfl) (by kernel_rfl) (by kernel_rfl) (by kernel_rfl) (fun _ _ _ h => h) (fun _ h => h) (Val.fieldAddr (j := 0) rfl Ty.fo47_0 rfl rfl) ?_
        refine WPD.takeGM 20 rfl rfl rfl rfl rfl rfl rfl rfl (by kernel_rfl) (by kernel_rfl) (by kernel_rfl) (by kernel_rfl) (fun _ _ _ h => h) (fun _ h => h) (Val.fieldAddr (j := 0) rfl Ty.fo32_0 rfl rfl) ?_
        refine WPD.takeG 21 rfl rfl rfl rfl rfl rfl rfl rfl (by kernel_rfl) (by kernel_rfl) (by kernel_rfl) (by kernel_rfl) (fun _ _ _ h => h) (by kernel_rfl) (fun _ h => h) (Val.load rfl Ty.sc2 rfl (fun w h => h.cell 0 rfl rfl)) ?_
        refine WPD.takeGM 22 rfl rfl rfl rfl rfl rfl rfl rfl (by kernel_rfl) (by kernel_rfl) (by kernel_rfl) (by kernel_rfl) (fun _ _ _ h => h) (fun _ h => h) (Val.neq rfl rfl rfl) ?_
        refine WPD.takeGM 23 rfl rfl rfl rfl rfl rfl rfl rfl (by kernel_rfl) (by kernel_rfl) (by kernel_rfl) (by kernel_rfl) (fun _ _ _ h => h) (fun _ h => h) (Val.pickF rfl rfl rfl) ?_
        refine WPD.takeM 24 rfl rfl rfl rfl (by kernel_rfl) (by kernel_rfl) (by kernel_rfl) (by kernel_rfl) (fun _ _ _ h => h) (fun _ h => h) (Val.pickT rfl rfl rfl) ?_
        refine WPD.done (by kernel_rfl) ?_
        refine Out.next ?_
        refine WPc.ifP rfl (fun h4 => ?_) (fun h4 => ?_)
        · skip
          have h4 : (y.r.m ≠ x.r.m) := h4
          refine WPc.region ?_
          refine WP.val rfl rfl rfl (Val.move rfl rfl) ?_
          refine WP.val rfl rfl rfl (Val.fieldAddr (j := 0) rfl Ty.fo47_0 rfl rfl) ?_
          refine WP.val rfl rfl rfl (Val.loadAgg (cs := [.int .i64 (x.r.m), .int .i64 (x.r.s)]) rfl Ty.ag32 rfl rfl (fun w h => h.range 0 rfl rfl)) ?_
          refine WP.eff rfl rfl rfl (Eff.mkSlice (C := [.int .i64 (x.r.m), .int .i64 (x.r.s)]) rfl Ty.sl40 rfl (fun _ => by kernel_rfl)) ?_
          rintro _ _ ⟨b4, rfl, rfl⟩
          refine WP.perm pl2 ?_
          refine WP.eff rfl rfl rfl (Eff.append (m := 1) (n0 := (sinceV l at_ i).length) (news := [.int .i64 (x.r.m), .int .i64 (x.r.s)]) rfl Ty.sl40 Ty.z32 rfl rfl rfl (.slice Ty.sl40 rfl rfl (fun w h => cells_range (h.range 1 rfl rfl))) (by omega) (by omega)) ?_
          rintro v5 _ ⟨onev5, rfl⟩
          refine WP.val rfl rfl rfl (Val.assign rfl rfl) ?_
          refine WP.nil ?_
          refine Out.block ?_
          refine Out.next ?_
          refine WPc.region ?_
          refine WP.val rfl rfl rfl (Val.add (z := ((i + 1 : Nat) : Int)) rfl rfl rfl ((w64 (by omega) (by omega)).trans (by omega))) ?_
          refine WP.val rfl rfl rfl (Val.move rfl rfl) ?_
          refine WP.nil ?_
          refine Out.perm pl1 ?_
          refine Out.drop ?_
          refine Out.perm pl1 ?_
          refine Out.drop ?_
          refine Out.again (i + 1, v5) ?_ ?_ ?_ ?_
          · exact (by first | omega | (dsimp only; omega))
          · (dsimp only; omega)
          · exact (Sub.cons rfl (Sub.cons rfl (Sub.cons rfl (Sub.cons rfl (Sub.cons rfl (Sub.cons rfl Sub.nil))))))
          · exact (fun w h => by dsimp only; rw [since_yes hx (by unfold spc; rw [show decide (i + 1 = l.length) = decide (((i : Nat) : Int) = ((l.length - 1 : Nat) : Int)) from decide_eq_decide.2 (by omega)]; simp_all <;> intros <;> omega), flatOf_append, flatOf_one, List.length_append]; exact h)
        · skip
          have h4 : ¬ (y.r.m ≠ x.r.m) := h4
          refine WPc.skip ?_
          refine Out.block ?_
          refine Out.next ?_
          refine WPc.region ?_
          refine WP.val rfl rfl rfl (Val.add (z := ((i + 1 : Nat) : Int)) rfl rfl rfl ((w64 (by omega) (by omega)).trans (by omega))) ?_
          refine WP.val rfl rfl rfl (Val.move rfl rfl) ?_
          refine WP.nil ?_
          refine Out.drop ?_
          refine Out.again (i + 1, v) ?_ ?_ ?_ ?_
          · exact (by first | omega | (dsimp only; omega))
          · (dsimp only; omega)
          · exact (Sub.cons rfl (Sub.cons rfl (Sub.cons rfl (Sub.cons rfl (Sub.cons rfl (Sub.cons rfl Sub.nil))))))
          · exact (fun w h => by dsimp only; rw [since_no hx (by unfold spc; rw [show decide (i + 1 = l.length) = decide (((i : Nat) : Int) = ((l.length - 1 : Nat) : Int)) from decide_eq_decide.2 (by omega)]; simp_all <;> intros <;> omega)]; exact h)
    · skip
      have h2 : ¬ (at_ ≤ x.r.m) := h2
      refine WPD.skip 6 rfl rfl rfl rfl rfl rfl rfl rfl (by kernel_rfl) (by kernel_rfl) (by kernel_rfl) (by kernel_rfl) (fun _ _ _ h => h) (fun _ h => h) ?_
      refine WPD.skip 7 rfl rfl rfl rfl rfl rfl rfl rfl (by kernel_rfl) (by kernel_rfl) (by kernel_rfl) (by kernel_rfl) (fun _ _ _ h => h) (fun _ h => h) ?_
      refine WPD.skip 8 rfl rfl rfl rfl rfl rfl rfl rfl (by kernel_rfl) (by kernel_rfl) (by kernel_rfl) (by kernel_rfl) (fun _ _ _ h => h) (fun _ h => h) ?_
      refine WPD.skip 9 rfl rfl rfl rfl rfl rfl rfl rfl (by kernel_rfl) (by kernel_rfl) (by kernel_rfl) (by kernel_rfl) (fun _ _ _ h => h) (fun _ h => h) ?_
      refine WPD.skip 10 rfl rfl rfl rfl rfl rfl rfl rfl (by kernel_rfl) (by kernel_rfl) (by kernel_rfl) (by kernel_rfl) (fun _ _ _ h => h) (fun _ h => h) ?_
      refine WPD.skip 11 rfl rfl rfl rfl rfl rfl rfl rfl (by kernel_rfl) (by kernel_rfl) (by kernel_rfl) (by kernel_rfl) (fun _ _ _ h => h) (fun _ h => h) ?_
      refine WPD.skipU 12 rfl rfl rfl rfl rfl rfl rfl (by kernel_rfl) (by kernel_rfl) (by kernel_rfl) (by kernel_rfl) (fun _ _ _ h => h) (fun _ h => h) ?_
      refine WPD.skipU 13 rfl rfl rfl rfl rfl rfl rfl (by kernel_rfl) (by kernel_rfl) (by kernel_rfl) (by kernel_rfl) (fun _ _ _ h => h) (fun _ h => h) ?_
      refine WPD.skipU 14 rfl rfl rfl rfl rfl rfl rfl (by kernel_rfl) (by kernel_rfl) (by kernel_rfl) (by kernel_rfl) (fun _ _ _ h => h) (fun _ h => h) ?_
      refine WPD.skipU 15 rfl rfl rfl rfl rfl rfl rfl (by kernel_rfl) (by kernel_rfl) (by kernel_rfl) (by kernel_rfl) (fun _ _ _ h => h) (fun _ h => h) ?_
      refine WPD.skipU 16 rfl rfl rfl rfl rfl rfl rfl (by kernel_rfl) (by kernel_rfl) (by kernel_rfl) (by kernel_rfl) (fun _ _ _ h => h) (fun _ h => h) ?_
      refine WPD.skipU 17 rfl rfl rfl rfl rfl rfl rfl (by kernel_rfl) (by kernel_rfl) (by kernel_rfl) (by kernel_rfl) (fun _ _ _ h => h) (fun _ h => h) ?_
      refine WPD.skipU 18 rfl rfl rfl rfl rfl rfl rfl (by kernel_rfl) (by kernel_rfl) (by kernel_rfl) (by kernel_rfl) (fun _ _ _ h => h) (fun _ h => h) ?_
      refine WPD.skipU 19 rfl rfl rfl rfl rfl rfl rfl (by kernel_rfl) (by kernel_rfl) (by kernel_rfl) (by kernel_rfl) (fun _ _ _ h => h) (fun _ h => h) ?_
      refine WPD.skipU 20 rfl rfl rfl rfl rfl rfl rfl (by kernel_rfl) (by kernel_rfl) (by kernel_rfl) (by kernel_rfl) (fun _ _ _ h => h) (fun _ h => h) ?_
      refine WPD.skipU 21 rfl rfl rfl rfl rfl rfl rfl (by kernel_rfl) (by kernel_rfl) (by kernel_rfl) (by kernel_rfl) (fun _ _ _ h => h) (fun _ h => h) ?_
      refine WPD.skipU 22 rfl rfl rfl rfl rfl rfl rfl (by kernel_rfl) (by kernel_rfl) (by kernel_rfl) (by kernel_rfl) (fun _ _ _ h => h) (fun _ h => h) ?_
      refine WPD.skip 23 rfl rfl rfl rfl rfl rfl rfl rfl (by kernel_rfl) (by kernel_rfl) (by kernel_rfl) (by kernel_rfl) (fun _ _ _ h => h) (fun _ h => h) ?_
      refine WPD.takeM 24 rfl rfl rfl rfl (by kernel_rfl) (by kernel_rfl) (by kernel_rfl) (by kernel_rfl) (fun _ _ _ h => h) (fun _ h => h) (Val.pickF rfl rfl rfl) ?_
      refine WPD.done (by kernel_rfl) ?_
      refine Out.next ?_
      refine WPc.condF rfl rfl ?_
      refine WPc.skip ?_
      refine Out.block ?_
      refine Out.next ?_
      refine WPc.region ?_
      refine WP.val rfl rfl rfl (Val.add (z := ((i + 1 : Nat) : Int)) rfl rfl rfl ((w64 (by omega) (by omega)).trans (by omega))) ?_
      refine WP.val rfl rfl rfl (Val.move rfl rfl) ?_
      refine WP.nil ?_
      refine Out.drop ?_
      refine Out.again (i + 1, v) ?_ ?_ ?_ ?_
      · exact (by first | omega | (dsimp only; omega))
      · (dsimp only; omega)
      · exact (Sub.cons rfl (Sub.cons rfl (Sub.cons rfl (Sub.cons rfl (Sub.cons rfl (Sub.cons rfl Sub.nil))))))
      · exact (fun w h => by dsimp only; rw [since_no hx (by unfold spc; rw [show decide (i + 1 = l.length) = decide (((i : Nat) : Int) = ((l.length - 1 : Nat) : Int)) from decide_eq_decide.2 (by omega)]; simp_all <;> intros <;> omega)]; exact h)
  · skip
    have h1 : ¬ (((i : Nat) : Int) < ((l.length : Nat) : Int)) := h1
    refine WPc.exit ?_
    refine Out.then_exit ?_
    refine Out.then_exit ?_
    refine Out.block_exit ?_
    refine Out.next ?_
    refine WPc.seq ?_
    refine WPc.region ?_
    refine WP.val rfl rfl rfl (Val.move rfl rfl) ?_
    refine WP.val rfl rfl rfl (Val.assign rfl rfl) ?_
    refine WP.nil ?_
    refine Out.next ?_
    refine WPc.ret ?_
    have hil : i = l.length := by omega
    exact Out.ret1 (L' := _) Try.results60 rfl rfl (fun w h => by rw [hil] at h; exact h)

theorem since_spec (A : HProp) (at_ : Int)  (l : List Vn) (hl : l.length ≤ 100000) (va : Value) (hva : Rd A 6 Vn.cells va l) : Does Try.prog 60 [va, .int .i64 (at_)] [A] (fun v L => L = [Own 32 2 v (sinceV l at_ l.length).length (flatOf Rv.cells (sinceV l at_ l.length)), A]) := by
  rcases hva with ⟨b0, o0, c0, rfl, hr⟩ | ⟨rfl, a, c, rfl⟩
  · exact since_row A at_ l hl b0 o0 c0 hr
  · exact since_nil A at_ a c

end Go.Proofs.Ythicijpjpijdjaa.Kh

namespace Go.Proofs.Ythicijpjpijdjaa.Ki
open Go.RowKit Go.Proofs.Ythicijpjpijdjaa Go.Proofs.Ythicijpjpijdjaa.Sl Go.Proofs.Ythicijpjpijdjaa.KyP Go.Proofs.Ythicijpjpijdjaa.Ka Go.Proofs.Ythicijpjpijdjaa.Kb Go.Proofs.Ythicijpjpijdjaa.Kc Go.Proofs.Ythicijpjpijdjaa.Kd Go.Proofs.Ythicijpjpijdjaa.Ke Go.Proofs.Ythicijpjpijdjaa.Kf Go.Proofs.Ythicijpjpijdjaa.Kg Go.Proofs.Ythicijpjpijdjaa.Kh
set_option linter.unusedVariables false
set_option linter.unusedSimpArgs false
set_option linter.unusedSectionVars false


structure KOp where
  k : Int
  r : Rv
  c : Rv
  v : Int
  at_ : Int
def KOp.cells (o : KOp) : List Value := [.int .i64 o.k, .int .i64 o.r.m, .int .i64 o.r.s, .int .i64 o.c.m, .int .i64 o.c.s, .int .i64 o.v, .int .i64 o.at_]
theorem KOp.len (o : KOp) : o.cells.length = 7 := rfl
/-- an answer, but for the index behind it -/
structure KA where
  ok : Bool
  mod : Rv
  cre : Rv
  ver : Int
  revs : List Rv
def KA0 : KA := ⟨false, Rv0, Rv0, 0, []⟩
def KA.val (a : KA) (vr : Value) : Value := .agg #[.bool a.ok, .int .i64 a.mod.m, .int .i64 a.mod.s, .int .i64 a.cre.m, .int .i64 a.cre.s, .int .i64 a.ver, vr, .int .i64 0, .int .i64 0, .slice none 0 0]
/-- what an operation does to the changes, its answer, and whether it is let in -/
def kdo (l : List Vn) (o : KOp) : List Vn × KA × Bool :=
  if o.k = 1 then (if less (modi l) o.r then (l ++ [putV l o.r], { KA0 with ok := true }, true) else (l, KA0, false))
  else if o.k = 2 then (match lives l, l[l.length - 1]? with
    | true, some x => if less (modi l) o.r then (l ++ [endV x o.r], { KA0 with ok := true }, true) else (l, KA0, false)
    | _, _ => (l, KA0, true))
  else if o.k = 5 then (l, ⟨(holdsV l o.at_).isSome, ((holdsV l o.at_).getD Vn0).r, ((holdsV l o.at_).getD Vn0).c, ((holdsV l o.at_).getD Vn0).v, []⟩, true)
  else if o.k = 6 then (l, { KA0 with revs := sinceV l o.at_ l.length }, true)
  else if o.k = 7 then (comp l o.at_ l.length, { KA0 with revs := keptV l o.at_ true l.length }, true)
  else if o.k = 8 then (l, { KA0 with revs := keptV l o.at_ false l.length }, true)
  else (l, KA0, true)
/-- the changes behind an operation: as they were, or new ones -/
def KeyL (va : Value) (l : List Vn) (va2 : Value) (l2 : List Vn) (E : HProp) : Prop := E = Own 47 6 va2 l2.length (flatOf Vn.cells l2) ∨ (E = Pure True ∧ va2 = va ∧ l2 = l)
theorem kdo_rise {l : List Vn} {o : KOp} (h : Rise l) : Rise (kdo l o).1 := by
  unfold kdo
  split
  · split
    · refine rise_snoc h (.inr ?_)
      rename_i h2
      unfold putV; split
      · split <;> exact h2
      · exact h2
    · exact h
  split
  · split
    · split
      · rename_i h2
        exact rise_snoc h (.inr h2)
      · exact h
    · exact h
  split
  · exact h
  split
  · exact h
  split
  · exact rise_comp h _
  split <;> exact h
theorem rise_nil : Rise [] := List.Pairwise.nil

end Go.Proofs.Ythicijpjpijdjaa.Ki

