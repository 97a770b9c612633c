import Derived.Test.YthicijpjpijdjaaNa
namespace Go.Proofs.Ythicijpjpijdjaa.Kc
open Go.RowKit Go.Proofs.Ythicijpjpijdjaa Go.Proofs.Ythicijpjpijdjaa.Sl Go.Proofs.Ythicijpjpijdjaa.KyP Go.Proofs.Ythicijpjpijdjaa.Ka Go.Proofs.Ythicijpjpijdjaa.Kb
set_option linter.unusedVariables false
set_option linter.unusedSimpArgs false
set_option linter.unusedSectionVars false


def Vn0 : Vn := ⟨Rv0, Rv0, 0, false⟩
def holdsV (l : List Vn) (at_ : Int) : Option Vn := match lastN l at_ l.length with
 | 0 => none
 | k + 1 => match l[k]? with
  | some x => if x.g then none else some x
  | none => none
theorem holds_no {l : List Vn} {at_ : Int} (h : lastN l at_ l.length = 0) : holdsV l at_ = none := by unfold holdsV; rw [h]
theorem holds_at {l : List Vn} {at_ : Int} {k : Nat} {x : Vn} (h : lastN l at_ l.length = k + 1) (hx : l[k]? = some x) : holdsV l at_ = if x.g then none else some x := by unfold holdsV; rw [h]; dsimp only; rw [hx]
set_option maxRecDepth 100000 in
set_option maxHeartbeats 2000000 in
theorem stays_row (A : HProp) (at_ : Int) (l : List Vn) (hl : l.length ≤ 100000) (b0 o0 c0 : Nat) (hr : ∀ w, Holds A w → ∀ i x, l[i]? = some x → w.rangeAt b0 (o0 + i * 6) (Vn.cells x)) (i : Nat) (x : Vn) (hx : l[i]? = some x) : Does Try.prog 30 [.slice (some ⟨b0, o0, none⟩) l.length c0, .int .i64 (((i : Nat) : Int)), .int .i64 (at_)] [A] (fun v L => v = .bool (stays l at_ i x) ∧ L = [A]) := by
 have hlt : i < l.length := (List.getElem?_eq_some_iff.1 hx).1
 refine Does.enter 36 Try.func30 rfl rfl rfl fun W F => ?_
 show WPc _ _ _ _ _ [(0, .slice (some ⟨b0, o0, none⟩) l.length c0), (1, .int .i64 (((i : Nat) : Int))), (2, .int .i64 (at_))] (A :: F)
 refine WPc.sr ?_
 refine WP.val rfl rfl rfl (Val.assign rfl rfl) ?_
 refine WP.nx ?_
 refine WPc.sr ?_
 refine WP.val rfl rfl rfl (Val.move rfl rfl) ?_
 refine WP.val rfl rfl rfl (Val.move rfl rfl) ?_
 refine WP.val rfl rfl rfl (Val.indexAddr (j := i) (q := o0 + i * 6) rfl Ty.sl23 rfl rfl (by omega) (by omega) (by omega)) ?_
 refine WP.val rfl rfl rfl (Val.loadAgg (cs := [.int .i64 (x.r.m), .int .i64 (x.r.s), .int .i64 (x.c.m), .int .i64 (x.c.s), .int .i64 (x.v), .bool (x.g)]) rfl Ty.ag47 rfl (by rfl) (fun w h => hr w (h.at 0 rfl) i x hx)) ?_
 refine WP.eff rfl rfl rfl (Eff.alloc rfl Ty.z47) ?_
 rintro _ _ ⟨b1, rfl, rfl⟩
 refine WP.eff0 rfl rfl (Eff.storeAgg (cs := [.int .i64 (x.r.m), .int .i64 (x.r.s), .int .i64 (x.c.m), .int .i64 (x.c.s), .int .i64 (x.v), .bool (x.g)]) (C' := [.int .i64 (x.r.m), .int .i64 (x.r.s), .int .i64 (x.c.m), .int .i64 (x.c.s), .int .i64 (x.v), .bool (x.g)]) rfl Ty.ag47 rfl rfl rfl rfl (by simp) rfl) ?_
 rintro _ _ rfl
 refine WP.nx ?_
 refine WPc.sr ?_
 refine WP.val rfl rfl rfl (Val.fieldAddr (j := 0) rfl Ty.fo47_0 rfl rfl) ?_
 refine WP.val rfl rfl rfl (Val.fieldAddr (j := 0) rfl Ty.fo32_0 rfl rfl) ?_
 refine WP.val rfl rfl rfl (Val.load rfl Ty.sc2 rfl (fun w h => h.cell 0 rfl rfl)) ?_
 refine WP.val rfl rfl rfl (Val.move rfl rfl) ?_
 refine WP.val rfl rfl rfl (Val.gtr rfl rfl rfl) ?_
 refine WP.val rfl rfl rfl (Val.move rfl rfl) ?_
 refine WP.split 17 rfl (fun h1 => ?_) (fun h1 => ?_)
 ·
  have h1 : (at_ < x.r.m) := h1
  iterate 6 (refine WP.skip rfl rfl rfl rfl rfl rfl rfl ?_)
  iterate 10 (refine WP.skipU rfl rfl rfl rfl rfl rfl ?_)
  refine WP.skip rfl rfl rfl rfl rfl rfl rfl ?_
  refine WP.val rfl rfl rfl (Val.pickT rfl rfl rfl) ?_
  refine WP.val rfl rfl rfl (Val.assign rfl rfl) ?_
  refine WP.nx ?_
  refine WPc.ret ?_
  exact Out.ret1 (L' := _) Try.results30 rfl ⟨congrArg Value.bool (show _ = stays l at_ i x by (unfold stays; rw [show decide (i + 1 = lastN l at_ l.length) = decide (((i : Nat) : Int) = ((lastN l at_ l.length : Nat) : Int) - 1) from decide_eq_decide.2 (by omega)]; simp_all <;> intros <;> omega)), rfl⟩ (fun w h => h.drop)
 ·
  have h1 : ¬ (at_ < x.r.m) := h1
  iterate 3 (refine WP.valG rfl rfl rfl rfl rfl rfl rfl (Val.move rfl rfl) ?_)
  refine WP.perm pl1 ?_
  refine WP.effG rfl rfl rfl rfl rfl rfl rfl (Eff.call rfl rfl Try.call61 (last_spec A at_ l hl (.slice (some ⟨b0, o0, none⟩) l.length c0) (.inl ⟨b0, o0, c0, rfl, hr⟩))) ?_
  rintro _ _ ⟨_, ⟨rfl, rfl⟩, rfl⟩
  show WP _ _ _ _ _ _ _ (_ :: Blk b1 [.int .i64 (x.r.m), .int .i64 (x.r.s), .int .i64 (x.c.m), .int .i64 (x.c.s), .int .i64 (x.v), .bool (x.g)] 47 :: _)
  refine WP.valG rfl rfl rfl rfl rfl rfl rfl (Val.eql rfl rfl rfl) ?_
  refine WP.valG rfl rfl rfl rfl rfl rfl rfl (Val.move rfl rfl) ?_
  refine WP.split 23 rfl (fun h2 => ?_) (fun h2 => ?_)
  ·
   have h2 : (((i : Nat) : Int) = (((lastN l at_ l.length : Nat) : Int) - 1)) := h2
   refine WP.valG rfl rfl rfl rfl rfl rfl rfl (Val.fieldAddr (j := 5) rfl Ty.fo47_3 rfl rfl) ?_
   refine WP.valG rfl rfl rfl rfl rfl rfl rfl (Val.load rfl Ty.sc4 rfl (fun w h => h.cell 1 rfl rfl)) ?_
   refine WP.valG rfl rfl rfl rfl rfl rfl rfl (Val.not rfl rfl) ?_
   refine WP.valG rfl rfl rfl rfl rfl rfl rfl (Val.move rfl rfl) ?_
   refine WP.splitB 27 rfl (fun h3 => ?_) (fun h3 => ?_)
   ·
    iterate 5 (refine WP.skip rfl rfl rfl rfl rfl rfl rfl ?_)
    refine WP.valG rfl rfl rfl rfl rfl rfl rfl (Val.pickT rfl rfl rfl) ?_
    refine WP.valG rfl rfl rfl rfl rfl rfl rfl (Val.pickT rfl rfl rfl) ?_
    refine WP.val rfl rfl rfl (Val.pickF rfl rfl rfl) ?_
    refine WP.val rfl rfl rfl (Val.assign rfl rfl) ?_
    refine WP.nx ?_
    refine WPc.ret ?_
    refine Out.perm pl1 ?_
    exact Out.ret1 (L' := _) Try.results30 rfl ⟨congrArg Value.bool (show _ = stays l at_ i x by (unfold stays; rw [show decide (i + 1 = lastN l at_ l.length) = decide (((i : Nat) : Int) = ((lastN l at_ l.length : Nat) : Int) - 1) from decide_eq_decide.2 (by omega)]; simp_all <;> intros <;> omega)), rfl⟩ (fun w h => h.drop)
   ·
    refine WP.valG rfl rfl rfl rfl rfl rfl rfl (Val.fieldAddr (j := 0) rfl Ty.fo47_0 rfl rfl) ?_
    refine WP.valG rfl rfl rfl rfl rfl rfl rfl (Val.fieldAddr (j := 0) rfl Ty.fo32_0 rfl rfl) ?_
    refine WP.valG rfl rfl rfl rfl rfl rfl rfl (Val.load rfl Ty.sc2 rfl (fun w h => h.cell 1 rfl rfl)) ?_
    refine WP.valG rfl rfl rfl rfl rfl rfl rfl (Val.move rfl rfl) ?_
    refine WP.valG rfl rfl rfl rfl rfl rfl rfl (Val.eql rfl rfl rfl) ?_
    refine WP.valG rfl rfl rfl rfl rfl rfl rfl (Val.pickF rfl rfl rfl) ?_
    refine WP.valG rfl rfl rfl rfl rfl rfl rfl (Val.pickT rfl rfl rfl) ?_
    refine WP.val rfl rfl rfl (Val.pickF rfl rfl rfl) ?_
    refine WP.val rfl rfl rfl (Val.assign rfl rfl) ?_
    refine WP.nx ?_
    refine WPc.ret ?_
    refine Out.perm pl1 ?_
    exact Out.ret1 (L' := _) Try.results30 rfl ⟨congrArg Value.bool (show _ = stays l at_ i x by (unfold stays; rw [show decide (i + 1 = lastN l at_ l.length) = decide (((i : Nat) : Int) = ((lastN l at_ l.length : Nat) : Int) - 1) from decide_eq_decide.2 (by omega)]; simp_all <;> intros <;> omega)), rfl⟩ (fun w h => h.drop)
  ·
   have h2 : ¬ (((i : Nat) : Int) = (((lastN l at_ l.length : Nat) : Int) - 1)) := h2
   iterate 4 (refine WP.skip rfl rfl rfl rfl rfl rfl rfl ?_)
   iterate 5 (refine WP.skipU rfl rfl rfl rfl rfl rfl ?_)
   refine WP.skip rfl rfl rfl rfl rfl rfl rfl ?_
   refine WP.valG rfl rfl rfl rfl rfl rfl rfl (Val.pickF rfl rfl rfl) ?_
   refine WP.val rfl rfl rfl (Val.pickF rfl rfl rfl) ?_
   refine WP.val rfl rfl rfl (Val.assign rfl rfl) ?_
   refine WP.nx ?_
   refine WPc.ret ?_
   refine Out.perm pl1 ?_
   exact Out.ret1 (L' := _) Try.results30 rfl ⟨congrArg Value.bool (show _ = stays l at_ i x by (unfold stays; rw [show decide (i + 1 = lastN l at_ l.length) = decide (((i : Nat) : Int) = ((lastN l at_ l.length : Nat) : Int) - 1) from decide_eq_decide.2 (by omega)]; simp_all <;> intros <;> omega)), rfl⟩ (fun w h => h.drop)
theorem stays_spec (A : HProp) (at_ : Int) (l : List Vn) (hl : l.length ≤ 100000) (va : Value) (hva : Rd A 6 Vn.cells va l) (i : Nat) (x : Vn) (hx : l[i]? = some x) : Does Try.prog 30 [va, .int .i64 ((i : Nat) : Int), .int .i64 at_] [A] (fun v L => v = .bool (stays l at_ i x) ∧ L = [A]) := by
 rcases hva with ⟨b0, o0, c0, rfl, hr⟩ | ⟨rfl, a, c, rfl⟩
 ·
  exact stays_row A at_ l hl b0 o0 c0 hr i x hx
 ·
  simp at hx
set_option maxRecDepth 100000 in
set_option maxHeartbeats 1000000 in
theorem holds_nil (A : HProp) (at_ : Int) (a : Option Addr) (c : Nat) : Does Try.prog 59 [.slice a 0 c, .int .i64 (at_)] [A] (fun v L => v = .tuple #[vk ((holdsV ([] : List Vn) at_).getD Vn0), .bool (holdsV ([] : List Vn) at_).isSome] ∧ L = [A]) := by
 refine Does.enter 24 Try.func59 rfl rfl rfl fun W F => ?_
 show WPc _ _ _ _ _ [(0, .slice a 0 c), (1, .int .i64 (at_))] (A :: F)
 refine WPc.sr ?_
 refine WP.eff rfl rfl rfl (Eff.alloc rfl Ty.z47) ?_
 rintro _ _ ⟨b1, rfl, rfl⟩
 refine WP.val rfl rfl rfl (Val.assign rfl rfl) ?_
 refine WP.nx ?_
 refine WPc.sr ?_
 refine WP.val rfl rfl rfl (Val.move rfl rfl) ?_
 refine WP.val rfl rfl rfl (Val.move rfl rfl) ?_
 refine WP.perm pl1 ?_
 refine WP.eff rfl rfl rfl (Eff.call rfl rfl Try.call61 (last_spec A at_ [] (by simp) (.slice a 0 c) (.inr ⟨rfl, a, c, rfl⟩))) ?_
 rintro _ _ ⟨_, ⟨rfl, rfl⟩, rfl⟩
 show WP _ _ _ _ _ _ _ (_ :: Blk b1 [.int .i64 0, .int .i64 0, .int .i64 0, .int .i64 0, .int .i64 0, .bool false] 47 :: _)
 refine WP.val rfl rfl rfl (Val.assign rfl rfl) ?_
 refine WP.nx ?_
 refine WPc.seq ?_
 refine WPc.sr ?_
 refine WP.val rfl rfl rfl (Val.move rfl rfl) ?_
 refine WP.val rfl rfl rfl (Val.lss rfl rfl rfl) ?_
 refine WP.val rfl rfl rfl (Val.move rfl rfl) ?_
 refine WP.split 12 rfl (fun h1 => ?_) (fun h1 => ?_)
 ·
  have h1 : ((-1 : Int) < (0 : Int)) := h1
  iterate 5 (refine WP.skip rfl rfl rfl rfl rfl rfl rfl ?_)
  refine WP.val rfl rfl rfl (Val.pickT rfl rfl rfl) ?_
  refine WP.nx ?_
  refine WPc.condT rfl rfl ?_
  refine WPc.sr ?_
  refine WP.val rfl rfl rfl (Val.mk (cs := [.int .i64 0, .int .i64 0, .int .i64 0, .int .i64 0, .int .i64 0, .bool false]) rfl rfl (fun _ => by kernel_rfl)) ?_
  refine WP.perm pl1 ?_
  refine WP.eff0 rfl rfl (Eff.storeAgg (cs := [.int .i64 0, .int .i64 0, .int .i64 0, .int .i64 0, .int .i64 0, .bool false]) (C' := [.int .i64 0, .int .i64 0, .int .i64 0, .int .i64 0, .int .i64 0, .bool false]) rfl Ty.ag47 rfl rfl rfl rfl (by simp) rfl) ?_
  rintro _ _ rfl
  refine WP.val rfl rfl rfl (Val.assign rfl rfl) ?_
  refine WP.nx ?_
  refine WPc.ret ?_
  refine Out.then_ret ?_
  exact Out.retRun (L' := _) (results_ct (cs := [.int .i64 0, .int .i64 0, .int .i64 0, .int .i64 0, .int .i64 0, .bool false]) Try.results59 rfl Ty.ag47 rfl rfl (fun w h => h.range 0 rfl rfl)) ⟨by rw [holds_no (l := []) rfl]; first | rfl | (simp_all [Vn0, Rv0, vk]), rfl⟩ (fun w h => h.drop)
 ·
  have h1 : ¬ ((-1 : Int) < (0 : Int)) := h1
  exfalso; omega

set_option maxRecDepth 100000 in
set_option maxHeartbeats 1000000 in
theorem holds_row (A : HProp) (at_ : Int) (l : List Vn) (hl : l.length ≤ 100000) (b0 o0 c0 : Nat) (hr : ∀ w, Holds A w → ∀ i x, l[i]? = some x → w.rangeAt b0 (o0 + i * 6) (Vn.cells x)) : Does Try.prog 59 [.slice (some ⟨b0, o0, none⟩) l.length c0, .int .i64 (at_)] [A] (fun v L => v = .tuple #[vk ((holdsV l at_).getD Vn0), .bool (holdsV l at_).isSome] ∧ L = [A]) := by
 refine Does.enter 24 Try.func59 rfl rfl rfl fun W F => ?_
 show WPc _ _ _ _ _ [(0, .slice (some ⟨b0, o0, none⟩) l.length c0), (1, .int .i64 (at_))] (A :: F)
 refine WPc.sr ?_
 refine WP.eff rfl rfl rfl (Eff.alloc rfl Ty.z47) ?_
 rintro _ _ ⟨b1, rfl, rfl⟩
 refine WP.val rfl rfl rfl (Val.assign rfl rfl) ?_
 refine WP.nx ?_
 refine WPc.sr ?_
 refine WP.val rfl rfl rfl (Val.move rfl rfl) ?_
 refine WP.val rfl rfl rfl (Val.move rfl rfl) ?_
 refine WP.perm pl1 ?_
 refine WP.eff rfl rfl rfl (Eff.call rfl rfl Try.call61 (last_spec A at_ l hl (.slice (some ⟨b0, o0, none⟩) l.length c0) (.inl ⟨b0, o0, c0, rfl, hr⟩))) ?_
 rintro _ _ ⟨_, ⟨rfl, rfl⟩, rfl⟩
 show WP _ _ _ _ _ _ _ (_ :: Blk b1 [.int .i64 0, .int .i64 0, .int .i64 0, .int .i64 0, .int .i64 0, .bool false] 47 :: _)
 refine WP.val rfl rfl rfl (Val.assign rfl rfl) ?_
 refine WP.nx ?_
 refine WPc.seq ?_
 refine WPc.sr ?_
 refine WP.val rfl rfl rfl (Val.move rfl rfl) ?_
 refine WP.val rfl rfl rfl (Val.lss rfl rfl rfl) ?_
 refine WP.val rfl rfl rfl (Val.move rfl rfl) ?_
 refine WP.split 12 rfl (fun h1 => ?_) (fun h1 => ?_)
 ·
  have h1 : ((((lastN l at_ l.length : Nat) : Int) - 1) < (0 : Int)) := h1
  iterate 5 (refine WP.skip rfl rfl rfl rfl rfl rfl rfl ?_)
  refine WP.val rfl rfl rfl (Val.pickT rfl rfl rfl) ?_
  refine WP.nx ?_
  refine WPc.condT rfl rfl ?_
  refine WPc.sr ?_
  refine WP.val rfl rfl rfl (Val.mk (cs := [.int .i64 0, .int .i64 0, .int .i64 0, .int .i64 0, .int .i64 0, .bool false]) rfl rfl (fun _ => by kernel_rfl)) ?_
  refine WP.perm pl1 ?_
  refine WP.eff0 rfl rfl (Eff.storeAgg (cs := [.int .i64 0, .int .i64 0, .int .i64 0, .int .i64 0, .int .i64 0, .bool false]) (C' := [.int .i64 0, .int .i64 0, .int .i64 0, .int .i64 0, .int .i64 0, .bool false]) rfl Ty.ag47 rfl rfl rfl rfl (by simp) rfl) ?_
  rintro _ _ rfl
  refine WP.val rfl rfl rfl (Val.assign rfl rfl) ?_
  refine WP.nx ?_
  refine WPc.ret ?_
  refine Out.then_ret ?_
  exact Out.retRun (L' := _) (results_ct (cs := [.int .i64 0, .int .i64 0, .int .i64 0, .int .i64 0, .int .i64 0, .bool false]) Try.results59 rfl Ty.ag47 rfl rfl (fun w h => h.range 0 rfl rfl)) ⟨by rw [holds_no (by omega)]; first | rfl | (simp_all [Vn0, Rv0, vk]), rfl⟩ (fun w h => h.drop)
 ·
  have h1 : ¬ ((((lastN l at_ l.length : Nat) : Int) - 1) < (0 : Int)) := h1
  obtain ⟨k, hk⟩ : ∃ k, lastN l at_ l.length = k + 1 := ⟨lastN l at_ l.length - 1, by omega⟩
  have hkl := lastN_le l at_ l.length
  refine WP.know 6 (.int .i64 ((k : Nat) : Int)) rfl (congrArg (Value.int .i64) (by omega)) ?_
  have hlt : k < l.length := by omega
  obtain ⟨x, hx⟩ : ∃ x, l[k]? = some x := ⟨_, List.getElem?_eq_getElem hlt⟩
  refine WP.valG rfl rfl rfl rfl rfl rfl rfl (Val.move rfl rfl) ?_
  refine WP.valG rfl rfl rfl rfl rfl rfl rfl (Val.move rfl rfl) ?_
  refine WP.valG rfl rfl rfl rfl rfl rfl rfl (Val.indexAddr (j := k) (q := o0 + k * 6) rfl Ty.sl23 rfl rfl (by omega) (by omega) (by omega)) ?_
  refine WP.valG rfl rfl rfl rfl rfl rfl rfl (Val.fieldAddr (j := o0 + k * 6 + 5) rfl Ty.fo47_3 rfl rfl) ?_
  refine WP.valG rfl rfl rfl rfl rfl rfl rfl (Val.load (v := .bool (x.g)) rfl Ty.sc4 rfl (fun w h => hr w (h.at 0 rfl) k x hx 5 _ rfl)) ?_
  refine WP.val rfl rfl rfl (Val.pickF rfl rfl rfl) ?_
  refine WP.nx ?_
  refine WPc.cond rfl (fun h2 => ?_) (fun h2 => ?_)
  ·
   have h2 : (x.g) = true := h2
   refine WPc.sr ?_
   refine WP.val rfl rfl rfl (Val.mk (cs := [.int .i64 0, .int .i64 0, .int .i64 0, .int .i64 0, .int .i64 0, .bool false]) rfl rfl (fun _ => by kernel_rfl)) ?_
   refine WP.perm pl1 ?_
   refine WP.eff0 rfl rfl (Eff.storeAgg (cs := [.int .i64 0, .int .i64 0, .int .i64 0, .int .i64 0, .int .i64 0, .bool false]) (C' := [.int .i64 0, .int .i64 0, .int .i64 0, .int .i64 0, .int .i64 0, .bool false]) rfl Ty.ag47 rfl rfl rfl rfl (by simp) rfl) ?_
   rintro _ _ rfl
   refine WP.val rfl rfl rfl (Val.assign rfl rfl) ?_
   refine WP.nx ?_
   refine WPc.ret ?_
   refine Out.then_ret ?_
   exact Out.retRun (L' := _) (results_ct (cs := [.int .i64 0, .int .i64 0, .int .i64 0, .int .i64 0, .int .i64 0, .bool false]) Try.results59 rfl Ty.ag47 rfl rfl (fun w h => h.range 0 rfl rfl)) ⟨by rw [holds_at hk hx]; first | rfl | (simp_all [Vn0, Rv0, vk]), rfl⟩ (fun w h => h.drop)
  ·
   have h2 : (x.g) = false := h2
   refine WPc.skip ?_
   refine Out.next ?_
   refine WPc.sr ?_
   refine WP.val rfl rfl rfl (Val.move rfl rfl) ?_
   refine WP.val rfl rfl rfl (Val.move rfl rfl) ?_
   refine WP.val rfl rfl rfl (Val.indexAddr (j := k) (q := o0 + k * 6) rfl Ty.sl23 rfl rfl (by omega) (by omega) (by omega)) ?_
   refine WP.val rfl rfl rfl (Val.loadAgg (cs := (Vn.cells x)) rfl Ty.ag47 rfl (by rfl) (fun w h => hr w (h.at 0 rfl) k x hx)) ?_
   refine WP.perm pl1 ?_
   refine WP.eff0 rfl rfl (Eff.storeAgg (cs := [.int .i64 (x.r.m), .int .i64 (x.r.s), .int .i64 (x.c.m), .int .i64 (x.c.s), .int .i64 (x.v), .bool (x.g)]) (C' := [.int .i64 (x.r.m), .int .i64 (x.r.s), .int .i64 (x.c.m), .int .i64 (x.c.s), .int .i64 (x.v), .bool (x.g)]) rfl Ty.ag47 rfl rfl rfl rfl (by simp) rfl) ?_
   rintro _ _ rfl
   refine WP.val rfl rfl rfl (Val.assign rfl rfl) ?_
   refine WP.nx ?_
   refine WPc.ret ?_
   exact Out.retRun (L' := _) (results_ct (cs := [.int .i64 (x.r.m), .int .i64 (x.r.s), .int .i64 (x.c.m), .int .i64 (x.c.s), .int .i64 (x.v), .bool (x.g)]) Try.results59 rfl Ty.ag47 rfl rfl (fun w h => h.range 0 rfl rfl)) ⟨by rw [holds_at hk hx]; first | rfl | (simp_all [Vn0, Rv0, vk]), rfl⟩ (fun w h => h.drop)

theorem holds_spec (A : HProp) (at_ : Int) (l : List Vn) (hl : l.length ≤ 100000) (va : Value) (hva : Rd A 6 Vn.cells va l) : Does Try.prog 59 [va, .int .i64 (at_)] [A] (fun v L => v = .tuple #[vk ((holdsV l at_).getD Vn0), .bool (holdsV l at_).isSome] ∧ L = [A]) := by
 rcases hva with ⟨b0, o0, c0, rfl, hr⟩ | ⟨rfl, a, c, rfl⟩
 ·
  exact holds_row A at_ l hl b0 o0 c0 hr
 ·
  exact holds_nil A at_ a c

end Go.Proofs.Ythicijpjpijdjaa.Kc

namespace Go.Proofs.Ythicijpjpijdjaa.Kd
open Go.RowKit Go.Proofs.Ythicijpjpijdjaa Go.Proofs.Ythicijpjpijdjaa.Sl Go.Proofs.Ythicijpjpijdjaa.KyP Go.Proofs.Ythicijpjpijdjaa.Ka Go.Proofs.Ythicijpjpijdjaa.Kb Go.Proofs.Ythicijpjpijdjaa.Kc
set_option linter.unusedVariables false
set_option linter.unusedSimpArgs false
set_option linter.unusedSectionVars false


theorem vn_one (l : List Vn) : (flatOf Vn.cells l).all (·.oneCell') = true := by
 rw [List.all_eq_true]; intro v hv
 obtain ⟨x, -, hx⟩ := List.mem_flatMap.1 hv
 simp only [Vn.cells, List.mem_cons, List.not_mem_nil, or_false] at hx
 rcases hx with rfl | rfl | rfl | rfl | rfl | rfl <;> rfl
theorem rv_one (l : List Rv) : (flatOf Rv.cells l).all (·.oneCell') = true := by
 rw [List.all_eq_true]; intro v hv
 obtain ⟨x, -, hx⟩ := List.mem_flatMap.1 hv
 simp only [Rv.cells, List.mem_cons, List.not_mem_nil, or_false] at hx
 rcases hx with rfl | rfl <;> rfl
set_option maxRecDepth 100000 in
set_option maxHeartbeats 2000000 in
theorem ended_row (A : HProp) (l : List Vn) (hl : l.length ≤ 100000) (b0 o0 c0 : Nat) (hr : ∀ w, Holds A w → ∀ i x, l[i]? = some x → w.rangeAt b0 (o0 + i * 6) (Vn.cells x)) (x : Vn) (hx : l[l.length - 1]? = some x) (r : Rv) : Does Try.prog 58 [.slice (some ⟨b0, o0, none⟩) l.length c0, .agg #[.int .i64 (r.m), .int .i64 (r.s)]] [A] (fun v L => L = [Own 47 6 v (l ++ [endV x r]).length (flatOf Vn.cells (l ++ [endV x r])), A]) := by
 refine Does.enter 24 Try.func58 rfl rfl rfl fun W F => ?_
 show WPc _ _ _ _ _ [(0, .slice (some ⟨b0, o0, none⟩) l.length c0), (1, .agg #[.int .i64 (r.m), .int .i64 (r.s)])] (A :: F)
 refine WPc.sr ?_
 refine WP.eff rfl rfl rfl (Eff.box (C := [.int .i64 (r.m), .int .i64 (r.s)]) rfl rfl rfl) ?_
 rintro _ _ ⟨b1, rfl, rfl⟩
 refine WP.val rfl rfl rfl (Val.assign rfl rfl) ?_
 refine WP.nx ?_
 refine WPc.seq ?_
 have hlt : l.length - 1 < l.length := (List.getElem?_eq_some_iff.1 hx).1
 refine WPc.region ?_
 refine WP.val rfl rfl rfl (Val.move rfl rfl) ?_
 refine WP.val rfl rfl rfl (Val.move rfl rfl) ?_
 refine WP.val rfl rfl rfl (Val.len rfl Ty.sl23 rfl) ?_
 refine WP.val rfl rfl rfl (Val.sub (z := ((l.length - 1 : Nat) : Int)) rfl rfl rfl ((w64 (by omega) (by omega)).trans (by omega))) ?_
 refine WP.val rfl rfl rfl (Val.indexAddr (j := l.length - 1) (q := o0 + (l.length - 1) * 6) rfl Ty.sl23 rfl rfl (by omega) (by omega) (by omega)) ?_
 refine WP.val rfl rfl rfl (Val.loadAgg (cs := [.int .i64 (x.r.m), .int .i64 (x.r.s), .int .i64 (x.c.m), .int .i64 (x.c.s), .int .i64 (x.v), .bool (x.g)]) rfl Ty.ag47 rfl (by rfl) (fun w h => hr w (h.at 1 rfl) (l.length - 1) x hx)) ?_
 refine WP.eff rfl rfl rfl (Eff.alloc rfl Ty.z47) ?_
 rintro _ _ ⟨b2, rfl, rfl⟩
 refine WP.eff0 rfl rfl (Eff.storeAgg (cs := [.int .i64 (x.r.m), .int .i64 (x.r.s), .int .i64 (x.c.m), .int .i64 (x.c.s), .int .i64 (x.v), .bool (x.g)]) (C' := [.int .i64 (x.r.m), .int .i64 (x.r.s), .int .i64 (x.c.m), .int .i64 (x.c.s), .int .i64 (x.v), .bool (x.g)]) rfl Ty.ag47 rfl rfl rfl rfl (by simp) rfl) ?_
 rintro _ _ rfl
 refine WP.nx ?_
 refine WPc.seq ?_
 refine WPD.start (Sat W [Blk b1 [.int .i64 (r.m), .int .i64 (r.s)] 32, Blk b2 [.int .i64 (x.r.m), .int .i64 (x.r.s), .int .i64 (x.c.m), .int .i64 (x.c.s), .int .i64 (x.v), .bool (x.g)] 47]) Ty.mixed ?_
 refine WPD.tS 1 rfl rfl rfl rfl (fun w h => ((h.perm pl1)).dropEnd (L := [_, _])) (Val.move rfl rfl) ?_
 refine WPD.tL 3 rfl rfl rfl rfl (fun w h => ((h.perm pl1)).dropEnd (L := [_, _])) (Val.loadAgg (cs := [.int .i64 (r.m), .int .i64 (r.s)]) rfl Ty.ag32 rfl rfl (fun w h => h.range 0 rfl rfl)) ?_
 refine WPD.tS 4 rfl rfl rfl rfl (fun w h => ((h.perm pl1)).dropEnd (L := [_, _])) (Val.fieldAddr (j := 2) rfl Ty.fo47_1 rfl rfl) ?_
 refine WPD.tL 5 rfl rfl rfl rfl (fun w h => ((h.perm pl1)).dropEnd (L := [_, _])) (Val.loadAgg (cs := [.int .i64 (x.c.m), .int .i64 (x.c.s)]) rfl Ty.ag32 rfl rfl (fun w h => h.range 1 rfl rfl)) ?_
 refine WPD.tS 6 rfl rfl rfl rfl (fun w h => ((h.perm pl1)).dropEnd (L := [_, _])) (Val.fieldAddr (j := 4) rfl Ty.fo47_2 rfl rfl) ?_
 refine WPD.tL 7 rfl rfl rfl rfl (fun w h => ((h.perm pl1)).dropEnd (L := [_, _])) (Val.load rfl Ty.sc2 rfl (fun w h => h.cell 1 rfl rfl)) ?_
 refine WPD.tS 8 rfl rfl rfl rfl (fun w h => ((h.perm pl1)).dropEnd (L := [_, _])) (Val.add (z := nx x.v) rfl rfl rfl rfl) ?_
 refine WPD.tS 9 rfl rfl rfl rfl (fun w h => ((h.perm pl1)).dropEnd (L := [_, _])) (Val.mk (cs := [.int .i64 (r.m), .int .i64 (r.s), .int .i64 (x.c.m), .int .i64 (x.c.s), .int .i64 (nx x.v), .bool true]) rfl rfl (fun _ => by kernel_rfl)) ?_
 refine WPD.pick2 0 10 (by kernel_rfl) ?_ ?_
 ·
  refine WPO.step rfl rfl rfl rfl (Eff.mkSlice (C := []) rfl Ty.sl23 rfl (fun _ => by kernel_rfl)) ?_
  rintro _ _ ⟨b3, rfl, rfl⟩
  refine ⟨(fun w h => (((h.perm pl1).perm pl2)).dropEnd (L := [_, _])), ?_⟩
  refine WPD.conv (fun w h => Sat.ownMk (e := 47) (k := 6) (b := b3) (m := 0) (cap := 0) (xs := []) (sp := []) (by exact h) (Nat.le_refl _) rfl rfl (by decide)) ?_
  show WPD _ _ _ _ _ _ _ _ _ (Own 47 6 (.slice (some ⟨b3, 0, none⟩) 0 0) 0 ([]) :: Blk b2 [.int .i64 (x.r.m), .int .i64 (x.r.s), .int .i64 (x.c.m), .int .i64 (x.c.s), .int .i64 (x.v), .bool (x.g)] 47 :: Blk b1 [.int .i64 (r.m), .int .i64 (r.s)] 32 :: _)
  refine WPD.pick2 2 10 (by kernel_rfl) ?_ ?_
  ·
   refine WPO.step rfl rfl rfl rfl (Eff.append (m := l.length) (n0 := 0) (news := flatOf Vn.cells l) rfl Ty.sl23 Ty.z47 rfl rfl rfl (Srcs.rd Ty.sl23 Vn.len (vn_one l) hr 3 rfl) (by omega) (by omega)) ?_
   rintro v4 _ ⟨onev4, rfl⟩
   refine ⟨(fun w h => (((h.perm pl1).perm pl2)).dropEnd (L := [_, _])), ?_⟩
   refine WPD.step 10 (by kernel_rfl) rfl rfl rfl rfl (Eff.mkSlice (C := [.int .i64 (r.m), .int .i64 (r.s), .int .i64 (x.c.m), .int .i64 (x.c.s), .int .i64 (nx x.v), .bool true]) rfl Ty.sl23 rfl (fun _ => by kernel_rfl)) ?_
   rintro _ _ ⟨b5, rfl, rfl⟩
   refine ⟨(fun w h => (((h.perm pl2).perm pl3)).dropEnd (L := [_, _])), ?_⟩
   refine WPD.perm pl1 ?_
   refine WPD.stepC 11 (by kernel_rfl) rfl rfl rfl rfl (by kernel_rfl) (Eff.append (m := 1) (n0 := 0 + l.length) (news := [.int .i64 (r.m), .int .i64 (r.s), .int .i64 (x.c.m), .int .i64 (x.c.s), .int .i64 (nx x.v), .bool true]) rfl Ty.sl23 Ty.z47 rfl rfl rfl (.slice Ty.sl23 rfl rfl (fun w h => cells_range (h.range 1 rfl rfl))) (by omega) (by omega)) ?_
   rintro v6 _ ⟨onev6, rfl⟩
   refine ⟨_, (fun _ h => h), ?_⟩
   refine WPD.tM 12 rfl rfl rfl rfl (Val.assign rfl rfl) ?_
   refine WPD.done (by kernel_rfl) ?_
   refine Out.next ?_
   refine WPc.ret ?_
   iterate 3 (refine Out.perm pl1 ?_; refine Out.drop ?_)
   exact Out.ret1 (L' := _) Try.results58 rfl rfl (fun w h => by rw [flatOf_append, flatOf_one, List.length_append]; simp only [Nat.zero_add] at h; exact h)
  ·
   refine WPO.step rfl rfl rfl rfl (Eff.mkSlice (C := [.int .i64 (r.m), .int .i64 (r.s), .int .i64 (x.c.m), .int .i64 (x.c.s), .int .i64 (nx x.v), .bool true]) rfl Ty.sl23 rfl (fun _ => by kernel_rfl)) ?_
   rintro _ _ ⟨b7, rfl, rfl⟩
   refine ⟨(fun w h => (((h.perm pl2).perm pl3)).dropEnd (L := [_, _])), ?_⟩
   refine WPD.perm pl1 ?_
   refine WPD.step 2 (by kernel_rfl) rfl rfl rfl rfl (Eff.append (m := l.length) (n0 := 0) (news := flatOf Vn.cells l) rfl Ty.sl23 Ty.z47 rfl rfl rfl (Srcs.rd Ty.sl23 Vn.len (vn_one l) hr 4 rfl) (by omega) (by omega)) ?_
   rintro v8 _ ⟨onev8, rfl⟩
   refine ⟨(fun w h => (((h.perm pl2).perm pl3)).dropEnd (L := [_, _])), ?_⟩
   refine WPD.stepC 11 (by kernel_rfl) rfl rfl rfl rfl (by kernel_rfl) (Eff.append (m := 1) (n0 := 0 + l.length) (news := [.int .i64 (r.m), .int .i64 (r.s), .int .i64 (x.c.m), .int .i64 (x.c.s), .int .i64 (nx x.v), .bool true]) rfl Ty.sl23 Ty.z47 rfl rfl rfl (.slice Ty.sl23 rfl rfl (fun w h => cells_range (h.range 1 rfl rfl))) (by omega) (by omega)) ?_
   rintro v9 _ ⟨onev9, rfl⟩
   refine ⟨_, (fun _ h => h), ?_⟩
   refine WPD.tM 12 rfl rfl rfl rfl (Val.assign rfl rfl) ?_
   refine WPD.done (by kernel_rfl) ?_
   refine Out.next ?_
   refine WPc.ret ?_
   iterate 3 (refine Out.perm pl1 ?_; refine Out.drop ?_)
   exact Out.ret1 (L' := _) Try.results58 rfl rfl (fun w h => by rw [flatOf_append, flatOf_one, List.length_append]; simp only [Nat.zero_add] at h; exact h)
 ·
  refine WPO.step rfl rfl rfl rfl (Eff.mkSlice (C := [.int .i64 (r.m), .int .i64 (r.s), .int .i64 (x.c.m), .int .i64 (x.c.s), .int .i64 (nx x.v), .bool true]) rfl Ty.sl23 rfl (fun _ => by kernel_rfl)) ?_
  rintro _ _ ⟨b10, rfl, rfl⟩
  refine ⟨(fun w h => (((h.perm pl1).perm pl2)).dropEnd (L := [_, _])), ?_⟩
  refine WPD.step 0 (by kernel_rfl) rfl rfl rfl rfl (Eff.mkSlice (C := []) rfl Ty.sl23 rfl (fun _ => by kernel_rfl)) ?_
  rintro _ _ ⟨b11, rfl, rfl⟩
  refine ⟨(fun w h => (((h.perm pl2).perm pl3)).dropEnd (L := [_, _])), ?_⟩
  refine WPD.conv (fun w h => Sat.ownMk (e := 47) (k := 6) (b := b11) (m := 0) (cap := 0) (xs := []) (sp := []) (by exact h) (Nat.le_refl _) rfl rfl (by decide)) ?_
  show WPD _ _ _ _ _ _ _ _ _ (Own 47 6 (.slice (some ⟨b11, 0, none⟩) 0 0) 0 ([]) :: Blk b10 [.int .i64 (r.m), .int .i64 (r.s), .int .i64 (x.c.m), .int .i64 (x.c.s), .int .i64 (nx x.v), .bool true] 47 :: Blk b2 [.int .i64 (x.r.m), .int .i64 (x.r.s), .int .i64 (x.c.m), .int .i64 (x.c.s), .int .i64 (x.v), .bool (x.g)] 47 :: Blk b1 [.int .i64 (r.m), .int .i64 (r.s)] 32 :: _)
  refine WPD.step 2 (by kernel_rfl) rfl rfl rfl rfl (Eff.append (m := l.length) (n0 := 0) (news := flatOf Vn.cells l) rfl Ty.sl23 Ty.z47 rfl rfl rfl (Srcs.rd Ty.sl23 Vn.len (vn_one l) hr 4 rfl) (by omega) (by omega)) ?_
  rintro v12 _ ⟨onev12, rfl⟩
  refine ⟨(fun w h => (((h.perm pl2).perm pl3)).dropEnd (L := [_, _])), ?_⟩
  refine WPD.stepC 11 (by kernel_rfl) rfl rfl rfl rfl (by kernel_rfl) (Eff.append (m := 1) (n0 := 0 + l.length) (news := [.int .i64 (r.m), .int .i64 (r.s), .int .i64 (x.c.m), .int .i64 (x.c.s), .int .i64 (nx x.v), .bool true]) rfl Ty.sl23 Ty.z47 rfl rfl rfl (.slice Ty.sl23 rfl rfl (fun w h => cells_range (h.range 1 rfl rfl))) (by omega) (by omega)) ?_
  rintro v13 _ ⟨onev13, rfl⟩
  refine ⟨_, (fun _ h => h), ?_⟩
  refine WPD.tM 12 rfl rfl rfl rfl (Val.assign rfl rfl) ?_
  refine WPD.done (by kernel_rfl) ?_
  refine Out.next ?_
  refine WPc.ret ?_
  iterate 3 (refine Out.perm pl1 ?_; refine Out.drop ?_)
  exact Out.ret1 (L' := _) Try.results58 rfl rfl (fun w h => by rw [flatOf_append, flatOf_one, List.length_append]; simp only [Nat.zero_add] at h; exact h)

end Go.Proofs.Ythicijpjpijdjaa.Kd

namespace Go.Proofs.Ythicijpjpijdjaa.Ke
open Go.RowKit Go.Proofs.Ythicijpjpijdjaa Go.Proofs.Ythicijpjpijdjaa.Sl Go.Proofs.Ythicijpjpijdjaa.KyP Go.Proofs.Ythicijpjpijdjaa.Ka Go.Proofs.Ythicijpjpijdjaa.Kb Go.Proofs.Ythicijpjpijdjaa.Kc Go.Proofs.Ythicijpjpijdjaa.Kd
set_option linter.unusedVariables false
set_option linter.unusedSimpArgs false
set_option linter.unusedSectionVars false


theorem Srcs.z {P : Program} {W : World} {L : List HProp} {k c k' b' : Nat} {tx e' : TypeId} {a : Option Addr} (hk : slcE P tx = some (e', k', b')) : Srcs P W L k tx (.slice a 0 c) 0 [] := by
 cases a with
 | none => exact Srcs.nil hk
 | some p => exact Srcs.slice hk (by simp) rfl (fun w h j u hj => by simp at hj)
theorem lives_get {l : List Vn} (h : lives l = true) : ∃ x, l[l.length - 1]? = some x ∧ x.g = false ∧ l.length - 1 < l.length := by
 unfold lives at h
 cases hx : l[l.length - 1]? with
 | none => rw [hx] at h; cases h
 | some x => rw [hx] at h; exact ⟨x, rfl, by simpa using h, (List.getElem?_eq_some_iff.1 hx).1⟩
theorem putV_go {l : List Vn} {x : Vn} (r : Rv) (hx : l[l.length - 1]? = some x) (hg : x.g = false) : putV l r = ⟨r, x.c, nx x.v, false⟩ := by unfold putV; rw [hx]; dsimp only; rw [hg]; rfl
theorem putV_new {l : List Vn} (r : Rv) (h : lives l = false) : putV l r = ⟨r, r, 1, false⟩ := by
 unfold lives at h; unfold putV
 cases hx : l[l.length - 1]? with
 | none => rfl
 | some x => rw [hx] at h; dsimp only at h ⊢; cases hg : x.g with
  | true => rfl
  | false => rw [hg] at h; cases h
set_option maxRecDepth 100000 in
set_option maxHeartbeats 1000000 in
theorem written_nil (A : HProp) (r : Rv) (a : Option Addr) (c : Nat) : Does Try.prog 57 [.slice a 0 c, .agg #[.int .i64 (r.m), .int .i64 (r.s)]] [A] (fun v L => L = [Own 47 6 v (([] : List Vn) ++ [putV ([] : List Vn) r]).length (flatOf Vn.cells (([] : List Vn) ++ [putV ([] : List Vn) r])), A]) := by
 refine Does.enter 34 Try.func57 rfl rfl rfl fun W F => ?_
 show WPc _ _ _ _ _ [(0, .slice a 0 c), (1, .agg #[.int .i64 (r.m), .int .i64 (r.s)])] (A :: F)
 refine WPc.sr ?_
 refine WP.eff rfl rfl rfl (Eff.box (C := [.int .i64 (r.m), .int .i64 (r.s)]) rfl rfl rfl) ?_
 rintro _ _ ⟨b1, rfl, rfl⟩
 refine WP.val rfl rfl rfl (Val.assign rfl rfl) ?_
 refine WP.nx ?_
 refine WPc.sr ?_
 refine WP.val rfl rfl rfl (Val.loadAgg (cs := [.int .i64 (r.m), .int .i64 (r.s)]) rfl Ty.ag32 rfl rfl (fun w h => h.range 0 rfl rfl)) ?_
 refine WP.val rfl rfl rfl (Val.loadAgg (cs := [.int .i64 (r.m), .int .i64 (r.s)]) rfl Ty.ag32 rfl rfl (fun w h => h.range 0 rfl rfl)) ?_
 refine WP.val rfl rfl rfl (Val.mk (cs := [.int .i64 (r.m), .int .i64 (r.s), .int .i64 (r.m), .int .i64 (r.s), .int .i64 1, .bool false]) rfl rfl (fun _ => by kernel_rfl)) ?_
 refine WP.eff rfl rfl rfl (Eff.alloc rfl Ty.z47) ?_
 rintro _ _ ⟨b2, rfl, rfl⟩
 refine WP.eff0 rfl rfl (Eff.storeAgg (cs := [.int .i64 (r.m), .int .i64 (r.s), .int .i64 (r.m), .int .i64 (r.s), .int .i64 1, .bool false]) (C' := [.int .i64 (r.m), .int .i64 (r.s), .int .i64 (r.m), .int .i64 (r.s), .int .i64 1, .bool false]) rfl Ty.ag47 rfl rfl rfl rfl (by simp) rfl) ?_
 rintro _ _ rfl
 refine WP.nx ?_
 refine WPc.seq ?_
 refine WPc.sr ?_
 refine WP.val rfl rfl rfl (Val.move rfl rfl) ?_
 refine WP.perm pl2 ?_
 refine WP.eff rfl rfl rfl (Eff.call rfl rfl Try.call27 (lives_spec A [] (by simp) (.slice a 0 c) (.inr ⟨rfl, a, c, rfl⟩))) ?_
 rintro _ _ ⟨_, ⟨rfl, rfl⟩, rfl⟩
 show WP _ _ _ _ _ _ _ (_ :: Blk b2 [.int .i64 (r.m), .int .i64 (r.s), .int .i64 (r.m), .int .i64 (r.s), .int .i64 1, .bool false] 47 :: Blk b1 [.int .i64 (r.m), .int .i64 (r.s)] 32 :: _)
 refine WP.nx ?_
 refine WPc.condF rfl rfl ?_
 refine WPc.skip ?_
 refine Out.next ?_
 refine WPc.seq ?_
 refine WPD.start (Sat W [Blk b2 [.int .i64 (r.m), .int .i64 (r.s), .int .i64 (r.m), .int .i64 (r.s), .int .i64 1, .bool false] 47]) Ty.mixed ?_
 refine WPD.tS 1 rfl rfl rfl rfl (fun w h => ((h.perm pl1)).dropEnd (L := [_])) (Val.move rfl rfl) ?_
 refine WPD.tL 3 rfl rfl rfl rfl (fun w h => ((h.perm pl1)).dropEnd (L := [_])) (Val.loadAgg (cs := [.int .i64 (r.m), .int .i64 (r.s), .int .i64 (r.m), .int .i64 (r.s), .int .i64 1, .bool false]) rfl Ty.ag47 rfl rfl (fun w h => h.range 0 rfl rfl)) ?_
 refine WPD.pick2 0 4 (by kernel_rfl) ?_ ?_
 ·
  refine WPO.step rfl rfl rfl rfl (Eff.mkSlice (C := []) rfl Ty.sl23 rfl (fun _ => by kernel_rfl)) ?_
  rintro _ _ ⟨b3, rfl, rfl⟩
  refine ⟨(fun w h => ((h.perm pl2)).dropEnd (L := [_])), ?_⟩
  refine WPD.conv (fun w h => Sat.ownMk (e := 47) (k := 6) (b := b3) (m := 0) (cap := 0) (xs := []) (sp := []) (by exact h) (Nat.le_refl _) rfl rfl (by decide)) ?_
  show WPD _ _ _ _ _ _ _ _ _ (Own 47 6 (.slice (some ⟨b3, 0, none⟩) 0 0) 0 ([]) :: _)
  refine WPD.pick2 2 4 (by kernel_rfl) ?_ ?_
  ·
   refine WPO.step rfl rfl rfl rfl (Eff.append (m := 0) (n0 := 0) (news := []) rfl Ty.sl23 Ty.z47 rfl rfl rfl (Srcs.z Ty.sl23) (by omega) (by omega)) ?_
   rintro v4 _ ⟨onev4, rfl⟩
   refine ⟨(fun w h => ((h.perm pl2)).dropEnd (L := [_])), ?_⟩
   refine WPD.step 4 (by kernel_rfl) rfl rfl rfl rfl (Eff.mkSlice (C := [.int .i64 (r.m), .int .i64 (r.s), .int .i64 (r.m), .int .i64 (r.s), .int .i64 1, .bool false]) rfl Ty.sl23 rfl (fun _ => by kernel_rfl)) ?_
   rintro _ _ ⟨b5, rfl, rfl⟩
   refine ⟨(fun w h => ((h.perm pl3)).dropEnd (L := [_])), ?_⟩
   refine WPD.perm pl1 ?_
   refine WPD.stepC 5 (by kernel_rfl) rfl rfl rfl rfl (by kernel_rfl) (Eff.append (m := 1) (n0 := 0 + 0) (news := [.int .i64 (r.m), .int .i64 (r.s), .int .i64 (r.m), .int .i64 (r.s), .int .i64 1, .bool false]) rfl Ty.sl23 Ty.z47 rfl rfl rfl (.slice Ty.sl23 rfl rfl (fun w h => cells_range (h.range 1 rfl rfl))) (by omega) (by omega)) ?_
   rintro v6 _ ⟨onev6, rfl⟩
   refine ⟨_, (fun _ h => h), ?_⟩
   refine WPD.tM 6 rfl rfl rfl rfl (Val.assign rfl rfl) ?_
   refine WPD.done (by kernel_rfl) ?_
   refine Out.next ?_
   refine WPc.ret ?_
   refine Out.perm pl1 ?_
   refine Out.drop ?_
   refine Out.perm pl2 ?_
   refine Out.drop ?_
   refine Out.perm pl2 ?_
   refine Out.drop ?_
   exact Out.ret1 (L' := _) Try.results57 rfl rfl (fun w h => by rw [putV_new (l := []) r (by decide), flatOf_append, flatOf_one, List.length_append]; simp only [Nat.zero_add] at h; exact h)
  ·
   refine WPO.step rfl rfl rfl rfl (Eff.mkSlice (C := [.int .i64 (r.m), .int .i64 (r.s), .int .i64 (r.m), .int .i64 (r.s), .int .i64 1, .bool false]) rfl Ty.sl23 rfl (fun _ => by kernel_rfl)) ?_
   rintro _ _ ⟨b7, rfl, rfl⟩
   refine ⟨(fun w h => ((h.perm pl3)).dropEnd (L := [_])), ?_⟩
   refine WPD.perm pl1 ?_
   refine WPD.step 2 (by kernel_rfl) rfl rfl rfl rfl (Eff.append (m := 0) (n0 := 0) (news := []) rfl Ty.sl23 Ty.z47 rfl rfl rfl (Srcs.z Ty.sl23) (by omega) (by omega)) ?_
   rintro v8 _ ⟨onev8, rfl⟩
   refine ⟨(fun w h => ((h.perm pl3)).dropEnd (L := [_])), ?_⟩
   refine WPD.stepC 5 (by kernel_rfl) rfl rfl rfl rfl (by kernel_rfl) (Eff.append (m := 1) (n0 := 0 + 0) (news := [.int .i64 (r.m), .int .i64 (r.s), .int .i64 (r.m), .int .i64 (r.s), .int .i64 1, .bool false]) rfl Ty.sl23 Ty.z47 rfl rfl rfl (.slice Ty.sl23 rfl rfl (fun w h => cells_range (h.range 1 rfl rfl))) (by omega) (by omega)) ?_
   rintro v9 _ ⟨onev9, rfl⟩
   refine ⟨_, (fun _ h => h), ?_⟩
   refine WPD.tM 6 rfl rfl rfl rfl (Val.assign rfl rfl) ?_
   refine WPD.done (by kernel_rfl) ?_
   refine Out.next ?_
   refine WPc.ret ?_
   refine Out.perm pl1 ?_
   refine Out.drop ?_
   refine Out.perm pl2 ?_
   refine Out.drop ?_
   refine Out.perm pl2 ?_
   refine Out.drop ?_
   exact Out.ret1 (L' := _) Try.results57 rfl rfl (fun w h => by rw [putV_new (l := []) r (by decide), flatOf_append, flatOf_one, List.length_append]; simp only [Nat.zero_add] at h; exact h)
 ·
  refine WPO.step rfl rfl rfl rfl (Eff.mkSlice (C := [.int .i64 (r.m), .int .i64 (r.s), .int .i64 (r.m), .int .i64 (r.s), .int .i64 1, .bool false]) rfl Ty.sl23 rfl (fun _ => by kernel_rfl)) ?_
  rintro _ _ ⟨b10, rfl, rfl⟩
  refine ⟨(fun w h => ((h.perm pl2)).dropEnd (L := [_])), ?_⟩
  refine WPD.step 0 (by kernel_rfl) rfl rfl rfl rfl (Eff.mkSlice (C := []) rfl Ty.sl23 rfl (fun _ => by kernel_rfl)) ?_
  rintro _ _ ⟨b11, rfl, rfl⟩
  refine ⟨(fun w h => ((h.perm pl3)).dropEnd (L := [_])), ?_⟩
  refine WPD.conv (fun w h => Sat.ownMk (e := 47) (k := 6) (b := b11) (m := 0) (cap := 0) (xs := []) (sp := []) (by exact h) (Nat.le_refl _) rfl rfl (by decide)) ?_
  show WPD _ _ _ _ _ _ _ _ _ (Own 47 6 (.slice (some ⟨b11, 0, none⟩) 0 0) 0 ([]) :: Blk b10 [.int .i64 (r.m), .int .i64 (r.s), .int .i64 (r.m), .int .i64 (r.s), .int .i64 1, .bool false] 47 :: _)
  refine WPD.step 2 (by kernel_rfl) rfl rfl rfl rfl (Eff.append (m := 0) (n0 := 0) (news := []) rfl Ty.sl23 Ty.z47 rfl rfl rfl (Srcs.z Ty.sl23) (by omega) (by omega)) ?_
  rintro v12 _ ⟨onev12, rfl⟩
  refine ⟨(fun w h => ((h.perm pl3)).dropEnd (L := [_])), ?_⟩
  refine WPD.stepC 5 (by kernel_rfl) rfl rfl rfl rfl (by kernel_rfl) (Eff.append (m := 1) (n0 := 0 + 0) (news := [.int .i64 (r.m), .int .i64 (r.s), .int .i64 (r.m), .int .i64 (r.s), .int .i64 1, .bool false]) rfl Ty.sl23 Ty.z47 rfl rfl rfl (.slice Ty.sl23 rfl rfl (fun w h => cells_range (h.range 1 rfl rfl))) (by omega) (by omega)) ?_
  rintro v13 _ ⟨onev13, rfl⟩
  refine ⟨_, (fun _ h => h), ?_⟩
  refine WPD.tM 6 rfl rfl rfl rfl (Val.assign rfl rfl) ?_
  refine WPD.done (by kernel_rfl) ?_
  refine Out.next ?_
  refine WPc.ret ?_
  refine Out.perm pl1 ?_
  refine Out.drop ?_
  refine Out.perm pl2 ?_
  refine Out.drop ?_
  refine Out.perm pl2 ?_
  refine Out.drop ?_
  exact Out.ret1 (L' := _) Try.results57 rfl rfl (fun w h => by rw [putV_new (l := []) r (by decide), flatOf_append, flatOf_one, List.length_append]; simp only [Nat.zero_add] at h; exact h)

set_option maxRecDepth 100000 in
set_option maxHeartbeats 1000000 in
theorem written_row (A : HProp) (r : Rv) (l : List Vn) (hl : l.length ≤ 100000) (b0 o0 c0 : Nat) (hr : ∀ w, Holds A w → ∀ i x, l[i]? = some x → w.rangeAt b0 (o0 + i * 6) (Vn.cells x)) : Does Try.prog 57 [.slice (some ⟨b0, o0, none⟩) l.length c0, .agg #[.int .i64 (r.m), .int .i64 (r.s)]] [A] (fun v L => L = [Own 47 6 v (l ++ [putV l r]).length (flatOf Vn.cells (l ++ [putV l r])), A]) := by
 refine Does.enter 34 Try.func57 rfl rfl rfl fun W F => ?_
 show WPc _ _ _ _ _ [(0, .slice (some ⟨b0, o0, none⟩) l.length c0), (1, .agg #[.int .i64 (r.m), .int .i64 (r.s)])] (A :: F)
 refine WPc.sr ?_
 refine WP.eff rfl rfl rfl (Eff.box (C := [.int .i64 (r.m), .int .i64 (r.s)]) rfl rfl rfl) ?_
 rintro _ _ ⟨b1, rfl, rfl⟩
 refine WP.val rfl rfl rfl (Val.assign rfl rfl) ?_
 refine WP.nx ?_
 refine WPc.sr ?_
 refine WP.val rfl rfl rfl (Val.loadAgg (cs := [.int .i64 (r.m), .int .i64 (r.s)]) rfl Ty.ag32 rfl rfl (fun w h => h.range 0 rfl rfl)) ?_
 refine WP.val rfl rfl rfl (Val.loadAgg (cs := [.int .i64 (r.m), .int .i64 (r.s)]) rfl Ty.ag32 rfl rfl (fun w h => h.range 0 rfl rfl)) ?_
 refine WP.val rfl rfl rfl (Val.mk (cs := [.int .i64 (r.m), .int .i64 (r.s), .int .i64 (r.m), .int .i64 (r.s), .int .i64 1, .bool false]) rfl rfl (fun _ => by kernel_rfl)) ?_
 refine WP.eff rfl rfl rfl (Eff.alloc rfl Ty.z47) ?_
 rintro _ _ ⟨b2, rfl, rfl⟩
 refine WP.eff0 rfl rfl (Eff.storeAgg (cs := [.int .i64 (r.m), .int .i64 (r.s), .int .i64 (r.m), .int .i64 (r.s), .int .i64 1, .bool false]) (C' := [.int .i64 (r.m), .int .i64 (r.s), .int .i64 (r.m), .int .i64 (r.s), .int .i64 1, .bool false]) rfl Ty.ag47 rfl rfl rfl rfl (by simp) rfl) ?_
 rintro _ _ rfl
 refine WP.nx ?_
 refine WPc.seq ?_
 refine WPc.sr ?_
 refine WP.val rfl rfl rfl (Val.move rfl rfl) ?_
 refine WP.perm pl2 ?_
 refine WP.eff rfl rfl rfl (Eff.call rfl rfl Try.call27 (lives_spec A l hl (.slice (some ⟨b0, o0, none⟩) l.length c0) (.inl ⟨b0, o0, c0, rfl, hr⟩))) ?_
 rintro _ _ ⟨_, ⟨rfl, rfl⟩, rfl⟩
 show WP _ _ _ _ _ _ _ (_ :: Blk b2 [.int .i64 (r.m), .int .i64 (r.s), .int .i64 (r.m), .int .i64 (r.s), .int .i64 1, .bool false] 47 :: Blk b1 [.int .i64 (r.m), .int .i64 (r.s)] 32 :: _)
 refine WP.nx ?_
 refine WPc.cond rfl (fun h1 => ?_) (fun h1 => ?_)
 ·
  have h1 : ((lives l)) = true := h1
  obtain ⟨x, hx, hxg, hlt⟩ := lives_get (by assumption)
  refine WPD.start (Sat W [A]) Ty.mixed ?_
  refine WPD.tS 0 rfl rfl rfl rfl (fun w h => (h).dropEnd (L := [_])) (Val.move rfl rfl) ?_
  refine WPD.tS 1 rfl rfl rfl rfl (fun w h => (h).dropEnd (L := [_])) (Val.move rfl rfl) ?_
  refine WPD.tL 2 rfl rfl rfl rfl (fun w h => (h).dropEnd (L := [_])) (Val.len rfl Ty.sl23 rfl) ?_
  refine WPD.tS 3 rfl rfl rfl rfl (fun w h => (h).dropEnd (L := [_])) (Val.sub (z := ((l.length - 1 : Nat) : Int)) rfl rfl rfl ((w64 (by omega) (by omega)).trans (by omega))) ?_
  refine WPD.tS 4 rfl rfl rfl rfl (fun w h => (h).dropEnd (L := [_])) (Val.indexAddr (j := l.length - 1) (q := o0 + (l.length - 1) * 6) rfl Ty.sl23 rfl rfl (by omega) (by omega) (by omega)) ?_
  refine WPD.tS 5 rfl rfl rfl rfl (fun w h => (h).dropEnd (L := [_])) (Val.fieldAddr (j := o0 + (l.length - 1) * 6 + 2) rfl Ty.fo47_1 rfl rfl) ?_
  refine WPD.tL 6 rfl rfl rfl rfl (fun w h => (h).dropEnd (L := [_])) (Val.loadAgg (cs := [.int .i64 (x.c.m), .int .i64 (x.c.s)]) rfl Ty.ag32 rfl (by rfl) (fun w h => (fun j v hj => (by have h9 := hr w (h.at 0 rfl) (l.length - 1) x hx (2 + j) v (by match j, hj with | 0, hj => exact hj | 1, hj => exact hj | j + 2, hj => simp at hj); rw [← Nat.add_assoc] at h9; exact h9)))) ?_
  refine WPD.tS 7 rfl rfl rfl rfl (fun w h => (h).dropEnd (L := [_])) (Val.move rfl rfl) ?_
  refine WPD.tS 8 rfl rfl rfl rfl (fun w h => (h).dropEnd (L := [_])) (Val.move rfl rfl) ?_
  refine WPD.tL 9 rfl rfl rfl rfl (fun w h => (h).dropEnd (L := [_])) (Val.len rfl Ty.sl23 rfl) ?_
  refine WPD.tS 10 rfl rfl rfl rfl (fun w h => (h).dropEnd (L := [_])) (Val.sub (z := ((l.length - 1 : Nat) : Int)) rfl rfl rfl ((w64 (by omega) (by omega)).trans (by omega))) ?_
  refine WPD.tS 11 rfl rfl rfl rfl (fun w h => (h).dropEnd (L := [_])) (Val.indexAddr (j := l.length - 1) (q := o0 + (l.length - 1) * 6) rfl Ty.sl23 rfl rfl (by omega) (by omega) (by omega)) ?_
  refine WPD.tS 12 rfl rfl rfl rfl (fun w h => (h).dropEnd (L := [_])) (Val.fieldAddr (j := o0 + (l.length - 1) * 6 + 4) rfl Ty.fo47_2 rfl rfl) ?_
  refine WPD.tL 13 rfl rfl rfl rfl (fun w h => (h).dropEnd (L := [_])) (Val.load (v := .int .i64 (x.v)) rfl Ty.sc2 rfl (fun w h => hr w (h.at 0 rfl) (l.length - 1) x hx 4 _ rfl)) ?_
  refine WPD.tS 14 rfl rfl rfl rfl (fun w h => (h).dropEnd (L := [_])) (Val.add (z := nx x.v) rfl rfl rfl rfl) ?_
  refine WPD.tS 15 rfl rfl rfl rfl (fun w h => (h).dropEnd (L := [_])) (Val.fieldAddr (j := 2) rfl Ty.fo47_1 rfl rfl) ?_
  refine WPD.perm pl1 ?_
  refine WPD.step0 16 (by kernel_rfl) rfl rfl rfl (Eff.storeAgg (cs := [.int .i64 (x.c.m), .int .i64 (x.c.s)]) (C' := [.int .i64 (r.m), .int .i64 (r.s), .int .i64 (x.c.m), .int .i64 (x.c.s), .int .i64 1, .bool false]) rfl Ty.ag32 rfl rfl rfl rfl (by simp) rfl) ?_
  rintro _ _ rfl
  refine ⟨(fun w h => ((h.perm pl1)).dropEnd (L := [_])), ?_⟩
  refine WPD.tS 17 rfl rfl rfl rfl (fun w h => ((h.perm pl1)).dropEnd (L := [_])) (Val.fieldAddr (j := 4) rfl Ty.fo47_2 rfl rfl) ?_
  refine WPD.stepC0 18 (by kernel_rfl) rfl rfl rfl (by kernel_rfl) (Eff.store rfl Ty.sc2 rfl rfl rfl (by simp) st4) ?_
  rintro _ _ rfl
  refine ⟨_, (fun _ h => h), ?_⟩
  refine WPD.done (by kernel_rfl) ?_
  refine Out.next ?_
  refine WPc.seq ?_
  refine WPD.start (Sat W [Blk b2 [.int .i64 (r.m), .int .i64 (r.s), .int .i64 (x.c.m), .int .i64 (x.c.s), .int .i64 (nx x.v), .bool false] 47]) Ty.mixed ?_
  refine WPD.tS 1 rfl rfl rfl rfl (fun w h => (h).dropEnd (L := [_])) (Val.move rfl rfl) ?_
  refine WPD.tL 3 rfl rfl rfl rfl (fun w h => (h).dropEnd (L := [_])) (Val.loadAgg (cs := [.int .i64 (r.m), .int .i64 (r.s), .int .i64 (x.c.m), .int .i64 (x.c.s), .int .i64 (nx x.v), .bool false]) rfl Ty.ag47 rfl rfl (fun w h => h.range 0 rfl rfl)) ?_
  refine WPD.pick2 0 4 (by kernel_rfl) ?_ ?_
  ·
   refine WPO.step rfl rfl rfl rfl (Eff.mkSlice (C := []) rfl Ty.sl23 rfl (fun _ => by kernel_rfl)) ?_
   rintro _ _ ⟨b3, rfl, rfl⟩
   refine ⟨(fun w h => ((h.perm pl1)).dropEnd (L := [_])), ?_⟩
   refine WPD.conv (fun w h => Sat.ownMk (e := 47) (k := 6) (b := b3) (m := 0) (cap := 0) (xs := []) (sp := []) (by exact h) (Nat.le_refl _) rfl rfl (by decide)) ?_
   show WPD _ _ _ _ _ _ _ _ _ (Own 47 6 (.slice (some ⟨b3, 0, none⟩) 0 0) 0 ([]) :: Blk b2 [.int .i64 (r.m), .int .i64 (r.s), .int .i64 (x.c.m), .int .i64 (x.c.s), .int .i64 (nx x.v), .bool false] 47 :: _)
   refine WPD.pick2 2 4 (by kernel_rfl) ?_ ?_
   ·
    refine WPO.step rfl rfl rfl rfl (Eff.append (m := l.length) (n0 := 0) (news := flatOf Vn.cells l) rfl Ty.sl23 Ty.z47 rfl rfl rfl (Srcs.rd Ty.sl23 Vn.len (vn_one l) hr 2 rfl) (by omega) (by omega)) ?_
    rintro v4 _ ⟨onev4, rfl⟩
    refine ⟨(fun w h => ((h.perm pl1)).dropEnd (L := [_])), ?_⟩
    refine WPD.step 4 (by kernel_rfl) rfl rfl rfl rfl (Eff.mkSlice (C := [.int .i64 (r.m), .int .i64 (r.s), .int .i64 (x.c.m), .int .i64 (x.c.s), .int .i64 (nx x.v), .bool false]) rfl Ty.sl23 rfl (fun _ => by kernel_rfl)) ?_
    rintro _ _ ⟨b5, rfl, rfl⟩
    refine ⟨(fun w h => ((h.perm pl2)).dropEnd (L := [_])), ?_⟩
    refine WPD.perm pl1 ?_
    refine WPD.stepC 5 (by kernel_rfl) rfl rfl rfl rfl (by kernel_rfl) (Eff.append (m := 1) (n0 := 0 + l.length) (news := [.int .i64 (r.m), .int .i64 (r.s), .int .i64 (x.c.m), .int .i64 (x.c.s), .int .i64 (nx x.v), .bool false]) rfl Ty.sl23 Ty.z47 rfl rfl rfl (.slice Ty.sl23 rfl rfl (fun w h => cells_range (h.range 1 rfl rfl))) (by omega) (by omega)) ?_
    rintro v6 _ ⟨onev6, rfl⟩
    refine ⟨_, (fun _ h => h), ?_⟩
    refine WPD.tM 6 rfl rfl rfl rfl (Val.assign rfl rfl) ?_
    refine WPD.done (by kernel_rfl) ?_
    refine Out.next ?_
    refine WPc.ret ?_
    refine Out.perm pl1 ?_
    refine Out.drop ?_
    refine Out.perm pl1 ?_
    refine Out.drop ?_
    refine Out.perm pl2 ?_
    refine Out.drop ?_
    exact Out.ret1 (L' := _) Try.results57 rfl rfl (fun w h => by rw [putV_go r hx hxg, flatOf_append, flatOf_one, List.length_append]; simp only [Nat.zero_add] at h; exact h)
   ·
    refine WPO.step rfl rfl rfl rfl (Eff.mkSlice (C := [.int .i64 (r.m), .int .i64 (r.s), .int .i64 (x.c.m), .int .i64 (x.c.s), .int .i64 (nx x.v), .bool false]) rfl Ty.sl23 rfl (fun _ => by kernel_rfl)) ?_
    rintro _ _ ⟨b7, rfl, rfl⟩
    refine ⟨(fun w h => ((h.perm pl2)).dropEnd (L := [_])), ?_⟩
    refine WPD.perm pl1 ?_
    refine WPD.step 2 (by kernel_rfl) rfl rfl rfl rfl (Eff.append (m := l.length) (n0 := 0) (news := flatOf Vn.cells l) rfl Ty.sl23 Ty.z47 rfl rfl rfl (Srcs.rd Ty.sl23 Vn.len (vn_one l) hr 3 rfl) (by omega) (by omega)) ?_
    rintro v8 _ ⟨onev8, rfl⟩
    refine ⟨(fun w h => ((h.perm pl2)).dropEnd (L := [_])), ?_⟩
    refine WPD.stepC 5 (by kernel_rfl) rfl rfl rfl rfl (by kernel_rfl) (Eff.append (m := 1) (n0 := 0 + l.length) (news := [.int .i64 (r.m), .int .i64 (r.s), .int .i64 (x.c.m), .int .i64 (x.c.s), .int .i64 (nx x.v), .bool false]) rfl Ty.sl23 Ty.z47 rfl rfl rfl (.slice Ty.sl23 rfl rfl (fun w h => cells_range (h.range 1 rfl rfl))) (by omega) (by omega)) ?_
    rintro v9 _ ⟨onev9, rfl⟩
    refine ⟨_, (fun _ h => h), ?_⟩
    refine WPD.tM 6 rfl rfl rfl rfl (Val.assign rfl rfl) ?_
    refine WPD.done (by kernel_rfl) ?_
    refine Out.next ?_
    refine WPc.ret ?_
    refine Out.perm pl1 ?_
    refine Out.drop ?_
    refine Out.perm pl1 ?_
    refine Out.drop ?_
    refine Out.perm pl2 ?_
    refine Out.drop ?_
    exact Out.ret1 (L' := _) Try.results57 rfl rfl (fun w h => by rw [putV_go r hx hxg, flatOf_append, flatOf_one, List.length_append]; simp only [Nat.zero_add] at h; exact h)
  ·
   refine WPO.step rfl rfl rfl rfl (Eff.mkSlice (C := [.int .i64 (r.m), .int .i64 (r.s), .int .i64 (x.c.m), .int .i64 (x.c.s), .int .i64 (nx x.v), .bool false]) rfl Ty.sl23 rfl (fun _ => by kernel_rfl)) ?_
   rintro _ _ ⟨b10, rfl, rfl⟩
   refine ⟨(fun w h => ((h.perm pl1)).dropEnd (L := [_])), ?_⟩
   refine WPD.step 0 (by kernel_rfl) rfl rfl rfl rfl (Eff.mkSlice (C := []) rfl Ty.sl23 rfl (fun _ => by kernel_rfl)) ?_
   rintro _ _ ⟨b11, rfl, rfl⟩
   refine ⟨(fun w h => ((h.perm pl2)).dropEnd (L := [_])), ?_⟩
   refine WPD.conv (fun w h => Sat.ownMk (e := 47) (k := 6) (b := b11) (m := 0) (cap := 0) (xs := []) (sp := []) (by exact h) (Nat.le_refl _) rfl rfl (by decide)) ?_
   show WPD _ _ _ _ _ _ _ _ _ (Own 47 6 (.slice (some ⟨b11, 0, none⟩) 0 0) 0 ([]) :: Blk b10 [.int .i64 (r.m), .int .i64 (r.s), .int .i64 (x.c.m), .int .i64 (x.c.s), .int .i64 (nx x.v), .bool false] 47 :: Blk b2 [.int .i64 (r.m), .int .i64 (r.s), .int .i64 (x.c.m), .int .i64 (x.c.s), .int .i64 (nx x.v), .bool false] 47 :: _)
   refine WPD.step 2 (by kernel_rfl) rfl rfl rfl rfl (Eff.append (m := l.length) (n0 := 0) (news := flatOf Vn.cells l) rfl Ty.sl23 Ty.z47 rfl rfl rfl (Srcs.rd Ty.sl23 Vn.len (vn_one l) hr 3 rfl) (by omega) (by omega)) ?_
   rintro v12 _ ⟨onev12, rfl⟩
   refine ⟨(fun w h => ((h.perm pl2)).dropEnd (L := [_])), ?_⟩
   refine WPD.stepC 5 (by kernel_rfl) rfl rfl rfl rfl (by kernel_rfl) (Eff.append (m := 1) (n0 := 0 + l.length) (news := [.int .i64 (r.m), .int .i64 (r.s), .int .i64 (x.c.m), .int .i64 (x.c.s), .int .i64 (nx x.v), .bool false]) rfl Ty.sl23 Ty.z47 rfl rfl rfl (.slice Ty.sl23 rfl rfl (fun w h => cells_range (h.range 1 rfl rfl))) (by omega) (by omega)) ?_
   rintro v13 _ ⟨onev13, rfl⟩
   refine ⟨_, (fun _ h => h), ?_⟩
   refine WPD.tM 6 rfl rfl rfl rfl (Val.assign rfl rfl) ?_
   refine WPD.done (by kernel_rfl) ?_
   refine Out.next ?_
   refine WPc.ret ?_
   refine Out.perm pl1 ?_
   refine Out.drop ?_
   refine Out.perm pl1 ?_
   refine Out.drop ?_
   refine Out.perm pl2 ?_
   refine Out.drop ?_
   exact Out.ret1 (L' := _) Try.results57 rfl rfl (fun w h => by rw [putV_go r hx hxg, flatOf_append, flatOf_one, List.length_append]; simp only [Nat.zero_add] at h; exact h)
 ·
  have h1 : ((lives l)) = false := h1
  refine WPc.skip ?_
  refine Out.next ?_
  refine WPc.seq ?_
  refine WPD.start (Sat W [Blk b2 [.int .i64 (r.m), .int .i64 (r.s), .int .i64 (r.m), .int .i64 (r.s), .int .i64 1, .bool false] 47]) Ty.mixed ?_
  refine WPD.tS 1 rfl rfl rfl rfl (fun w h => ((h.perm pl1)).dropEnd (L := [_])) (Val.move rfl rfl) ?_
  refine WPD.tL 3 rfl rfl rfl rfl (fun w h => ((h.perm pl1)).dropEnd (L := [_])) (Val.loadAgg (cs := [.int .i64 (r.m), .int .i64 (r.s), .int .i64 (r.m), .int .i64 (r.s), .int .i64 1, .bool false]) rfl Ty.ag47 rfl rfl (fun w h => h.range 0 rfl rfl)) ?_
  refine WPD.pick2 0 4 (by kernel_rfl) ?_ ?_
  ·
   refine WPO.step rfl rfl rfl rfl (Eff.mkSlice (C := []) rfl Ty.sl23 rfl (fun _ => by kernel_rfl)) ?_
   rintro _ _ ⟨b14, rfl, rfl⟩
   refine ⟨(fun w h => ((h.perm pl2)).dropEnd (L := [_])), ?_⟩
   refine WPD.conv (fun w h => Sat.ownMk (e := 47) (k := 6) (b := b14) (m := 0) (cap := 0) (xs := []) (sp := []) (by exact h) (Nat.le_refl _) rfl rfl (by decide)) ?_
   show WPD _ _ _ _ _ _ _ _ _ (Own 47 6 (.slice (some ⟨b14, 0, none⟩) 0 0) 0 ([]) :: _)
   refine WPD.pick2 2 4 (by kernel_rfl) ?_ ?_
   ·
    refine WPO.step rfl rfl rfl rfl (Eff.append (m := l.length) (n0 := 0) (news := flatOf Vn.cells l) rfl Ty.sl23 Ty.z47 rfl rfl rfl (Srcs.rd Ty.sl23 Vn.len (vn_one l) hr 1 rfl) (by omega) (by omega)) ?_
    rintro v15 _ ⟨onev15, rfl⟩
    refine ⟨(fun w h => ((h.perm pl2)).dropEnd (L := [_])), ?_⟩
    refine WPD.step 4 (by kernel_rfl) rfl rfl rfl rfl (Eff.mkSlice (C := [.int .i64 (r.m), .int .i64 (r.s), .int .i64 (r.m), .int .i64 (r.s), .int .i64 1, .bool false]) rfl Ty.sl23 rfl (fun _ => by kernel_rfl)) ?_
    rintro _ _ ⟨b16, rfl, rfl⟩
    refine ⟨(fun w h => ((h.perm pl3)).dropEnd (L := [_])), ?_⟩
    refine WPD.perm pl1 ?_
    refine WPD.stepC 5 (by kernel_rfl) rfl rfl rfl rfl (by kernel_rfl) (Eff.append (m := 1) (n0 := 0 + l.length) (news := [.int .i64 (r.m), .int .i64 (r.s), .int .i64 (r.m), .int .i64 (r.s), .int .i64 1, .bool false]) rfl Ty.sl23 Ty.z47 rfl rfl rfl (.slice Ty.sl23 rfl rfl (fun w h => cells_range (h.range 1 rfl rfl))) (by omega) (by omega)) ?_
    rintro v17 _ ⟨onev17, rfl⟩
    refine ⟨_, (fun _ h => h), ?_⟩
    refine WPD.tM 6 rfl rfl rfl rfl (Val.assign rfl rfl) ?_
    refine WPD.done (by kernel_rfl) ?_
    refine Out.next ?_
    refine WPc.ret ?_
    refine Out.perm pl1 ?_
    refine Out.drop ?_
    refine Out.perm pl2 ?_
    refine Out.drop ?_
    refine Out.perm pl2 ?_
    refine Out.drop ?_
    exact Out.ret1 (L' := _) Try.results57 rfl rfl (fun w h => by rw [putV_new r (by assumption), flatOf_append, flatOf_one, List.length_append]; simp only [Nat.zero_add] at h; exact h)
   ·
    refine WPO.step rfl rfl rfl rfl (Eff.mkSlice (C := [.int .i64 (r.m), .int .i64 (r.s), .int .i64 (r.m), .int .i64 (r.s), .int .i64 1, .bool false]) rfl Ty.sl23 rfl (fun _ => by kernel_rfl)) ?_
    rintro _ _ ⟨b18, rfl, rfl⟩
    refine ⟨(fun w h => ((h.perm pl3)).dropEnd (L := [_])), ?_⟩
    refine WPD.perm pl1 ?_
    refine WPD.step 2 (by kernel_rfl) rfl rfl rfl rfl (Eff.append (m := l.length) (n0 := 0) (news := flatOf Vn.cells l) rfl Ty.sl23 Ty.z47 rfl rfl rfl (Srcs.rd Ty.sl23 Vn.len (vn_one l) hr 2 rfl) (by omega) (by omega)) ?_
    rintro v19 _ ⟨onev19, rfl⟩
    refine ⟨(fun w h => ((h.perm pl3)).dropEnd (L := [_])), ?_⟩
    refine WPD.stepC 5 (by kernel_rfl) rfl rfl rfl rfl (by kernel_rfl) (Eff.append (m := 1) (n0 := 0 + l.length) (news := [.int .i64 (r.m), .int .i64 (r.s), .int .i64 (r.m), .int .i64 (r.s), .int .i64 1, .bool false]) rfl Ty.sl23 Ty.z47 rfl rfl rfl (.slice Ty.sl23 rfl rfl (fun w h => cells_range (h.range 1 rfl rfl))) (by omega) (by omega)) ?_
    rintro v20 _ ⟨onev20, rfl⟩
    refine ⟨_, (fun _ h => h), ?_⟩
    refine WPD.tM 6 rfl rfl rfl rfl (Val.assign rfl rfl) ?_
    refine WPD.done (by kernel_rfl) ?_
    refine Out.next ?_
    refine WPc.ret ?_
    refine Out.perm pl1 ?_
    refine Out.drop ?_
    refine Out.perm pl2 ?_
    refine Out.drop ?_
    refine Out.perm pl2 ?_
    refine Out.drop ?_
    exact Out.ret1 (L' := _) Try.results57 rfl rfl (fun w h => by rw [putV_new r (by assumption), flatOf_append, flatOf_one, List.length_append]; simp only [Nat.zero_add] at h; exact h)
  ·
   refine WPO.step rfl rfl rfl rfl (Eff.mkSlice (C := [.int .i64 (r.m), .int .i64 (r.s), .int .i64 (r.m), .int .i64 (r.s), .int .i64 1, .bool false]) rfl Ty.sl23 rfl (fun _ => by kernel_rfl)) ?_
   rintro _ _ ⟨b21, rfl, rfl⟩
   refine ⟨(fun w h => ((h.perm pl2)).dropEnd (L := [_])), ?_⟩
   refine WPD.step 0 (by kernel_rfl) rfl rfl rfl rfl (Eff.mkSlice (C := []) rfl Ty.sl23 rfl (fun _ => by kernel_rfl)) ?_
   rintro _ _ ⟨b22, rfl, rfl⟩
   refine ⟨(fun w h => ((h.perm pl3)).dropEnd (L := [_])), ?_⟩
   refine WPD.conv (fun w h => Sat.ownMk (e := 47) (k := 6) (b := b22) (m := 0) (cap := 0) (xs := []) (sp := []) (by exact h) (Nat.le_refl _) rfl rfl (by decide)) ?_
   show WPD _ _ _ _ _ _ _ _ _ (Own 47 6 (.slice (some ⟨b22, 0, none⟩) 0 0) 0 ([]) :: Blk b21 [.int .i64 (r.m), .int .i64 (r.s), .int .i64 (r.m), .int .i64 (r.s), .int .i64 1, .bool false] 47 :: _)
   refine WPD.step 2 (by kernel_rfl) rfl rfl rfl rfl (Eff.append (m := l.length) (n0 := 0) (news := flatOf Vn.cells l) rfl Ty.sl23 Ty.z47 rfl rfl rfl (Srcs.rd Ty.sl23 Vn.len (vn_one l) hr 2 rfl) (by omega) (by omega)) ?_
   rintro v23 _ ⟨onev23, rfl⟩
   refine ⟨(fun w h => ((h.perm pl3)).dropEnd (L := [_])), ?_⟩
   refine WPD.stepC 5 (by kernel_rfl) rfl rfl rfl rfl (by kernel_rfl) (Eff.append (m := 1) (n0 := 0 + l.length) (news := [.int .i64 (r.m), .int .i64 (r.s), .int .i64 (r.m), .int .i64 (r.s), .int .i64 1, .bool false]) rfl Ty.sl23 Ty.z47 rfl rfl rfl (.slice Ty.sl23 rfl rfl (fun w h => cells_range (h.range 1 rfl rfl))) (by omega) (by omega)) ?_
   rintro v24 _ ⟨onev24, rfl⟩
   refine ⟨_, (fun _ h => h), ?_⟩
   refine WPD.tM 6 rfl rfl rfl rfl (Val.assign rfl rfl) ?_
   refine WPD.done (by kernel_rfl) ?_
   refine Out.next ?_
   refine WPc.ret ?_
   refine Out.perm pl1 ?_
   refine Out.drop ?_
   refine Out.perm pl2 ?_
   refine Out.drop ?_
   refine Out.perm pl2 ?_
   refine Out.drop ?_
   exact Out.ret1 (L' := _) Try.results57 rfl rfl (fun w h => by rw [putV_new r (by assumption), flatOf_append, flatOf_one, List.length_append]; simp only [Nat.zero_add] at h; exact h)

theorem written_spec (A : HProp) (r : Rv) (l : List Vn) (hl : l.length ≤ 100000) (va : Value) (hva : Rd A 6 Vn.cells va l) : Does Try.prog 57 [va, .agg #[.int .i64 (r.m), .int .i64 (r.s)]] [A] (fun v L => L = [Own 47 6 v (l ++ [putV l r]).length (flatOf Vn.cells (l ++ [putV l r])), A]) := by
 rcases hva with ⟨b0, o0, c0, rfl, hr⟩ | ⟨rfl, a, c, rfl⟩
 ·
  exact written_row A r l hl b0 o0 c0 hr
 ·
  exact written_nil A r a c
theorem ended_spec (A : HProp) (l : List Vn) (hl : l.length ≤ 100000) (va : Value) (hva : Rd A 6 Vn.cells va l) (x : Vn) (hx : l[l.length - 1]? = some x) (r : Rv) : Does Try.prog 58 [va, rk r] [A] (fun v L => L = [Own 47 6 v (l ++ [endV x r]).length (flatOf Vn.cells (l ++ [endV x r])), A]) := by
 rcases hva with ⟨b0, o0, c0, rfl, hr⟩ | ⟨rfl, a, c, rfl⟩
 ·
  exact ended_row A l hl b0 o0 c0 hr x hx r
 ·
  simp at hx

end Go.Proofs.Ythicijpjpijdjaa.Ke

