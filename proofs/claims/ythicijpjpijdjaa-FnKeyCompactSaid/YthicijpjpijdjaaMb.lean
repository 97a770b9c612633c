import Derived.Test.YthicijpjpijdjaaMa
namespace Go.Proofs.Ythicijpjpijdjaa.Kb
open Go.RowKit Go.Proofs.Ythicijpjpijdjaa Go.Proofs.Ythicijpjpijdjaa.Sl Go.Proofs.Ythicijpjpijdjaa.KyP Go.Proofs.Ythicijpjpijdjaa.Ka
set_option linter.unusedVariables false
set_option linter.unusedSimpArgs false
set_option linter.unusedSectionVars false


theorem lastN_top {l : List Vn} {at_ : Int} {k : Nat} {x : Vn} (hx : l[k]? = some x) (h : at_ < x.r.m) : lastN l at_ (k + 1) = lastN l at_ k := by
  conv => lhs; unfold lastN
  rw [hx]; dsimp only; rw [if_pos h]
theorem lastN_stop {l : List Vn} {at_ : Int} {k : Nat} {x : Vn} (hx : l[k]? = some x) (h : ¬ at_ < x.r.m) : lastN l at_ (k + 1) = k + 1 := by
  unfold lastN
  rw [hx]; dsimp only; rw [if_neg h]
theorem lastN_le (l : List Vn) (at_ : Int) : ∀ k, lastN l at_ k ≤ k
  | 0 => Nat.le_refl _
  | k + 1 => by
    have := lastN_le l at_ k
    unfold lastN
    split
    · split <;> omega
    · omega
set_option maxRecDepth 100000 in
set_option maxHeartbeats 1000000 in
theorem last_nil (A : HProp) (at_ : Int) (a : Option Addr) (c : Nat) : Does Try.prog 61 [.slice a 0 c, .int .i64 (at_)] [A] (fun v L => v = .int .i64 (((lastN ([] : List Vn) at_ 0 : Nat) : Int) - 1) ∧ L = [A]) := by
  refine Does.enter 24 Try.func61 rfl rfl rfl fun W F => ?_
  show WPc _ _ _ _ _ [(0, .slice a 0 c), (1, .int .i64 (at_))] (A :: F)
  refine WPc.seq ?_
  refine WPc.region ?_
  refine WP.val rfl rfl rfl (Val.assign rfl rfl) ?_
  refine WP.nil ?_
  refine Out.next ?_
  refine WPc.seq ?_
  refine WPc.region ?_
  refine WP.val rfl rfl rfl (Val.move rfl rfl) ?_
  refine WP.val rfl rfl rfl (Val.len rfl Ty.sl23 rfl) ?_
  refine WP.val rfl rfl rfl (Val.sub (z := ((0 : Nat) : Int) - 1) rfl rfl rfl ((w64 (by omega) (by omega)).trans (by omega))) ?_
  refine WP.val rfl rfl rfl (Val.assign rfl rfl) ?_
  refine WP.nil ?_
  refine Out.next ?_
  refine WPc.seq ?_
  refine WPc.block ?_
  refine WPc.loop (ι := Nat) (fun k => k ≤ 0 ∧ lastN ([] : List Vn) at_ 0 = lastN ([] : List Vn) at_ k) (fun k => [(0, .slice a 0 c), (1, .int .i64 (at_)), (5, .int .i64 (((k : Nat) : Int) - 1))]) (fun k => A :: F) (fun k => k) 0 ⟨Nat.le_refl _, rfl⟩ ((Sub.cons rfl (Sub.cons rfl (Sub.cons rfl Sub.nil)))) (fun _ h => h) ?_
  rintro k hk
  show WPc _ _ _ _ _ [(0, .slice a 0 c), (1, .int .i64 (at_)), (5, .int .i64 (((k : Nat) : Int) - 1))] (A :: F)
  replace hk : k ≤ 0 ∧ lastN ([] : List Vn) at_ 0 = lastN ([] : List Vn) at_ k := hk
  refine WPc.seq ?_
  refine WPc.seq ?_
  rcases k with _ | k
  · skip
    refine WPc.know 5 (.int .i64 (-1)) rfl rfl ?_
    refine WPc.region ?_
    refine WP.val rfl rfl rfl (Val.move rfl rfl) ?_
    refine WP.val rfl rfl rfl (Val.geq rfl rfl rfl) ?_
    refine WP.val rfl rfl rfl (Val.move rfl rfl) ?_
    refine WP.split 11 rfl (fun h1 => ?_) (fun h1 => ?_)
    · skip
      have h1 : ((0 : Int) ≤ (-1 : Int)) := h1
      exfalso; omega
    · skip
      have h1 : ¬ ((0 : Int) ≤ (-1 : Int)) := h1
      refine WP.skip rfl rfl rfl rfl rfl rfl rfl ?_
      refine WP.skip rfl rfl rfl rfl rfl rfl rfl ?_
      refine WP.skip rfl rfl rfl rfl rfl rfl rfl ?_
      refine WP.skip rfl rfl rfl rfl rfl rfl rfl ?_
      refine WP.skip rfl rfl rfl rfl rfl rfl rfl ?_
      refine WP.skip rfl rfl rfl rfl rfl rfl rfl ?_
      refine WP.skip rfl rfl rfl rfl rfl rfl rfl ?_
      refine WP.skip rfl rfl rfl rfl rfl rfl rfl ?_
      refine WP.val rfl rfl rfl (Val.pickF rfl rfl rfl) ?_
      refine WP.nil ?_
      refine Out.next ?_
      refine WPc.condF rfl rfl ?_
      refine WPc.exit ?_
      refine Out.then_exit ?_
      refine Out.then_exit ?_
      refine Out.block_exit ?_
      refine Out.next ?_
      refine WPc.seq ?_
      refine WPc.region ?_
      refine WP.val rfl rfl rfl (Val.move rfl rfl) ?_
      refine WP.val rfl rfl rfl (Val.assign rfl rfl) ?_
      refine WP.nil ?_
      refine Out.next ?_
      refine WPc.ret ?_
      exact Out.ret1 (L' := _) Try.results61 rfl ⟨by rw [hk.2]; first | rfl | exact congrArg (Value.int .i64) (by simp [lastN] <;> omega), rfl⟩ (fun _ h => h)
  · skip
    refine WPc.know 5 (.int .i64 ((k : Nat) : Int)) rfl (congrArg (Value.int .i64) (by omega)) ?_
    refine WPc.region ?_
    refine WP.val rfl rfl rfl (Val.move rfl rfl) ?_
    refine WP.val rfl rfl rfl (Val.geq rfl rfl rfl) ?_
    refine WP.val rfl rfl rfl (Val.move rfl rfl) ?_
    refine WP.split 11 rfl (fun h2 => ?_) (fun h2 => ?_)
    · skip
      have h2 : ((0 : Int) ≤ ((k : Nat) : Int)) := h2
      exfalso; omega
    · skip
      have h2 : ¬ ((0 : Int) ≤ ((k : Nat) : Int)) := h2
      exfalso; omega

set_option maxRecDepth 100000 in
set_option maxHeartbeats 1000000 in
theorem last_row (A : HProp) (at_ : Int) (l : List Vn) (hl : l.length ≤ 100000) (b0 o0 c0 : Nat) (hr : ∀ w, Holds A w → ∀ i x, l[i]? = some x → w.rangeAt b0 (o0 + i * 6) (Vn.cells x)) : Does Try.prog 61 [.slice (some ⟨b0, o0, none⟩) l.length c0, .int .i64 (at_)] [A] (fun v L => v = .int .i64 (((lastN l at_ l.length : Nat) : Int) - 1) ∧ L = [A]) := by
  refine Does.enter 24 Try.func61 rfl rfl rfl fun W F => ?_
  show WPc _ _ _ _ _ [(0, .slice (some ⟨b0, o0, none⟩) l.length c0), (1, .int .i64 (at_))] (A :: F)
  refine WPc.seq ?_
  refine WPc.region ?_
  refine WP.val rfl rfl rfl (Val.assign rfl rfl) ?_
  refine WP.nil ?_
  refine Out.next ?_
  refine WPc.seq ?_
  refine WPc.region ?_
  refine WP.val rfl rfl rfl (Val.move rfl rfl) ?_
  refine WP.val rfl rfl rfl (Val.len rfl Ty.sl23 rfl) ?_
  refine WP.val rfl rfl rfl (Val.sub (z := ((l.length : Nat) : Int) - 1) rfl rfl rfl ((w64 (by omega) (by omega)).trans (by omega))) ?_
  refine WP.val rfl rfl rfl (Val.assign rfl rfl) ?_
  refine WP.nil ?_
  refine Out.next ?_
  refine WPc.seq ?_
  refine WPc.block ?_
  refine WPc.loop (ι := Nat) (fun k => k ≤ l.length ∧ lastN l at_ l.length = lastN l at_ k) (fun k => [(0, .slice (some ⟨b0, o0, none⟩) l.length c0), (1, .int .i64 (at_)), (5, .int .i64 (((k : Nat) : Int) - 1))]) (fun k => A :: F) (fun k => k) l.length ⟨Nat.le_refl _, rfl⟩ ((Sub.cons rfl (Sub.cons rfl (Sub.cons rfl Sub.nil)))) (fun _ h => h) ?_
  rintro k hk
  show WPc _ _ _ _ _ [(0, .slice (some ⟨b0, o0, none⟩) l.length c0), (1, .int .i64 (at_)), (5, .int .i64 (((k : Nat) : Int) - 1))] (A :: F)
  replace hk : k ≤ l.length ∧ lastN l at_ l.length = lastN l at_ k := hk
  refine WPc.seq ?_
  refine WPc.seq ?_
  rcases k with _ | k
  · skip
    refine WPc.know 5 (.int .i64 (-1)) rfl rfl ?_
    refine WPc.region ?_
    refine WP.val rfl rfl rfl (Val.move rfl rfl) ?_
    refine WP.val rfl rfl rfl (Val.geq rfl rfl rfl) ?_
    refine WP.val rfl rfl rfl (Val.move rfl rfl) ?_
    refine WP.split 11 rfl (fun h1 => ?_) (fun h1 => ?_)
    · skip
      have h1 : ((0 : Int) ≤ (-1 : Int)) := h1
      exfalso; omega
    · skip
      have h1 : ¬ ((0 : Int) ≤ (-1 : Int)) := h1
      refine WP.skip rfl rfl rfl rfl rfl rfl rfl ?_
      refine WP.skip rfl rfl rfl rfl rfl rfl rfl ?_
      refine WP.skip rfl rfl rfl rfl rfl rfl rfl ?_
      refine WP.skip rfl rfl rfl rfl rfl rfl rfl ?_
      refine WP.skip rfl rfl rfl rfl rfl rfl rfl ?_
      refine WP.skip rfl rfl rfl rfl rfl rfl rfl ?_
      refine WP.skip rfl rfl rfl rfl rfl rfl rfl ?_
      refine WP.skip rfl rfl rfl rfl rfl rfl rfl ?_
      refine WP.val rfl rfl rfl (Val.pickF rfl rfl rfl) ?_
      refine WP.nil ?_
      refine Out.next ?_
      refine WPc.condF rfl rfl ?_
      refine WPc.exit ?_
      refine Out.then_exit ?_
      refine Out.then_exit ?_
      refine Out.block_exit ?_
      refine Out.next ?_
      refine WPc.seq ?_
      refine WPc.region ?_
      refine WP.val rfl rfl rfl (Val.move rfl rfl) ?_
      refine WP.val rfl rfl rfl (Val.assign rfl rfl) ?_
      refine WP.nil ?_
      refine Out.next ?_
      refine WPc.ret ?_
      exact Out.ret1 (L' := _) Try.results61 rfl ⟨by rw [hk.2]; first | rfl | exact congrArg (Value.int .i64) (by simp [lastN] <;> omega), rfl⟩ (fun _ h => h)
  · skip
    refine WPc.know 5 (.int .i64 ((k : Nat) : Int)) rfl (congrArg (Value.int .i64) (by omega)) ?_
    refine WPc.region ?_
    refine WP.val rfl rfl rfl (Val.move rfl rfl) ?_
    refine WP.val rfl rfl rfl (Val.geq rfl rfl rfl) ?_
    refine WP.val rfl rfl rfl (Val.move rfl rfl) ?_
    refine WP.split 11 rfl (fun h2 => ?_) (fun h2 => ?_)
    · skip
      have h2 : ((0 : Int) ≤ ((k : Nat) : Int)) := h2
      have hlt : k < l.length := by omega
      obtain ⟨x, hx⟩ : ∃ x, l[k]? = some x := ⟨_, List.getElem?_eq_getElem hlt⟩
      refine WP.valG rfl rfl rfl rfl rfl rfl rfl (Val.move rfl rfl) ?_
      refine WP.valG rfl rfl rfl rfl rfl rfl rfl (Val.move rfl rfl) ?_
      refine WP.valG rfl rfl rfl rfl rfl rfl rfl (Val.indexAddr (j := k) (q := o0 + k * 6) rfl Ty.sl23 rfl rfl (by omega) (by omega) (by omega)) ?_
      refine WP.valG rfl rfl rfl rfl rfl rfl rfl (Val.fieldAddr (j := o0 + k * 6) rfl Ty.fo47_0 rfl rfl) ?_
      refine WP.valG rfl rfl rfl rfl rfl rfl rfl (Val.fieldAddr (j := o0 + k * 6) rfl Ty.fo32_0 rfl rfl) ?_
      refine WP.valG rfl rfl rfl rfl rfl rfl rfl (Val.load (v := .int .i64 (x.r.m)) rfl Ty.sc2 rfl (fun w h => hr w (h.at 0 rfl) k x hx 0 _ rfl)) ?_
      refine WP.valG rfl rfl rfl rfl rfl rfl rfl (Val.move rfl rfl) ?_
      refine WP.valG rfl rfl rfl rfl rfl rfl rfl (Val.gtr rfl rfl rfl) ?_
      refine WP.val rfl rfl rfl (Val.pickT rfl rfl rfl) ?_
      refine WP.nil ?_
      refine Out.next ?_
      refine WPc.ifP rfl (fun h3 => ?_) (fun h3 => ?_)
      · skip
        have h3 : (at_ < x.r.m) := h3
        refine WPc.skip ?_
        refine Out.next ?_
        refine WPc.block ?_
        refine WPc.region ?_
        refine WP.val rfl rfl rfl (Val.move rfl rfl) ?_
        refine WP.val rfl rfl rfl (Val.sub (z := ((k : Nat) : Int) - 1) rfl rfl rfl ((w64 (by omega) (by omega)).trans (by omega))) ?_
        refine WP.val rfl rfl rfl (Val.assign rfl rfl) ?_
        refine WP.nil ?_
        refine Out.block ?_
        refine Out.again k ?_ ?_ ?_ ?_
        · exact ⟨by omega, hk.2.trans (lastN_top hx (by omega))⟩
        · (first | omega | (dsimp only; omega))
        · exact (Sub.cons rfl (Sub.cons rfl (Sub.cons rfl Sub.nil)))
        · exact (fun _ h => h)
      · skip
        have h3 : ¬ (at_ < x.r.m) := h3
        refine WPc.exit ?_
        refine Out.then_exit ?_
        refine Out.then_exit ?_
        refine Out.block_exit ?_
        refine Out.next ?_
        refine WPc.seq ?_
        refine WPc.region ?_
        refine WP.val rfl rfl rfl (Val.move rfl rfl) ?_
        refine WP.val rfl rfl rfl (Val.assign rfl rfl) ?_
        refine WP.nil ?_
        refine Out.next ?_
        refine WPc.ret ?_
        exact Out.ret1 (L' := _) Try.results61 rfl ⟨by rw [hk.2.trans (lastN_stop hx (by omega))]; first | rfl | exact congrArg (Value.int .i64) (by simp [lastN] <;> omega), rfl⟩ (fun _ h => h)
    · skip
      have h2 : ¬ ((0 : Int) ≤ ((k : Nat) : Int)) := h2
      exfalso; omega

theorem last_spec (A : HProp) (at_ : Int) (l : List Vn) (hl : l.length ≤ 100000) (va : Value) (hva : Rd A 6 Vn.cells va l) : Does Try.prog 61 [va, .int .i64 (at_)] [A] (fun v L => v = .int .i64 (((lastN l at_ l.length : Nat) : Int) - 1) ∧ L = [A]) := by
  rcases hva with ⟨b0, o0, c0, rfl, hr⟩ | ⟨rfl, a, c, rfl⟩
  · exact last_row A at_ l hl b0 o0 c0 hr
  · exact last_nil A at_ a c

end Go.Proofs.Ythicijpjpijdjaa.Kb

namespace Go.Proofs.Ythicijpjpijdjaa.Kc
open Go.RowKit Go.Proofs.Ythicijpjpijdjaa Go.Proofs.Ythicijpjpijdjaa.Sl Go.Proofs.Ythicijpjpijdjaa.KyP Go.Proofs.Ythicijpjpijdjaa.Ka Go.Proofs.Ythicijpjpijdjaa.Kb
set_option linter.unusedVariables false
set_option linter.unusedSimpArgs false
set_option linter.unusedSectionVars false


def Vn0 : Vn := ⟨Rv0, Rv0, 0, false⟩
def holdsV (l : List Vn) (at_ : Int) : Option Vn := match lastN l at_ l.length with
  | 0 => none
  | k + 1 => match l[k]? with
    | some x => if x.g then none else some x
    | none => none
theorem holds_no {l : List Vn} {at_ : Int} (h : lastN l at_ l.length = 0) : holdsV l at_ = none := by unfold holdsV; rw [h]
theorem holds_at {l : List Vn} {at_ : Int} {k : Nat} {x : Vn} (h : lastN l at_ l.length = k + 1) (hx : l[k]? = some x) : holdsV l at_ = if x.g then none else some x := by unfold holdsV; rw [h]; dsimp only; rw [hx]
set_option maxRecDepth 100000 in
set_option maxHeartbeats 2000000 in
theorem stays_row (A : HProp) (at_ : Int) (l : List Vn) (hl : l.length ≤ 100000) (b0 o0 c0 : Nat) (hr : ∀ w, Holds A w → ∀ i x, l[i]? = some x → w.rangeAt b0 (o0 + i * 6) (Vn.cells x)) (i : Nat) (x : Vn) (hx : l[i]? = some x) : Does Try.prog 30 [.slice (some ⟨b0, o0, none⟩) l.length c0, .int .i64 (((i : Nat) : Int)), .int .i64 (at_)] [A] (fun v L => v = .bool (stays l at_ i x) ∧ L = [A]) := by
  have hlt : i < l.length := (List.getElem?_eq_some_iff.1 hx).1
  refine Does.enter 36 Try.func30 rfl rfl rfl fun W F => ?_
  show WPc _ _ _ _ _ [(0, .slice (some ⟨b0, o0, none⟩) l.length c0), (1, .int .i64 (((i : Nat) : Int))), (2, .int .i64 (at_))] (A :: F)
  refine WPc.seq ?_
  refine WPc.region ?_
  refine WP.val rfl rfl rfl (Val.assign rfl rfl) ?_
  refine WP.nil ?_
  refine Out.next ?_
  refine WPc.seq ?_
  refine WPc.region ?_
  refine WP.val rfl rfl rfl (Val.move rfl rfl) ?_
  refine WP.val rfl rfl rfl (Val.move rfl rfl) ?_
  refine WP.val rfl rfl rfl (Val.indexAddr (j := i) (q := o0 + i * 6) rfl Ty.sl23 rfl rfl (by omega) (by omega) (by omega)) ?_
  refine WP.val rfl rfl rfl (Val.loadAgg (cs := [.int .i64 (x.r.m), .int .i64 (x.r.s), .int .i64 (x.c.m), .int .i64 (x.c.s), .int .i64 (x.v), .bool (x.g)]) rfl Ty.ag47 rfl (by rfl) (fun w h => hr w (h.at 0 rfl) i x hx)) ?_
  refine WP.eff rfl rfl rfl (Eff.alloc rfl Ty.z47) ?_
  rintro _ _ ⟨b1, rfl, rfl⟩
  refine WP.eff0 rfl rfl (Eff.storeAgg (cs := [.int .i64 (x.r.m), .int .i64 (x.r.s), .int .i64 (x.c.m), .int .i64 (x.c.s), .int .i64 (x.v), .bool (x.g)]) (C' := [.int .i64 (x.r.m), .int .i64 (x.r.s), .int .i64 (x.c.m), .int .i64 (x.c.s), .int .i64 (x.v), .bool (x.g)]) rfl Ty.ag47 rfl rfl rfl rfl (by simp) rfl) ?_
  rintro _ _ rfl
  refine WP.nil ?_
  refine Out.next ?_
  refine WPc.seq ?_
  refine WPc.region ?_
  refine WP.val rfl rfl rfl (Val.fieldAddr (j := 0) rfl Ty.fo47_0 rfl rfl) ?_
  refine WP.val rfl rfl rfl (Val.fieldAddr (j := 0) rfl Ty.fo32_0 rfl rfl) ?_
  refine WP.val rfl rfl rfl (Val.load rfl Ty.sc2 rfl (fun w h => h.cell 0 rfl rfl)) ?_
  refine WP.val rfl rfl rfl (Val.move rfl rfl) ?_
  refine WP.val rfl rfl rfl (Val.gtr rfl rfl rfl) ?_
  refine WP.val rfl rfl rfl (Val.move rfl rfl) ?_
  refine WP.split 17 rfl (fun h1 => ?_) (fun h1 => ?_)
  · skip
    have h1 : (at_ < x.r.m) := h1
    refine WP.skip rfl rfl rfl rfl rfl rfl rfl ?_
    refine WP.skip rfl rfl rfl rfl rfl rfl rfl ?_
    refine WP.skip rfl rfl rfl rfl rfl rfl rfl ?_
    refine WP.skip rfl rfl rfl rfl rfl rfl rfl ?_
    refine WP.skip rfl rfl rfl rfl rfl rfl rfl ?_
    refine WP.skip rfl rfl rfl rfl rfl rfl rfl ?_
    refine WP.skipU rfl rfl rfl rfl rfl rfl ?_
    refine WP.skipU rfl rfl rfl rfl rfl rfl ?_
    refine WP.skipU rfl rfl rfl rfl rfl rfl ?_
    refine WP.skipU rfl rfl rfl rfl rfl rfl ?_
    refine WP.skipU rfl rfl rfl rfl rfl rfl ?_
    refine WP.skipU rfl rfl rfl rfl rfl rfl ?_
    refine WP.skipU rfl rfl rfl rfl rfl rfl ?_
    refine WP.skipU rfl rfl rfl rfl rfl rfl ?_
    refine WP.skipU rfl rfl rfl rfl rfl rfl ?_
    refine WP.skipU rfl rfl rfl rfl rfl rfl ?_
    refine WP.skip rfl rfl rfl rfl rfl rfl rfl ?_
    refine WP.val rfl rfl rfl (Val.pickT rfl rfl rfl) ?_
    refine WP.val rfl rfl rfl (Val.assign rfl rfl) ?_
    refine WP.nil ?_
    refine Out.next ?_
    refine WPc.ret ?_
    exact Out.ret1 (L' := _) Try.results30 rfl ⟨congrArg Value.bool (show _ = stays l at_ i x by (unfold stays; rw [show decide (i + 1 = lastN l at_ l.length) = decide (((i : Nat) : Int) = ((lastN l at_ l.length : Nat) : Int) - 1) from decide_eq_decide.2 (by omega)]; simp_all <;> intros <;> omega)), rfl⟩ (fun w h => h.drop)
  · skip
    have h1 : ¬ (at_ < x.r.m) := h1
    refine WP.valG rfl rfl rfl rfl rfl rfl rfl (Val.move rfl rfl) ?_
    refine WP.valG rfl rfl rfl rfl rfl rfl rfl (Val.move rfl rfl) ?_
    refine WP.valG rfl rfl rfl rfl rfl rfl rfl (Val.move rfl rfl) ?_
    refine WP.perm pl1 ?_
    refine WP.effG rfl rfl rfl rfl rfl rfl rfl (Eff.call rfl rfl Try.call61 (last_spec A at_ l hl (.slice (some ⟨b0, o0, none⟩) l.length c0) (.inl ⟨b0, o0, c0, rfl, hr⟩))) ?_
    rintro _ _ ⟨_, ⟨rfl, rfl⟩, rfl⟩
    show WP _ _ _ _ _ _ _ (A :: Blk b1 [.int .i64 (x.r.m), .int .i64 (x.r.s), .int .i64 (x.c.m), .int .i64 (x.c.s), .int .i64 (x.v), .bool (x.g)] 47 :: F)
    refine WP.valG rfl rfl rfl rfl rfl rfl rfl (Val.eql rfl rfl rfl) ?_
    refine WP.valG rfl rfl rfl rfl rfl rfl rfl (Val.move rfl rfl) ?_
    refine WP.split 23 rfl (fun h2 => ?_) (fun h2 => ?_)
    · skip
      have h2 : (((i : Nat) : Int) = (((lastN l at_ l.length : Nat) : Int) - 1)) := h2
      refine WP.valG rfl rfl rfl rfl rfl rfl rfl (Val.fieldAddr (j := 5) rfl Ty.fo47_3 rfl rfl) ?_
      refine WP.valG rfl rfl rfl rfl rfl rfl rfl (Val.load rfl Ty.sc4 rfl (fun w h => h.cell 1 rfl rfl)) ?_
      refine WP.valG rfl rfl rfl rfl rfl rfl rfl (Val.not rfl rfl) ?_
      refine WP.valG rfl rfl rfl rfl rfl rfl rfl (Val.move rfl rfl) ?_
      refine WP.splitB 27 rfl (fun h3 => ?_) (fun h3 => ?_)
      · skip
        refine WP.skip rfl rfl rfl rfl rfl rfl rfl ?_
        refine WP.skip rfl rfl rfl rfl rfl rfl rfl ?_
        refine WP.skip rfl rfl rfl rfl rfl rfl rfl ?_
        refine WP.skip rfl rfl rfl rfl rfl rfl rfl ?_
        refine WP.skip rfl rfl rfl rfl rfl rfl rfl ?_
        refine WP.valG rfl rfl rfl rfl rfl rfl rfl (Val.pickT rfl rfl rfl) ?_
        refine WP.valG rfl rfl rfl rfl rfl rfl rfl (Val.pickT rfl rfl rfl) ?_
        refine WP.val rfl rfl rfl (Val.pickF rfl rfl rfl) ?_
        refine WP.val rfl rfl rfl (Val.assign rfl rfl) ?_
        refine WP.nil ?_
        refine Out.next ?_
        refine WPc.ret ?_
        refine Out.perm pl1 ?_
        exact Out.ret1 (L' := _) Try.results30 rfl ⟨congrArg Value.bool (show _ = stays l at_ i x by (unfold stays; rw [show decide (i + 1 = lastN l at_ l.length) = decide (((i : Nat) : Int) = ((lastN l at_ l.length : Nat) : Int) - 1) from decide_eq_decide.2 (by omega)]; simp_all <;> intros <;> omega)), rfl⟩ (fun w h => h.drop)
      · skip
        refine WP.valG rfl rfl rfl rfl rfl rfl rfl (Val.fieldAddr (j := 0) rfl Ty.fo47_0 rfl rfl) ?_
        refine WP.valG rfl rfl rfl rfl rfl rfl rfl (Val.fieldAddr (j := 0) rfl Ty.fo32_0 rfl rfl) ?_
        refine WP.valG rfl rfl rfl rfl rfl rfl rfl (Val.load rfl Ty.sc2 rfl (fun w h => h.cell 1 rfl rfl)) ?_
        refine WP.valG rfl rfl rfl rfl rfl rfl rfl (Val.move rfl rfl) ?_
        refine WP.valG rfl rfl rfl rfl rfl rfl rfl (Val.eql rfl rfl rfl) ?_
        refine WP.valG rfl rfl rfl rfl rfl rfl rfl (Val.pickF rfl rfl rfl) ?_
        refine WP.valG rfl rfl rfl rfl rfl rfl rfl (Val.pickT rfl rfl rfl) ?_
        refine WP.val rfl rfl rfl (Val.pickF rfl rfl rfl) ?_
        refine WP.val rfl rfl rfl (Val.assign rfl rfl) ?_
        refine WP.nil ?_
        refine Out.next ?_
        refine WPc.ret ?_
        refine Out.perm pl1 ?_
        exact Out.ret1 (L' := _) Try.results30 rfl ⟨congrArg Value.bool (show _ = stays l at_ i x by (unfold stays; rw [show decide (i + 1 = lastN l at_ l.length) = decide (((i : Nat) : Int) = ((lastN l at_ l.length : Nat) : Int) - 1) from decide_eq_decide.2 (by omega)]; simp_all <;> intros <;> omega)), rfl⟩ (fun w h => h.drop)
    · skip
      have h2 : ¬ (((i : Nat) : Int) = (((lastN l at_ l.length : Nat) : Int) - 1)) := h2
      refine WP.skip rfl rfl rfl rfl rfl rfl rfl ?_
      refine WP.skip rfl rfl rfl rfl rfl rfl rfl ?_
      refine WP.skip rfl rfl rfl rfl rfl rfl rfl ?_
      refine WP.skip rfl rfl rfl rfl rfl rfl rfl ?_
      refine WP.skipU rfl rfl rfl rfl rfl rfl ?_
      refine WP.skipU rfl rfl rfl rfl rfl rfl ?_
      refine WP.skipU rfl rfl rfl rfl rfl rfl ?_
      refine WP.skipU rfl rfl rfl rfl rfl rfl ?_
      refine WP.skipU rfl rfl rfl rfl rfl rfl ?_
      refine WP.skip rfl rfl rfl rfl rfl rfl rfl ?_
      refine WP.valG rfl rfl rfl rfl rfl rfl rfl (Val.pickF rfl rfl rfl) ?_
      refine WP.val rfl rfl rfl (Val.pickF rfl rfl rfl) ?_
      refine WP.val rfl rfl rfl (Val.assign rfl rfl) ?_
      refine WP.nil ?_
      refine Out.next ?_
      refine WPc.ret ?_
      refine Out.perm pl1 ?_
      exact Out.ret1 (L' := _) Try.results30 rfl ⟨congrArg Value.bool (show _ = stays l at_ i x by (unfold stays; rw [show decide (i + 1 = lastN l at_ l.length) = decide (((i : Nat) : Int) = ((lastN l at_ l.length : Nat) : Int) - 1) from decide_eq_decide.2 (by omega)]; simp_all <;> intros <;> omega)), rfl⟩ (fun w h => h.drop)
theorem stays_spec (A : HProp) (at_ : Int) (l : List Vn) (hl : l.length ≤ 100000) (va : Value) (hva : Rd A 6 Vn.cells va l) (i : Nat) (x : Vn) (hx : l[i]? = some x) : Does Try.prog 30 [va, .int .i64 ((i : Nat) : Int), .int .i64 at_] [A] (fun v L => v = .bool (stays l at_ i x) ∧ L = [A]) := by
  rcases hva with ⟨b0, o0, c0, rfl, hr⟩ | ⟨rfl, a, c, rfl⟩
  · exact stays_row A at_ l hl b0 o0 c0 hr i x hx
  · simp at hx
set_option maxRecDepth 100000 in
set_option maxHeartbeats 1000000 in
theorem holds_nil (A : HProp) (at_ : Int) (a : Option Addr) (c : Nat) : Does Try.prog 59 [.slice a 0 c, .int .i64 (at_)] [A] (fun v L => v = .tuple #[vk ((holdsV ([] : List Vn) at_).getD Vn0), .bool (holdsV ([] : List Vn) at_).isSome] ∧ L = [A]) := by
  refine Does.enter 24 Try.func59 rfl rfl rfl fun W F => ?_
  show WPc _ _ _ _ _ [(0, .slice a 0 c), (1, .int .i64 (at_))] (A :: F)
  refine WPc.seq ?_
  refine WPc.region ?_
  refine WP.eff rfl rfl rfl (Eff.alloc rfl Ty.z47) ?_
  rintro _ _ ⟨b1, rfl, rfl⟩
  refine WP.val rfl rfl rfl (Val.assign rfl rfl) ?_
  refine WP.nil ?_
  refine Out.next ?_
  refine WPc.seq ?_
  refine WPc.region ?_
  refine WP.val rfl rfl rfl (Val.move rfl rfl) ?_
  refine WP.val rfl rfl rfl (Val.move rfl rfl) ?_
  refine WP.perm pl1 ?_
  refine WP.eff rfl rfl rfl (Eff.call rfl rfl Try.call61 (last_spec A at_ [] (by simp) (.slice a 0 c) (.inr ⟨rfl, a, c, rfl⟩))) ?_
  rintro _ _ ⟨_, ⟨rfl, rfl⟩, rfl⟩
  show WP _ _ _ _ _ _ _ (A :: Blk b1 [.int .i64 0, .int .i64 0, .int .i64 0, .int .i64 0, .int .i64 0, .bool false] 47 :: F)
  refine WP.val rfl rfl rfl (Val.assign rfl rfl) ?_
  refine WP.nil ?_
  refine Out.next ?_
  refine WPc.seq ?_
  refine WPc.seq ?_
  refine WPc.region ?_
  refine WP.val rfl rfl rfl (Val.move rfl rfl) ?_
  refine WP.val rfl rfl rfl (Val.lss rfl rfl rfl) ?_
  refine WP.val rfl rfl rfl (Val.move rfl rfl) ?_
  refine WP.split 12 rfl (fun h1 => ?_) (fun h1 => ?_)
  · skip
    have h1 : ((-1 : Int) < (0 : Int)) := h1
    refine WP.skip rfl rfl rfl rfl rfl rfl rfl ?_
    refine WP.skip rfl rfl rfl rfl rfl rfl rfl ?_
    refine WP.skip rfl rfl rfl rfl rfl rfl rfl ?_
    refine WP.skip rfl rfl rfl rfl rfl rfl rfl ?_
    refine WP.skip rfl rfl rfl rfl rfl rfl rfl ?_
    refine WP.val rfl rfl rfl (Val.pickT rfl rfl rfl) ?_
    refine WP.nil ?_
    refine Out.next ?_
    refine WPc.condT rfl rfl ?_
    refine WPc.seq ?_
    refine WPc.region ?_
    refine WP.val rfl rfl rfl (Val.mk (cs := [.int .i64 0, .int .i64 0, .int .i64 0, .int .i64 0, .int .i64 0, .bool false]) rfl rfl (fun _ => by kernel_rfl)) ?_
    refine WP.perm pl1 ?_
    refine WP.eff0 rfl rfl (Eff.storeAgg (cs := [.int .i64 0, .int .i64 0, .int .i64 0, .int .i64 0, .int .i64 0, .bool false]) (C' := [.int .i64 0, .int .i64 0, .int .i64 0, .int .i64 0, .int .i64 0, .bool false]) rfl Ty.ag47 rfl rfl rfl rfl (by simp) rfl) ?_
    rintro _ _ rfl
    refine WP.val rfl rfl rfl (Val.assign rfl rfl) ?_
    refine WP.nil ?_
    refine Out.next ?_
    refine WPc.ret ?_
    refine Out.then_ret ?_
    exact Out.retRun (L' := _) (results_ct (cs := [.int .i64 0, .int .i64 0, .int .i64 0, .int .i64 0, .int .i64 0, .bool false]) Try.results59 rfl Ty.ag47 rfl rfl (fun w h => h.range 0 rfl rfl)) ⟨by rw [holds_no (l := []) rfl]; first | rfl | (simp_all [Vn0, Rv0, vk]), rfl⟩ (fun w h => h.drop)
  · skip
    have h1 : ¬ ((-1 : Int) < (0 : Int)) := h1
    exfalso; omega

set_option maxRecDepth 100000 in
set_option maxHeartbeats 1000000 in
theorem holds_row (A : HProp) (at_ : Int) (l : List Vn) (hl : l.length ≤ 100000) (b0 o0 c0 : Nat) (hr : ∀ w, Holds A w → ∀ i x, l[i]? = some x → w.rangeAt b0 (o0 + i * 6) (Vn.cells x)) : Does Try.prog 59 [.slice (some ⟨b0, o0, none⟩) l.length c0, .int .i64 (at_)] [A] (fun v L => v = .tuple #[vk ((holdsV l at_).getD Vn0), .bool (holdsV l at_).isSome] ∧ L = [A]) := by
  refine Does.enter 24 Try.func59 rfl rfl rfl fun W F => ?_
  show WPc _ _ _ _ _ [(0, .slice (some ⟨b0, o0, none⟩) l.length c0), (1, .int .i64 (at_))] (A :: F)
  refine WPc.seq ?_
  refine WPc.region ?_
  refine WP.eff rfl rfl rfl (Eff.alloc rfl Ty.z47) ?_
  rintro _ _ ⟨b1, rfl, rfl⟩
  refine WP.val rfl rfl rfl (Val.assign rfl rfl) ?_
  refine WP.nil ?_
  refine Out.next ?_
  refine WPc.seq ?_
  refine WPc.region ?_
  refine WP.val rfl rfl rfl (Val.move rfl rfl) ?_
  refine WP.val rfl rfl rfl (Val.move rfl rfl) ?_
  refine WP.perm pl1 ?_
  refine WP.eff rfl rfl rfl (Eff.call rfl rfl Try.call61 (last_spec A at_ l hl (.slice (some ⟨b0, o0, none⟩) l.length c0) (.inl ⟨b0, o0, c0, rfl, hr⟩))) ?_
  rintro _ _ ⟨_, ⟨rfl, rfl⟩, rfl⟩
  show WP _ _ _ _ _ _ _ (A :: Blk b1 [.int .i64 0, .int .i64 0, .int .i64 0, .int .i64 0, .int .i64 0, .bool false] 47 :: F)
  refine WP.val rfl rfl rfl (Val.assign rfl rfl) ?_
  refine WP.nil ?_
  refine Out.next ?_
  refine WPc.seq ?_
  refine WPc.seq ?_
  refine WPc.region ?_
  refine WP.val rfl rfl rfl (Val.move rfl rfl) ?_
  refine WP.val rfl rfl rfl (Val.lss rfl rfl rfl) ?_
  refine WP.val rfl rfl rfl (Val.move rfl rfl) ?_
  refine WP.split 12 rfl (fun h1 => ?_) (fun h1 => ?_)
  · skip
    have h1 : ((((lastN l at_ l.length : Nat) : Int) - 1) < (0 : Int)) := h1
    refine WP.skip rfl rfl rfl rfl rfl rfl rfl ?_
    refine WP.skip rfl rfl rfl rfl rfl rfl rfl ?_
    refine WP.skip rfl rfl rfl rfl rfl rfl rfl ?_
    refine WP.skip rfl rfl rfl rfl rfl rfl rfl ?_
    refine WP.skip rfl rfl rfl rfl rfl rfl rfl ?_
    refine WP.val rfl rfl rfl (Val.pickT rfl rfl rfl) ?_
    refine WP.nil ?_
    refine Out.next ?_
    refine WPc.condT rfl rfl ?_
    refine WPc.seq ?_
    refine WPc.region ?_
    refine WP.val rfl rfl rfl (Val.mk (cs := [.int .i64 0, .int .i64 0, .int .i64 0, .int .i64 0, .int .i64 0, .bool false]) rfl rfl (fun _ => by kernel_rfl)) ?_
    refine WP.perm pl1 ?_
    refine WP.eff0 rfl rfl (Eff.storeAgg (cs := [.int .i64 0, .int .i64 0, .int .i64 0, .int .i64 0, .int .i64 0, .bool false]) (C' := [.int .i64 0, .int .i64 0, .int .i64 0, .int .i64 0, .int .i64 0, .bool false]) rfl Ty.ag47 rfl rfl rfl rfl (by simp) rfl) ?_
    rintro _ _ rfl
    refine WP.val rfl rfl rfl (Val.assign rfl rfl) ?_
    refine WP.nil ?_
    refine Out.next ?_
    refine WPc.ret ?_
    refine Out.then_ret ?_
    exact Out.retRun (L' := _) (results_ct (cs := [.int .i64 0, .int .i64 0, .int .i64 0, .int .i64 0, .int .i64 0, .bool false]) Try.results59 rfl Ty.ag47 rfl rfl (fun w h => h.range 0 rfl rfl)) ⟨by rw [holds_no (by omega)]; first | rfl | (simp_all [Vn0, Rv0, vk]), rfl⟩ (fun w h => h.drop)
  · skip
    have h1 : ¬ ((((lastN l at_ l.length : Nat) : Int) - 1) < (0 : Int)) := h1
    obtain ⟨k, hk⟩ : ∃ k, lastN l at_ l.length = k + 1 := ⟨lastN l at_ l.length - 1, by omega⟩
    have hkl := lastN_le l at_ l.length
    refine WP.know 6 (.int .i64 ((k : Nat) : Int)) rfl (congrArg (Value.int .i64) (by omega)) ?_
    have hlt : k < l.length := by omega
    obtain ⟨x, hx⟩ : ∃ x, l[k]? = some x := ⟨_, List.getElem?_eq_getElem hlt⟩
    refine WP.valG rfl rfl rfl rfl rfl rfl rfl (Val.move rfl rfl) ?_
    refine WP.valG rfl rfl rfl rfl rfl rfl rfl (Val.move rfl rfl) ?_
    refine WP.valG rfl rfl rfl rfl rfl rfl rfl (Val.indexAddr (j := k) (q := o0 + k * 6) rfl Ty.sl23 rfl rfl (by omega) (by omega) (by omega)) ?_
    refine WP.valG rfl rfl rfl rfl rfl rfl rfl (Val.fieldAddr (j := o0 + k * 6 + 5) rfl Ty.fo47_3 rfl rfl) ?_
    refine WP.valG rfl rfl rfl rfl rfl rfl rfl (Val.load (v := .bool (x.g)) rfl Ty.sc4 rfl (fun w h => hr w (h.at 0 rfl) k x hx 5 _ rfl)) ?_
    refine WP.val rfl rfl rfl (Val.pickF rfl rfl rfl) ?_
    refine WP.nil ?_
    refine Out.next ?_
    refine WPc.cond rfl (fun h2 => ?_) (fun h2 => ?_)
    · skip
      have h2 : (x.g) = true := h2
      refine WPc.seq ?_
      refine WPc.region ?_
      refine WP.val rfl rfl rfl (Val.mk (cs := [.int .i64 0, .int .i64 0, .int .i64 0, .int .i64 0, .int .i64 0, .bool false]) rfl rfl (fun _ => by kernel_rfl)) ?_
      refine WP.perm pl1 ?_
      refine WP.eff0 rfl rfl (Eff.storeAgg (cs := [.int .i64 0, .int .i64 0, .int .i64 0, .int .i64 0, .int .i64 0, .bool false]) (C' := [.int .i64 0, .int .i64 0, .int .i64 0, .int .i64 0, .int .i64 0, .bool false]) rfl Ty.ag47 rfl rfl rfl rfl (by simp) rfl) ?_
      rintro _ _ rfl
      refine WP.val rfl rfl rfl (Val.assign rfl rfl) ?_
      refine WP.nil ?_
      refine Out.next ?_
      refine WPc.ret ?_
      refine Out.then_ret ?_
      exact Out.retRun (L' := _) (results_ct (cs := [.int .i64 0, .int .i64 0, .int .i64 0, .int .i64 0, .int .i64 0, .bool false]) Try.results59 rfl Ty.ag47 rfl rfl (fun w h => h.range 0 rfl rfl)) ⟨by rw [holds_at hk hx]; first | rfl | (simp_all [Vn0, Rv0, vk]), rfl⟩ (fun w h => h.drop)
    · skip
      have h2 : (x.g) = false := h2
      refine WPc.skip ?_
      refine Out.next ?_
      refine WPc.seq ?_
      refine WPc.region ?_
      refine WP.val rfl rfl rfl (Val.move rfl rfl) ?_
      refine WP.val rfl rfl rfl (Val.move rfl rfl) ?_
      refine WP.val rfl rfl rfl (Val.indexAddr (j := k) (q := o0 + k * 6) rfl Ty.sl23 rfl rfl (by omega) (by omega) (by omega)) ?_
      refine WP.val rfl rfl rfl (Val.loadAgg (cs := (Vn.cells x)) rfl Ty.ag47 rfl (by rfl) (fun w h => hr w (h.at 0 rfl) k x hx)) ?_
      refine WP.perm pl1 ?_
      refine WP.eff0 rfl rfl (Eff.storeAgg (cs := [.int .i64 (x.r.m), .int .i64 (x.r.s), .int .i64 (x.c.m), .int .i64 (x.c.s), .int .i64 (x.v), .bool (x.g)]) (C' := [.int .i64 (x.r.m), .int .i64 (x.r.s), .int .i64 (x.c.m), .int .i64 (x.c.s), .int .i64 (x.v), .bool (x.g)]) rfl Ty.ag47 rfl rfl rfl rfl (by simp) rfl) ?_
      rintro _ _ rfl
      refine WP.val rfl rfl rfl (Val.assign rfl rfl) ?_
      refine WP.nil ?_
      refine Out.next ?_
      refine WPc.ret ?_
      exact Out.retRun (L' := _) (results_ct (cs := [.int .i64 (x.r.m), .int .i64 (x.r.s), .int .i64 (x.c.m), .int .i64 (x.c.s), .int .i64 (x.v), .bool (x.g)]) Try.results59 rfl Ty.ag47 rfl rfl (fun w h => h.range 0 rfl rfl)) ⟨by rw [holds_at hk hx]; first | rfl | (simp_all [Vn0, Rv0, vk]), rfl⟩ (fun w h => h.drop)

theorem holds_spec (A : HProp) (at_ : Int) (l : List Vn) (hl : l.length ≤ 100000) (va : Value) (hva : Rd A 6 Vn.cells va l) : Does Try.prog 59 [va, .int .i64 (at_)] [A] (fun v L => v = .tuple #[vk ((holdsV l at_).getD Vn0), .bool (holdsV l at_).isSome] ∧ L = [A]) := by
  rcases hva with ⟨b0, o0, c0, rfl, hr⟩ | ⟨rfl, a, c, rfl⟩
  · exact holds_row A at_ l hl b0 o0 c0 hr
  · exact holds_nil A at_ a c

end Go.Proofs.Ythicijpjpijdjaa.Kc

