import Derived.Test.YthicijpjpijdjaaKyP
import Derived.Test.YthicijpjpijdjaaSlK
import Derived.Test.YthicijpjpijdjaaSlX
import Derived.Test.YthicijpjpijdjaaSlBits
import Derived.Test.YthicijpjpijdjaaSlOne
import Derived.Test.YthicijpjpijdjaaSlPtr
import Derived.Test.YthicijpjpijdjaaTy2
namespace Go.Proofs.Ythicijpjpijdjaa.Ka
open Go.RowKit Go.Proofs.Ythicijpjpijdjaa Go.Proofs.Ythicijpjpijdjaa.Sl Go.Proofs.Ythicijpjpijdjaa.KyP
set_option linter.unusedVariables false
set_option linter.unusedSimpArgs false
set_option linter.unusedSectionVars false


def rk (x : Rv) : Value := .agg #[.int .i64 x.m, .int .i64 x.s]
def vk (x : Vn) : Value := .agg #[.int .i64 x.r.m, .int .i64 x.r.s, .int .i64 x.c.m, .int .i64 x.c.s, .int .i64 x.v, .bool x.g]
theorem lives_at {l : List Vn} {x : Vn} (h : l[l.length - 1]? = some x) : lives l = !x.g := by unfold lives; rw [h]
theorem lives_no {l : List Vn} (h : l.length = 0) : lives l = false := by unfold lives; rw [List.getElem?_eq_none (by omega)]
theorem modi_at {l : List Vn} {x : Vn} (h : l[l.length - 1]? = some x) : modi l = x.r := by unfold modi; rw [h]
theorem modi_no {l : List Vn} (h : l.length = 0) : modi l = Rv0 := by unfold modi; rw [List.getElem?_eq_none (by omega)]
set_option maxRecDepth 100000 in
set_option maxHeartbeats 2000000 in
theorem less_spec (a b : Rv) : Does Try.prog 16 [.agg #[.int .i64 (a.m), .int .i64 (a.s)], .agg #[.int .i64 (b.m), .int .i64 (b.s)]] [] (fun v L => v = .bool (decide (less a b)) ∧ L = []) := by
  refine Does.enter 24 Try.func16 rfl rfl rfl fun W F => ?_
  show WPc _ _ _ _ _ [(0, .agg #[.int .i64 (a.m), .int .i64 (a.s)]), (1, .agg #[.int .i64 (b.m), .int .i64 (b.s)])] (F)
  refine WPc.seq ?_
  refine WPc.region ?_
  refine WP.eff rfl rfl rfl (Eff.box (C := [.int .i64 (a.m), .int .i64 (a.s)]) rfl rfl rfl) ?_
  rintro _ _ ⟨b1, rfl, rfl⟩
  refine WP.eff rfl rfl rfl (Eff.box (C := [.int .i64 (b.m), .int .i64 (b.s)]) rfl rfl rfl) ?_
  rintro _ _ ⟨b2, rfl, rfl⟩
  refine WP.val rfl rfl rfl (Val.assign rfl rfl) ?_
  refine WP.nil ?_
  refine Out.next ?_
  refine WPc.seq ?_
  refine WPc.region ?_
  refine WP.val rfl rfl rfl (Val.fieldAddr (j := 0) rfl Ty.fo32_0 rfl rfl) ?_
  refine WP.val rfl rfl rfl (Val.load rfl Ty.sc2 rfl (fun w h => h.cell 1 rfl rfl)) ?_
  refine WP.val rfl rfl rfl (Val.fieldAddr (j := 0) rfl Ty.fo32_0 rfl rfl) ?_
  refine WP.val rfl rfl rfl (Val.load rfl Ty.sc2 rfl (fun w h => h.cell 0 rfl rfl)) ?_
  refine WP.val rfl rfl rfl (Val.lss rfl rfl rfl) ?_
  refine WP.val rfl rfl rfl (Val.move rfl rfl) ?_
  refine WP.split 10 rfl (fun h1 => ?_) (fun h1 => ?_)
  · skip
    have h1 : (a.m < b.m) := h1
    refine WP.skip rfl rfl rfl rfl rfl rfl rfl ?_
    refine WP.skip rfl rfl rfl rfl rfl rfl rfl ?_
    refine WP.skip rfl rfl rfl rfl rfl rfl rfl ?_
    refine WP.skip rfl rfl rfl rfl rfl rfl rfl ?_
    refine WP.skip rfl rfl rfl rfl rfl rfl rfl ?_
    refine WP.skip rfl rfl rfl rfl rfl rfl rfl ?_
    refine WP.skipU rfl rfl rfl rfl rfl rfl ?_
    refine WP.skipU rfl rfl rfl rfl rfl rfl ?_
    refine WP.skipU rfl rfl rfl rfl rfl rfl ?_
    refine WP.skipU rfl rfl rfl rfl rfl rfl ?_
    refine WP.skipU rfl rfl rfl rfl rfl rfl ?_
    refine WP.skip rfl rfl rfl rfl rfl rfl rfl ?_
    refine WP.val rfl rfl rfl (Val.pickT rfl rfl rfl) ?_
    refine WP.val rfl rfl rfl (Val.assign rfl rfl) ?_
    refine WP.nil ?_
    refine Out.next ?_
    refine WPc.ret ?_
    refine Out.drop ?_
    refine Out.drop ?_
    exact Out.ret1 (L' := []) Try.results16 rfl ⟨congrArg Value.bool (show _ = decide (less a b) by rw [decide_eq_true (by unfold less; omega)]), rfl⟩ (fun _ h => h)
  · skip
    have h1 : ¬ (a.m < b.m) := h1
    refine WP.valG rfl rfl rfl rfl rfl rfl rfl (Val.fieldAddr (j := 0) rfl Ty.fo32_0 rfl rfl) ?_
    refine WP.valG rfl rfl rfl rfl rfl rfl rfl (Val.load rfl Ty.sc2 rfl (fun w h => h.cell 1 rfl rfl)) ?_
    refine WP.valG rfl rfl rfl rfl rfl rfl rfl (Val.fieldAddr (j := 0) rfl Ty.fo32_0 rfl rfl) ?_
    refine WP.valG rfl rfl rfl rfl rfl rfl rfl (Val.load rfl Ty.sc2 rfl (fun w h => h.cell 0 rfl rfl)) ?_
    refine WP.valG rfl rfl rfl rfl rfl rfl rfl (Val.eql rfl rfl rfl) ?_
    refine WP.valG rfl rfl rfl rfl rfl rfl rfl (Val.move rfl rfl) ?_
    refine WP.split 16 rfl (fun h2 => ?_) (fun h2 => ?_)
    · skip
      have h2 : (a.m = b.m) := h2
      refine WP.valG rfl rfl rfl rfl rfl rfl rfl (Val.fieldAddr (j := 1) rfl Ty.fo32_1 rfl rfl) ?_
      refine WP.valG rfl rfl rfl rfl rfl rfl rfl (Val.load rfl Ty.sc2 rfl (fun w h => h.cell 1 rfl rfl)) ?_
      refine WP.valG rfl rfl rfl rfl rfl rfl rfl (Val.fieldAddr (j := 1) rfl Ty.fo32_1 rfl rfl) ?_
      refine WP.valG rfl rfl rfl rfl rfl rfl rfl (Val.load rfl Ty.sc2 rfl (fun w h => h.cell 0 rfl rfl)) ?_
      refine WP.valG rfl rfl rfl rfl rfl rfl rfl (Val.lss rfl rfl rfl) ?_
      refine WP.valG rfl rfl rfl rfl rfl rfl rfl (Val.pickT rfl rfl rfl) ?_
      refine WP.val rfl rfl rfl (Val.pickF rfl rfl rfl) ?_
      refine WP.val rfl rfl rfl (Val.assign rfl rfl) ?_
      refine WP.nil ?_
      refine Out.next ?_
      refine WPc.ret ?_
      refine Out.drop ?_
      refine Out.drop ?_
      exact Out.ret1 (L' := []) Try.results16 rfl ⟨congrArg Value.bool (show _ = decide (less a b) by exact decide_eq_decide.2 (by unfold less; omega)), rfl⟩ (fun _ h => h)
    · skip
      have h2 : ¬ (a.m = b.m) := h2
      refine WP.skip rfl rfl rfl rfl rfl rfl rfl ?_
      refine WP.skip rfl rfl rfl rfl rfl rfl rfl ?_
      refine WP.skip rfl rfl rfl rfl rfl rfl rfl ?_
      refine WP.skip rfl rfl rfl rfl rfl rfl rfl ?_
      refine WP.skip rfl rfl rfl rfl rfl rfl rfl ?_
      refine WP.valG rfl rfl rfl rfl rfl rfl rfl (Val.pickF rfl rfl rfl) ?_
      refine WP.val rfl rfl rfl (Val.pickF rfl rfl rfl) ?_
      refine WP.val rfl rfl rfl (Val.assign rfl rfl) ?_
      refine WP.nil ?_
      refine Out.next ?_
      refine WPc.ret ?_
      refine Out.drop ?_
      refine Out.drop ?_
      exact Out.ret1 (L' := []) Try.results16 rfl ⟨congrArg Value.bool (show _ = decide (less a b) by rw [decide_eq_false (by unfold less; omega)]), rfl⟩ (fun _ h => h)
set_option maxRecDepth 100000 in
set_option maxHeartbeats 2000000 in
theorem ixrev_spec (a : Rv) : Does Try.prog 15 [.agg #[.int .i64 (a.m), .int .i64 (a.s)]] [] (fun v L => v = .bool (decide (1 ≤ a.m ∧ 0 ≤ a.s)) ∧ L = []) := by
  refine Does.enter 11 Try.func15 rfl rfl rfl fun W F => ?_
  show WPc _ _ _ _ _ [(0, .agg #[.int .i64 (a.m), .int .i64 (a.s)])] (F)
  refine WPc.seq ?_
  refine WPc.region ?_
  refine WP.eff rfl rfl rfl (Eff.box (C := [.int .i64 (a.m), .int .i64 (a.s)]) rfl rfl rfl) ?_
  rintro _ _ ⟨b1, rfl, rfl⟩
  refine WP.val rfl rfl rfl (Val.assign rfl rfl) ?_
  refine WP.nil ?_
  refine Out.next ?_
  refine WPc.seq ?_
  refine WPc.region ?_
  refine WP.val rfl rfl rfl (Val.fieldAddr (j := 0) rfl Ty.fo32_0 rfl rfl) ?_
  refine WP.val rfl rfl rfl (Val.load rfl Ty.sc2 rfl (fun w h => h.cell 0 rfl rfl)) ?_
  refine WP.val rfl rfl rfl (Val.geq rfl rfl rfl) ?_
  refine WP.val rfl rfl rfl (Val.move rfl rfl) ?_
  refine WP.split 6 rfl (fun h1 => ?_) (fun h1 => ?_)
  · skip
    have h1 : ((1 : Int) ≤ a.m) := h1
    refine WP.valG rfl rfl rfl rfl rfl rfl rfl (Val.fieldAddr (j := 1) rfl Ty.fo32_1 rfl rfl) ?_
    refine WP.valG rfl rfl rfl rfl rfl rfl rfl (Val.load rfl Ty.sc2 rfl (fun w h => h.cell 0 rfl rfl)) ?_
    refine WP.valG rfl rfl rfl rfl rfl rfl rfl (Val.geq rfl rfl rfl) ?_
    refine WP.val rfl rfl rfl (Val.pickT rfl rfl rfl) ?_
    refine WP.val rfl rfl rfl (Val.assign rfl rfl) ?_
    refine WP.nil ?_
    refine Out.next ?_
    refine WPc.ret ?_
    refine Out.drop ?_
    exact Out.ret1 (L' := []) Try.results15 rfl ⟨congrArg Value.bool (show _ = decide (1 ≤ a.m ∧ 0 ≤ a.s) by exact decide_eq_decide.2 (by omega)), rfl⟩ (fun _ h => h)
  · skip
    have h1 : ¬ ((1 : Int) ≤ a.m) := h1
    refine WP.skip rfl rfl rfl rfl rfl rfl rfl ?_
    refine WP.skip rfl rfl rfl rfl rfl rfl rfl ?_
    refine WP.skip rfl rfl rfl rfl rfl rfl rfl ?_
    refine WP.val rfl rfl rfl (Val.pickF rfl rfl rfl) ?_
    refine WP.val rfl rfl rfl (Val.assign rfl rfl) ?_
    refine WP.nil ?_
    refine Out.next ?_
    refine WPc.ret ?_
    refine Out.drop ?_
    exact Out.ret1 (L' := []) Try.results15 rfl ⟨congrArg Value.bool (show _ = decide (1 ≤ a.m ∧ 0 ≤ a.s) by rw [decide_eq_false (by omega)]), rfl⟩ (fun _ h => h)
set_option maxRecDepth 100000 in
set_option maxHeartbeats 1000000 in
theorem lives_nil (A : HProp) (a : Option Addr) (c : Nat) : Does Try.prog 27 [.slice a 0 c] [A] (fun v L => v = .bool (lives ([] : List Vn)) ∧ L = [A]) := by
  refine Does.enter 16 Try.func27 rfl rfl rfl fun W F => ?_
  show WPc _ _ _ _ _ [(0, .slice a 0 c)] (A :: F)
  refine WPc.seq ?_
  refine WPc.region ?_
  refine WP.val rfl rfl rfl (Val.assign rfl rfl) ?_
  refine WP.nil ?_
  refine Out.next ?_
  refine WPc.seq ?_
  refine WPc.region ?_
  refine WP.val rfl rfl rfl (Val.move rfl rfl) ?_
  refine WP.val rfl rfl rfl (Val.len rfl Ty.sl23 rfl) ?_
  refine WP.val rfl rfl rfl (Val.gtr rfl rfl rfl) ?_
  refine WP.val rfl rfl rfl (Val.move rfl rfl) ?_
  refine WP.split 6 rfl (fun h1 => ?_) (fun h1 => ?_)
  · skip
    have h1 : ((0 : Int) < (0 : Int)) := h1
    exfalso; omega
  · skip
    have h1 : ¬ ((0 : Int) < (0 : Int)) := h1
    refine WP.skip rfl rfl rfl rfl rfl rfl rfl ?_
    refine WP.skip rfl rfl rfl rfl rfl rfl rfl ?_
    refine WP.skip rfl rfl rfl rfl rfl rfl rfl ?_
    refine WP.skip rfl rfl rfl rfl rfl rfl rfl ?_
    refine WP.skip rfl rfl rfl rfl rfl rfl rfl ?_
    refine WP.skip rfl rfl rfl rfl rfl rfl rfl ?_
    refine WP.skip rfl rfl rfl rfl rfl rfl rfl ?_
    refine WP.skip rfl rfl rfl rfl rfl rfl rfl ?_
    refine WP.val rfl rfl rfl (Val.pickF rfl rfl rfl) ?_
    refine WP.val rfl rfl rfl (Val.assign rfl rfl) ?_
    refine WP.nil ?_
    refine Out.next ?_
    refine WPc.ret ?_
    exact Out.ret1 (L' := _) Try.results27 rfl ⟨congrArg Value.bool (show _ = lives [] by rfl), rfl⟩ (fun _ h => h)

set_option maxRecDepth 100000 in
set_option maxHeartbeats 1000000 in
theorem lives_row (A : HProp) (l : List Vn) (hl : l.length ≤ 100000) (b0 o0 c0 : Nat) (hr : ∀ w, Holds A w → ∀ i x, l[i]? = some x → w.rangeAt b0 (o0 + i * 6) (Vn.cells x)) : Does Try.prog 27 [.slice (some ⟨b0, o0, none⟩) l.length c0] [A] (fun v L => v = .bool (lives l) ∧ L = [A]) := by
  refine Does.enter 16 Try.func27 rfl rfl rfl fun W F => ?_
  show WPc _ _ _ _ _ [(0, .slice (some ⟨b0, o0, none⟩) l.length c0)] (A :: F)
  refine WPc.seq ?_
  refine WPc.region ?_
  refine WP.val rfl rfl rfl (Val.assign rfl rfl) ?_
  refine WP.nil ?_
  refine Out.next ?_
  refine WPc.seq ?_
  refine WPc.region ?_
  refine WP.val rfl rfl rfl (Val.move rfl rfl) ?_
  refine WP.val rfl rfl rfl (Val.len rfl Ty.sl23 rfl) ?_
  refine WP.val rfl rfl rfl (Val.gtr rfl rfl rfl) ?_
  refine WP.val rfl rfl rfl (Val.move rfl rfl) ?_
  refine WP.split 6 rfl (fun h1 => ?_) (fun h1 => ?_)
  · skip
    have h1 : ((0 : Int) < ((l.length : Nat) : Int)) := h1
    have hlt : (l.length - 1) < l.length := by omega
    obtain ⟨x, hx⟩ : ∃ x, l[(l.length - 1)]? = some x := ⟨_, List.getElem?_eq_getElem hlt⟩
    refine WP.valG rfl rfl rfl rfl rfl rfl rfl (Val.move rfl rfl) ?_
    refine WP.valG rfl rfl rfl rfl rfl rfl rfl (Val.move rfl rfl) ?_
    refine WP.valG rfl rfl rfl rfl rfl rfl rfl (Val.len rfl Ty.sl23 rfl) ?_
    refine WP.valG rfl rfl rfl rfl rfl rfl rfl (Val.sub (z := ((l.length - 1 : Nat) : Int)) rfl rfl rfl ((w64 (by omega) (by omega)).trans (by omega))) ?_
    refine WP.valG rfl rfl rfl rfl rfl rfl rfl (Val.indexAddr (j := l.length - 1) (q := o0 + (l.length - 1) * 6) rfl Ty.sl23 rfl rfl (by omega) (by omega) (by omega)) ?_
    refine WP.valG rfl rfl rfl rfl rfl rfl rfl (Val.fieldAddr (j := o0 + (l.length - 1) * 6 + 5) rfl Ty.fo47_3 rfl rfl) ?_
    refine WP.valG rfl rfl rfl rfl rfl rfl rfl (Val.load (v := .bool (x.g)) rfl Ty.sc4 rfl (fun w h => hr w (h.at 0 rfl) (l.length - 1) x hx 5 _ rfl)) ?_
    refine WP.valG rfl rfl rfl rfl rfl rfl rfl (Val.not rfl rfl) ?_
    refine WP.val rfl rfl rfl (Val.pickT rfl rfl rfl) ?_
    refine WP.val rfl rfl rfl (Val.assign rfl rfl) ?_
    refine WP.nil ?_
    refine Out.next ?_
    refine WPc.ret ?_
    exact Out.ret1 (L' := _) Try.results27 rfl ⟨congrArg Value.bool (show _ = lives l by rw [lives_at hx]), rfl⟩ (fun _ h => h)
  · skip
    have h1 : ¬ ((0 : Int) < ((l.length : Nat) : Int)) := h1
    refine WP.skip rfl rfl rfl rfl rfl rfl rfl ?_
    refine WP.skip rfl rfl rfl rfl rfl rfl rfl ?_
    refine WP.skip rfl rfl rfl rfl rfl rfl rfl ?_
    refine WP.skip rfl rfl rfl rfl rfl rfl rfl ?_
    refine WP.skip rfl rfl rfl rfl rfl rfl rfl ?_
    refine WP.skip rfl rfl rfl rfl rfl rfl rfl ?_
    refine WP.skip rfl rfl rfl rfl rfl rfl rfl ?_
    refine WP.skip rfl rfl rfl rfl rfl rfl rfl ?_
    refine WP.val rfl rfl rfl (Val.pickF rfl rfl rfl) ?_
    refine WP.val rfl rfl rfl (Val.assign rfl rfl) ?_
    refine WP.nil ?_
    refine Out.next ?_
    refine WPc.ret ?_
    exact Out.ret1 (L' := _) Try.results27 rfl ⟨congrArg Value.bool (show _ = lives l by rw [lives_no (by omega)]), rfl⟩ (fun _ h => h)

theorem lives_spec (A : HProp) (l : List Vn) (hl : l.length ≤ 100000) (va : Value) (hva : Rd A 6 Vn.cells va l) : Does Try.prog 27 [va] [A] (fun v L => v = .bool (lives l) ∧ L = [A]) := by
  rcases hva with ⟨b0, o0, c0, rfl, hr⟩ | ⟨rfl, a, c, rfl⟩
  · exact lives_row A l hl b0 o0 c0 hr
  · exact lives_nil A a c
set_option maxRecDepth 100000 in
set_option maxHeartbeats 1000000 in
theorem mod_nil (A : HProp) (a : Option Addr) (c : Nat) : Does Try.prog 28 [.slice a 0 c] [A] (fun v L => v = rk (modi ([] : List Vn)) ∧ L = [A]) := by
  refine Does.enter 14 Try.func28 rfl rfl rfl fun W F => ?_
  show WPc _ _ _ _ _ [(0, .slice a 0 c)] (A :: F)
  refine WPc.seq ?_
  refine WPc.region ?_
  refine WP.eff rfl rfl rfl (Eff.alloc rfl Ty.z32) ?_
  rintro _ _ ⟨b1, rfl, rfl⟩
  refine WP.nil ?_
  refine Out.next ?_
  refine WPc.seq ?_
  refine WPc.seq ?_
  refine WPc.region ?_
  refine WP.val rfl rfl rfl (Val.move rfl rfl) ?_
  refine WP.val rfl rfl rfl (Val.len rfl Ty.sl23 rfl) ?_
  refine WP.val rfl rfl rfl (Val.eqlK rfl rfl rfl rfl) ?_
  refine WP.nil ?_
  refine Out.next ?_
  refine WPc.condT rfl rfl ?_
  refine WPc.seq ?_
  refine WPc.region ?_
  refine WP.val rfl rfl rfl (Val.mk (cs := [.int .i64 0, .int .i64 0]) rfl rfl (fun _ => by kernel_rfl)) ?_
  refine WP.eff0 rfl rfl (Eff.storeAgg (cs := [.int .i64 0, .int .i64 0]) (C' := [.int .i64 0, .int .i64 0]) rfl Ty.ag32 rfl rfl rfl rfl (by simp) rfl) ?_
  rintro _ _ rfl
  refine WP.nil ?_
  refine Out.next ?_
  refine WPc.ret ?_
  refine Out.then_ret ?_
  exact Out.retRun (L' := _) (results_cell (cs := _) Try.results28 Ty.ag32 rfl rfl (fun w h => h.range 0 rfl rfl)) ⟨by rw [modi_no (l := []) rfl]; rfl, rfl⟩ (fun w h => h.drop)

set_option maxRecDepth 100000 in
set_option maxHeartbeats 1000000 in
theorem mod_row (A : HProp) (l : List Vn) (hl : l.length ≤ 100000) (b0 o0 c0 : Nat) (hr : ∀ w, Holds A w → ∀ i x, l[i]? = some x → w.rangeAt b0 (o0 + i * 6) (Vn.cells x)) : Does Try.prog 28 [.slice (some ⟨b0, o0, none⟩) l.length c0] [A] (fun v L => v = rk (modi l) ∧ L = [A]) := by
  refine Does.enter 14 Try.func28 rfl rfl rfl fun W F => ?_
  show WPc _ _ _ _ _ [(0, .slice (some ⟨b0, o0, none⟩) l.length c0)] (A :: F)
  refine WPc.seq ?_
  refine WPc.region ?_
  refine WP.eff rfl rfl rfl (Eff.alloc rfl Ty.z32) ?_
  rintro _ _ ⟨b1, rfl, rfl⟩
  refine WP.nil ?_
  refine Out.next ?_
  refine WPc.seq ?_
  refine WPc.seq ?_
  refine WPc.region ?_
  refine WP.val rfl rfl rfl (Val.move rfl rfl) ?_
  refine WP.val rfl rfl rfl (Val.len rfl Ty.sl23 rfl) ?_
  refine WP.val rfl rfl rfl (Val.eql rfl rfl rfl) ?_
  refine WP.nil ?_
  refine Out.next ?_
  refine WPc.ifP rfl (fun h1 => ?_) (fun h1 => ?_)
  · skip
    have h1 : (((l.length : Nat) : Int) = (0 : Int)) := h1
    refine WPc.seq ?_
    refine WPc.region ?_
    refine WP.val rfl rfl rfl (Val.mk (cs := [.int .i64 0, .int .i64 0]) rfl rfl (fun _ => by kernel_rfl)) ?_
    refine WP.eff0 rfl rfl (Eff.storeAgg (cs := [.int .i64 0, .int .i64 0]) (C' := [.int .i64 0, .int .i64 0]) rfl Ty.ag32 rfl rfl rfl rfl (by simp) rfl) ?_
    rintro _ _ rfl
    refine WP.nil ?_
    refine Out.next ?_
    refine WPc.ret ?_
    refine Out.then_ret ?_
    exact Out.retRun (L' := _) (results_cell (cs := _) Try.results28 Ty.ag32 rfl rfl (fun w h => h.range 0 rfl rfl)) ⟨by rw [modi_no (by omega)]; rfl, rfl⟩ (fun w h => h.drop)
  · skip
    have h1 : ¬ (((l.length : Nat) : Int) = (0 : Int)) := h1
    refine WPc.skip ?_
    refine Out.next ?_
    refine WPc.seq ?_
    have hlt : (l.length - 1) < l.length := by omega
    obtain ⟨x, hx⟩ : ∃ x, l[(l.length - 1)]? = some x := ⟨_, List.getElem?_eq_getElem hlt⟩
    refine WPc.region ?_
    refine WP.val rfl rfl rfl (Val.move rfl rfl) ?_
    refine WP.val rfl rfl rfl (Val.move rfl rfl) ?_
    refine WP.val rfl rfl rfl (Val.len rfl Ty.sl23 rfl) ?_
    refine WP.val rfl rfl rfl (Val.sub (z := ((l.length - 1 : Nat) : Int)) rfl rfl rfl ((w64 (by omega) (by omega)).trans (by omega))) ?_
    refine WP.val rfl rfl rfl (Val.indexAddr (j := l.length - 1) (q := o0 + (l.length - 1) * 6) rfl Ty.sl23 rfl rfl (by omega) (by omega) (by omega)) ?_
    refine WP.val rfl rfl rfl (Val.fieldAddr (j := o0 + (l.length - 1) * 6) rfl Ty.fo47_0 rfl rfl) ?_
    refine WP.val rfl rfl rfl (Val.loadAgg (cs := [.int .i64 (x.r.m), .int .i64 (x.r.s)]) rfl Ty.ag32 rfl (by rfl) (fun w h => (fun j v hj => hr w (h.at 1 rfl) (l.length - 1) x hx j v (by match j, hj with | 0, hj => exact hj | 1, hj => exact hj | j + 2, hj => simp at hj)))) ?_
    refine WP.eff0 rfl rfl (Eff.storeAgg (cs := [.int .i64 (x.r.m), .int .i64 (x.r.s)]) (C' := [.int .i64 (x.r.m), .int .i64 (x.r.s)]) rfl Ty.ag32 rfl rfl rfl rfl (by simp) rfl) ?_
    rintro _ _ rfl
    refine WP.nil ?_
    refine Out.next ?_
    refine WPc.ret ?_
    exact Out.retRun (L' := _) (results_cell (cs := _) Try.results28 Ty.ag32 rfl rfl (fun w h => h.range 0 rfl rfl)) ⟨by rw [modi_at hx]; rfl, rfl⟩ (fun w h => h.drop)

theorem mod_spec (A : HProp) (l : List Vn) (hl : l.length ≤ 100000) (va : Value) (hva : Rd A 6 Vn.cells va l) : Does Try.prog 28 [va] [A] (fun v L => v = rk (modi l) ∧ L = [A]) := by
  rcases hva with ⟨b0, o0, c0, rfl, hr⟩ | ⟨rfl, a, c, rfl⟩
  · exact mod_row A l hl b0 o0 c0 hr
  · exact mod_nil A a c

end Go.Proofs.Ythicijpjpijdjaa.Ka
