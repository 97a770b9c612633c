import Derived.Test.YthmkdioafjmclaaQm
namespace Go.Proofs.Ythmkdioafjmclaa.Qh
open Go.RowKit Go.Proofs.Ythmkdioafjmclaa Go.Proofs.Ythmkdioafjmclaa.Sl Go.Proofs.Ythmkdioafjmclaa.Qm
set_option linter.unusedVariables false
set_option linter.unusedSimpArgs false
set_option linter.unusedSectionVars false


theorem item_cells {x : QI} {w : World} (h : Holds (Blk x.b x.cells 134) w) : w.rangeAt x.b 1 [.int .i64 ((x.t / 1000000000 : Nat) : Int), .int .i64 ((x.t % 1000000000 : Nat) : Int), .bool true] := fun j v hj => by
  rw [h.cell]
  match j with
  | 0 => simpa [QI.cells] using hj
  | 1 => simpa [QI.cells] using hj
  | 2 => simpa [QI.cells] using hj
  | j + 3 => simp at hj
theorem item_id {x : QI} {w : World} (h : Holds (Blk x.b x.cells 134) w) : w.cell? ⟨x.b, 0, none⟩ = some (.int .i64 x.id) := by rw [h.cell]; rfl
set_option maxRecDepth 100000 in
set_option maxHeartbeats 1000000 in
theorem before_spec (a b : Nat) : Does Try.prog 167 [.agg #[.int .i64 ((((a / 1000000000) : Nat) : Int)), .int .i64 ((((a % 1000000000) : Nat) : Int)), .bool true], .agg #[.int .i64 ((((b / 1000000000) : Nat) : Int)), .int .i64 ((((b % 1000000000) : Nat) : Int)), .bool true]] [] (fun v L => v = .bool (decide (a < b)) ∧ L = []) := by
  refine Does.enter 32 Try.func167 rfl rfl rfl fun W F => ?_
  show WPc _ _ _ _ _ [(0, .agg #[.int .i64 ((((a / 1000000000) : Nat) : Int)), .int .i64 ((((a % 1000000000) : Nat) : Int)), .bool true]), (1, .agg #[.int .i64 ((((b / 1000000000) : Nat) : Int)), .int .i64 ((((b % 1000000000) : Nat) : Int)), .bool true])] (F)
  refine WPc.seq ?_
  refine WPc.region ?_
  refine WP.eff rfl rfl rfl (Eff.box (C := [.int .i64 ((((a / 1000000000) : Nat) : Int)), .int .i64 ((((a % 1000000000) : Nat) : Int)), .bool true]) rfl rfl rfl) ?_
  rintro _ _ ⟨b1, rfl, rfl⟩
  refine WP.eff rfl rfl rfl (Eff.box (C := [.int .i64 ((((b / 1000000000) : Nat) : Int)), .int .i64 ((((b % 1000000000) : Nat) : Int)), .bool true]) rfl rfl rfl) ?_
  rintro _ _ ⟨b2, rfl, rfl⟩
  refine WP.val rfl rfl rfl (Val.assign rfl rfl) ?_
  refine WP.nil ?_
  refine Out.next ?_
  refine WPc.seq ?_
  refine WPc.seq ?_
  refine WPc.region ?_
  refine WP.val rfl rfl rfl (Val.fieldAddr (j := 2) rfl Ty.fo94_2 rfl rfl) ?_
  refine WP.val rfl rfl rfl (Val.load rfl Ty.sc4 rfl (fun w h => h.cell 1 rfl rfl)) ?_
  refine WP.val rfl rfl rfl (Val.fieldAddr (j := 2) rfl Ty.fo94_2 rfl rfl) ?_
  refine WP.val rfl rfl rfl (Val.load rfl Ty.sc4 rfl (fun w h => h.cell 0 rfl rfl)) ?_
  refine WP.val rfl rfl rfl (Val.neqB rfl Ty2.bo4 rfl rfl) ?_
  refine WP.nil ?_
  refine Out.next ?_
  refine WPc.condF rfl rfl ?_
  refine WPc.skip ?_
  refine Out.next ?_
  refine WPc.seq ?_
  refine WPc.region ?_
  refine WP.val rfl rfl rfl (Val.fieldAddr (j := 0) rfl Ty.fo94_0 rfl rfl) ?_
  refine WP.val rfl rfl rfl (Val.load rfl Ty.sc2 rfl (fun w h => h.cell 1 rfl rfl)) ?_
  refine WP.val rfl rfl rfl (Val.fieldAddr (j := 0) rfl Ty.fo94_0 rfl rfl) ?_
  refine WP.val rfl rfl rfl (Val.load rfl Ty.sc2 rfl (fun w h => h.cell 0 rfl rfl)) ?_
  refine WP.val rfl rfl rfl (Val.lss rfl rfl rfl) ?_
  refine WP.val rfl rfl rfl (Val.move rfl rfl) ?_
  refine WP.split 18 rfl (fun h1 => ?_) (fun h1 => ?_)
  · skip
    have h1 : ((((a / 1000000000) : Nat) : Int) < (((b / 1000000000) : Nat) : Int)) := h1
    refine WP.skip rfl rfl rfl rfl rfl rfl rfl ?_
    refine WP.skip rfl rfl rfl rfl rfl rfl rfl ?_
    refine WP.skip rfl rfl rfl rfl rfl rfl rfl ?_
    refine WP.skip rfl rfl rfl rfl rfl rfl rfl ?_
    refine WP.skip rfl rfl rfl rfl rfl rfl rfl ?_
    refine WP.skip rfl rfl rfl rfl rfl rfl rfl ?_
    refine WP.skipU rfl rfl rfl rfl rfl rfl ?_
    refine WP.skipU rfl rfl rfl rfl rfl rfl ?_
    refine WP.skipU rfl rfl rfl rfl rfl rfl ?_
    refine WP.skipU rfl rfl rfl rfl rfl rfl ?_
    refine WP.skipU rfl rfl rfl rfl rfl rfl ?_
    refine WP.skip rfl rfl rfl rfl rfl rfl rfl ?_
    refine WP.val rfl rfl rfl (Val.pickT rfl rfl rfl) ?_
    refine WP.val rfl rfl rfl (Val.assign rfl rfl) ?_
    refine WP.nil ?_
    refine Out.next ?_
    refine WPc.ret ?_
    refine Out.drop ?_
    refine Out.drop ?_
    exact Out.ret1 (L' := []) Try.results167 rfl ⟨congrArg Value.bool (show _ = decide (a < b) by rw [decide_eq_true (by omega)]), rfl⟩ (fun _ h => h)
  · skip
    have h1 : ¬ ((((a / 1000000000) : Nat) : Int) < (((b / 1000000000) : Nat) : Int)) := h1
    refine WP.valG rfl rfl rfl rfl rfl rfl rfl (Val.fieldAddr (j := 0) rfl Ty.fo94_0 rfl rfl) ?_
    refine WP.valG rfl rfl rfl rfl rfl rfl rfl (Val.load rfl Ty.sc2 rfl (fun w h => h.cell 1 rfl rfl)) ?_
    refine WP.valG rfl rfl rfl rfl rfl rfl rfl (Val.fieldAddr (j := 0) rfl Ty.fo94_0 rfl rfl) ?_
    refine WP.valG rfl rfl rfl rfl rfl rfl rfl (Val.load rfl Ty.sc2 rfl (fun w h => h.cell 0 rfl rfl)) ?_
    refine WP.valG rfl rfl rfl rfl rfl rfl rfl (Val.eql rfl rfl rfl) ?_
    refine WP.valG rfl rfl rfl rfl rfl rfl rfl (Val.move rfl rfl) ?_
    refine WP.split 24 rfl (fun h2 => ?_) (fun h2 => ?_)
    · skip
      have h2 : ((((a / 1000000000) : Nat) : Int) = (((b / 1000000000) : Nat) : Int)) := h2
      refine WP.valG rfl rfl rfl rfl rfl rfl rfl (Val.fieldAddr (j := 1) rfl Ty.fo94_1 rfl rfl) ?_
      refine WP.valG rfl rfl rfl rfl rfl rfl rfl (Val.load rfl Ty.sc2 rfl (fun w h => h.cell 1 rfl rfl)) ?_
      refine WP.valG rfl rfl rfl rfl rfl rfl rfl (Val.fieldAddr (j := 1) rfl Ty.fo94_1 rfl rfl) ?_
      refine WP.valG rfl rfl rfl rfl rfl rfl rfl (Val.load rfl Ty.sc2 rfl (fun w h => h.cell 0 rfl rfl)) ?_
      refine WP.valG rfl rfl rfl rfl rfl rfl rfl (Val.lss rfl rfl rfl) ?_
      refine WP.valG rfl rfl rfl rfl rfl rfl rfl (Val.pickT rfl rfl rfl) ?_
      refine WP.val rfl rfl rfl (Val.pickF rfl rfl rfl) ?_
      refine WP.val rfl rfl rfl (Val.assign rfl rfl) ?_
      refine WP.nil ?_
      refine Out.next ?_
      refine WPc.ret ?_
      refine Out.drop ?_
      refine Out.drop ?_
      exact Out.ret1 (L' := []) Try.results167 rfl ⟨congrArg Value.bool (show _ = decide (a < b) by exact decide_eq_decide.2 (by omega)), rfl⟩ (fun _ h => h)
    · skip
      have h2 : ¬ ((((a / 1000000000) : Nat) : Int) = (((b / 1000000000) : Nat) : Int)) := h2
      refine WP.skip rfl rfl rfl rfl rfl rfl rfl ?_
      refine WP.skip rfl rfl rfl rfl rfl rfl rfl ?_
      refine WP.skip rfl rfl rfl rfl rfl rfl rfl ?_
      refine WP.skip rfl rfl rfl rfl rfl rfl rfl ?_
      refine WP.skip rfl rfl rfl rfl rfl rfl rfl ?_
      refine WP.valG rfl rfl rfl rfl rfl rfl rfl (Val.pickF rfl rfl rfl) ?_
      refine WP.val rfl rfl rfl (Val.pickF rfl rfl rfl) ?_
      refine WP.val rfl rfl rfl (Val.assign rfl rfl) ?_
      refine WP.nil ?_
      refine Out.next ?_
      refine WPc.ret ?_
      refine Out.drop ?_
      refine Out.drop ?_
      exact Out.ret1 (L' := []) Try.results167 rfl ⟨congrArg Value.bool (show _ = decide (a < b) by rw [decide_eq_false (by omega)]), rfl⟩ (fun _ h => h)
set_option maxRecDepth 100000 in
set_option maxHeartbeats 1000000 in
theorem qlen_spec (rb n cap : Nat) : Does Try.prog 164 [.slice (some ⟨rb, 0, none⟩) n cap] [] (fun v L => v = .int .i64 ((n : Nat) : Int) ∧ L = []) := by
  refine Does.enter 5 Try.func164 rfl rfl rfl fun W F => ?_
  show WPc _ _ _ _ _ [(0, .slice (some ⟨rb, 0, none⟩) n cap)] (F)
  refine WPc.seq ?_
  refine WPc.region ?_
  refine WP.val rfl rfl rfl (Val.assign rfl rfl) ?_
  refine WP.nil ?_
  refine Out.next ?_
  refine WPc.seq ?_
  refine WPc.region ?_
  refine WP.val rfl rfl rfl (Val.move rfl rfl) ?_
  refine WP.val rfl rfl rfl (Val.len rfl Ty.sl130 rfl) ?_
  refine WP.val rfl rfl rfl (Val.assign rfl rfl) ?_
  refine WP.nil ?_
  refine Out.next ?_
  refine WPc.ret ?_
  exact Out.ret1 (L' := []) Try.results164 rfl ⟨rfl, rfl⟩ (fun _ h => h)
set_option maxRecDepth 100000 in
set_option maxHeartbeats 1000000 in
theorem less_spec (rb cap n : Nat) (q : List QI) (sp : List Value) (i j : Nat) (x y : QI) (hx : q[i]? = some x) (hy : q[j]? = some y) (hin : i < n) (hjn : j < n) (hn : n ≤ 4294967296) : Does Try.prog 165 [.slice (some ⟨rb, 0, none⟩) n cap, .int .i64 (((i : Nat) : Int)), .int .i64 (((j : Nat) : Int))] [Blk rb (q.map QI.ptr ++ sp) 90, Its q] (fun v L => v = .bool (decide (x.t < y.t)) ∧ L = [Blk rb (q.map QI.ptr ++ sp) 90, Its q]) := by
  refine Does.enter 22 Try.func165 rfl rfl rfl fun W F => ?_
  show WPc _ _ _ _ _ [(0, .slice (some ⟨rb, 0, none⟩) n cap), (1, .int .i64 (((i : Nat) : Int))), (2, .int .i64 (((j : Nat) : Int)))] (Blk rb (q.map QI.ptr ++ sp) 90 :: Its q :: F)
  refine WPc.seq ?_
  refine WPc.region ?_
  refine WP.val rfl rfl rfl (Val.assign rfl rfl) ?_
  refine WP.nil ?_
  refine Out.next ?_
  refine WPc.seq ?_
  refine WPD.start (Sat W (Blk rb (q.map QI.ptr ++ sp) 90 :: Its q :: F)) Ty.mixed ?_
  refine WPD.takeM 0 rfl rfl rfl rfl (by kernel_rfl) (by kernel_rfl) (by kernel_rfl) (by kernel_rfl) (fun _ _ _ h => h) (fun _ h => h) (Val.move rfl rfl) ?_
  refine WPD.takeM 1 rfl rfl rfl rfl (by kernel_rfl) (by kernel_rfl) (by kernel_rfl) (by kernel_rfl) (fun _ _ _ h => h) (fun _ h => h) (Val.move rfl rfl) ?_
  refine WPD.takeM 2 rfl rfl rfl rfl (by kernel_rfl) (by kernel_rfl) (by kernel_rfl) (by kernel_rfl) (fun _ _ _ h => h) (fun _ h => h) (Val.indexAddr (j := i) (q := i) rfl Ty.sl130 rfl rfl (by omega) (by omega) (by omega)) ?_
  refine WPD.take 3 rfl rfl rfl rfl (by kernel_rfl) (by kernel_rfl) (by kernel_rfl) (by kernel_rfl) (fun _ _ _ h => h) (by kernel_rfl) (fun _ h => h) (Val.load (v := .pointer (some ⟨x.b, 0, none⟩)) rfl Ty.sc90 rfl (fun w h => h.cell 0 rfl (row_at hx sp))) ?_
  refine WPD.takeM 4 rfl rfl rfl rfl (by kernel_rfl) (by kernel_rfl) (by kernel_rfl) (by kernel_rfl) (fun _ _ _ h => h) (fun _ h => h) (Val.nilCheck rfl rfl) ?_
  refine WPD.takeM 5 rfl rfl rfl rfl (by kernel_rfl) (by kernel_rfl) (by kernel_rfl) (by kernel_rfl) (fun _ _ _ h => h) (fun _ h => h) (Val.fieldAddr (j := 1) rfl Ty.fo134_1 rfl rfl) ?_
  refine WPD.take 6 rfl rfl rfl rfl (by kernel_rfl) (by kernel_rfl) (by kernel_rfl) (by kernel_rfl) (fun _ _ _ h => h) (by kernel_rfl) (fun _ h => h) (Val.loadAgg (cs := [.int .i64 ((((x.t / 1000000000) : Nat) : Int)), .int .i64 ((((x.t % 1000000000) : Nat) : Int)), .bool true]) rfl Ty.ag94 rfl (by rfl) (fun w h => item_cells (its_holds hx (k := 1) rfl h))) ?_
  refine WPD.takeM 7 rfl rfl rfl rfl (by kernel_rfl) (by kernel_rfl) (by kernel_rfl) (by kernel_rfl) (fun _ _ _ h => h) (fun _ h => h) (Val.move rfl rfl) ?_
  refine WPD.takeM 8 rfl rfl rfl rfl (by kernel_rfl) (by kernel_rfl) (by kernel_rfl) (by kernel_rfl) (fun _ _ _ h => h) (fun _ h => h) (Val.move rfl rfl) ?_
  refine WPD.takeM 9 rfl rfl rfl rfl (by kernel_rfl) (by kernel_rfl) (by kernel_rfl) (by kernel_rfl) (fun _ _ _ h => h) (fun _ h => h) (Val.indexAddr (j := j) (q := j) rfl Ty.sl130 rfl rfl (by omega) (by omega) (by omega)) ?_
  refine WPD.take 10 rfl rfl rfl rfl (by kernel_rfl) (by kernel_rfl) (by kernel_rfl) (by kernel_rfl) (fun _ _ _ h => h) (by kernel_rfl) (fun _ h => h) (Val.load (v := .pointer (some ⟨y.b, 0, none⟩)) rfl Ty.sc90 rfl (fun w h => h.cell 0 rfl (row_at hy sp))) ?_
  refine WPD.takeM 11 rfl rfl rfl rfl (by kernel_rfl) (by kernel_rfl) (by kernel_rfl) (by kernel_rfl) (fun _ _ _ h => h) (fun _ h => h) (Val.nilCheck rfl rfl) ?_
  refine WPD.takeM 12 rfl rfl rfl rfl (by kernel_rfl) (by kernel_rfl) (by kernel_rfl) (by kernel_rfl) (fun _ _ _ h => h) (fun _ h => h) (Val.fieldAddr (j := 1) rfl Ty.fo134_1 rfl rfl) ?_
  refine WPD.take 13 rfl rfl rfl rfl (by kernel_rfl) (by kernel_rfl) (by kernel_rfl) (by kernel_rfl) (fun _ _ _ h => h) (by kernel_rfl) (fun _ h => h) (Val.loadAgg (cs := [.int .i64 ((((y.t / 1000000000) : Nat) : Int)), .int .i64 ((((y.t % 1000000000) : Nat) : Int)), .bool true]) rfl Ty.ag94 rfl (by rfl) (fun w h => item_cells (its_holds hy (k := 1) rfl h))) ?_
  refine WPD.stepC 14 (by kernel_rfl) rfl rfl rfl rfl (by kernel_rfl) (Eff.call rfl rfl Try.call167 (before_spec x.t y.t)) ?_
  rintro _ _ ⟨_, ⟨rfl, rfl⟩, rfl⟩
  refine ⟨(Sat W (Blk rb (q.map QI.ptr ++ sp) 90 :: Its q :: F)), (fun _ h => h), ?_⟩
  show WPD _ _ _ _ _ _ _ _ _ (Blk rb (q.map QI.ptr ++ sp) 90 :: Its q :: F)
  refine WPD.takeM 15 rfl rfl rfl rfl (by kernel_rfl) (by kernel_rfl) (by kernel_rfl) (by kernel_rfl) (fun _ _ _ h => h) (fun _ h => h) (Val.assign rfl rfl) ?_
  refine WPD.done (by kernel_rfl) ?_
  refine Out.next ?_
  refine WPc.ret ?_
  exact Out.ret1 (L' := [Blk rb (q.map QI.ptr ++ sp) 90, Its q]) Try.results165 rfl ⟨rfl, rfl⟩ (fun _ h => h)

end Go.Proofs.Ythmkdioafjmclaa.Qh
