import Derived.Test.YthmkdioafjmclaaQh5
namespace Go.Proofs.Ythmkdioafjmclaa.Qh6
open Go.RowKit Go.Proofs.Ythmkdioafjmclaa Go.Proofs.Ythmkdioafjmclaa.Sl Go.Proofs.Ythmkdioafjmclaa.Qm Go.Proofs.Ythmkdioafjmclaa.Qh Go.Proofs.Ythmkdioafjmclaa.Qh2 Go.Proofs.Ythmkdioafjmclaa.Qh3 Go.Proofs.Ythmkdioafjmclaa.Qh4 Go.Proofs.Ythmkdioafjmclaa.Qh5
set_option linter.unusedVariables false
set_option linter.unusedSimpArgs false
set_option linter.unusedSectionVars false


theorem results_tc {P : Program} {W : World} {fn : Func} {n : Nat} {l : List (Nat × Value)} {L : List HProp} {t u : Tmp} {ty : TypeId} {v : Value} {b k : Nat} {cs : List Value} (hr : fn.results = #[.tmp t, .cell u ty]) (hv : Sl.look l t = some v) (ht : aggS P ty = some k) (hu : Sl.look l u = some (.pointer (some ⟨b, 0, none⟩))) (hk : cs.length = k)
    (hc : ∀ w, Sat W L w → w.rangeAt b 0 cs) : ∀ a w, Fr n a l → Sat W L w → (results fn a.tmps).run P w = .ok (.tuple #[v, .agg cs.toArray]) w := fun a w hf hs => by
  obtain ⟨d, h1, h2, h3⟩ := aggS_row ht
  have := run_loadVar_mid (P := P) w b 0 ty cs d (hc w hs) h1 h2 (by rw [h3, hk])
  have e := hf.at_ u _ hu
  have e2 := hf.at_ t _ hv
  rw [Array.getD_eq_getD_getElem?] at e e2
  simp [results, hr, e, e2, asAddr, this]
theorem quo_sum (t : Nat) : t / 1000000000 * 1000000000 + t % 1000000000 = t := by have := Nat.div_add_mod t 1000000000; omega
set_option maxRecDepth 100000 in
set_option maxHeartbeats 1000000 in
theorem add_spec (t : Nat) (ht : t ≤ 1152921504606846976) : Does Try.prog 61 [.agg #[.int .i64 0, .int .i64 0, .bool true], .int .i64 (((t : Nat) : Int))] [] (fun v L => v = .agg #[.int .i64 ((t / 1000000000 : Nat) : Int), .int .i64 ((t % 1000000000 : Nat) : Int), .bool true] ∧ L = []) := by
  refine Does.enter 40 Try.func61 rfl rfl rfl fun W F => ?_
  show WPc _ _ _ _ _ [(0, .agg #[.int .i64 0, .int .i64 0, .bool true]), (1, .int .i64 (((t : Nat) : Int)))] (F)
  refine WPc.seq ?_
  refine WPc.region ?_
  refine WP.eff rfl rfl rfl (Eff.box (C := [.int .i64 0, .int .i64 0, .bool true]) rfl rfl rfl) ?_
  rintro _ _ ⟨b1, rfl, rfl⟩
  refine WP.eff rfl rfl rfl (Eff.alloc rfl Ty.z94) ?_
  rintro _ _ ⟨b2, rfl, rfl⟩
  refine WP.nil ?_
  refine Out.next ?_
  refine WPc.seq ?_
  refine WPc.region ?_
  refine WP.val rfl rfl rfl (Val.fieldAddr (j := 0) rfl Ty.fo94_0 rfl rfl) ?_
  refine WP.val rfl rfl rfl (Val.load rfl Ty.sc2 rfl (fun w h => h.cell 1 rfl rfl)) ?_
  refine WP.val rfl rfl rfl (Val.move rfl rfl) ?_
  refine WP.val rfl rfl rfl (Val.quo (z := ((t / 1000000000 : Nat) : Int)) rfl rfl rfl (by omega) (show IntKind.i64.wrap ((t / 1000000000 : Nat) : Int) = _ from w64 (by omega) (by omega))) ?_
  refine WP.val rfl rfl rfl (Val.add (z := ((0 + (t / 1000000000) : Nat) : Int)) rfl rfl rfl ((w64 (by omega) (by omega)).trans (by omega))) ?_
  refine WP.val rfl rfl rfl (Val.fieldAddr (j := 0) rfl Ty.fo94_0 rfl rfl) ?_
  refine WP.know 9 (.int .i64 (((t / 1000000000 : Nat)) : Int)) rfl (by congr 1; omega) ?_
  refine WP.perm pl1 ?_
  refine WP.eff0 rfl rfl (Eff.store rfl Ty.sc2 rfl rfl rfl (by simp) st0) ?_
  rintro _ _ rfl
  refine WP.nil ?_
  refine Out.next ?_
  refine WPc.seq ?_
  refine WPc.region ?_
  refine WP.val rfl rfl rfl (Val.fieldAddr (j := 1) rfl Ty.fo94_1 rfl rfl) ?_
  refine WP.val rfl rfl rfl (Val.load rfl Ty.sc2 rfl (fun w h => h.cell 0 rfl rfl)) ?_
  refine WP.val rfl rfl rfl (Val.move rfl rfl) ?_
  refine WP.val rfl rfl rfl (Val.rem (z := ((t % 1000000000 : Nat) : Int)) rfl rfl rfl (by omega) (by rfl)) ?_
  refine WP.val rfl rfl rfl (Val.add (z := ((0 + (t % 1000000000) : Nat) : Int)) rfl rfl rfl ((w64 (by omega) (by omega)).trans (by omega))) ?_
  refine WP.val rfl rfl rfl (Val.fieldAddr (j := 1) rfl Ty.fo94_1 rfl rfl) ?_
  refine WP.know 15 (.int .i64 (((t % 1000000000 : Nat)) : Int)) rfl (by congr 1; omega) ?_
  refine WP.eff0 rfl rfl (Eff.store rfl Ty.sc2 rfl rfl rfl (by simp) st1) ?_
  rintro _ _ rfl
  refine WP.nil ?_
  refine Out.next ?_
  refine WPc.seq ?_
  refine WPc.seq ?_
  refine WPc.region ?_
  refine WP.val rfl rfl rfl (Val.fieldAddr (j := 1) rfl Ty.fo94_1 rfl rfl) ?_
  refine WP.val rfl rfl rfl (Val.load rfl Ty.sc2 rfl (fun w h => h.cell 0 rfl rfl)) ?_
  refine WP.val rfl rfl rfl (Val.geq rfl rfl rfl) ?_
  refine WP.nil ?_
  refine Out.next ?_
  refine WPc.ifP rfl (fun h1 => ?_) (fun h1 => ?_)
  · skip
    have h1 : ((1000000000 : Int) ≤ ((t % 1000000000 : Nat) : Int)) := h1
    exfalso; omega
  · skip
    have h1 : ¬ ((1000000000 : Int) ≤ ((t % 1000000000 : Nat) : Int)) := h1
    refine WPc.skip ?_
    refine Out.next ?_
    refine WPc.seq ?_
    refine WPc.seq ?_
    refine WPc.region ?_
    refine WP.val rfl rfl rfl (Val.fieldAddr (j := 1) rfl Ty.fo94_1 rfl rfl) ?_
    refine WP.val rfl rfl rfl (Val.load rfl Ty.sc2 rfl (fun w h => h.cell 0 rfl rfl)) ?_
    refine WP.val rfl rfl rfl (Val.lss rfl rfl rfl) ?_
    refine WP.nil ?_
    refine Out.next ?_
    refine WPc.ifP rfl (fun h2 => ?_) (fun h2 => ?_)
    · skip
      have h2 : (((t % 1000000000 : Nat) : Int) < (0 : Int)) := h2
      exfalso; omega
    · skip
      have h2 : ¬ (((t % 1000000000 : Nat) : Int) < (0 : Int)) := h2
      refine WPc.skip ?_
      refine Out.next ?_
      refine WPc.seq ?_
      refine WPc.region ?_
      refine WP.val rfl rfl rfl (Val.loadAgg (cs := [.int .i64 (((t / 1000000000 : Nat) : Int)), .int .i64 (((t % 1000000000 : Nat) : Int)), .bool true]) rfl Ty.ag94 rfl rfl (fun w h => h.range 0 rfl rfl)) ?_
      refine WP.perm pl1 ?_
      refine WP.eff0 rfl rfl (Eff.storeAgg (cs := [.int .i64 (((t / 1000000000 : Nat) : Int)), .int .i64 (((t % 1000000000 : Nat) : Int)), .bool true]) (C' := [.int .i64 (((t / 1000000000 : Nat) : Int)), .int .i64 (((t % 1000000000 : Nat) : Int)), .bool true]) rfl Ty.ag94 rfl rfl rfl rfl (by simp) rfl) ?_
      rintro _ _ rfl
      refine WP.nil ?_
      refine Out.next ?_
      refine WPc.ret ?_
      refine Out.perm pl1 ?_
      refine Out.drop ?_
      exact Out.retRun (L' := []) (results_cell (cs := [.int .i64 (((t / 1000000000 : Nat) : Int)), .int .i64 (((t % 1000000000 : Nat) : Int)), .bool true]) Try.results61 Ty.ag94 rfl rfl (fun w h => h.range 0 rfl rfl)) ⟨rfl, rfl⟩ (fun w h => h.drop)
set_option maxRecDepth 100000 in
set_option maxHeartbeats 1000000 in
theorem at_spec (t : Nat) (ht : t ≤ 1152921504606846976) : Does Try.prog 38 [.int .i64 (((t : Nat) : Int))] [] (fun v L => v = .agg #[.int .i64 ((t / 1000000000 : Nat) : Int), .int .i64 ((t % 1000000000 : Nat) : Int), .bool true] ∧ L = []) := by
  refine Does.enter 6 Try.func38 rfl rfl rfl fun W F => ?_
  show WPc _ _ _ _ _ [(0, .int .i64 (((t : Nat) : Int)))] (F)
  refine WPc.seq ?_
  refine WPc.region ?_
  refine WP.eff rfl rfl rfl (Eff.alloc rfl Ty.z94) ?_
  rintro _ _ ⟨b1, rfl, rfl⟩
  refine WP.nil ?_
  refine Out.next ?_
  refine WPc.seq ?_
  refine WPc.region ?_
  refine WP.val rfl rfl rfl (Val.mk (cs := [.int .i64 0, .int .i64 0, .bool true]) rfl rfl (fun _ => by kernel_rfl)) ?_
  refine WP.val rfl rfl rfl (Val.move rfl rfl) ?_
  refine WP.eff rfl rfl rfl (Eff.call rfl rfl Try.call61 (add_spec t ht)) ?_
  rintro _ _ ⟨_, ⟨rfl, rfl⟩, rfl⟩
  show WP _ _ _ _ _ _ _ (Blk b1 [.int .i64 0, .int .i64 0, .bool false] 94 :: F)
  refine WP.eff0 rfl rfl (Eff.storeAgg (cs := [.int .i64 ((((t / 1000000000) : Nat) : Int)), .int .i64 ((((t % 1000000000) : Nat) : Int)), .bool true]) (C' := [.int .i64 ((((t / 1000000000) : Nat) : Int)), .int .i64 ((((t % 1000000000) : Nat) : Int)), .bool true]) rfl Ty.ag94 rfl rfl rfl rfl (by simp) rfl) ?_
  rintro _ _ rfl
  refine WP.nil ?_
  refine Out.next ?_
  refine WPc.ret ?_
  exact Out.retRun (L' := []) (results_cell (cs := [.int .i64 ((((t / 1000000000) : Nat) : Int)), .int .i64 ((((t % 1000000000) : Nat) : Int)), .bool true]) Try.results38 Ty.ag94 rfl rfl (fun w h => h.range 0 rfl rfl)) ⟨rfl, rfl⟩ (fun w h => h.drop)
set_option maxRecDepth 100000 in
set_option maxHeartbeats 1000000 in
theorem nanos_spec (t : Nat) (ht : t ≤ 1152921504606846976) : Does Try.prog 41 [.agg #[.int .i64 ((((t / 1000000000) : Nat) : Int)), .int .i64 ((((t % 1000000000) : Nat) : Int)), .bool true]] [] (fun v L => v = .int .i64 ((t : Nat) : Int) ∧ L = []) := by
  have hqs := quo_sum t
  refine Does.enter 9 Try.func41 rfl rfl rfl fun W F => ?_
  show WPc _ _ _ _ _ [(0, .agg #[.int .i64 ((((t / 1000000000) : Nat) : Int)), .int .i64 ((((t % 1000000000) : Nat) : Int)), .bool true])] (F)
  refine WPc.seq ?_
  refine WPc.region ?_
  refine WP.eff rfl rfl rfl (Eff.box (C := [.int .i64 ((((t / 1000000000) : Nat) : Int)), .int .i64 ((((t % 1000000000) : Nat) : Int)), .bool true]) rfl rfl rfl) ?_
  rintro _ _ ⟨b1, rfl, rfl⟩
  refine WP.val rfl rfl rfl (Val.assign rfl rfl) ?_
  refine WP.nil ?_
  refine Out.next ?_
  refine WPc.seq ?_
  refine WPc.region ?_
  refine WP.val rfl rfl rfl (Val.fieldAddr (j := 0) rfl Ty.fo94_0 rfl rfl) ?_
  refine WP.val rfl rfl rfl (Val.load rfl Ty.sc2 rfl (fun w h => h.cell 0 rfl rfl)) ?_
  refine WP.val rfl rfl rfl (Val.mul (z := ((((t / 1000000000)) * 1000000000 : Nat) : Int)) rfl rfl rfl ((w64 (by omega) (by omega)).trans (by omega))) ?_
  refine WP.val rfl rfl rfl (Val.fieldAddr (j := 1) rfl Ty.fo94_1 rfl rfl) ?_
  refine WP.val rfl rfl rfl (Val.load rfl Ty.sc2 rfl (fun w h => h.cell 0 rfl rfl)) ?_
  refine WP.val rfl rfl rfl (Val.add (z := (((((t / 1000000000)) * 1000000000) + ((t % 1000000000)) : Nat) : Int)) rfl rfl rfl ((w64 (by omega) (by omega)).trans (by omega))) ?_
  refine WP.know 8 (.int .i64 ((t : Nat) : Int)) rfl (by have := quo_sum t; congr 1; omega) ?_
  refine WP.val rfl rfl rfl (Val.assign rfl rfl) ?_
  refine WP.nil ?_
  refine Out.next ?_
  refine WPc.ret ?_
  refine Out.drop ?_
  exact Out.ret1 (L' := []) Try.results41 rfl ⟨rfl, rfl⟩ (fun _ h => h)
set_option maxRecDepth 100000 in
set_option maxHeartbeats 1000000 in
theorem item_spec (id : Int) (t : Nat) : Does Try.prog 37 [.int .i64 (id), .agg #[.int .i64 ((((t / 1000000000) : Nat) : Int)), .int .i64 ((((t % 1000000000) : Nat) : Int)), .bool true]] [] (fun v L => ∃ b, v = .pointer (some ⟨b, 0, none⟩) ∧ L = [Blk b [.int .i64 id, .int .i64 ((t / 1000000000 : Nat) : Int), .int .i64 ((t % 1000000000 : Nat) : Int), .bool true, .int .i64 0] 134]) := by
  refine Does.enter 9 Try.func37 rfl rfl rfl fun W F => ?_
  show WPc _ _ _ _ _ [(0, .int .i64 (id)), (1, .agg #[.int .i64 ((((t / 1000000000) : Nat) : Int)), .int .i64 ((((t % 1000000000) : Nat) : Int)), .bool true])] (F)
  refine WPc.seq ?_
  refine WPc.region ?_
  refine WP.eff rfl rfl rfl (Eff.box (C := [.int .i64 ((((t / 1000000000) : Nat) : Int)), .int .i64 ((((t % 1000000000) : Nat) : Int)), .bool true]) rfl rfl rfl) ?_
  rintro _ _ ⟨b1, rfl, rfl⟩
  refine WP.val rfl rfl rfl (Val.assign rfl rfl) ?_
  refine WP.nil ?_
  refine Out.next ?_
  refine WPc.seq ?_
  refine WPc.region ?_
  refine WP.val rfl rfl rfl (Val.move rfl rfl) ?_
  refine WP.val rfl rfl rfl (Val.loadAgg (cs := [.int .i64 ((((t / 1000000000) : Nat) : Int)), .int .i64 ((((t % 1000000000) : Nat) : Int)), .bool true]) rfl Ty.ag94 rfl rfl (fun w h => h.range 0 rfl rfl)) ?_
  refine WP.val rfl rfl rfl (Val.mk (cs := [.int .i64 (id), .int .i64 ((((t / 1000000000) : Nat) : Int)), .int .i64 ((((t % 1000000000) : Nat) : Int)), .bool true, .int .i64 0]) rfl rfl (fun _ => by kernel_rfl)) ?_
  refine WP.eff rfl rfl rfl (Eff.box (C := [.int .i64 (id), .int .i64 ((((t / 1000000000) : Nat) : Int)), .int .i64 ((((t % 1000000000) : Nat) : Int)), .bool true, .int .i64 0]) rfl rfl rfl) ?_
  rintro _ _ ⟨b2, rfl, rfl⟩
  refine WP.val rfl rfl rfl (Val.assign rfl rfl) ?_
  refine WP.nil ?_
  refine Out.next ?_
  refine WPc.ret ?_
  refine Out.perm pl1 ?_
  refine Out.drop ?_
  exact Out.ret1 (L' := _) Try.results37 rfl ⟨b2, rfl, rfl⟩ (fun _ h => h)
set_option maxRecDepth 100000 in
set_option maxHeartbeats 1000000 in
theorem newq_spec  : Does Try.prog 58 [] [] (fun v L => ∃ nb mb rb, v = .pointer (some ⟨nb, 0, none⟩) ∧ L = [Blk nb [.map (some mb), .slice (some ⟨rb, 0, none⟩) 0 0] 132, Blk rb [] 90, Mapk mb (.int .i64) []]) := by
  refine Does.enter 5 Try.func58 rfl rfl rfl fun W F => ?_
  show WPc _ _ _ _ _ [] (F)
  refine WPc.seq ?_
  refine WPc.region ?_
  refine WP.val rfl rfl rfl (Val.assign rfl rfl) ?_
  refine WP.nil ?_
  refine Out.next ?_
  refine WPc.seq ?_
  refine WPc.region ?_
  refine WP.eff rfl rfl rfl (Eff.makeMap (.int .i64) rfl) ?_
  rintro _ _ ⟨b1, rfl, rfl⟩
  refine WP.eff rfl rfl rfl (Eff.makeSlice (m := 0) (c := 0) (z := [.pointer none]) rfl Ty.sl130 Ty.z90 rfl rfl rfl rfl rfl (by omega) (by omega) (by omega)) ?_
  rintro _ _ ⟨b2, rfl, rfl⟩
  refine WP.val rfl rfl rfl (Val.mk (cs := [.map (some b1), .slice (some ⟨b2, 0, none⟩) 0 0]) rfl rfl (fun _ => by kernel_rfl)) ?_
  refine WP.eff rfl rfl rfl (Eff.box (C := [.map (some b1), .slice (some ⟨b2, 0, none⟩) 0 0]) rfl rfl rfl) ?_
  rintro _ _ ⟨b3, rfl, rfl⟩
  refine WP.val rfl rfl rfl (Val.assign rfl rfl) ?_
  refine WP.nil ?_
  refine Out.next ?_
  refine WPc.ret ?_
  exact Out.ret1 (L' := _) Try.results58 rfl ⟨b3, b1, b2, rfl, rfl⟩ (fun _ h => h)
set_option maxRecDepth 100000 in
set_option maxHeartbeats 1000000 in
theorem zzqueue_spec  : Does Try.prog 35 [] [] (fun v L => ∃ nb mb rb, v = .pointer (some ⟨nb, 0, none⟩) ∧ L = [Blk nb [.map (some mb), .slice (some ⟨rb, 0, none⟩) 0 0] 132, Blk rb [] 90, Mapk mb (.int .i64) []]) := by
  refine Does.enter 2 Try.func35 rfl rfl rfl fun W F => ?_
  show WPc _ _ _ _ _ [] (F)
  refine WPc.seq ?_
  refine WPc.region ?_
  refine WP.val rfl rfl rfl (Val.assign rfl rfl) ?_
  refine WP.nil ?_
  refine Out.next ?_
  refine WPc.seq ?_
  refine WPc.region ?_
  refine WP.eff rfl rfl rfl (Eff.call rfl rfl Try.call58 (newq_spec)) ?_
  rintro _ _ ⟨_, ⟨nb, mb, rb, rfl, rfl⟩, rfl⟩
  show WP _ _ _ _ _ _ _ (Blk nb [.map (some mb), .slice (some ⟨rb, 0, none⟩) 0 0] 132 :: Blk rb ([]) 90 :: Mapk mb (.int .i64) ([]) :: F)
  refine WP.val rfl rfl rfl (Val.assign rfl rfl) ?_
  refine WP.nil ?_
  refine Out.next ?_
  refine WPc.ret ?_
  exact Out.ret1 (L' := _) Try.results35 rfl ⟨nb, mb, rb, rfl, rfl⟩ (fun _ h => h)
set_option maxRecDepth 100000 in
set_option maxHeartbeats 1000000 in
theorem len_spec (nb mb rb cap n : Nat) (kvs : List (Value × Value)) (hkn : kvs.length = n) : Does Try.prog 42 [.pointer (some ⟨nb, 0, none⟩)] [Blk nb [.map (some mb), .slice (some ⟨rb, 0, none⟩) n cap] 132, Mapk mb (.int .i64) (kvs)] (fun v L => v = .int .i64 ((n : Nat) : Int) ∧ L = [Blk nb [.map (some mb), .slice (some ⟨rb, 0, none⟩) n cap] 132, Mapk mb (.int .i64) (kvs)]) := by
  refine Does.enter 8 Try.func42 rfl rfl rfl fun W F => ?_
  show WPc _ _ _ _ _ [(0, .pointer (some ⟨nb, 0, none⟩))] (Blk nb [.map (some mb), .slice (some ⟨rb, 0, none⟩) n cap] 132 :: Mapk mb (.int .i64) (kvs) :: F)
  refine WPc.seq ?_
  refine WPc.region ?_
  refine WP.val rfl rfl rfl (Val.assign rfl rfl) ?_
  refine WP.nil ?_
  refine Out.next ?_
  refine WPc.seq ?_
  refine WPc.region ?_
  refine WP.val rfl rfl rfl (Val.move rfl rfl) ?_
  refine WP.val rfl rfl rfl (Val.nilCheck rfl rfl) ?_
  refine WP.val rfl rfl rfl (Val.fieldAddr (j := 0) rfl Ty.fo132_0 rfl rfl) ?_
  refine WP.val rfl rfl rfl (Val.load rfl Ty.sc128 rfl (fun w h => h.cell 0 rfl rfl)) ?_
  refine WP.val rfl rfl rfl (Val.lenMap rfl Ty2.mp128 rfl (fun w h => h.at 1 rfl)) ?_
  refine WP.know 7 (.int .i64 ((n : Nat) : Int)) rfl (by rw [hkn]) ?_
  refine WP.val rfl rfl rfl (Val.assign rfl rfl) ?_
  refine WP.nil ?_
  refine Out.next ?_
  refine WPc.ret ?_
  exact Out.ret1 (L' := _) Try.results42 rfl ⟨rfl, rfl⟩ (fun _ h => h)
set_option maxRecDepth 100000 in
set_option maxHeartbeats 1000000 in
theorem peek_none (nb mb rb cap n : Nat) (kvs : List (Value × Value)) (hkn : kvs.length = n) (h0 : n = 0) : Does Try.prog 39 [.pointer (some ⟨nb, 0, none⟩)] [Blk nb [.map (some mb), .slice (some ⟨rb, 0, none⟩) n cap] 132, Mapk mb (.int .i64) (kvs)] (fun v L => v = .pointer none ∧ L = [Blk nb [.map (some mb), .slice (some ⟨rb, 0, none⟩) n cap] 132, Mapk mb (.int .i64) (kvs)]) := by
  refine Does.enter 12 Try.func39 rfl rfl rfl fun W F => ?_
  show WPc _ _ _ _ _ [(0, .pointer (some ⟨nb, 0, none⟩))] (Blk nb [.map (some mb), .slice (some ⟨rb, 0, none⟩) n cap] 132 :: Mapk mb (.int .i64) (kvs) :: F)
  refine WPc.seq ?_
  refine WPc.region ?_
  refine WP.val rfl rfl rfl (Val.assign rfl rfl) ?_
  refine WP.nil ?_
  refine Out.next ?_
  refine WPc.seq ?_
  refine WPc.seq ?_
  refine WPc.region ?_
  refine WP.val rfl rfl rfl (Val.move rfl rfl) ?_
  refine WP.perm pl1 ?_
  refine WP.perm pl1 ?_
  refine WP.eff rfl rfl rfl (Eff.call rfl rfl Try.call42 (len_spec nb mb rb cap n kvs hkn)) ?_
  rintro _ _ ⟨_, ⟨rfl, rfl⟩, rfl⟩
  show WP _ _ _ _ _ _ _ (Blk nb [.map (some mb), .slice (some ⟨rb, 0, none⟩) n cap] 132 :: Mapk mb (.int .i64) (kvs) :: F)
  refine WP.val rfl rfl rfl (Val.eql rfl rfl rfl) ?_
  refine WP.nil ?_
  refine Out.next ?_
  refine WPc.ifP rfl (fun h1 => ?_) (fun h1 => ?_)
  · skip
    have h1 : (((n : Nat) : Int) = (0 : Int)) := h1
    refine WPc.seq ?_
    refine WPc.region ?_
    refine WP.val rfl rfl rfl (Val.assign rfl rfl) ?_
    refine WP.nil ?_
    refine Out.next ?_
    refine WPc.ret ?_
    refine Out.then_ret ?_
    exact Out.ret1 (L' := _) Try.results39 rfl ⟨rfl, rfl⟩ (fun _ h => h)
  · skip
    have h1 : ¬ (((n : Nat) : Int) = (0 : Int)) := h1
    exfalso; omega
set_option maxRecDepth 100000 in
set_option maxHeartbeats 1000000 in
theorem peek_some (nb mb rb cap n : Nat) (kvs : List (Value × Value)) (hkn : kvs.length = n) (q : List QI) (x : QI) (sp : List Value) (h0 : 0 < n) (hn : n ≤ 1048576) (hx : q[0]? = some x) : Does Try.prog 39 [.pointer (some ⟨nb, 0, none⟩)] [Blk nb [.map (some mb), .slice (some ⟨rb, 0, none⟩) n cap] 132, Mapk mb (.int .i64) (kvs), Blk rb (q.map QI.ptr ++ sp) 90] (fun v L => v = .pointer (some ⟨x.b, 0, none⟩) ∧ L = [Blk nb [.map (some mb), .slice (some ⟨rb, 0, none⟩) n cap] 132, Mapk mb (.int .i64) (kvs), Blk rb (q.map QI.ptr ++ sp) 90]) := by
  refine Does.enter 12 Try.func39 rfl rfl rfl fun W F => ?_
  show WPc _ _ _ _ _ [(0, .pointer (some ⟨nb, 0, none⟩))] (Blk nb [.map (some mb), .slice (some ⟨rb, 0, none⟩) n cap] 132 :: Mapk mb (.int .i64) (kvs) :: Blk rb (q.map QI.ptr ++ sp) 90 :: F)
  refine WPc.seq ?_
  refine WPc.region ?_
  refine WP.val rfl rfl rfl (Val.assign rfl rfl) ?_
  refine WP.nil ?_
  refine Out.next ?_
  refine WPc.seq ?_
  refine WPc.seq ?_
  refine WPc.region ?_
  refine WP.val rfl rfl rfl (Val.move rfl rfl) ?_
  refine WP.perm pl1 ?_
  refine WP.perm pl1 ?_
  refine WP.eff rfl rfl rfl (Eff.call rfl rfl Try.call42 (len_spec nb mb rb cap n kvs hkn)) ?_
  rintro _ _ ⟨_, ⟨rfl, rfl⟩, rfl⟩
  show WP _ _ _ _ _ _ _ (Blk nb [.map (some mb), .slice (some ⟨rb, 0, none⟩) n cap] 132 :: Mapk mb (.int .i64) (kvs) :: Blk rb (q.map QI.ptr ++ sp) 90 :: F)
  refine WP.val rfl rfl rfl (Val.eql rfl rfl rfl) ?_
  refine WP.nil ?_
  refine Out.next ?_
  refine WPc.ifP rfl (fun h1 => ?_) (fun h1 => ?_)
  · skip
    have h1 : (((n : Nat) : Int) = (0 : Int)) := h1
    exfalso; omega
  · skip
    have h1 : ¬ (((n : Nat) : Int) = (0 : Int)) := h1
    refine WPc.skip ?_
    refine Out.next ?_
    refine WPc.seq ?_
    refine WPc.region ?_
    refine WP.val rfl rfl rfl (Val.move rfl rfl) ?_
    refine WP.val rfl rfl rfl (Val.nilCheck rfl rfl) ?_
    refine WP.val rfl rfl rfl (Val.fieldAddr (j := 1) rfl Ty.fo132_1 rfl rfl) ?_
    refine WP.val rfl rfl rfl (Val.load rfl Ty.sc130 rfl (fun w h => h.cell 0 rfl rfl)) ?_
    refine WP.val rfl rfl rfl (Val.indexAddr (j := 0) (q := 0) rfl Ty.sl130 rfl rfl (by omega) (by omega) (by omega)) ?_
    refine WP.val rfl rfl rfl (Val.load (v := .pointer (some ⟨x.b, 0, none⟩)) rfl Ty.sc90 rfl (fun w h => h.cell 2 rfl (row_at hx sp))) ?_
    refine WP.val rfl rfl rfl (Val.assign rfl rfl) ?_
    refine WP.nil ?_
    refine Out.next ?_
    refine WPc.ret ?_
    exact Out.ret1 (L' := _) Try.results39 rfl ⟨rfl, rfl⟩ (fun _ h => h)
set_option maxRecDepth 100000 in
set_option maxHeartbeats 1000000 in
theorem zzof_spec (A : HProp) (b : Nat) (id : Int) (t : Nat) (hA : ∀ w, Holds A w → w.cell? ⟨b, 0, none⟩ = some (.int .i64 id) ∧ w.rangeAt b 1 [.int .i64 ((t / 1000000000 : Nat) : Int), .int .i64 ((t % 1000000000 : Nat) : Int), .bool true]) : Does Try.prog 40 [.pointer (some ⟨b, 0, none⟩)] [A] (fun v L => v = .tuple #[.int .i64 id, .agg #[.int .i64 ((t / 1000000000 : Nat) : Int), .int .i64 ((t % 1000000000 : Nat) : Int), .bool true]] ∧ L = [A]) := by
  refine Does.enter 12 Try.func40 rfl rfl rfl fun W F => ?_
  show WPc _ _ _ _ _ [(0, .pointer (some ⟨b, 0, none⟩))] (A :: F)
  refine WPc.seq ?_
  refine WPc.region ?_
  refine WP.val rfl rfl rfl (Val.assign rfl rfl) ?_
  refine WP.eff rfl rfl rfl (Eff.alloc rfl Ty.z94) ?_
  rintro _ _ ⟨b1, rfl, rfl⟩
  refine WP.nil ?_
  refine Out.next ?_
  refine WPc.seq ?_
  refine WPD.start (Sat W (Blk b1 [.int .i64 0, .int .i64 0, .bool false] 94 :: A :: F)) Ty.mixed ?_
  refine WPD.takeM 0 rfl rfl rfl rfl (by kernel_rfl) (by kernel_rfl) (by kernel_rfl) (by kernel_rfl) (fun _ _ _ h => h) (fun _ h => h) (Val.move rfl rfl) ?_
  refine WPD.takeM 1 rfl rfl rfl rfl (by kernel_rfl) (by kernel_rfl) (by kernel_rfl) (by kernel_rfl) (fun _ _ _ h => h) (fun _ h => h) (Val.nilCheck rfl rfl) ?_
  refine WPD.takeM 2 rfl rfl rfl rfl (by kernel_rfl) (by kernel_rfl) (by kernel_rfl) (by kernel_rfl) (fun _ _ _ h => h) (fun _ h => h) (Val.fieldAddr (j := 0) rfl Ty.fo134_0 rfl rfl) ?_
  refine WPD.take 3 rfl rfl rfl rfl (by kernel_rfl) (by kernel_rfl) (by kernel_rfl) (by kernel_rfl) (fun _ _ _ h => h) (by kernel_rfl) (fun _ h => h) (Val.load (v := .int .i64 (id)) rfl Ty.sc92 rfl (fun w h => (hA w (h.at 1 rfl)).1)) ?_
  refine WPD.takeM 4 rfl rfl rfl rfl (by kernel_rfl) (by kernel_rfl) (by kernel_rfl) (by kernel_rfl) (fun _ _ _ h => h) (fun _ h => h) (Val.move rfl rfl) ?_
  refine WPD.takeM 5 rfl rfl rfl rfl (by kernel_rfl) (by kernel_rfl) (by kernel_rfl) (by kernel_rfl) (fun _ _ _ h => h) (fun _ h => h) (Val.nilCheck rfl rfl) ?_
  refine WPD.takeM 6 rfl rfl rfl rfl (by kernel_rfl) (by kernel_rfl) (by kernel_rfl) (by kernel_rfl) (fun _ _ _ h => h) (fun _ h => h) (Val.fieldAddr (j := 1) rfl Ty.fo134_1 rfl rfl) ?_
  refine WPD.take 7 rfl rfl rfl rfl (by kernel_rfl) (by kernel_rfl) (by kernel_rfl) (by kernel_rfl) (fun _ _ _ h => h) (by kernel_rfl) (fun _ h => h) (Val.loadAgg (cs := [.int .i64 ((((t / 1000000000) : Nat) : Int)), .int .i64 ((((t % 1000000000) : Nat) : Int)), .bool true]) rfl Ty.ag94 rfl (by rfl) (fun w h => (hA w (h.at 1 rfl)).2)) ?_
  refine WPD.takeM 8 rfl rfl rfl rfl (by kernel_rfl) (by kernel_rfl) (by kernel_rfl) (by kernel_rfl) (fun _ _ _ h => h) (fun _ h => h) (Val.assign rfl rfl) ?_
  refine WPD.stepC0 9 (by kernel_rfl) rfl rfl rfl (by kernel_rfl) (Eff.storeAgg (cs := [.int .i64 ((((t / 1000000000) : Nat) : Int)), .int .i64 ((((t % 1000000000) : Nat) : Int)), .bool true]) (C' := [.int .i64 ((((t / 1000000000) : Nat) : Int)), .int .i64 ((((t % 1000000000) : Nat) : Int)), .bool true]) rfl Ty.ag94 rfl rfl rfl rfl (by simp) rfl) ?_
  rintro _ _ rfl
  refine ⟨(Sat W (Blk b1 [.int .i64 ((((t / 1000000000) : Nat) : Int)), .int .i64 ((((t % 1000000000) : Nat) : Int)), .bool true] 94 :: A :: F)), (fun _ h => h), ?_⟩
  refine WPD.done (by kernel_rfl) ?_
  refine Out.next ?_
  refine WPc.ret ?_
  exact Out.retRun (L' := [A]) (results_tc Try.results40 rfl Ty.ag94 rfl rfl (fun w h => h.range 0 rfl rfl)) ⟨rfl, rfl⟩ (fun w h => h.drop)

end Go.Proofs.Ythmkdioafjmclaa.Qh6
