import Derived.Test.YthicijpjpijdjaaDoorWr
namespace Go.Proofs.YthicijpjpijdjaaDoor.Ws
open Go.RowKit Go.Proofs.YthicijpjpijdjaaDoor Go.Proofs.YthicijpjpijdjaaDoor.Sl Go.Proofs.YthicijpjpijdjaaDoor.Wa Go.Proofs.YthicijpjpijdjaaDoor.Wb Go.Proofs.YthicijpjpijdjaaDoor.Wc Go.Proofs.YthicijpjpijdjaaDoor.Wd Go.Proofs.YthicijpjpijdjaaDoor.We Go.Proofs.YthicijpjpijdjaaDoor.Wf Go.Proofs.YthicijpjpijdjaaDoor.Wg Go.Proofs.YthicijpjpijdjaaDoor.Wh Go.Proofs.YthicijpjpijdjaaDoor.Wi Go.Proofs.YthicijpjpijdjaaDoor.Wj Go.Proofs.YthicijpjpijdjaaDoor.Wk Go.Proofs.YthicijpjpijdjaaDoor.Wl Go.Proofs.YthicijpjpijdjaaDoor.Wm Go.Proofs.YthicijpjpijdjaaDoor.Wn Go.Proofs.YthicijpjpijdjaaDoor.Wo Go.Proofs.YthicijpjpijdjaaDoor.Wp Go.Proofs.YthicijpjpijdjaaDoor.Wq Go.Proofs.YthicijpjpijdjaaDoor.Wr
set_option linter.unusedVariables false
set_option linter.unusedSimpArgs false
set_option linter.unusedSectionVars false


/-- a record that is written: the sum and all bytes behind it -/
def stepW (s : Int × List UInt8) (x : WR) : Int × List UInt8 := (crcWrite s.1 x.d, s.2 ++ fr8 (rbody x.ty (crcWrite s.1 x.d) (if x.has then some x.d else none)))
def WFine (x : WR) : Prop := x.ht = true ∧ x.d.length ≤ 5000 ∧ (x.has = false → x.d = [])
theorem step_len (s : Int × List UInt8) (x : WR) (h : x.d.length ≤ 5000) : (stepW s x).2.length ≤ s.2.length + 5100 := by
  have h1 := rbody_len x.ty (crcWrite s.1 x.d) (if x.has then some x.d else none)
  have h2 := padn_lt (rbody x.ty (crcWrite s.1 x.d) (if x.has then some x.d else none)).length
  have h3 : ((if x.has then some x.d else none).getD []).length ≤ 5000 := by split <;> simp <;> omega
  unfold stepW
  simp only [List.length_append, fr8_len]
  omega
theorem fold_len : ∀ (l : List WR) (s : Int × List UInt8), (∀ x ∈ l, x.d.length ≤ 5000) → (l.foldl stepW s).2.length ≤ s.2.length + l.length * 5100
  | [], s, _ => by simp
  | x :: l, s, h => by
    have h1 := step_len s x (h x List.mem_cons_self)
    have h2 := fold_len l (stepW s x) (fun y hy => h y (List.mem_cons_of_mem _ hy))
    simp only [List.foldl_cons, List.length_cons]
    omega
theorem str_bytes (l : List UInt8) : byteCells (str l) = byt l := by
  rw [byteCells_eq]; rfl
theorem page_new {W w : World} {bb pw bf off : Nat} {L : List HProp} (ho : off ≤ 4294967296) (h : Sat W (Blk pw [.iface 70 (.pointer (some ⟨bb, 0, none⟩)), .int .i64 ((off : Nat) : Int), .int .i64 4096, .int .i64 0, .slice (some ⟨bf, 0, none⟩) 135168 135168, .int .i64 131072] 114 :: Blk bf ((List.replicate 135168 [Value.int .u8 0]).flatten) 5 :: Blk bb [.slice none 0 0] 72 :: L) w) : Sat W (Pw pw bb [] :: L) w := by
  rw [zeros_byt] at h
  refine pw_mk (bf := bf) (off := off) (pend := []) (junk := List.replicate 135168 0) (ss := []) (wv := .slice none 0 0) (by rw [List.length_replicate]; rfl) rfl (fit_small (by decide) (Nat.zero_le _)) ho ?_
  exact (Sat.ownNil (e := 5) (k := 1) h).perm pl3.symm
set_option maxRecDepth 100000 in
set_option maxHeartbeats 2000000 in
theorem assert_spec (a b : Value) : Does Tryd.prog 45 [.bool true, a, b] [] (fun v L => v = .tuple #[] ∧ L = []) := by
  refine Does.enter 10 Tryd.func45 rfl rfl rfl fun W F => ?_
  show WPc _ _ _ _ _ [(0, .bool true), (1, a), (2, b)] (F)
  refine WPc.seq ?_
  refine WPc.region ?_
  refine WP.val rfl rfl rfl (Val.move rfl rfl) ?_
  refine WP.val rfl rfl rfl (Val.not rfl rfl) ?_
  refine WP.nil ?_
  refine Out.next ?_
  refine WPc.condF rfl rfl ?_
  refine WPc.skip ?_
  exact Out.end0 (L' := []) Tryd.results45 ⟨rfl, rfl⟩ (fun _ h => h)
set_option maxRecDepth 100000 in
set_option maxHeartbeats 2000000 in
theorem npw_spec (bb off : Nat) (ho : off ≤ 4294967296) : Does Tryd.prog 36 [.iface 70 (.pointer (some ⟨bb, 0, none⟩)), .int .i64 4096, .int .i64 (((off : Nat) : Int))] [Blk bb [.slice none 0 0] 72] (fun v L => ∃ pw, v = .pointer (some ⟨pw, 0, none⟩) ∧ L = [Pw pw bb []]) := by
  refine Does.enter 20 Tryd.func36 rfl rfl rfl fun W F => ?_
  show WPc _ _ _ _ _ [(0, .iface 70 (.pointer (some ⟨bb, 0, none⟩))), (1, .int .i64 4096), (2, .int .i64 (((off : Nat) : Int)))] (Blk bb [.slice none 0 0] 72 :: F)
  refine WPc.seq ?_
  refine WPc.region ?_
  refine WP.val rfl rfl rfl (Val.assign rfl rfl) ?_
  refine WP.nil ?_
  refine Out.next ?_
  refine WPc.seq ?_
  refine WPc.region ?_
  refine WP.val rfl rfl rfl (Val.move rfl rfl) ?_
  refine WP.val rfl rfl rfl (Val.boolK (q := true) (Val.gtr rfl rfl rfl) (by decide)) ?_
  refine WP.val rfl rfl rfl (Val.move rfl rfl) ?_
  refine WP.eff rfl rfl rfl (Eff.mkSlice (C := [.int .i64 4096]) rfl Ty.sl36 rfl (fun _ => by kernel_rfl)) ?_
  rintro _ _ ⟨b1, rfl, rfl⟩
  refine WP.eff rfl rfl rfl (Eff.call rfl rfl Tryd.call45 (assert_spec _ _)) ?_
  rintro _ _ ⟨_, ⟨rfl, rfl⟩, rfl⟩
  show WP _ _ _ _ _ _ _ (Blk b1 [.int .i64 4096] 3 :: Blk bb [.slice none 0 0] 72 :: F)
  refine WP.nil ?_
  refine Out.next ?_
  refine WPc.seq ?_
  refine WPc.region ?_
  refine WP.val rfl rfl rfl (Val.move rfl rfl) ?_
  refine WP.val rfl rfl rfl (Val.move rfl rfl) ?_
  refine WP.val rfl rfl rfl (Val.move rfl rfl) ?_
  refine WP.val rfl rfl rfl (Val.move rfl rfl) ?_
  refine WP.val rfl rfl rfl (Val.add (z := 135168) rfl rfl rfl (by rfl)) ?_
  refine WP.eff rfl rfl rfl (Eff.makeSlice (m := 135168) (c := 135168) (z := [.int .u8 0]) rfl Ty.sl40 Ty.z5 rfl rfl rfl rfl rfl (by omega) (by omega) (by omega)) ?_
  rintro _ _ ⟨b2, rfl, rfl⟩
  refine WP.val rfl rfl rfl (Val.mk (cs := [.iface 70 (.pointer (some ⟨bb, 0, none⟩)), .int .i64 (((off : Nat) : Int)), .int .i64 4096, .int .i64 0, .slice (some ⟨b2, 0, none⟩) 135168 135168, .int .i64 131072]) rfl rfl (fun _ => by kernel_rfl)) ?_
  refine WP.eff rfl rfl rfl (Eff.box (C := [.iface 70 (.pointer (some ⟨bb, 0, none⟩)), .int .i64 (((off : Nat) : Int)), .int .i64 4096, .int .i64 0, .slice (some ⟨b2, 0, none⟩) 135168 135168, .int .i64 131072]) rfl rfl rfl) ?_
  rintro _ _ ⟨b3, rfl, rfl⟩
  refine WP.val rfl rfl rfl (Val.assign rfl rfl) ?_
  refine WP.nil ?_
  refine Out.next ?_
  refine WPc.ret ?_
  refine Out.perm pl2 ?_
  refine Out.drop ?_
  exact Out.ret1 (L' := [Pw b3 bb []]) Tryd.results36 rfl ⟨b3, rfl, rfl⟩ (fun w h => page_new ho h)
set_option maxRecDepth 100000 in
set_option maxHeartbeats 2000000 in
theorem newenc_spec (bb off : Nat) (ho : off ≤ 4294967296) (c : Int) : Does Tryd.prog 32 [.iface 70 (.pointer (some ⟨bb, 0, none⟩)), .int .u32 (c), .int .i64 (((off : Nat) : Int))] [Blk bb [.slice none 0 0] 72] (fun v L => ∃ e, v = .pointer (some ⟨e, 0, none⟩) ∧ L = [Enc e bb [] c]) := by
  refine Does.enter 15 Tryd.func32 rfl rfl rfl fun W F => ?_
  show WPc _ _ _ _ _ [(0, .iface 70 (.pointer (some ⟨bb, 0, none⟩))), (1, .int .u32 (c)), (2, .int .i64 (((off : Nat) : Int)))] (Blk bb [.slice none 0 0] 72 :: F)
  refine WPc.seq ?_
  refine WPc.region ?_
  refine WP.val rfl rfl rfl (Val.assign rfl rfl) ?_
  refine WP.nil ?_
  refine Out.next ?_
  refine WPc.seq ?_
  refine WPD.start (Sat W []) Ty.mixed ?_
  refine WPD.takeM 0 rfl rfl rfl rfl (by kernel_rfl) (by kernel_rfl) (by kernel_rfl) (by kernel_rfl) (fun _ _ _ h => h) (fun w h => (h).dropEnd (L := [])) (Val.move rfl rfl) ?_
  refine WPD.takeM 1 rfl rfl rfl rfl (by kernel_rfl) (by kernel_rfl) (by kernel_rfl) (by kernel_rfl) (fun _ _ _ h => h) (fun w h => (h).dropEnd (L := [])) (Val.move rfl rfl) ?_
  refine WPD.takeM 3 rfl rfl rfl rfl (by kernel_rfl) (by kernel_rfl) (by kernel_rfl) (by kernel_rfl) (fun _ _ _ h => h) (fun w h => (h).dropEnd (L := [])) (Val.move rfl rfl) ?_
  refine WPD.pick2 2 5 (by kernel_rfl) ?_ ?_
  · skip
    refine WPO.step rfl rfl rfl rfl (Eff.call rfl rfl Tryd.call36 (npw_spec bb off ho)) ?_
    rintro _ _ ⟨_, ⟨pw, rfl, rfl⟩, rfl⟩
    refine ⟨(fun w h => (h).dropEnd (L := [])), ?_⟩
    show WPD _ _ _ _ _ _ _ _ _ (Pw pw bb ([]) :: F)
    refine WPD.pick2 4 5 (by kernel_rfl) ?_ ?_
    · skip
      refine WPO.step rfl rfl rfl rfl (Eff.call rfl rfl Tryd.call31 (at_spec c)) ?_
      rintro _ _ ⟨_, ⟨nb, rfl, rfl⟩, rfl⟩
      refine ⟨(fun w h => (h).dropEnd (L := [])), ?_⟩
      show WPD _ _ _ _ _ _ _ _ _ (Blk nb [.int .u32 (c)] 99 :: Pw pw bb ([]) :: F)
      refine WPD.step 5 (by kernel_rfl) rfl rfl rfl rfl (Eff.makeSlice (m := 8) (c := 8) (z := [.int .u8 0]) rfl Ty.sl40 Ty.z5 rfl rfl rfl rfl rfl (by omega) (by omega) (by omega)) ?_
      rintro _ _ ⟨b1, rfl, rfl⟩
      refine ⟨(fun w h => (h).dropEnd (L := [])), ?_⟩
      refine WPD.takeM 6 rfl rfl rfl rfl (by kernel_rfl) (by kernel_rfl) (by kernel_rfl) (by kernel_rfl) (fun _ _ _ h => h) (fun w h => (h).dropEnd (L := [])) (Val.mk (cs := [.pointer (some ⟨pw, 0, none⟩), .pointer (some ⟨nb, 0, none⟩), .slice (some ⟨b1, 0, none⟩) 8 8]) rfl rfl (fun _ => by kernel_rfl)) ?_
      refine WPD.stepC 7 (by kernel_rfl) rfl rfl rfl rfl (by kernel_rfl) (Eff.box (C := [.pointer (some ⟨pw, 0, none⟩), .pointer (some ⟨nb, 0, none⟩), .slice (some ⟨b1, 0, none⟩) 8 8]) rfl rfl rfl) ?_
      rintro _ _ ⟨b2, rfl, rfl⟩
      refine ⟨(Sat W (Blk b2 [.pointer (some ⟨pw, 0, none⟩), .pointer (some ⟨nb, 0, none⟩), .slice (some ⟨b1, 0, none⟩) 8 8] 103 :: Blk b1 ((List.replicate 8 [.int .u8 0]).flatten) 5 :: Blk nb [.int .u32 (c)] 99 :: Pw pw bb ([]) :: F)), (fun _ h => h), ?_⟩
      refine WPD.takeM 8 rfl rfl rfl rfl (by kernel_rfl) (by kernel_rfl) (by kernel_rfl) (by kernel_rfl) (fun _ _ _ h => h) (fun _ h => h) (Val.assign rfl rfl) ?_
      refine WPD.done (by kernel_rfl) ?_
      refine Out.next ?_
      refine WPc.ret ?_
      refine Out.perm pl3 ?_
      refine Out.perm pl2 ?_
      refine Out.perm pl3 ?_
      refine Out.perm pl3 ?_
      exact Out.ret1 (L' := [Enc b2 bb [] c]) Tryd.results32 rfl ⟨b2, rfl, rfl⟩ (fun w h => enc_mk (by rfl) h)
    · skip
      refine WPO.step rfl rfl rfl rfl (Eff.makeSlice (m := 8) (c := 8) (z := [.int .u8 0]) rfl Ty.sl40 Ty.z5 rfl rfl rfl rfl rfl (by omega) (by omega) (by omega)) ?_
      rintro _ _ ⟨b3, rfl, rfl⟩
      refine ⟨(fun w h => (h).dropEnd (L := [])), ?_⟩
      refine WPD.step 4 (by kernel_rfl) rfl rfl rfl rfl (Eff.call rfl rfl Tryd.call31 (at_spec c)) ?_
      rintro _ _ ⟨_, ⟨nb, rfl, rfl⟩, rfl⟩
      refine ⟨(fun w h => (h).dropEnd (L := [])), ?_⟩
      show WPD _ _ _ _ _ _ _ _ _ (Blk nb [.int .u32 (c)] 99 :: Blk b3 ((List.replicate 8 [.int .u8 0]).flatten) 5 :: Pw pw bb ([]) :: F)
      refine WPD.takeM 6 rfl rfl rfl rfl (by kernel_rfl) (by kernel_rfl) (by kernel_rfl) (by kernel_rfl) (fun _ _ _ h => h) (fun w h => (h).dropEnd (L := [])) (Val.mk (cs := [.pointer (some ⟨pw, 0, none⟩), .pointer (some ⟨nb, 0, none⟩), .slice (some ⟨b3, 0, none⟩) 8 8]) rfl rfl (fun _ => by kernel_rfl)) ?_
      refine WPD.stepC 7 (by kernel_rfl) rfl rfl rfl rfl (by kernel_rfl) (Eff.box (C := [.pointer (some ⟨pw, 0, none⟩), .pointer (some ⟨nb, 0, none⟩), .slice (some ⟨b3, 0, none⟩) 8 8]) rfl rfl rfl) ?_
      rintro _ _ ⟨b4, rfl, rfl⟩
      refine ⟨(Sat W (Blk b4 [.pointer (some ⟨pw, 0, none⟩), .pointer (some ⟨nb, 0, none⟩), .slice (some ⟨b3, 0, none⟩) 8 8] 103 :: Blk nb [.int .u32 (c)] 99 :: Blk b3 ((List.replicate 8 [.int .u8 0]).flatten) 5 :: Pw pw bb ([]) :: F)), (fun _ h => h), ?_⟩
      refine WPD.takeM 8 rfl rfl rfl rfl (by kernel_rfl) (by kernel_rfl) (by kernel_rfl) (by kernel_rfl) (fun _ _ _ h => h) (fun _ h => h) (Val.assign rfl rfl) ?_
      refine WPD.done (by kernel_rfl) ?_
      refine Out.next ?_
      refine WPc.ret ?_
      exact Out.ret1 (L' := [Enc b4 bb [] c]) Tryd.results32 rfl ⟨b4, rfl, rfl⟩ (fun w h => enc_mk (by rfl) h)
  · skip
    refine WPO.step rfl rfl rfl rfl (Eff.makeSlice (m := 8) (c := 8) (z := [.int .u8 0]) rfl Ty.sl40 Ty.z5 rfl rfl rfl rfl rfl (by omega) (by omega) (by omega)) ?_
    rintro _ _ ⟨b5, rfl, rfl⟩
    refine ⟨(fun w h => (h).dropEnd (L := [])), ?_⟩
    refine WPD.perm pl1 ?_
    refine WPD.step 2 (by kernel_rfl) rfl rfl rfl rfl (Eff.call rfl rfl Tryd.call36 (npw_spec bb off ho)) ?_
    rintro _ _ ⟨_, ⟨pw, rfl, rfl⟩, rfl⟩
    refine ⟨(fun w h => (h).dropEnd (L := [])), ?_⟩
    show WPD _ _ _ _ _ _ _ _ _ (Pw pw bb ([]) :: Blk b5 ((List.replicate 8 [.int .u8 0]).flatten) 5 :: F)
    refine WPD.step 4 (by kernel_rfl) rfl rfl rfl rfl (Eff.call rfl rfl Tryd.call31 (at_spec c)) ?_
    rintro _ _ ⟨_, ⟨nb, rfl, rfl⟩, rfl⟩
    refine ⟨(fun w h => (h).dropEnd (L := [])), ?_⟩
    show WPD _ _ _ _ _ _ _ _ _ (Blk nb [.int .u32 (c)] 99 :: Pw pw bb ([]) :: Blk b5 ((List.replicate 8 [.int .u8 0]).flatten) 5 :: F)
    refine WPD.takeM 6 rfl rfl rfl rfl (by kernel_rfl) (by kernel_rfl) (by kernel_rfl) (by kernel_rfl) (fun _ _ _ h => h) (fun w h => (h).dropEnd (L := [])) (Val.mk (cs := [.pointer (some ⟨pw, 0, none⟩), .pointer (some ⟨nb, 0, none⟩), .slice (some ⟨b5, 0, none⟩) 8 8]) rfl rfl (fun _ => by kernel_rfl)) ?_
    refine WPD.stepC 7 (by kernel_rfl) rfl rfl rfl rfl (by kernel_rfl) (Eff.box (C := [.pointer (some ⟨pw, 0, none⟩), .pointer (some ⟨nb, 0, none⟩), .slice (some ⟨b5, 0, none⟩) 8 8]) rfl rfl rfl) ?_
    rintro _ _ ⟨b6, rfl, rfl⟩
    refine ⟨(Sat W (Blk b6 [.pointer (some ⟨pw, 0, none⟩), .pointer (some ⟨nb, 0, none⟩), .slice (some ⟨b5, 0, none⟩) 8 8] 103 :: Blk nb [.int .u32 (c)] 99 :: Pw pw bb ([]) :: Blk b5 ((List.replicate 8 [.int .u8 0]).flatten) 5 :: F)), (fun _ h => h), ?_⟩
    refine WPD.takeM 8 rfl rfl rfl rfl (by kernel_rfl) (by kernel_rfl) (by kernel_rfl) (by kernel_rfl) (fun _ _ _ h => h) (fun _ h => h) (Val.assign rfl rfl) ?_
    refine WPD.done (by kernel_rfl) ?_
    refine Out.next ?_
    refine WPc.ret ?_
    refine Out.perm pl2 ?_
    refine Out.perm pl3 ?_
    refine Out.perm pl3 ?_
    refine Out.perm pl3 ?_
    exact Out.ret1 (L' := [Enc b6 bb [] c]) Tryd.results32 rfl ⟨b6, rfl, rfl⟩ (fun w h => enc_mk (by rfl) h)
set_option maxRecDepth 100000 in
set_option maxHeartbeats 2000000 in
theorem zznew_spec (bb off : Nat) (ho : off ≤ 4294967296) (c : Int) : Does Tryd.prog 25 [.iface 70 (.pointer (some ⟨bb, 0, none⟩)), .int .u32 (c), .int .i64 (((off : Nat) : Int))] [Blk bb [.slice none 0 0] 72] (fun v L => ∃ e, v = .agg #[.pointer (some ⟨e, 0, none⟩)] ∧ L = [Enc e bb [] c]) := by
  refine Does.enter 12 Tryd.func25 rfl rfl rfl fun W F => ?_
  show WPc _ _ _ _ _ [(0, .iface 70 (.pointer (some ⟨bb, 0, none⟩))), (1, .int .u32 (c)), (2, .int .i64 (((off : Nat) : Int)))] (Blk bb [.slice none 0 0] 72 :: F)
  refine WPc.seq ?_
  refine WPc.region ?_
  refine WP.eff rfl rfl rfl (Eff.alloc rfl Ty.z75) ?_
  rintro _ _ ⟨b1, rfl, rfl⟩
  refine WP.nil ?_
  refine Out.next ?_
  refine WPc.seq ?_
  refine WPc.region ?_
  refine WP.val rfl rfl rfl (Val.move rfl rfl) ?_
  refine WP.val rfl rfl rfl (Val.move rfl rfl) ?_
  refine WP.val rfl rfl rfl (Val.move rfl rfl) ?_
  refine WP.perm pl1 ?_
  refine WP.eff rfl rfl rfl (Eff.call rfl rfl Tryd.call32 (newenc_spec bb off ho c)) ?_
  rintro _ _ ⟨_, ⟨e, rfl, rfl⟩, rfl⟩
  show WP _ _ _ _ _ _ _ (Enc e bb ([]) c :: Blk b1 [.pointer none] 75 :: F)
  refine WP.val rfl rfl rfl (Val.mk (cs := [.pointer (some ⟨e, 0, none⟩)]) rfl rfl (fun _ => by kernel_rfl)) ?_
  refine WP.perm pl1 ?_
  refine WP.eff0 rfl rfl (Eff.storeAgg (cs := [.pointer (some ⟨e, 0, none⟩)]) (C' := [.pointer (some ⟨e, 0, none⟩)]) rfl Ty.ag75 rfl rfl rfl rfl (by simp) rfl) ?_
  rintro _ _ rfl
  refine WP.nil ?_
  refine Out.next ?_
  refine WPc.ret ?_
  exact Out.retRun (L' := _) (results_cell (cs := [.pointer (some ⟨e, 0, none⟩)]) Tryd.results25 Ty.ag75 rfl rfl (fun w h => h.range 0 rfl rfl)) ⟨e, rfl, rfl⟩ (fun w h => h.drop)
set_option maxRecDepth 100000 in
set_option maxHeartbeats 1000000 in
theorem ww_nil (A : HProp) (sm : Int) (off : Nat) (ho : off ≤ 4294967296) (a : Option Addr) (c : Nat) : Does Tryd.prog 15 [.int .u32 (sm), .int .i64 (((off : Nat) : Int)), .slice a 0 c] [A] (fun v L => ∃ wv, v = .tuple #[wv, .int .i64 0] ∧ L = [Own 5 1 wv (([] : List WR).foldl stepW (sm, [])).2.length (byt (([] : List WR).foldl stepW (sm, [])).2), A]) := by
  refine Does.enter 70 Tryd.func15 rfl rfl rfl fun W F => ?_
  show WPc _ _ _ _ _ [(0, .int .u32 (sm)), (1, .int .i64 (((off : Nat) : Int))), (2, .slice a 0 c)] (A :: F)
  refine WPc.seq ?_
  refine WPc.region ?_
  refine WP.val rfl rfl rfl (Val.assign rfl rfl) ?_
  refine WP.val rfl rfl rfl (Val.assign rfl rfl) ?_
  refine WP.nil ?_
  refine Out.next ?_
  refine WPc.seq ?_
  refine WPc.region ?_
  refine WP.val rfl rfl rfl (Val.mk (cs := [.slice none 0 0]) rfl rfl (fun _ => by kernel_rfl)) ?_
  refine WP.eff rfl rfl rfl (Eff.box (C := [.slice none 0 0]) rfl rfl rfl) ?_
  rintro _ _ ⟨b1, rfl, rfl⟩
  refine WP.val rfl rfl rfl (Val.assign rfl rfl) ?_
  refine WP.nil ?_
  refine Out.next ?_
  refine WPc.seq ?_
  refine WPc.region ?_
  refine WP.val rfl rfl rfl (Val.move rfl rfl) ?_
  refine WP.val rfl rfl rfl (Val.iface rfl rfl Ty.ni70) ?_
  refine WP.val rfl rfl rfl (Val.move rfl rfl) ?_
  refine WP.val rfl rfl rfl (Val.move rfl rfl) ?_
  refine WP.val rfl rfl rfl (Val.max2 (z := ((max off 0 : Nat) : Int)) rfl rfl rfl (by split <;> omega)) ?_
  refine WP.eff rfl rfl rfl (Eff.call rfl rfl Tryd.call25 (zznew_spec b1 (max off 0) (by omega) sm)) ?_
  rintro _ _ ⟨_, ⟨e, rfl, rfl⟩, rfl⟩
  show WP _ _ _ _ _ _ _ (Enc e b1 [] sm :: A :: F)
  refine WP.eff rfl rfl rfl (Eff.alloc rfl Ty.z75) ?_
  rintro _ _ ⟨b2, rfl, rfl⟩
  refine WP.eff0 rfl rfl (Eff.storeAgg (cs := [.pointer (some ⟨e, 0, none⟩)]) (C' := [.pointer (some ⟨e, 0, none⟩)]) rfl Ty.ag75 rfl rfl rfl rfl (by simp) rfl) ?_
  rintro _ _ rfl
  refine WP.nil ?_
  refine Out.next ?_
  refine WPc.seq ?_
  refine WPc.region ?_
  refine WP.val rfl rfl rfl (Val.assign rfl rfl) ?_
  refine WP.nil ?_
  refine Out.next ?_
  refine WPc.seq ?_
  refine WPc.seq ?_
  refine WPc.region ?_
  refine WP.val rfl rfl rfl (Val.assign rfl rfl) ?_
  refine WP.nil ?_
  refine Out.next ?_
  refine WPc.block ?_
  refine WPc.perm pl2 ?_
  refine WPc.perm pl1 ?_
  refine WPc.perm pl2 ?_
  refine WPc.loop (ι := Nat) (fun i => i ≤ (([] : List WR)).length) (fun i => [(2, .slice a 0 c), (8, .pointer (some ⟨b1, 0, none⟩)), (9, .pointer (some ⟨b2, 0, none⟩)), (10, .int .i64 0), (11, .int .i64 (((i : Nat) : Int)))]) (fun i => Enc e b1 ((((([] : List WR)).take i).foldl stepW (sm, [])).2) ((((([] : List WR)).take i).foldl stepW (sm, [])).1) :: Blk b2 [.pointer (some ⟨e, 0, none⟩)] 75 :: A :: F) (fun i => (([] : List WR)).length - i) 0 (Nat.zero_le _) ((Sub.cons rfl (Sub.cons rfl (Sub.cons rfl (Sub.cons rfl (Sub.cons rfl Sub.nil)))))) (fun _ h => h) ?_
  rintro i hi
  show WPc _ _ _ _ _ [(2, .slice a 0 c), (8, .pointer (some ⟨b1, 0, none⟩)), (9, .pointer (some ⟨b2, 0, none⟩)), (10, .int .i64 0), (11, .int .i64 (((i : Nat) : Int)))] (Enc e b1 ((((([] : List WR)).take i).foldl stepW (sm, [])).2) ((((([] : List WR)).take i).foldl stepW (sm, [])).1) :: Blk b2 [.pointer (some ⟨e, 0, none⟩)] 75 :: A :: F)
  replace hi : i ≤ ([] : List WR).length := hi
  have hsl : ((([] : List WR).take i).foldl stepW (sm, [])).2.length = 0 := by simp
  refine WPc.seq ?_
  refine WPc.seq ?_
  refine WPc.region ?_
  refine WP.val rfl rfl rfl (Val.move rfl rfl) ?_
  refine WP.val rfl rfl rfl (Val.move rfl rfl) ?_
  refine WP.val rfl rfl rfl (Val.len rfl Ty.sl23 rfl) ?_
  refine WP.val rfl rfl rfl (Val.lss rfl rfl rfl) ?_
  refine WP.nil ?_
  refine Out.next ?_
  refine WPc.ifP rfl (fun h1 => ?_) (fun h1 => ?_)
  · skip
    have h1 : (((i : Nat) : Int) < (0 : Int)) := h1
    exfalso; simp at *; omega
  · skip
    have h1 : ¬ (((i : Nat) : Int) < (0 : Int)) := h1
    refine WPc.exit ?_
    refine Out.then_exit ?_
    refine Out.then_exit ?_
    refine Out.block_exit ?_
    refine Out.next ?_
    refine WPc.seq ?_
    refine WPc.region ?_
    refine WP.val rfl rfl rfl (Val.loadAgg (cs := [.pointer (some ⟨e, 0, none⟩)]) rfl Ty.ag75 rfl rfl (fun w h => h.range 1 rfl rfl)) ?_
    refine WP.eff rfl rfl rfl (Eff.call rfl rfl Tryd.call27 (Eflush_spec e b1 (((([] : List WR)).take i).foldl stepW (sm, [])).2 (((([] : List WR)).take i).foldl stepW (sm, [])).1 (by omega))) ?_
    rintro _ _ ⟨_, ⟨wv, rfl, rfl⟩, rfl⟩
    show WP _ _ _ _ _ _ _ (Blk b1 [wv] 72 :: Own 5 1 wv ((((([] : List WR)).take i).foldl stepW (sm, [])).2.length) (byt ((((([] : List WR)).take i).foldl stepW (sm, [])).2)) :: Blk b2 [.pointer (some ⟨e, 0, none⟩)] 75 :: A :: F)
    refine WP.nil ?_
    refine Out.next ?_
    refine WPc.seq ?_
    refine WPc.region ?_
    refine WP.val rfl rfl rfl (Val.move rfl rfl) ?_
    refine WP.val rfl rfl rfl (Val.nilCheck rfl rfl) ?_
    refine WP.val rfl rfl rfl (Val.fieldAddr (j := 0) rfl Ty.fo72_0 rfl rfl) ?_
    refine WP.val rfl rfl rfl (Val.load rfl Ty.sc40 rfl (fun w h => h.cell 0 rfl rfl)) ?_
    refine WP.val rfl rfl rfl (Val.move rfl rfl) ?_
    refine WP.val rfl rfl rfl (Val.assign rfl rfl) ?_
    refine WP.val rfl rfl rfl (Val.assign rfl rfl) ?_
    refine WP.nil ?_
    refine Out.next ?_
    refine WPc.ret ?_
    have hti : (([] : List WR)).take i = ([] : List WR) := List.take_of_length_le (by first | omega | (simp at *; try omega))
    refine Out.drop ?_
    refine Out.perm pl1 ?_
    refine Out.drop ?_
    exact Out.ret2 (L' := _) Tryd.results15 rfl rfl ⟨wv, rfl, rfl⟩ (fun w h => by rw [hti] at h; exact h)

set_option maxRecDepth 100000 in
set_option maxHeartbeats 1000000 in
theorem ww_row (A : HProp) (sm : Int) (off : Nat) (ho : off ≤ 4294967296) (l : List WR) (hgood : ∀ x ∈ l, WFine x) (hlen : l.length ≤ 200) (b0 o0 c0 : Nat) (hr : ∀ w, Holds A w → ∀ i x, l[i]? = some x → w.rangeAt b0 (o0 + i * 6) (WR.cells x)) : Does Tryd.prog 15 [.int .u32 (sm), .int .i64 (((off : Nat) : Int)), .slice (some ⟨b0, o0, none⟩) l.length c0] [A] (fun v L => ∃ wv, v = .tuple #[wv, .int .i64 0] ∧ L = [Own 5 1 wv (l.foldl stepW (sm, [])).2.length (byt (l.foldl stepW (sm, [])).2), A]) := by
  refine Does.enter 70 Tryd.func15 rfl rfl rfl fun W F => ?_
  show WPc _ _ _ _ _ [(0, .int .u32 (sm)), (1, .int .i64 (((off : Nat) : Int))), (2, .slice (some ⟨b0, o0, none⟩) l.length c0)] (A :: F)
  refine WPc.seq ?_
  refine WPc.region ?_
  refine WP.val rfl rfl rfl (Val.assign rfl rfl) ?_
  refine WP.val rfl rfl rfl (Val.assign rfl rfl) ?_
  refine WP.nil ?_
  refine Out.next ?_
  refine WPc.seq ?_
  refine WPc.region ?_
  refine WP.val rfl rfl rfl (Val.mk (cs := [.slice none 0 0]) rfl rfl (fun _ => by kernel_rfl)) ?_
  refine WP.eff rfl rfl rfl (Eff.box (C := [.slice none 0 0]) rfl rfl rfl) ?_
  rintro _ _ ⟨b1, rfl, rfl⟩
  refine WP.val rfl rfl rfl (Val.assign rfl rfl) ?_
  refine WP.nil ?_
  refine Out.next ?_
  refine WPc.seq ?_
  refine WPc.region ?_
  refine WP.val rfl rfl rfl (Val.move rfl rfl) ?_
  refine WP.val rfl rfl rfl (Val.iface rfl rfl Ty.ni70) ?_
  refine WP.val rfl rfl rfl (Val.move rfl rfl) ?_
  refine WP.val rfl rfl rfl (Val.move rfl rfl) ?_
  refine WP.val rfl rfl rfl (Val.max2 (z := ((max off 0 : Nat) : Int)) rfl rfl rfl (by split <;> omega)) ?_
  refine WP.eff rfl rfl rfl (Eff.call rfl rfl Tryd.call25 (zznew_spec b1 (max off 0) (by omega) sm)) ?_
  rintro _ _ ⟨_, ⟨e, rfl, rfl⟩, rfl⟩
  show WP _ _ _ _ _ _ _ (Enc e b1 [] sm :: A :: F)
  refine WP.eff rfl rfl rfl (Eff.alloc rfl Ty.z75) ?_
  rintro _ _ ⟨b2, rfl, rfl⟩
  refine WP.eff0 rfl rfl (Eff.storeAgg (cs := [.pointer (some ⟨e, 0, none⟩)]) (C' := [.pointer (some ⟨e, 0, none⟩)]) rfl Ty.ag75 rfl rfl rfl rfl (by simp) rfl) ?_
  rintro _ _ rfl
  refine WP.nil ?_
  refine Out.next ?_
  refine WPc.seq ?_
  refine WPc.region ?_
  refine WP.val rfl rfl rfl (Val.assign rfl rfl) ?_
  refine WP.nil ?_
  refine Out.next ?_
  refine WPc.seq ?_
  refine WPc.seq ?_
  refine WPc.region ?_
  refine WP.val rfl rfl rfl (Val.assign rfl rfl) ?_
  refine WP.nil ?_
  refine Out.next ?_
  refine WPc.block ?_
  refine WPc.perm pl2 ?_
  refine WPc.perm pl1 ?_
  refine WPc.perm pl2 ?_
  refine WPc.loop (ι := Nat) (fun i => i ≤ (l).length) (fun i => [(2, .slice (some ⟨b0, o0, none⟩) l.length c0), (8, .pointer (some ⟨b1, 0, none⟩)), (9, .pointer (some ⟨b2, 0, none⟩)), (10, .int .i64 0), (11, .int .i64 (((i : Nat) : Int)))]) (fun i => Enc e b1 ((((l).take i).foldl stepW (sm, [])).2) ((((l).take i).foldl stepW (sm, [])).1) :: Blk b2 [.pointer (some ⟨e, 0, none⟩)] 75 :: A :: F) (fun i => (l).length - i) 0 (Nat.zero_le _) ((Sub.cons rfl (Sub.cons rfl (Sub.cons rfl (Sub.cons rfl (Sub.cons rfl Sub.nil)))))) (fun _ h => h) ?_
  rintro i hi
  show WPc _ _ _ _ _ [(2, .slice (some ⟨b0, o0, none⟩) l.length c0), (8, .pointer (some ⟨b1, 0, none⟩)), (9, .pointer (some ⟨b2, 0, none⟩)), (10, .int .i64 0), (11, .int .i64 (((i : Nat) : Int)))] (Enc e b1 ((((l).take i).foldl stepW (sm, [])).2) ((((l).take i).foldl stepW (sm, [])).1) :: Blk b2 [.pointer (some ⟨e, 0, none⟩)] 75 :: A :: F)
  replace hi : i ≤ (l).length := hi
  have hsl := fold_len ((l).take i) (sm, []) (fun y hy => (hgood y (List.mem_of_mem_take hy)).2.1)
  simp only [List.length_nil, List.length_take] at hsl
  refine WPc.seq ?_
  refine WPc.seq ?_
  refine WPc.region ?_
  refine WP.val rfl rfl rfl (Val.move rfl rfl) ?_
  refine WP.val rfl rfl rfl (Val.move rfl rfl) ?_
  refine WP.val rfl rfl rfl (Val.len rfl Ty.sl23 rfl) ?_
  refine WP.val rfl rfl rfl (Val.lss rfl rfl rfl) ?_
  refine WP.nil ?_
  refine Out.next ?_
  refine WPc.ifP rfl (fun h1 => ?_) (fun h1 => ?_)
  · skip
    have h1 : (((i : Nat) : Int) < ((l.length : Nat) : Int)) := h1
    refine WPc.skip ?_
    refine Out.next ?_
    refine WPc.seq ?_
    refine WPc.block ?_
    refine WPc.seq ?_
    have hlt : i < l.length := by omega
    obtain ⟨x, hx⟩ : ∃ x, l[i]? = some x := ⟨_, List.getElem?_eq_getElem hlt⟩
    obtain ⟨hx1, hx2, hx3⟩ := hgood x (List.mem_of_getElem? hx)
    refine WPc.region ?_
    refine WP.val rfl rfl rfl (Val.mk (cs := [.pointer none, .pointer none, .slice none 0 0]) rfl rfl (fun _ => by kernel_rfl)) ?_
    refine WP.eff rfl rfl rfl (Eff.box (C := [.pointer none, .pointer none, .slice none 0 0]) rfl rfl rfl) ?_
    rintro _ _ ⟨b3, rfl, rfl⟩
    refine WP.val rfl rfl rfl (Val.assign rfl rfl) ?_
    refine WP.nil ?_
    refine Out.next ?_
    refine WPc.seq ?_
    refine WPc.seq ?_
    refine WPc.region ?_
    refine WP.val rfl rfl rfl (Val.move rfl rfl) ?_
    refine WP.val rfl rfl rfl (Val.move rfl rfl) ?_
    refine WP.val rfl rfl rfl (Val.indexAddr (j := i) (q := o0 + i * 6) rfl Ty.sl23 rfl rfl (by omega) (by omega) (by omega)) ?_
    refine WP.val rfl rfl rfl (Val.fieldAddr (j := o0 + i * 6 + 1) rfl Ty.fo44_1 rfl rfl) ?_
    refine WP.val rfl rfl rfl (Val.load (v := .bool (x.ht)) rfl Ty.sc4 rfl (fun w h => hr w (h.at 3 rfl) i x hx 1 _ rfl)) ?_
    refine WP.nil ?_
    refine Out.next ?_
    refine WPc.cond rfl (fun h2 => ?_) (fun h2 => ?_)
    · skip
      have h2 : (x.ht) = true := h2
      refine WPc.seq ?_
      refine WPc.region ?_
      refine WP.val rfl rfl rfl (Val.move rfl rfl) ?_
      refine WP.val rfl rfl rfl (Val.move rfl rfl) ?_
      refine WP.val rfl rfl rfl (Val.indexAddr (j := i) (q := o0 + i * 6) rfl Ty.sl23 rfl rfl (by omega) (by omega) (by omega)) ?_
      refine WP.val rfl rfl rfl (Val.fieldAddr (j := o0 + i * 6) rfl Ty.fo44_0 rfl rfl) ?_
      refine WP.val rfl rfl rfl (Val.load (v := .int .i64 (x.ty)) rfl Ty.sc2 rfl (fun w h => hr w (h.at 3 rfl) i x hx 0 _ rfl)) ?_
      refine WP.eff rfl rfl rfl (Eff.alloc rfl Ty.z2) ?_
      rintro _ _ ⟨b4, rfl, rfl⟩
      refine WP.eff0 rfl rfl (Eff.store rfl Ty.sc2 rfl rfl rfl (by simp) st0) ?_
      rintro _ _ rfl
      refine WP.nil ?_
      refine Out.next ?_
      refine WPc.region ?_
      refine WP.val rfl rfl rfl (Val.move rfl rfl) ?_
      refine WP.val rfl rfl rfl (Val.nilCheck rfl rfl) ?_
      refine WP.val rfl rfl rfl (Val.fieldAddr (j := 0) rfl Ty.fo59_0 rfl rfl) ?_
      refine WP.perm pl1 ?_
      refine WP.eff0 rfl rfl (Eff.store rfl Ty.sc56 rfl rfl rfl (by simp) st0) ?_
      rintro _ _ rfl
      refine WP.nil ?_
      refine Out.next ?_
      refine WPc.seq ?_
      refine WPc.seq ?_
      refine WPc.region ?_
      refine WP.val rfl rfl rfl (Val.move rfl rfl) ?_
      refine WP.val rfl rfl rfl (Val.move rfl rfl) ?_
      refine WP.val rfl rfl rfl (Val.indexAddr (j := i) (q := o0 + i * 6) rfl Ty.sl23 rfl rfl (by omega) (by omega) (by omega)) ?_
      refine WP.val rfl rfl rfl (Val.fieldAddr (j := o0 + i * 6 + 5) rfl Ty.fo44_5 rfl rfl) ?_
      refine WP.val rfl rfl rfl (Val.load (v := .bool (x.has)) rfl Ty.sc4 rfl (fun w h => hr w (h.at 4 rfl) i x hx 5 _ rfl)) ?_
      refine WP.nil ?_
      refine Out.next ?_
      refine WPc.cond rfl (fun h3 => ?_) (fun h3 => ?_)
      · skip
        have h3 : (x.has) = true := h3
        refine WPc.region ?_
        refine WP.val rfl rfl rfl (Val.move rfl rfl) ?_
        refine WP.val rfl rfl rfl (Val.move rfl rfl) ?_
        refine WP.val rfl rfl rfl (Val.move rfl rfl) ?_
        refine WP.val rfl rfl rfl (Val.indexAddr (j := i) (q := o0 + i * 6) rfl Ty.sl23 rfl rfl (by omega) (by omega) (by omega)) ?_
        refine WP.val rfl rfl rfl (Val.fieldAddr (j := o0 + i * 6 + 4) rfl Ty.fo44_4 rfl rfl) ?_
        refine WP.val rfl rfl rfl (Val.load (v := .string (str (x.d))) rfl Ty.sc9 rfl (fun w h => hr w (h.at 4 rfl) i x hx 4 _ rfl)) ?_
        refine WP.eff rfl rfl rfl (Eff.bytes rfl Ty.st9 Ty.by40 rfl) ?_
        rintro _ _ ⟨b5, capb5, spb5, rfl, hcb5, hsb5, rfl⟩
        refine WP.val rfl rfl rfl (Val.nilCheck rfl rfl) ?_
        refine WP.val rfl rfl rfl (Val.fieldAddr (j := 2) rfl Ty.fo59_2 rfl rfl) ?_
        refine WP.perm pl1 ?_
        refine WP.eff0 rfl rfl (Eff.store rfl Ty.sc40 rfl rfl rfl (by simp) st2) ?_
        rintro _ _ rfl
        refine WP.nil ?_
        refine Out.next ?_
        refine WPc.seq ?_
        refine WPc.perm pl1 ?_
        refine WPc.conv (fun w h => by rw [str_bytes] at h; exact h) ?_
        show WPc _ _ _ _ _ _ (Blk b5 (byt x.d ++ spb5) 5 :: Blk b3 [.pointer (some ⟨b4, 0, none⟩), .pointer none, .slice (some ⟨b5, 0, none⟩) ((str (x.d)).size) capb5] 59 :: Blk b4 [.int .i64 (x.ty)] 2 :: Enc e b1 ((((l).take i).foldl stepW (sm, [])).2) ((((l).take i).foldl stepW (sm, [])).1) :: Blk b2 [.pointer (some ⟨e, 0, none⟩)] 75 :: A :: F)
        refine WPc.perm pl1 ?_
        refine WPc.conv (M := Blk b3 [.pointer (some ⟨b4, 0, none⟩), .pointer none, .slice (some ⟨b5, 0, none⟩) x.d.length capb5] 59 :: Blk b5 (byt x.d ++ spb5) 5 :: Blk b4 [.int .i64 (x.ty)] 2 :: Enc e b1 ((((l).take i).foldl stepW (sm, [])).2) ((((l).take i).foldl stepW (sm, [])).1) :: Blk b2 [.pointer (some ⟨e, 0, none⟩)] 75 :: A :: F) (fun w h => by rw [str_size] at h; exact h) ?_
        refine WPc.region ?_
        refine WP.val rfl rfl rfl (Val.loadAgg (cs := [.pointer (some ⟨e, 0, none⟩)]) rfl Ty.ag75 rfl rfl (fun w h => h.range 4 rfl rfl)) ?_
        refine WP.val rfl rfl rfl (Val.move rfl rfl) ?_
        have hcap := hcb5
        rw [str_size] at hcap
        refine WP.perm pl1 ?_
        refine WP.perm pl2 ?_
        refine WP.perm pl2 ?_
        refine WP.perm pl3 ?_
        refine WP.eff rfl rfl rfl (Eff.call rfl rfl Tryd.call26 (Encode_has (Blk b5 (byt x.d ++ spb5) 5) x.d b5 0 capb5 (fun w h => h.cell_range (by simp)) (by omega) (by omega) e b1 b3 b4 x.ty (((l).take i).foldl stepW (sm, [])).2 (((l).take i).foldl stepW (sm, [])).1 (by omega))) ?_
        rintro _ _ ⟨_, ⟨rfl, rfl⟩, rfl⟩
        show WP _ _ _ _ _ _ _ (Enc e b1 ((((l).take i).foldl stepW (sm, [])).2 ++ fr8 (rbody x.ty (crcWrite (((l).take i).foldl stepW (sm, [])).1 x.d) (some x.d))) (crcWrite (((l).take i).foldl stepW (sm, [])).1 x.d) :: Blk b2 [.pointer (some ⟨e, 0, none⟩)] 75 :: A :: F)
        refine WP.val rfl rfl rfl (Val.nilIn rfl Ty.if61 rfl) ?_
        refine WP.nil ?_
        refine Out.next ?_
        refine WPc.condF rfl rfl ?_
        refine WPc.skip ?_
        refine Out.block ?_
        refine Out.next ?_
        refine WPc.region ?_
        refine WP.val rfl rfl rfl (Val.move rfl rfl) ?_
        refine WP.val rfl rfl rfl (Val.add (z := ((i + 1 : Nat) : Int)) rfl rfl rfl ((w64 (by omega) (by omega)).trans (by omega))) ?_
        refine WP.val rfl rfl rfl (Val.assign rfl rfl) ?_
        refine WP.nil ?_
        have htk := take_more hx
        have hst : ((l).take (i + 1)).foldl stepW (sm, []) = stepW (((l).take i).foldl stepW (sm, [])) x := by rw [htk, List.foldl_append]; rfl
        have hsw : stepW (((l).take i).foldl stepW (sm, [])) x = (crcWrite (((l).take i).foldl stepW (sm, [])).1 x.d, (((l).take i).foldl stepW (sm, [])).2 ++ fr8 (rbody x.ty (crcWrite (((l).take i).foldl stepW (sm, [])).1 x.d) (some x.d))) := by unfold stepW; rw [if_pos (by assumption)]
        refine Out.again (i + 1) ?_ ?_ ?_ ?_
        · exact (by first | omega | (dsimp only; omega))
        · first | omega | (dsimp only; omega)
        · exact (Sub.cons rfl (Sub.cons rfl (Sub.cons rfl (Sub.cons rfl (Sub.cons rfl Sub.nil)))))
        · exact (fun w h => by first | (rw [hst, hsw]; exact h) | (dsimp only; rw [hst, hsw]; exact h))
      · skip
        have h3 : (x.has) = false := h3
        refine WPc.skip ?_
        refine Out.next ?_
        refine WPc.seq ?_
        refine WPc.region ?_
        refine WP.val rfl rfl rfl (Val.loadAgg (cs := [.pointer (some ⟨e, 0, none⟩)]) rfl Ty.ag75 rfl rfl (fun w h => h.range 3 rfl rfl)) ?_
        refine WP.val rfl rfl rfl (Val.move rfl rfl) ?_
        refine WP.perm pl1 ?_
        refine WP.perm pl1 ?_
        refine WP.perm pl2 ?_
        refine WP.eff rfl rfl rfl (Eff.call rfl rfl Tryd.call26 (Encode_none e b1 b3 b4 x.ty (((l).take i).foldl stepW (sm, [])).2 (((l).take i).foldl stepW (sm, [])).1 (by omega))) ?_
        rintro _ _ ⟨_, ⟨rfl, rfl⟩, rfl⟩
        show WP _ _ _ _ _ _ _ (Enc e b1 ((((l).take i).foldl stepW (sm, [])).2 ++ fr8 (rbody x.ty (crcWrite (((l).take i).foldl stepW (sm, [])).1 []) none)) (crcWrite (((l).take i).foldl stepW (sm, [])).1 []) :: Blk b2 [.pointer (some ⟨e, 0, none⟩)] 75 :: A :: F)
        refine WP.val rfl rfl rfl (Val.nilIn rfl Ty.if61 rfl) ?_
        refine WP.nil ?_
        refine Out.next ?_
        refine WPc.condF rfl rfl ?_
        refine WPc.skip ?_
        refine Out.block ?_
        refine Out.next ?_
        refine WPc.region ?_
        refine WP.val rfl rfl rfl (Val.move rfl rfl) ?_
        refine WP.val rfl rfl rfl (Val.add (z := ((i + 1 : Nat) : Int)) rfl rfl rfl ((w64 (by omega) (by omega)).trans (by omega))) ?_
        refine WP.val rfl rfl rfl (Val.assign rfl rfl) ?_
        refine WP.nil ?_
        have htk := take_more hx
        have hst : ((l).take (i + 1)).foldl stepW (sm, []) = stepW (((l).take i).foldl stepW (sm, [])) x := by rw [htk, List.foldl_append]; rfl
        have hsw : stepW (((l).take i).foldl stepW (sm, [])) x = (crcWrite (((l).take i).foldl stepW (sm, [])).1 [], (((l).take i).foldl stepW (sm, [])).2 ++ fr8 (rbody x.ty (crcWrite (((l).take i).foldl stepW (sm, [])).1 []) none)) := by unfold stepW; rw [if_neg (by rw [show x.has = false from by assumption]; simp), hx3 (by assumption)]
        refine Out.again (i + 1) ?_ ?_ ?_ ?_
        · exact (by first | omega | (dsimp only; omega))
        · first | omega | (dsimp only; omega)
        · exact (Sub.cons rfl (Sub.cons rfl (Sub.cons rfl (Sub.cons rfl (Sub.cons rfl Sub.nil)))))
        · exact (fun w h => by first | (rw [hst, hsw]; exact h) | (dsimp only; rw [hst, hsw]; exact h))
    · skip
      have h2 : (x.ht) = false := h2
      exfalso; rw [hx1] at *; contradiction
  · skip
    have h1 : ¬ (((i : Nat) : Int) < ((l.length : Nat) : Int)) := h1
    refine WPc.exit ?_
    refine Out.then_exit ?_
    refine Out.then_exit ?_
    refine Out.block_exit ?_
    refine Out.next ?_
    refine WPc.seq ?_
    refine WPc.region ?_
    refine WP.val rfl rfl rfl (Val.loadAgg (cs := [.pointer (some ⟨e, 0, none⟩)]) rfl Ty.ag75 rfl rfl (fun w h => h.range 1 rfl rfl)) ?_
    refine WP.eff rfl rfl rfl (Eff.call rfl rfl Tryd.call27 (Eflush_spec e b1 (((l).take i).foldl stepW (sm, [])).2 (((l).take i).foldl stepW (sm, [])).1 (by omega))) ?_
    rintro _ _ ⟨_, ⟨wv, rfl, rfl⟩, rfl⟩
    show WP _ _ _ _ _ _ _ (Blk b1 [wv] 72 :: Own 5 1 wv ((((l).take i).foldl stepW (sm, [])).2.length) (byt ((((l).take i).foldl stepW (sm, [])).2)) :: Blk b2 [.pointer (some ⟨e, 0, none⟩)] 75 :: A :: F)
    refine WP.nil ?_
    refine Out.next ?_
    refine WPc.seq ?_
    refine WPc.region ?_
    refine WP.val rfl rfl rfl (Val.move rfl rfl) ?_
    refine WP.val rfl rfl rfl (Val.nilCheck rfl rfl) ?_
    refine WP.val rfl rfl rfl (Val.fieldAddr (j := 0) rfl Ty.fo72_0 rfl rfl) ?_
    refine WP.val rfl rfl rfl (Val.load rfl Ty.sc40 rfl (fun w h => h.cell 0 rfl rfl)) ?_
    refine WP.val rfl rfl rfl (Val.move rfl rfl) ?_
    refine WP.val rfl rfl rfl (Val.assign rfl rfl) ?_
    refine WP.val rfl rfl rfl (Val.assign rfl rfl) ?_
    refine WP.nil ?_
    refine Out.next ?_
    refine WPc.ret ?_
    have hti : (l).take i = l := List.take_of_length_le (by first | omega | (simp at *; try omega))
    refine Out.drop ?_
    refine Out.perm pl1 ?_
    refine Out.drop ?_
    exact Out.ret2 (L' := _) Tryd.results15 rfl rfl ⟨wv, rfl, rfl⟩ (fun w h => by rw [hti] at h; exact h)

theorem ww_spec (A : HProp) (sm : Int) (off : Nat) (ho : off ≤ 4294967296) (l : List WR) (hgood : ∀ x ∈ l, WFine x) (hlen : l.length ≤ 200) (va : Value) (hva : Rd A 6 WR.cells va l) : Does Tryd.prog 15 [.int .u32 (sm), .int .i64 (((off : Nat) : Int)), va] [A] (fun v L => ∃ wv, v = .tuple #[wv, .int .i64 0] ∧ L = [Own 5 1 wv (l.foldl stepW (sm, [])).2.length (byt (l.foldl stepW (sm, [])).2), A]) := by
  rcases hva with ⟨b0, o0, c0, rfl, hr⟩ | ⟨rfl, a, c, rfl⟩
  · exact ww_row A sm off ho l hgood hlen b0 o0 c0 hr
  · exact ww_nil A sm off ho a c

end Go.Proofs.YthicijpjpijdjaaDoor.Ws
