import Derived.Test.YthicijpjpijdjaaDoorWv
namespace Go.Proofs.YthicijpjpijdjaaDoor.Ww
open Go.RowKit Go.Proofs.YthicijpjpijdjaaDoor Go.Proofs.YthicijpjpijdjaaDoor.Sl Go.Proofs.YthicijpjpijdjaaDoor.Wa Go.Proofs.YthicijpjpijdjaaDoor.Wb Go.Proofs.YthicijpjpijdjaaDoor.Wc Go.Proofs.YthicijpjpijdjaaDoor.Wd Go.Proofs.YthicijpjpijdjaaDoor.We Go.Proofs.YthicijpjpijdjaaDoor.Wf Go.Proofs.YthicijpjpijdjaaDoor.Wg Go.Proofs.YthicijpjpijdjaaDoor.Wh Go.Proofs.YthicijpjpijdjaaDoor.Wi Go.Proofs.YthicijpjpijdjaaDoor.Wj Go.Proofs.YthicijpjpijdjaaDoor.Wk Go.Proofs.YthicijpjpijdjaaDoor.Wl Go.Proofs.YthicijpjpijdjaaDoor.Wm Go.Proofs.YthicijpjpijdjaaDoor.Wn Go.Proofs.YthicijpjpijdjaaDoor.Wo Go.Proofs.YthicijpjpijdjaaDoor.Wp Go.Proofs.YthicijpjpijdjaaDoor.Wq Go.Proofs.YthicijpjpijdjaaDoor.Wr Go.Proofs.YthicijpjpijdjaaDoor.Ws Go.Proofs.YthicijpjpijdjaaDoor.Wt Go.Proofs.YthicijpjpijdjaaDoor.Wu Go.Proofs.YthicijpjpijdjaaDoor.Wv
set_option linter.unusedVariables false
set_option linter.unusedSimpArgs false
set_option linter.unusedSectionVars false

set_option maxRecDepth 100000 in
set_option maxHeartbeats 2000000 in
theorem same_row (A : HProp) (gv : Value) (got l : List WR) (sm : Int) (hout : Outs got (rfs sm l)) (hd : ∀ x ∈ l, x.d.length ≤ 5000) (hlen : l.length ≤ 200) (b0 o0 c0 : Nat) (hr : ∀ w, Holds A w → ∀ i x, l[i]? = some x → w.rangeAt b0 (o0 + i * 6) (WR.cells x)) : Does Tryd.prog 12 [gv, .slice (some ⟨b0, o0, none⟩) l.length c0, .int .u32 (sm)] [Seq gv got.length (flatOf WR.cells got), A] (fun v L => v = .bool true ∧ L = [Seq gv got.length (flatOf WR.cells got), A]) := by
  refine Does.enter 66 Tryd.func12 rfl rfl rfl fun W F => ?_
  show WPc _ _ _ _ _ [(0, gv), (1, .slice (some ⟨b0, o0, none⟩) l.length c0), (2, .int .u32 (sm))] (Seq gv got.length (flatOf WR.cells got) :: A :: F)
  refine WPc.seq ?_
  refine WPc.region ?_
  refine WP.val rfl rfl rfl (Val.assign rfl rfl) ?_
  refine WP.nil ?_
  refine Out.next ?_
  refine WPc.seq ?_
  refine WPc.seq ?_
  refine WPc.region ?_
  refine WP.val rfl rfl rfl (Val.move rfl rfl) ?_
  refine WP.val rfl rfl rfl (Val.lenSeq rfl Ty.sl23 rfl (fun w h => h.at 0 rfl)) ?_
  refine WP.val rfl rfl rfl (Val.move rfl rfl) ?_
  refine WP.val rfl rfl rfl (Val.len rfl Ty.sl23 rfl) ?_
  refine WP.val rfl rfl rfl (Val.neq rfl rfl rfl) ?_
  refine WP.nil ?_
  refine Out.next ?_
  refine WPc.ifP rfl (fun h1 => ?_) (fun h1 => ?_)
  · skip
    have h1 : (((got.length : Nat) : Int) ≠ ((l.length : Nat) : Int)) := h1
    exfalso; have := outs_len hout; rw [rfs_len] at this; omega
  · skip
    have h1 : ¬ (((got.length : Nat) : Int) ≠ ((l.length : Nat) : Int)) := h1
    refine WPc.skip ?_
    refine Out.next ?_
    refine WPc.seq ?_
    refine WPc.region ?_
    refine WP.val rfl rfl rfl (Val.move rfl rfl) ?_
    refine WP.val rfl rfl rfl (Val.move rfl rfl) ?_
    refine WP.perm pl1 ?_
    refine WP.eff rfl rfl rfl (Eff.call rfl rfl Tryd.call18 (wb_row A sm l hd hlen b0 o0 c0 hr)) ?_
    rintro _ _ ⟨_, ⟨su1, su2, rfl, rfl⟩, rfl⟩
    show WP _ _ _ _ _ _ _ (Own 9 1 su1 l.length ((l.foldl stepB (sm, [], [])).2.1.map strv) :: Own 22 1 su2 l.length ((l.foldl stepB (sm, [], [])).2.2.map u32v) :: A :: Seq gv got.length (flatOf WR.cells got) :: F)
    refine WP.val rfl rfl rfl (Val.move rfl rfl) ?_
    refine WP.val rfl rfl rfl (Val.extract rfl rfl rfl) ?_
    refine WP.val rfl rfl rfl (Val.extract rfl rfl rfl) ?_
    refine WP.val rfl rfl rfl (Val.assign rfl rfl) ?_
    refine WP.val rfl rfl rfl (Val.assign rfl rfl) ?_
    refine WP.nil ?_
    refine Out.next ?_
    refine WPc.seq ?_
    refine WPc.seq ?_
    refine WPc.region ?_
    refine WP.val rfl rfl rfl (Val.move rfl rfl) ?_
    refine WP.val rfl rfl rfl (Val.len rfl Ty.sl23 rfl) ?_
    refine WP.val rfl rfl rfl (Val.move rfl rfl) ?_
    refine WP.nil ?_
    refine Out.next ?_
    refine WPc.block ?_
    refine WPc.perm pl1 ?_
    refine WPc.conv (fun w h => Sat.seqMk (by rw [(foldB l (sm, [], [])).2, List.nil_append] at h; exact h)) ?_
    show WPc _ _ _ _ _ _ (Seq su2 l.length ((sumsR sm l).map u32v) :: Own 9 1 su1 l.length ((l.foldl stepB (sm, [], [])).2.1.map strv) :: A :: Seq gv got.length (flatOf WR.cells got) :: F)
    refine WPc.perm pl1 ?_
    refine WPc.drop ?_
    refine WPc.perm pl1 ?_
    refine WPc.perm pl1 ?_
    refine WPc.perm pl2 ?_
    refine WPc.loop (ι := Nat) (fun i => i ≤ l.length) (fun i => [(0, gv), (8, su2), (23, .slice (some ⟨b0, o0, none⟩) l.length c0), (24, .int .i64 (((l.length : Nat) : Int))), (25, .int .i64 (((i : Nat) : Int)))]) (fun i => Seq gv got.length (flatOf WR.cells got) :: Seq su2 l.length ((sumsR sm l).map u32v) :: A :: F) (fun i => l.length - i) 0 (Nat.zero_le _) ((Sub.cons rfl (Sub.cons rfl (Sub.cons rfl (Sub.cons rfl (Sub.cons rfl Sub.nil)))))) (fun _ h => h) ?_
    rintro i hi
    show WPc _ _ _ _ _ [(0, gv), (8, su2), (23, .slice (some ⟨b0, o0, none⟩) l.length c0), (24, .int .i64 (((l.length : Nat) : Int))), (25, .int .i64 (((i : Nat) : Int)))] (Seq gv got.length (flatOf WR.cells got) :: Seq su2 l.length ((sumsR sm l).map u32v) :: A :: F)
    replace hi : i ≤ l.length := hi
    refine WPc.seq ?_
    refine WPc.region ?_
    refine WP.val rfl rfl rfl (Val.lss rfl rfl rfl) ?_
    refine WP.nil ?_
    refine Out.next ?_
    refine WPc.seq ?_
    refine WPc.ifP rfl (fun h2 => ?_) (fun h2 => ?_)
    · skip
      have h2 : (((i : Nat) : Int) < ((l.length : Nat) : Int)) := h2
      refine WPc.skip ?_
      refine Out.next ?_
      refine WPc.seq ?_
      refine WPc.block ?_
      refine WPc.seq ?_
      have hlt : i < l.length := by omega
      obtain ⟨x, hx⟩ : ∃ x, l[i]? = some x := ⟨_, List.getElem?_eq_getElem hlt⟩
      obtain ⟨su, hb, hga, hsa⟩ := outs_at hout hx
      refine WPc.region ?_
      refine WP.val rfl rfl rfl (Val.move rfl rfl) ?_
      refine WP.val rfl rfl rfl (Val.indexAddr (j := i) (q := o0 + i * 6) rfl Ty.sl23 rfl rfl (by omega) (by omega) (by omega)) ?_
      refine WP.val rfl rfl rfl (Val.loadAgg (cs := (WR.cells x)) rfl Ty.ag44 rfl (by rfl) (fun w h => hr w (h.at 2 rfl) i x hx)) ?_
      refine WP.eff rfl rfl rfl (Eff.alloc rfl Ty.z44) ?_
      rintro _ _ ⟨b1, rfl, rfl⟩
      refine WP.val rfl rfl rfl (Val.assign rfl rfl) ?_
      refine WP.eff0 rfl rfl (Eff.storeAgg (cs := [.int .i64 (x.ty), .bool (x.ht), .int .u32 (x.c), .bool (x.hc), .string (str (x.d)), .bool (x.has)]) (C' := [.int .i64 (x.ty), .bool (x.ht), .int .u32 (x.c), .bool (x.hc), .string (str (x.d)), .bool (x.has)]) rfl Ty.ag44 rfl rfl rfl rfl (by simp) rfl) ?_
      rintro _ _ rfl
      refine WP.nil ?_
      refine Out.next ?_
      refine WPc.seq ?_
      refine WPc.perm pl1 ?_
      refine WPc.open (fun w h => h.seqOpen (by omega)) ?_
      rintro ⟨g2, cg2, spg2, Tg2⟩
      refine WPc.pure (fun hvg2 => ?_)
      refine WPc.know 0 (.slice (some ⟨g2, 0, none⟩) got.length cg2) rfl hvg2.1 ?_
      show WPc _ _ _ _ _ _ (Ro (Blk g2 (flatOf WR.cells got ++ spg2) Tg2) :: Seq gv got.length (flatOf WR.cells got) :: Blk b1 [.int .i64 (x.ty), .bool (x.ht), .int .u32 (x.c), .bool (x.hc), .string (str (x.d)), .bool (x.has)] 44 :: Seq su2 l.length ((sumsR sm l).map u32v) :: A :: F)
      refine WPc.perm pl3 ?_
      refine WPc.open (fun w h => h.seqOpen (by omega)) ?_
      rintro ⟨g3, cg3, spg3, Tg3⟩
      refine WPc.pure (fun hvg3 => ?_)
      refine WPc.know 8 (.slice (some ⟨g3, 0, none⟩) l.length cg3) rfl hvg3.1 ?_
      show WPc _ _ _ _ _ _ (Ro (Blk g3 ((sumsR sm l).map u32v ++ spg3) Tg3) :: Seq su2 l.length ((sumsR sm l).map u32v) :: Ro (Blk g2 (flatOf WR.cells got ++ spg2) Tg2) :: Seq gv got.length (flatOf WR.cells got) :: Blk b1 [.int .i64 (x.ty), .bool (x.ht), .int .u32 (x.c), .bool (x.hc), .string (str (x.d)), .bool (x.has)] 44 :: A :: F)
      refine WPc.region ?_
      refine WP.val rfl rfl rfl (Val.move rfl rfl) ?_
      refine WP.val rfl rfl rfl (Val.move rfl rfl) ?_
      refine WP.val rfl rfl rfl (Val.indexAddr (j := i) (q := i * 6) rfl Ty.sl23 rfl rfl (by omega) (by omega) (by omega)) ?_
      refine WP.val rfl rfl rfl (Val.loadAgg (cs := (WR.cells ⟨x.ty, true, su, true, x.d, hb⟩)) rfl Ty.ag44 rfl (by rfl) (fun w h => h.rangeRo 2 rfl (flatOf_range WR.len hga))) ?_
      refine WP.eff rfl rfl rfl (Eff.alloc rfl Ty.z44) ?_
      rintro _ _ ⟨b4, rfl, rfl⟩
      refine WP.eff0 rfl rfl (Eff.storeAgg (cs := [.int .i64 (x.ty), .bool true, .int .u32 (su), .bool true, .string (str (x.d)), .bool (hb)]) (C' := [.int .i64 (x.ty), .bool true, .int .u32 (su), .bool true, .string (str (x.d)), .bool (hb)]) rfl Ty.ag44 rfl rfl rfl rfl (by simp) rfl) ?_
      rintro _ _ rfl
      refine WP.nil ?_
      refine Out.next ?_
      refine WPc.seq ?_
      refine WPD.start (Sat W (Blk b4 [.int .i64 (x.ty), .bool true, .int .u32 (su), .bool true, .string (str (x.d)), .bool (hb)] 44 :: Ro (Blk g3 ((sumsR sm l).map u32v ++ spg3) Tg3) :: Seq su2 l.length ((sumsR sm l).map u32v) :: Ro (Blk g2 (flatOf WR.cells got ++ spg2) Tg2) :: Seq gv got.length (flatOf WR.cells got) :: Blk b1 [.int .i64 (x.ty), .bool (x.ht), .int .u32 (x.c), .bool (x.hc), .string (str (x.d)), .bool (x.has)] 44 :: A :: F)) Ty.mixed ?_
      refine WPD.takeM 0 rfl rfl rfl rfl (by kernel_rfl) (by kernel_rfl) (by kernel_rfl) (by kernel_rfl) (fun _ _ _ h => h) (fun _ h => h) (Val.fieldAddr (j := 1) rfl Ty.fo44_1 rfl rfl) ?_
      refine WPD.take 1 rfl rfl rfl rfl (by kernel_rfl) (by kernel_rfl) (by kernel_rfl) (by kernel_rfl) (fun _ _ _ h => h) (by kernel_rfl) (fun _ h => h) (Val.load rfl Ty.sc4 rfl (fun w h => h.cell 0 rfl rfl)) ?_
      refine WPD.takeM 2 rfl rfl rfl rfl (by kernel_rfl) (by kernel_rfl) (by kernel_rfl) (by kernel_rfl) (fun _ _ _ h => h) (fun _ h => h) (Val.not rfl rfl) ?_
      refine WPD.takeM 3 rfl rfl rfl rfl (by kernel_rfl) (by kernel_rfl) (by kernel_rfl) (by kernel_rfl) (fun _ _ _ h => h) (fun _ h => h) (Val.move rfl rfl) ?_
      refine WPD.takeGM 4 rfl rfl rfl rfl rfl rfl rfl rfl (by kernel_rfl) (by kernel_rfl) (by kernel_rfl) (by kernel_rfl) (fun _ _ _ h => h) (fun _ h => h) (Val.fieldAddr (j := 0) rfl Ty.fo44_0 rfl rfl) ?_
      refine WPD.takeG 5 rfl rfl rfl rfl rfl rfl rfl rfl (by kernel_rfl) (by kernel_rfl) (by kernel_rfl) (by kernel_rfl) (fun _ _ _ h => h) (by kernel_rfl) (fun _ h => h) (Val.load rfl Ty.sc2 rfl (fun w h => h.cell 0 rfl rfl)) ?_
      refine WPD.takeGM 6 rfl rfl rfl rfl rfl rfl rfl rfl (by kernel_rfl) (by kernel_rfl) (by kernel_rfl) (by kernel_rfl) (fun _ _ _ h => h) (fun _ h => h) (Val.fieldAddr (j := 0) rfl Ty.fo44_0 rfl rfl) ?_
      refine WPD.takeG 7 rfl rfl rfl rfl rfl rfl rfl rfl (by kernel_rfl) (by kernel_rfl) (by kernel_rfl) (by kernel_rfl) (fun _ _ _ h => h) (by kernel_rfl) (fun _ h => h) (Val.load rfl Ty.sc2 rfl (fun w h => h.cell 5 rfl rfl)) ?_
      refine WPD.takeGM 8 rfl rfl rfl rfl rfl rfl rfl rfl (by kernel_rfl) (by kernel_rfl) (by kernel_rfl) (by kernel_rfl) (fun _ _ _ h => h) (fun _ h => h) (Val.neq rfl rfl rfl) ?_
      refine WPD.takeM 9 rfl rfl rfl rfl (by kernel_rfl) (by kernel_rfl) (by kernel_rfl) (by kernel_rfl) (fun _ _ _ h => h) (fun _ h => h) (Val.pickF rfl rfl rfl) ?_
      refine WPD.takeM 10 rfl rfl rfl rfl (by kernel_rfl) (by kernel_rfl) (by kernel_rfl) (by kernel_rfl) (fun _ _ _ h => h) (fun _ h => h) (Val.move rfl rfl) ?_
      refine WPD.split 44 rfl (fun h3 => ?_) (fun h3 => ?_)
      · skip
        have h3 : (x.ty ≠ x.ty) := h3
        exact absurd rfl h3
      · skip
        have h3 : ¬ (x.ty ≠ x.ty) := h3
        refine WPD.takeGM 11 rfl rfl rfl rfl rfl rfl rfl rfl (by kernel_rfl) (by kernel_rfl) (by kernel_rfl) (by kernel_rfl) (fun _ _ _ h => h) (fun _ h => h) (Val.fieldAddr (j := 4) rfl Ty.fo44_4 rfl rfl) ?_
        refine WPD.takeG 12 rfl rfl rfl rfl rfl rfl rfl rfl (by kernel_rfl) (by kernel_rfl) (by kernel_rfl) (by kernel_rfl) (fun _ _ _ h => h) (by kernel_rfl) (fun _ h => h) (Val.load rfl Ty.sc9 rfl (fun w h => h.cell 0 rfl rfl)) ?_
        refine WPD.takeGM 13 rfl rfl rfl rfl rfl rfl rfl rfl (by kernel_rfl) (by kernel_rfl) (by kernel_rfl) (by kernel_rfl) (fun _ _ _ h => h) (fun _ h => h) (Val.fieldAddr (j := 4) rfl Ty.fo44_4 rfl rfl) ?_
        refine WPD.takeG 14 rfl rfl rfl rfl rfl rfl rfl rfl (by kernel_rfl) (by kernel_rfl) (by kernel_rfl) (by kernel_rfl) (fun _ _ _ h => h) (by kernel_rfl) (fun _ h => h) (Val.load rfl Ty.sc9 rfl (fun w h => h.cell 5 rfl rfl)) ?_
        refine WPD.takeGM 15 rfl rfl rfl rfl rfl rfl rfl rfl (by kernel_rfl) (by kernel_rfl) (by kernel_rfl) (by kernel_rfl) (fun _ _ _ h => h) (fun _ h => h) (Val.boolK (q := false) (Val.neqS rfl rfl rfl) (by rw [seq_eq]; simp)) ?_
        refine WPD.takeM 16 rfl rfl rfl rfl (by kernel_rfl) (by kernel_rfl) (by kernel_rfl) (by kernel_rfl) (fun _ _ _ h => h) (fun _ h => h) (Val.pickF rfl rfl rfl) ?_
        refine WPD.takeM 17 rfl rfl rfl rfl (by kernel_rfl) (by kernel_rfl) (by kernel_rfl) (by kernel_rfl) (fun _ _ _ h => h) (fun _ h => h) (Val.move rfl rfl) ?_
        refine WPD.takeGM 18 rfl rfl rfl rfl rfl rfl rfl rfl (by kernel_rfl) (by kernel_rfl) (by kernel_rfl) (by kernel_rfl) (fun _ _ _ h => h) (fun _ h => h) (Val.fieldAddr (j := 3) rfl Ty.fo44_3 rfl rfl) ?_
        refine WPD.takeG 19 rfl rfl rfl rfl rfl rfl rfl rfl (by kernel_rfl) (by kernel_rfl) (by kernel_rfl) (by kernel_rfl) (fun _ _ _ h => h) (by kernel_rfl) (fun _ h => h) (Val.load rfl Ty.sc4 rfl (fun w h => h.cell 0 rfl rfl)) ?_
        refine WPD.takeGM 20 rfl rfl rfl rfl rfl rfl rfl rfl (by kernel_rfl) (by kernel_rfl) (by kernel_rfl) (by kernel_rfl) (fun _ _ _ h => h) (fun _ h => h) (Val.not rfl rfl) ?_
        refine WPD.takeM 21 rfl rfl rfl rfl (by kernel_rfl) (by kernel_rfl) (by kernel_rfl) (by kernel_rfl) (fun _ _ _ h => h) (fun _ h => h) (Val.pickF rfl rfl rfl) ?_
        refine WPD.takeM 22 rfl rfl rfl rfl (by kernel_rfl) (by kernel_rfl) (by kernel_rfl) (by kernel_rfl) (fun _ _ _ h => h) (fun _ h => h) (Val.move rfl rfl) ?_
        refine WPD.takeGM 23 rfl rfl rfl rfl rfl rfl rfl rfl (by kernel_rfl) (by kernel_rfl) (by kernel_rfl) (by kernel_rfl) (fun _ _ _ h => h) (fun _ h => h) (Val.fieldAddr (j := 2) rfl Ty.fo44_2 rfl rfl) ?_
        refine WPD.takeG 24 rfl rfl rfl rfl rfl rfl rfl rfl (by kernel_rfl) (by kernel_rfl) (by kernel_rfl) (by kernel_rfl) (fun _ _ _ h => h) (by kernel_rfl) (fun _ h => h) (Val.load rfl Ty.sc22 rfl (fun w h => h.cell 0 rfl rfl)) ?_
        refine WPD.takeGM 25 rfl rfl rfl rfl rfl rfl rfl rfl (by kernel_rfl) (by kernel_rfl) (by kernel_rfl) (by kernel_rfl) (fun _ _ _ h => h) (fun _ h => h) (Val.move rfl rfl) ?_
        refine WPD.takeGM 26 rfl rfl rfl rfl rfl rfl rfl rfl (by kernel_rfl) (by kernel_rfl) (by kernel_rfl) (by kernel_rfl) (fun _ _ _ h => h) (fun _ h => h) (Val.move rfl rfl) ?_
        refine WPD.takeGM 27 rfl rfl rfl rfl rfl rfl rfl rfl (by kernel_rfl) (by kernel_rfl) (by kernel_rfl) (by kernel_rfl) (fun _ _ _ h => h) (fun _ h => h) (Val.indexAddr (j := i) (q := i) rfl Ty.sl47 rfl rfl (by omega) (by omega) (by omega)) ?_
        refine WPD.takeG 28 rfl rfl rfl rfl rfl rfl rfl rfl (by kernel_rfl) (by kernel_rfl) (by kernel_rfl) (by kernel_rfl) (fun _ _ _ h => h) (by kernel_rfl) (fun _ h => h) (Val.load (v := .int .u32 (su)) rfl Ty.sc22 rfl (fun w h => h.cellRo 1 rfl (u32_cell hsa _))) ?_
        refine WPD.takeGM 29 rfl rfl rfl rfl rfl rfl rfl rfl (by kernel_rfl) (by kernel_rfl) (by kernel_rfl) (by kernel_rfl) (fun _ _ _ h => h) (fun _ h => h) (Val.neq rfl rfl rfl) ?_
        refine WPD.takeM 30 rfl rfl rfl rfl (by kernel_rfl) (by kernel_rfl) (by kernel_rfl) (by kernel_rfl) (fun _ _ _ h => h) (fun _ h => h) (Val.pickF rfl rfl rfl) ?_
        refine WPD.done (by kernel_rfl) ?_
        refine Out.next ?_
        refine WPc.ifP rfl (fun h4 => ?_) (fun h4 => ?_)
        · skip
          have h4 : (su ≠ su) := h4
          exact absurd rfl h4
        · skip
          have h4 : ¬ (su ≠ su) := h4
          refine WPc.skip ?_
          refine Out.block ?_
          refine Out.next ?_
          refine WPc.region ?_
          refine WP.val rfl rfl rfl (Val.add (z := ((i + 1 : Nat) : Int)) rfl rfl rfl ((w64 (by omega) (by omega)).trans (by omega))) ?_
          refine WP.val rfl rfl rfl (Val.move rfl rfl) ?_
          refine WP.nil ?_
          refine Out.drop ?_
          refine Out.drop ?_
          refine Out.perm pl1 ?_
          refine Out.drop ?_
          refine Out.perm pl2 ?_
          refine Out.drop ?_
          refine Out.perm pl2 ?_
          refine Out.perm pl1 ?_
          refine Out.perm pl2 ?_
          refine Out.again (i + 1) ?_ ?_ ?_ ?_
          · exact (by first | omega | (dsimp only; omega))
          · first | omega | (dsimp only; omega)
          · exact (Sub.cons (congrArg some hvg2.1.symm) (Sub.cons (congrArg some hvg3.1.symm) (Sub.cons rfl (Sub.cons rfl (Sub.cons rfl Sub.nil)))))
          · exact (fun _ h => h)
    · skip
      have h2 : ¬ (((i : Nat) : Int) < ((l.length : Nat) : Int)) := h2
      refine WPc.exit ?_
      refine Out.then_exit ?_
      refine Out.then_exit ?_
      refine Out.block_exit ?_
      refine Out.next ?_
      refine WPc.seq ?_
      refine WPc.region ?_
      refine WP.val rfl rfl rfl (Val.assign rfl rfl) ?_
      refine WP.nil ?_
      refine Out.next ?_
      refine WPc.ret ?_
      refine Out.perm pl1 ?_
      refine Out.drop ?_
      exact Out.ret1 (L' := _) Tryd.results12 rfl ⟨rfl, rfl⟩ (fun _ h => h)
set_option maxRecDepth 100000 in
set_option maxHeartbeats 2000000 in
theorem pieces_spec (A : HProp) (sm : Int) (l : List WR) (hgood : ∀ x ∈ l, WFine x) (hd : ∀ x ∈ l, x.d.length ≤ 5000) (hlen : l.length ≤ 200) (hpos : 0 < (piecesR sm l).flatten.length) (hmax : (piecesR sm l).flatten.length ≤ 2000000) (va : Value) (hva : Rd A 6 WR.cells va l) : Does Tryd.prog 9 [.int .u32 (sm), .int .i64 0, va] [A] (fun v L => ∃ u, v = .tuple #[u, .bool true] ∧ L = [Own 9 1 u (piecesR sm l).length ((piecesR sm l).map strv), A]) := by
  have hpl := pieces_len sm l
  refine Does.enter 67 Tryd.func9 rfl rfl rfl fun W F => ?_
  show WPc _ _ _ _ _ [(0, .int .u32 (sm)), (1, .int .i64 0), (2, va)] (A :: F)
  refine WPc.seq ?_
  refine WPc.region ?_
  refine WP.val rfl rfl rfl (Val.assign rfl rfl) ?_
  refine WP.val rfl rfl rfl (Val.assign rfl rfl) ?_
  refine WP.nil ?_
  refine Out.next ?_
  refine WPc.seq ?_
  refine WPc.region ?_
  refine WP.val rfl rfl rfl (Val.move rfl rfl) ?_
  refine WP.val rfl rfl rfl (Val.move rfl rfl) ?_
  refine WP.val rfl rfl rfl (Val.move rfl rfl) ?_
  refine WP.eff rfl rfl rfl (Eff.call rfl rfl Tryd.call15 (ww_spec A sm 0 (by omega) l hgood hlen va hva)) ?_
  rintro _ _ ⟨_, ⟨wv, rfl, rfl⟩, rfl⟩
  show WP _ _ _ _ _ _ _ (Own 5 1 wv ((l.foldl stepW (sm, [])).2.length) (byt (l.foldl stepW (sm, [])).2) :: A :: F)
  refine WP.val rfl rfl rfl (Val.move rfl rfl) ?_
  refine WP.val rfl rfl rfl (Val.extract rfl rfl rfl) ?_
  refine WP.val rfl rfl rfl (Val.extract rfl rfl rfl) ?_
  refine WP.val rfl rfl rfl (Val.assign rfl rfl) ?_
  refine WP.val rfl rfl rfl (Val.assign rfl rfl) ?_
  refine WP.nil ?_
  refine Out.next ?_
  refine WPc.seq ?_
  refine WPc.region ?_
  refine WP.val rfl rfl rfl (Val.move rfl rfl) ?_
  refine WP.val rfl rfl rfl (Val.move rfl rfl) ?_
  refine WP.perm pl1 ?_
  refine WP.eff rfl rfl rfl (Eff.call rfl rfl Tryd.call18 (wb_spec A sm l hd hlen va hva)) ?_
  rintro _ _ ⟨_, ⟨su1, su2, rfl, rfl⟩, rfl⟩
  show WP _ _ _ _ _ _ _ (Own 9 1 su1 l.length ((l.foldl stepB (sm, [], [])).2.1.map strv) :: Own 22 1 su2 l.length ((l.foldl stepB (sm, [], [])).2.2.map u32v) :: A :: Own 5 1 wv ((l.foldl stepW (sm, [])).2.length) (byt (l.foldl stepW (sm, [])).2) :: F)
  refine WP.val rfl rfl rfl (Val.move rfl rfl) ?_
  refine WP.val rfl rfl rfl (Val.extract rfl rfl rfl) ?_
  refine WP.val rfl rfl rfl (Val.extract rfl rfl rfl) ?_
  refine WP.val rfl rfl rfl (Val.assign rfl rfl) ?_
  refine WP.val rfl rfl rfl (Val.assign rfl rfl) ?_
  refine WP.nil ?_
  refine Out.next ?_
  refine WPc.seq ?_
  refine WPc.region ?_
  refine WP.val rfl rfl rfl (Val.assign rfl rfl) ?_
  refine WP.nil ?_
  refine Out.next ?_
  refine WPc.seq ?_
  refine WPc.region ?_
  refine WP.val rfl rfl rfl (Val.assign rfl rfl) ?_
  refine WP.nil ?_
  refine Out.next ?_
  refine WPc.seq ?_
  refine WPc.seq ?_
  refine WPc.region ?_
  refine WP.val rfl rfl rfl (Val.move rfl rfl) ?_
  refine WP.val rfl rfl rfl (Val.lenOwn rfl Ty.sl27 rfl (fun w h => h.at 0 rfl)) ?_
  refine WP.val rfl rfl rfl (Val.move rfl rfl) ?_
  refine WP.nil ?_
  refine Out.next ?_
  refine WPc.block ?_
  refine WPc.perm pl1 ?_
  refine WPc.drop ?_
  refine WPc.conv (fun w h => Sat.seqMk (by rw [(foldB l (sm, [], [])).1, List.nil_append] at h; exact h)) ?_
  show WPc _ _ _ _ _ _ (Seq su1 l.length ((piecesR sm l).map strv) :: A :: Own 5 1 wv ((l.foldl stepW (sm, [])).2.length) (byt (l.foldl stepW (sm, [])).2) :: F)
  refine WPc.perm pl2 ?_
  refine WPc.conv (M := Own 5 1 wv ((piecesR sm l).flatten.length) (byt (piecesR sm l).flatten) :: Seq su1 l.length ((piecesR sm l).map strv) :: A :: F) (fun w h => by rw [(foldW l (sm, []) hd).1, List.nil_append] at h; exact h) ?_
  refine WPc.open (fun w h => ends_own h hpos) ?_
  rintro ⟨gb, gc, gs⟩
  refine WPc.pure (fun hv => ?_)
  obtain ⟨rfl, hgc⟩ := hv
  dsimp only at hgc
  show WPc _ _ _ _ _ _ (Blk gb (byt (piecesR sm l).flatten ++ gs) 5 :: Seq su1 l.length ((piecesR sm l).map strv) :: A :: F)
  refine WPc.conv (fun w h => h.freeze) ?_
  show WPc _ _ _ _ _ _ (Ro (Blk gb (byt (piecesR sm l).flatten ++ gs) 5) :: Seq su1 l.length ((piecesR sm l).map strv) :: A :: F)
  refine WPc.conv (fun w h => h.ownNil (e := 9) (k := 1)) ?_
  show WPc _ _ _ _ _ _ (Own 9 1 (.slice none 0 0) 0 ([]) :: Ro (Blk gb (byt (piecesR sm l).flatten ++ gs) 5) :: Seq su1 l.length ((piecesR sm l).map strv) :: A :: F)
  refine WPc.loop (ι := Nat × Value) (fun ⟨i, u⟩ => i ≤ (piecesR sm l).length) (fun ⟨i, u⟩ => [(8, .slice (some ⟨gb, 0, none⟩) ((piecesR sm l).flatten.length) gc), (9, .int .i64 0), (12, u), (13, .int .i64 (((((piecesR sm l).take i).flatten.length : Nat) : Int))), (29, su1), (30, .int .i64 (((l.length : Nat) : Int))), (31, .int .i64 (((i : Nat) : Int)))]) (fun ⟨i, u⟩ => Own 9 1 u i (((piecesR sm l).take i).map strv) :: Ro (Blk gb (byt (piecesR sm l).flatten ++ gs) 5) :: Seq su1 l.length ((piecesR sm l).map strv) :: A :: F) (fun ⟨i, u⟩ => (piecesR sm l).length - i) (0, .slice none 0 0) (Nat.zero_le _) ((Sub.cons rfl (Sub.cons rfl (Sub.cons rfl (Sub.cons rfl (Sub.cons rfl (Sub.cons rfl (Sub.cons rfl Sub.nil)))))))) (fun _ h => h) ?_
  rintro ⟨i, u⟩ hi
  show WPc _ _ _ _ _ [(8, .slice (some ⟨gb, 0, none⟩) ((piecesR sm l).flatten.length) gc), (9, .int .i64 0), (12, u), (13, .int .i64 (((((piecesR sm l).take i).flatten.length : Nat) : Int))), (29, su1), (30, .int .i64 (((l.length : Nat) : Int))), (31, .int .i64 (((i : Nat) : Int)))] (Own 9 1 u i (((piecesR sm l).take i).map strv) :: Ro (Blk gb (byt (piecesR sm l).flatten ++ gs) 5) :: Seq su1 l.length ((piecesR sm l).map strv) :: A :: F)
  replace hi : i ≤ (piecesR sm l).length := hi
  refine WPc.seq ?_
  refine WPc.region ?_
  refine WP.val rfl rfl rfl (Val.lss rfl rfl rfl) ?_
  refine WP.nil ?_
  refine Out.next ?_
  refine WPc.seq ?_
  refine WPc.ifP rfl (fun h1 => ?_) (fun h1 => ?_)
  · skip
    have h1 : (((i : Nat) : Int) < ((l.length : Nat) : Int)) := h1
    refine WPc.skip ?_
    refine Out.next ?_
    refine WPc.seq ?_
    refine WPc.block ?_
    refine WPc.seq ?_
    have hlt : i < (piecesR sm l).length := by omega
    obtain ⟨x, hx⟩ : ∃ x, (piecesR sm l)[i]? = some x := ⟨_, List.getElem?_eq_getElem hlt⟩
    have hxp := piece_pos hx
    have htk := take_more hx
    have hfl : ((piecesR sm l).take (i + 1)).flatten = ((piecesR sm l).take i).flatten ++ x := by rw [htk]; simp
    have hle := flat_take_le (piecesR sm l) (i + 1)
    rw [hfl, List.length_append] at hle
    refine WPc.perm pl2 ?_
    refine WPc.open (fun w h => h.seqOpen (by omega)) ?_
    rintro ⟨g1, cg1, spg1, Tg1⟩
    refine WPc.pure (fun hvg1 => ?_)
    refine WPc.know 29 (.slice (some ⟨g1, 0, none⟩) l.length cg1) rfl hvg1.1 ?_
    show WPc _ _ _ _ _ _ (Ro (Blk g1 ((piecesR sm l).map strv ++ spg1) Tg1) :: Seq su1 l.length ((piecesR sm l).map strv) :: Own 9 1 u i (((piecesR sm l).take i).map strv) :: Ro (Blk gb (byt (piecesR sm l).flatten ++ gs) 5) :: A :: F)
    refine WPc.region ?_
    refine WP.val rfl rfl rfl (Val.indexAddr (j := i) (q := i) rfl Ty.sl27 rfl rfl (by omega) (by omega) (by omega)) ?_
    refine WP.val rfl rfl rfl (Val.load (v := .string (str (x))) rfl Ty.sc9 rfl (fun w h => h.cellRo 0 rfl (strv_at hx _))) ?_
    refine WP.val rfl rfl rfl (Val.assign rfl rfl) ?_
    refine WP.nil ?_
    refine Out.next ?_
    refine WPc.seq ?_
    refine WPc.seq ?_
    refine WPc.region ?_
    refine WP.val rfl rfl rfl (Val.move rfl rfl) ?_
    refine WP.val rfl rfl rfl (Val.move rfl rfl) ?_
    refine WP.val rfl rfl rfl (Val.lenL rfl Ty.st9 rfl) ?_
    refine WP.val rfl rfl rfl (Val.add (z := (((((piecesR sm l).take i).flatten.length) + x.length : Nat) : Int)) rfl rfl rfl ((w64 (by omega) (by omega)).trans (by omega))) ?_
    refine WP.val rfl rfl rfl (Val.move rfl rfl) ?_
    refine WP.val rfl rfl rfl (Val.len rfl Ty.sl40 rfl) ?_
    refine WP.val rfl rfl rfl (Val.gtr rfl rfl rfl) ?_
    refine WP.nil ?_
    refine Out.next ?_
    refine WPc.ifP rfl (fun h2 => ?_) (fun h2 => ?_)
    · skip
      have h2 : ((((piecesR sm l).flatten.length : Nat) : Int) < (((((piecesR sm l).take i).flatten.length) + x.length : Nat) : Int)) := h2
      exfalso; omega
    · skip
      have h2 : ¬ ((((piecesR sm l).flatten.length : Nat) : Int) < (((((piecesR sm l).take i).flatten.length) + x.length : Nat) : Int)) := h2
      refine WPc.skip ?_
      refine Out.next ?_
      refine WPc.seq ?_
      refine WPc.region ?_
      refine WP.val rfl rfl rfl (Val.move rfl rfl) ?_
      refine WP.val rfl rfl rfl (Val.move rfl rfl) ?_
      refine WP.val rfl rfl rfl (Val.move rfl rfl) ?_
      refine WP.val rfl rfl rfl (Val.move rfl rfl) ?_
      refine WP.val rfl rfl rfl (Val.move rfl rfl) ?_
      refine WP.val rfl rfl rfl (Val.lenL rfl Ty.st9 rfl) ?_
      refine WP.val rfl rfl rfl (Val.add (z := (((((piecesR sm l).take i).flatten.length) + x.length : Nat) : Int)) rfl rfl rfl ((w64 (by omega) (by omega)).trans (by omega))) ?_
      refine WP.val rfl rfl rfl (Val.slice (lo := ((piecesR sm l).take i).flatten.length) (hi := (((piecesR sm l).take i).flatten.length) + x.length) (j := ((piecesR sm l).take i).flatten.length) (vlo := some (.i64, ((((piecesR sm l).take i).flatten.length : Nat) : Int))) (vhi := some (.i64, (((((piecesR sm l).take i).flatten.length) + x.length : Nat) : Int))) rfl Ty.sl40 rfl rfl rfl (by simp [bnd]; try omega) (by simp [bnd]; try omega) (by omega) (by omega) (by omega) (by rw [if_neg (by omega)]; all_goals omega)) ?_
      refine WP.know 49 (.slice (some ⟨gb, ((piecesR sm l).take i).flatten.length, none⟩) x.length (gc - (((piecesR sm l).take i).flatten.length))) rfl (by congr 1; omega) ?_
      refine WP.perm pl3 ?_
      refine WP.conv (fun w h => h.ro_dup) ?_
      show WP _ _ _ _ _ _ _ (Ro (Blk gb (byt (piecesR sm l).flatten ++ gs) 5) :: Ro (Blk gb (byt (piecesR sm l).flatten ++ gs) 5) :: Ro (Blk g1 ((piecesR sm l).map strv ++ spg1) Tg1) :: Seq su1 l.length ((piecesR sm l).map strv) :: Own 9 1 u i (((piecesR sm l).take i).map strv) :: A :: F)
      refine WP.conv (fun w h => Sat.bytsMk (i := ((piecesR sm l).take i).flatten.length) (l := x) (c := gc - (((piecesR sm l).take i).flatten.length)) h (by omega) (mid_flat hx _)) ?_
      show WP _ _ _ _ _ _ _ (Byts (.slice (some ⟨gb, ((piecesR sm l).take i).flatten.length, none⟩) x.length (gc - (((piecesR sm l).take i).flatten.length))) x :: Ro (Blk gb (byt (piecesR sm l).flatten ++ gs) 5) :: Ro (Blk g1 ((piecesR sm l).map strv ++ spg1) Tg1) :: Seq su1 l.length ((piecesR sm l).map strv) :: Own 9 1 u i (((piecesR sm l).take i).map strv) :: A :: F)
      refine WP.val rfl rfl rfl (show Val _ _ _ _ _ (.string (str x)) from Val.str rfl Ty.by40 Ty.st9 rfl (fun w h => h.at 0 rfl)) ?_
      refine WP.eff rfl rfl rfl (Eff.mkSlice (C := [.string (str x)]) rfl Ty.sl27 rfl (fun _ => by kernel_rfl)) ?_
      rintro _ _ ⟨b2, rfl, rfl⟩
      refine WP.perm pl5 ?_
      refine WP.eff rfl rfl rfl (Eff.append (m := 1) (n0 := i) (news := [.string (str x)]) rfl Ty.sl27 Ty.z9 rfl rfl rfl (.slice Ty.sl27 rfl rfl (fun w h => cells_range (h.range 1 rfl rfl))) (by omega) (by omega)) ?_
      rintro v3 _ ⟨onev3, rfl⟩
      refine WP.val rfl rfl rfl (Val.assign rfl rfl) ?_
      refine WP.nil ?_
      refine Out.next ?_
      refine WPc.region ?_
      refine WP.val rfl rfl rfl (Val.move rfl rfl) ?_
      refine WP.val rfl rfl rfl (Val.move rfl rfl) ?_
      refine WP.val rfl rfl rfl (Val.lenL rfl Ty.st9 rfl) ?_
      refine WP.val rfl rfl rfl (Val.add (z := (((((piecesR sm l).take i).flatten.length) + x.length : Nat) : Int)) rfl rfl rfl ((w64 (by omega) (by omega)).trans (by omega))) ?_
      refine WP.val rfl rfl rfl (Val.assign rfl rfl) ?_
      refine WP.nil ?_
      refine Out.block ?_
      refine Out.next ?_
      refine WPc.region ?_
      refine WP.val rfl rfl rfl (Val.add (z := ((i + 1 : Nat) : Int)) rfl rfl rfl ((w64 (by omega) (by omega)).trans (by omega))) ?_
      refine WP.val rfl rfl rfl (Val.move rfl rfl) ?_
      refine WP.nil ?_
      refine Out.perm pl1 ?_
      refine Out.drop ?_
      refine Out.perm pl1 ?_
      refine Out.drop ?_
      refine Out.perm pl2 ?_
      refine Out.drop ?_
      refine Out.again (i + 1, v3) ?_ ?_ ?_ ?_
      · exact (by first | omega | (dsimp only; omega))
      · (dsimp only; omega)
      · exact (Sub.cons rfl (Sub.cons rfl (Sub.cons rfl (Sub.cons (by rw [hfl, List.length_append]; rfl) (Sub.cons (congrArg some hvg1.1.symm) (Sub.cons rfl (Sub.cons rfl Sub.nil)))))))
      · exact (fun w h => by dsimp only; rw [htk, List.map_append]; exact h)
  · skip
    have h1 : ¬ (((i : Nat) : Int) < ((l.length : Nat) : Int)) := h1
    refine WPc.exit ?_
    refine Out.then_exit ?_
    refine Out.then_exit ?_
    refine Out.block_exit ?_
    refine Out.next ?_
    refine WPc.seq ?_
    refine WPc.region ?_
    refine WP.val rfl rfl rfl (Val.move rfl rfl) ?_
    refine WP.val rfl rfl rfl (Val.move rfl rfl) ?_
    refine WP.val rfl rfl rfl (Val.eqlK rfl rfl rfl rfl) ?_
    refine WP.val rfl rfl rfl (Val.move rfl rfl) ?_
    refine WP.valG rfl rfl rfl rfl rfl rfl rfl (Val.move rfl rfl) ?_
    refine WP.valG rfl rfl rfl rfl rfl rfl rfl (Val.move rfl rfl) ?_
    refine WP.valG rfl rfl rfl rfl rfl rfl rfl (Val.len rfl Ty.sl40 rfl) ?_
    refine WP.valG rfl rfl rfl rfl rfl rfl rfl (Val.eql rfl rfl rfl) ?_
    refine WP.val rfl rfl rfl (Val.pickT rfl rfl rfl) ?_
    refine WP.val rfl rfl rfl (Val.assign rfl rfl) ?_
    refine WP.val rfl rfl rfl (Val.assign rfl rfl) ?_
    refine WP.nil ?_
    refine Out.next ?_
    refine WPc.ret ?_
    have hti : (piecesR sm l).take i = (piecesR sm l) := List.take_of_length_le (by omega)
    have hil : i = (piecesR sm l).length := by omega
    refine Out.perm pl1 ?_
    refine Out.drop ?_
    refine Out.perm pl1 ?_
    refine Out.drop ?_
    exact Out.ret2 (L' := _) Tryd.results9 rfl rfl ⟨u, by rw [hti]; simp, rfl⟩ (fun w h => by rw [hti, hil] at h; exact h)

end Go.Proofs.YthicijpjpijdjaaDoor.Ww
