import Derived.Test.YthicijpjpijdjaaDoorWz
namespace Go.Proofs.YthicijpjpijdjaaDoor.WA
open Go.RowKit Go.Proofs.YthicijpjpijdjaaDoor Go.Proofs.YthicijpjpijdjaaDoor.Sl Go.Proofs.YthicijpjpijdjaaDoor.Wa Go.Proofs.YthicijpjpijdjaaDoor.Wb Go.Proofs.YthicijpjpijdjaaDoor.Wc Go.Proofs.YthicijpjpijdjaaDoor.Wd Go.Proofs.YthicijpjpijdjaaDoor.We Go.Proofs.YthicijpjpijdjaaDoor.Wf Go.Proofs.YthicijpjpijdjaaDoor.Wg Go.Proofs.YthicijpjpijdjaaDoor.Wh Go.Proofs.YthicijpjpijdjaaDoor.Wi Go.Proofs.YthicijpjpijdjaaDoor.Wj Go.Proofs.YthicijpjpijdjaaDoor.Wk Go.Proofs.YthicijpjpijdjaaDoor.Wl Go.Proofs.YthicijpjpijdjaaDoor.Wm Go.Proofs.YthicijpjpijdjaaDoor.Wn Go.Proofs.YthicijpjpijdjaaDoor.Wo Go.Proofs.YthicijpjpijdjaaDoor.Wp Go.Proofs.YthicijpjpijdjaaDoor.Wq Go.Proofs.YthicijpjpijdjaaDoor.Wr Go.Proofs.YthicijpjpijdjaaDoor.Ws Go.Proofs.YthicijpjpijdjaaDoor.Wt Go.Proofs.YthicijpjpijdjaaDoor.Wu Go.Proofs.YthicijpjpijdjaaDoor.Wv Go.Proofs.YthicijpjpijdjaaDoor.Ww Go.Proofs.YthicijpjpijdjaaDoor.Wx Go.Proofs.YthicijpjpijdjaaDoor.Wy Go.Proofs.YthicijpjpijdjaaDoor.Wz
set_option linter.unusedVariables false
set_option linter.unusedSimpArgs false
set_option linter.unusedSectionVars false


theorem rising_at (n : Int) : ∀ (a : Int) (l : List Int) (i : Nat) (x : Int), Rising n a l → l[i]? = some x → 0 ≤ x ∧ x ≤ n ∧ lastI a (l.take i) ≤ x
  | _, [], _, _, _, h => by simp at h
  | a, y :: l, 0, x, h, hx => by
    obtain rfl : y = x := by simpa using hx
    exact ⟨h.1, h.2.1, h.2.2.1⟩
  | a, y :: l, i + 1, x, h, hx => rising_at n y l i x h.2.2.2 (by simpa using hx)
theorem rising_take (n : Int) : ∀ (a : Int) (l : List Int) (i : Nat), Rising n a l → Rising n a (l.take i)
  | _, [], _, _ => by simp [Rising]
  | _, _ :: _, 0, _ => True.intro
  | a, y :: l, i + 1, h => ⟨h.1, h.2.1, h.2.2.1, rising_take n y l i h.2.2.2⟩
theorem icell_at {l : List Int} {i : Nat} {x : Int} (h : l[i]? = some x) (sp : List Value) : (flatOf icell l ++ sp)[i]? = some (.int .i64 x) := by
  have hlt := (List.getElem?_eq_some_iff.1 h).1
  rw [flat_icell, List.getElem?_append_left (by simpa using hlt), List.getElem?_map, h]; rfl
theorem segs_form {α : Type} {P : List α} : ∀ {a : Nat} {l : List Int} {s : List α}, s ∈ segs P a l → ∃ b k, s = (P.drop b).take k
  | _, [], _, h => by cases h
  | a, y :: l, s, h => by
    rcases List.mem_cons.1 h with rfl | h
    · exact ⟨_, _, rfl⟩
    · exact segs_form h
theorem sub_flat {α : Type} (P : List (List α)) (a k : Nat) : ((P.drop a).take k).flatten.length ≤ P.flatten.length := by
  have e : P = P.take a ++ ((P.drop a).take k ++ (P.drop a).drop k) := by rw [List.take_append_drop, List.take_append_drop]
  have e2 := congrArg (fun l : List (List α) => l.flatten.length) e
  simp only [List.flatten_append, List.length_append] at e2
  omega
theorem lastF_at : ∀ {rss : List (List RF)} {s : List RF}, rss[rss.length - 1]? = some s → lastF rss = (frames s).length
  | [], _, h => by simp at h
  | [x], s, h => by
    obtain rfl : x = s := by simpa using h
    rfl
  | x :: y :: ys, s, h => by
    have := lastF_at (rss := y :: ys) (s := s) (by simpa using h)
    simpa [lastF] using this
theorem nat_last {l : List Int} (h : 0 ≤ lastI 0 l) : (((lastI 0 l).toNat : Nat) : Int) = lastI 0 l := Int.toNat_of_nonneg h
set_option maxRecDepth 100000 in
set_option maxHeartbeats 2000000 in
theorem files_nil (A : HProp) (ep : Addr) (prev : Int) (l : List WR) (va : Value) (hva : Rd A 6 WR.cells va l) (hlen : l.length ≤ 9223372036854775807) (hwf : ∀ x ∈ l, WfR x) (ae : Option Addr) (ce : Nat) : Does Tryd.prog 4 [.int .u32 (prev), va, .slice ae 0 ce] [A, Cel 0 0 (.iface 123 (.pointer (some ep)))] (fun v L => v = .bool true ∧ L = [A]) := by
  refine Does.enter 127 Tryd.func4 rfl rfl rfl fun W F => ?_
  show WPc _ _ _ _ _ [(0, .int .u32 (prev)), (1, va), (2, .slice ae 0 ce)] (A :: Cel 0 0 (.iface 123 (.pointer (some ep))) :: F)
  refine WPc.seq ?_
  refine WPc.region ?_
  refine WP.val rfl rfl rfl (Val.assign rfl rfl) ?_
  refine WP.nil ?_
  refine Out.next ?_
  refine WPc.seq ?_
  refine WPc.seq ?_
  refine WPc.region ?_
  refine WP.val rfl rfl rfl (Val.move rfl rfl) ?_
  refine WP.eff rfl rfl rfl (Eff.call rfl rfl Tryd.call6 (fits39_spec A l hlen va hva)) ?_
  rintro _ _ ⟨_, ⟨fb, rfl, rfl⟩, rfl⟩
  show WP _ _ _ _ _ _ _ (A :: Cel 0 0 (.iface 123 (.pointer (some ep))) :: F)
  refine WP.val rfl rfl rfl (Val.not rfl rfl) ?_
  refine WP.val rfl rfl rfl (Val.move rfl rfl) ?_
  refine WP.splitB 19 rfl (fun h1 => ?_) (fun h1 => ?_)
  · skip
    refine WP.skip rfl rfl rfl rfl rfl rfl rfl ?_
    refine WP.skip rfl rfl rfl rfl rfl rfl rfl ?_
    refine WP.skip rfl rfl rfl rfl rfl rfl rfl ?_
    refine WP.val rfl rfl rfl (Val.pickT rfl rfl rfl) ?_
    refine WP.nil ?_
    refine Out.next ?_
    refine WPc.condT rfl rfl ?_
    refine WPc.seq ?_
    refine WPc.region ?_
    refine WP.val rfl rfl rfl (Val.assign rfl rfl) ?_
    refine WP.nil ?_
    refine Out.next ?_
    refine WPc.ret ?_
    refine Out.then_ret ?_
    refine Out.perm pl1 ?_
    refine Out.drop ?_
    exact Out.ret1 (L' := _) Tryd.results4 rfl ⟨rfl, rfl⟩ (fun _ h => h)
  · skip
    refine WP.valG rfl rfl rfl rfl rfl rfl rfl (Val.move rfl rfl) ?_
    refine WP.valG rfl rfl rfl rfl rfl rfl rfl (Val.len rfl Ty.sl36 rfl) ?_
    refine WP.valG rfl rfl rfl rfl rfl rfl rfl (Val.boolK (q := false) (Val.gtr rfl rfl rfl) (by decide)) ?_
    refine WP.val rfl rfl rfl (Val.pickF rfl rfl rfl) ?_
    refine WP.nil ?_
    refine Out.next ?_
    refine WPc.condF rfl rfl ?_
    refine WPc.skip ?_
    refine Out.next ?_
    refine WPc.seq ?_
    refine WPc.seq ?_
    refine WPc.region ?_
    refine WP.val rfl rfl rfl (Val.move rfl rfl) ?_
    refine WP.eff rfl rfl rfl (Eff.call rfl rfl Tryd.call7 (wagood_spec A 0 l hlen va hva)) ?_
    rintro _ _ ⟨_, ⟨gb, rfl, hgb, rfl⟩, rfl⟩
    show WP _ _ _ _ _ _ _ (A :: Cel 0 0 (.iface 123 (.pointer (some ep))) :: F)
    refine WP.val rfl rfl rfl (Val.not rfl rfl) ?_
    refine WP.val rfl rfl rfl (Val.move rfl rfl) ?_
    refine WP.splitB 27 rfl (fun h2 => ?_) (fun h2 => ?_)
    · skip
      refine WP.skip rfl rfl rfl rfl rfl rfl rfl ?_
      refine WP.skip rfl rfl rfl rfl rfl rfl rfl ?_
      refine WP.skip rfl rfl rfl rfl rfl rfl rfl ?_
      refine WP.val rfl rfl rfl (Val.pickT rfl rfl rfl) ?_
      refine WP.nil ?_
      refine Out.next ?_
      refine WPc.condT rfl rfl ?_
      refine WPc.seq ?_
      refine WPc.region ?_
      refine WP.val rfl rfl rfl (Val.assign rfl rfl) ?_
      refine WP.nil ?_
      refine Out.next ?_
      refine WPc.ret ?_
      refine Out.then_ret ?_
      refine Out.perm pl1 ?_
      refine Out.drop ?_
      exact Out.ret1 (L' := _) Tryd.results4 rfl ⟨rfl, rfl⟩ (fun _ h => h)
    · skip
      refine WP.valG rfl rfl rfl rfl rfl rfl rfl (Val.move rfl rfl) ?_
      refine WP.valG rfl rfl rfl rfl rfl rfl rfl (Val.len rfl Ty.sl36 rfl) ?_
      refine WP.valG rfl rfl rfl rfl rfl rfl rfl (Val.boolK (q := false) (Val.gtr rfl rfl rfl) (by decide)) ?_
      refine WP.val rfl rfl rfl (Val.pickF rfl rfl rfl) ?_
      refine WP.nil ?_
      refine Out.next ?_
      refine WPc.condF rfl rfl ?_
      refine WPc.skip ?_
      refine Out.next ?_
      refine WPc.seq ?_
      have hgt : gb = true := by simpa using (by assumption : (!gb) = false)
      obtain ⟨g1, g2, g3, g4⟩ := hgb hgt
      have hok := ok_all hwf g4
      have hgood : ∀ x ∈ (WR.hd :: l), WFine x := fun x hx => fine_of (hok x hx)
      have hd : ∀ x ∈ (WR.hd :: l), x.d.length ≤ 5000 := fun x hx => (hok x hx).2.2.1
      have hLl : (WR.hd :: l).length = l.length + 1 := rfl
      have hmax := pieces_le prev (WR.hd :: l) hd
      have hpos := pos_hd prev l
      have hplen := pieces_len prev (WR.hd :: l)
      have hrlen := rfs_len prev (WR.hd :: l)
      have hfr := frames_rfs (c := prev) hok
      have hrg := rfs_good prev (WR.hd :: l) hok
      have hEl : ([] : List Int).length ≤ 8 := by simp
      refine WPc.region ?_
      refine WP.val rfl rfl rfl (Val.move rfl rfl) ?_
      refine WP.eff rfl rfl rfl (Eff.call rfl rfl Tryd.call8 (headed_spec A l (by omega) va hva)) ?_
      rintro u1 _ ⟨_, ⟨_, rfl, rfl⟩, rfl⟩
      show WP _ _ _ _ _ _ _ (Own 44 6 u1 ((WR.hd :: l).length) (flatOf WR.cells (WR.hd :: l)) :: A :: Cel 0 0 (.iface 123 (.pointer (some ep))) :: F)
      refine WP.val rfl rfl rfl (Val.assign rfl rfl) ?_
      refine WP.nil ?_
      refine Out.next ?_
      refine WPc.seq ?_
      refine WPc.open (fun w h => h.ownPos (by rw [hLl]; omega)) ?_
      rintro ⟨g1, cg1, spg1⟩
      refine WPc.pure (fun hvg1 => ?_)
      obtain ⟨rfl, hng1, hlg1, hsg1, hcg1⟩ := hvg1
      dsimp only at hng1 hlg1 hsg1 hcg1
      show WPc _ _ _ _ _ _ (Blk g1 (flatOf WR.cells (WR.hd :: l) ++ spg1) 44 :: A :: Cel 0 0 (.iface 123 (.pointer (some ep))) :: F)
      refine WPc.know 1 (.slice (some ⟨g1, 0, none⟩) (WR.hd :: l).length cg1) rfl rfl ?_
      refine WPc.region ?_
      refine WP.val rfl rfl rfl (Val.move rfl rfl) ?_
      refine WP.val rfl rfl rfl (Val.move rfl rfl) ?_
      refine WP.eff rfl rfl rfl (Eff.call rfl rfl Tryd.call9 (pieces_spec (Blk g1 (flatOf WR.cells (WR.hd :: l) ++ spg1) 44) prev (WR.hd :: l) hgood hd (by omega) hpos (by omega) _ (.inl ⟨g1, 0, cg1, rfl, rd_blkW⟩))) ?_
      rintro _ _ ⟨_, ⟨pv, rfl, rfl⟩, rfl⟩
      show WP _ _ _ _ _ _ _ (Own 9 1 pv ((piecesR prev (WR.hd :: l)).length) ((piecesR prev (WR.hd :: l)).map strv) :: Blk g1 (flatOf WR.cells (WR.hd :: l) ++ spg1) 44 :: A :: Cel 0 0 (.iface 123 (.pointer (some ep))) :: F)
      refine WP.val rfl rfl rfl (Val.move rfl rfl) ?_
      refine WP.val rfl rfl rfl (Val.extract rfl rfl rfl) ?_
      refine WP.val rfl rfl rfl (Val.extract rfl rfl rfl) ?_
      refine WP.val rfl rfl rfl (Val.assign rfl rfl) ?_
      refine WP.val rfl rfl rfl (Val.assign rfl rfl) ?_
      refine WP.nil ?_
      refine Out.next ?_
      refine WPc.seq ?_
      refine WPc.seq ?_
      refine WPc.region ?_
      refine WP.val rfl rfl rfl (Val.move rfl rfl) ?_
      refine WP.val rfl rfl rfl (Val.not rfl rfl) ?_
      refine WP.nil ?_
      refine Out.next ?_
      refine WPc.condF rfl rfl ?_
      refine WPc.skip ?_
      refine Out.next ?_
      refine WPc.seq ?_
      refine WPc.seq ?_
      refine WPc.conv (fun w h => Sat.seqMk h) ?_
      show WPc _ _ _ _ _ _ (Seq pv ((piecesR prev (WR.hd :: l)).length) ((piecesR prev (WR.hd :: l)).map strv) :: Blk g1 (flatOf WR.cells (WR.hd :: l) ++ spg1) 44 :: A :: Cel 0 0 (.iface 123 (.pointer (some ep))) :: F)
      refine WPc.region ?_
      refine WP.val rfl rfl rfl (Val.move rfl rfl) ?_
      refine WP.val rfl rfl rfl (Val.len rfl Ty.sl36 rfl) ?_
      refine WP.val rfl rfl rfl (Val.move rfl rfl) ?_
      refine WP.nil ?_
      refine Out.next ?_
      refine WPc.block ?_
      refine WPc.loop (ι := Nat) (fun i => i ≤ ([] : List Int).length ∧ Rising (((piecesR prev (WR.hd :: l)).length : Nat) : Int) 0 (([] : List Int).take i)) (fun i => [(0, .int .u32 (prev)), (1, .slice (some ⟨g1, 0, none⟩) ((WR.hd :: l).length) cg1), (2, .slice ae 0 ce), (7, pv), (42, .slice ae 0 ce), (43, .int .i64 0), (44, .int .i64 (((i : Nat) : Int)))]) (fun i => Seq pv ((piecesR prev (WR.hd :: l)).length) ((piecesR prev (WR.hd :: l)).map strv) :: Blk g1 (flatOf WR.cells (WR.hd :: l) ++ spg1) 44 :: A :: Cel 0 0 (.iface 123 (.pointer (some ep))) :: F) (fun i => ([] : List Int).length - i) 0 ⟨Nat.zero_le _, True.intro⟩ ((Sub.cons rfl (Sub.cons rfl (Sub.cons rfl (Sub.cons rfl (Sub.cons rfl (Sub.cons rfl (Sub.cons rfl Sub.nil)))))))) (fun _ h => h) ?_
      rintro i ⟨hi, hri⟩
      show WPc _ _ _ _ _ [(0, .int .u32 (prev)), (1, .slice (some ⟨g1, 0, none⟩) ((WR.hd :: l).length) cg1), (2, .slice ae 0 ce), (7, pv), (42, .slice ae 0 ce), (43, .int .i64 0), (44, .int .i64 (((i : Nat) : Int)))] (Seq pv ((piecesR prev (WR.hd :: l)).length) ((piecesR prev (WR.hd :: l)).map strv) :: Blk g1 (flatOf WR.cells (WR.hd :: l) ++ spg1) 44 :: A :: Cel 0 0 (.iface 123 (.pointer (some ep))) :: F)
      refine WPc.seq ?_
      refine WPc.region ?_
      refine WP.val rfl rfl rfl (Val.lss rfl rfl rfl) ?_
      refine WP.nil ?_
      refine Out.next ?_
      refine WPc.seq ?_
      refine WPc.ifP rfl (fun h3 => ?_) (fun h3 => ?_)
      · skip
        have h3 : (((i : Nat) : Int) < (0 : Int)) := h3
        exfalso; simp at *; omega
      · skip
        have h3 : ¬ (((i : Nat) : Int) < (0 : Int)) := h3
        refine WPc.exit ?_
        refine Out.then_exit ?_
        refine Out.then_exit ?_
        refine Out.block_exit ?_
        refine Out.next ?_
        refine WPc.seq ?_
        have hti : ([] : List Int).take i = ([] : List Int) := List.take_of_length_le (by first | omega | (simp at *; try omega))
        rw [hti] at hri
        have hrl := rising_last (((piecesR prev (WR.hd :: l)).length : Nat) : Int) 0 ([] : List Int) (by omega) (by omega) hri
        have hE := rising_snoc (((piecesR prev (WR.hd :: l)).length : Nat) : Int) 0 ([] : List Int) (((piecesR prev (WR.hd :: l)).length : Nat) : Int) hri (by omega) (by omega) hrl.2
        have hEE : (([] : List Int) ++ [(((piecesR prev (WR.hd :: l)).length : Nat) : Int)]).length = ([] : List Int).length + 1 := by simp
        have hlE : lastI 0 (([] : List Int) ++ [(((piecesR prev (WR.hd :: l)).length : Nat) : Int)]) = (((piecesR prev (WR.hd :: l)).length : Nat) : Int) := lastI_snoc _ _ _
        refine WPc.region ?_
        refine WP.val rfl rfl rfl (Val.assign rfl rfl) ?_
        refine WP.nil ?_
        refine Out.next ?_
        refine WPc.seq ?_
        refine WPc.region ?_
        refine WP.val rfl rfl rfl (Val.assign rfl rfl) ?_
        refine WP.nil ?_
        refine Out.next ?_
        refine WPc.seq ?_
        refine WPc.seq ?_
        refine WPc.region ?_
        refine WP.val rfl rfl rfl (Val.move rfl rfl) ?_
        refine WP.perm pl2 ?_
        refine WP.eff rfl rfl rfl (Eff.call rfl rfl Tryd.call13 (clonei_spec A ([] : List Int) (by omega) _ (.inr ⟨rfl, ae, ce, rfl⟩))) ?_
        rintro u5 _ ⟨_, ⟨_, rfl, rfl⟩, rfl⟩
        show WP _ _ _ _ _ _ _ (Own 3 1 u5 (([] : List Int).length) (flatOf icell ([] : List Int)) :: A :: Seq pv ((piecesR prev (WR.hd :: l)).length) ((piecesR prev (WR.hd :: l)).map strv) :: Blk g1 (flatOf WR.cells (WR.hd :: l) ++ spg1) 44 :: Cel 0 0 (.iface 123 (.pointer (some ep))) :: F)
        refine WP.val rfl rfl rfl (Val.move rfl rfl) ?_
        refine WP.val rfl rfl rfl (Val.lenSeq rfl Ty.sl27 rfl (fun w h => h.at 2 rfl)) ?_
        refine WP.eff rfl rfl rfl (Eff.mkSlice (C := [.int .i64 ((((piecesR prev (WR.hd :: l)).length : Nat) : Int))]) rfl Ty.sl36 rfl (fun _ => by kernel_rfl)) ?_
        rintro _ _ ⟨b2, rfl, rfl⟩
        refine WP.perm pl1 ?_
        refine WP.eff rfl rfl rfl (Eff.append (m := 1) (n0 := ([] : List Int).length) (news := [.int .i64 ((((piecesR prev (WR.hd :: l)).length : Nat) : Int))]) rfl Ty.sl36 Ty.z3 rfl rfl rfl (.slice Ty.sl36 rfl rfl (fun w h => cells_range (h.range 1 rfl rfl))) (by omega) (by omega)) ?_
        rintro v3 _ ⟨onev3, rfl⟩
        refine WP.conv (M := Own 3 1 v3 ((([] : List Int) ++ [(((piecesR prev (WR.hd :: l)).length : Nat) : Int)]).length) (flatOf icell (([] : List Int) ++ [(((piecesR prev (WR.hd :: l)).length : Nat) : Int)])) :: Blk b2 [.int .i64 ((((piecesR prev (WR.hd :: l)).length : Nat) : Int))] 3 :: A :: Seq pv ((piecesR prev (WR.hd :: l)).length) ((piecesR prev (WR.hd :: l)).map strv) :: Blk g1 (flatOf WR.cells (WR.hd :: l) ++ spg1) 44 :: Cel 0 0 (.iface 123 (.pointer (some ep))) :: F) (fun w h => by rw [hEE, flatOf_snoc]; exact h) ?_
        refine WP.open (fun w h => h.ownPos (by rw [hEE]; omega)) ?_
        rintro ⟨g4, cg4, spg4⟩
        refine WP.pure (fun hvg4 => ?_)
        obtain ⟨rfl, hng4, hlg4, hsg4, hcg4⟩ := hvg4
        dsimp only at hng4 hlg4 hsg4 hcg4
        show WP _ _ _ _ _ _ _ (Blk g4 (flatOf icell (([] : List Int) ++ [(((piecesR prev (WR.hd :: l)).length : Nat) : Int)]) ++ spg4) 3 :: Blk b2 [.int .i64 ((((piecesR prev (WR.hd :: l)).length : Nat) : Int))] 3 :: A :: Seq pv ((piecesR prev (WR.hd :: l)).length) ((piecesR prev (WR.hd :: l)).map strv) :: Blk g1 (flatOf WR.cells (WR.hd :: l) ++ spg1) 44 :: Cel 0 0 (.iface 123 (.pointer (some ep))) :: F)
        refine WP.know 76 (.slice (some ⟨g4, 0, none⟩) (([] : List Int) ++ [(((piecesR prev (WR.hd :: l)).length : Nat) : Int)]).length cg4) rfl rfl ?_
        refine WP.val rfl rfl rfl (Val.len rfl Ty.sl36 rfl) ?_
        refine WP.val rfl rfl rfl (Val.move rfl rfl) ?_
        refine WP.nil ?_
        refine Out.next ?_
        refine WPc.block ?_
        refine WPc.perm pl3 ?_
        refine WPc.open (fun w h => h.seqOpen (by omega)) ?_
        rintro ⟨g5, cg5, spg5, Tg5⟩
        refine WPc.pure (fun hvg5 => ?_)
        refine WPc.know 7 (.slice (some ⟨g5, 0, none⟩) ((piecesR prev (WR.hd :: l)).length) cg5) rfl hvg5.1 ?_
        show WPc _ _ _ _ _ _ (Ro (Blk g5 ((piecesR prev (WR.hd :: l)).map strv ++ spg5) Tg5) :: Seq pv ((piecesR prev (WR.hd :: l)).length) ((piecesR prev (WR.hd :: l)).map strv) :: Blk g4 (flatOf icell (([] : List Int) ++ [(((piecesR prev (WR.hd :: l)).length : Nat) : Int)]) ++ spg4) 3 :: Blk b2 [.int .i64 ((((piecesR prev (WR.hd :: l)).length : Nat) : Int))] 3 :: A :: Blk g1 (flatOf WR.cells (WR.hd :: l) ++ spg1) 44 :: Cel 0 0 (.iface 123 (.pointer (some ep))) :: F)
        have hpc : (piecesR prev (WR.hd :: l)).length ≤ cg5 := hvg5.2
        refine WPc.conv (fun w h => h.ownNil (e := 9) (k := 1)) ?_
        show WPc _ _ _ _ _ _ (Own 9 1 (.slice none 0 0) 0 ([]) :: Ro (Blk g5 ((piecesR prev (WR.hd :: l)).map strv ++ spg5) Tg5) :: Seq pv ((piecesR prev (WR.hd :: l)).length) ((piecesR prev (WR.hd :: l)).map strv) :: Blk g4 (flatOf icell (([] : List Int) ++ [(((piecesR prev (WR.hd :: l)).length : Nat) : Int)]) ++ spg4) 3 :: Blk b2 [.int .i64 ((((piecesR prev (WR.hd :: l)).length : Nat) : Int))] 3 :: A :: Blk g1 (flatOf WR.cells (WR.hd :: l) ++ spg1) 44 :: Cel 0 0 (.iface 123 (.pointer (some ep))) :: F)
        refine WPc.perm pl2 ?_
        refine WPc.drop ?_
        refine WPc.perm pl3 ?_
        refine WPc.drop ?_
        refine WPc.perm pl5 ?_
        refine WPc.perm pl4 ?_
        refine WPc.perm pl4 ?_
        refine WPc.perm pl5 ?_
        refine WPc.perm pl5 ?_
        refine WPc.perm pl5 ?_
        refine WPc.loop (ι := Nat × Value) (fun ⟨j, u⟩ => j ≤ (([] : List Int) ++ [(((piecesR prev (WR.hd :: l)).length : Nat) : Int)]).length) (fun ⟨j, u⟩ => [(0, .int .u32 (prev)), (1, .slice (some ⟨g1, 0, none⟩) ((WR.hd :: l).length) cg1), (7, .slice (some ⟨g5, 0, none⟩) ((piecesR prev (WR.hd :: l)).length) cg5), (11, u), (12, .int .i64 ((lastI 0 ((([] : List Int) ++ [(((piecesR prev (WR.hd :: l)).length : Nat) : Int)]).take j)))), (76, .slice (some ⟨g4, 0, none⟩) ((([] : List Int) ++ [(((piecesR prev (WR.hd :: l)).length : Nat) : Int)]).length) cg4), (77, .int .i64 ((((([] : List Int) ++ [(((piecesR prev (WR.hd :: l)).length : Nat) : Int)]).length : Nat) : Int))), (78, .int .i64 (((j : Nat) : Int)))]) (fun ⟨j, u⟩ => Own 9 1 u j (((segs (piecesR prev (WR.hd :: l)) 0 ((([] : List Int) ++ [(((piecesR prev (WR.hd :: l)).length : Nat) : Int)]).take j)).map List.flatten).map strv) :: Ro (Blk g5 ((piecesR prev (WR.hd :: l)).map strv ++ spg5) Tg5) :: Blk g1 (flatOf WR.cells (WR.hd :: l) ++ spg1) 44 :: Blk g4 (flatOf icell (([] : List Int) ++ [(((piecesR prev (WR.hd :: l)).length : Nat) : Int)]) ++ spg4) 3 :: A :: Cel 0 0 (.iface 123 (.pointer (some ep))) :: F) (fun ⟨j, u⟩ => (([] : List Int) ++ [(((piecesR prev (WR.hd :: l)).length : Nat) : Int)]).length - j) (0, .slice none 0 0) (Nat.zero_le _) ((Sub.cons rfl (Sub.cons rfl (Sub.cons rfl (Sub.cons rfl (Sub.cons rfl (Sub.cons rfl (Sub.cons rfl (Sub.cons rfl Sub.nil))))))))) (fun _ h => h) ?_
        rintro ⟨j, u⟩ hj
        show WPc _ _ _ _ _ [(0, .int .u32 (prev)), (1, .slice (some ⟨g1, 0, none⟩) ((WR.hd :: l).length) cg1), (7, .slice (some ⟨g5, 0, none⟩) ((piecesR prev (WR.hd :: l)).length) cg5), (11, u), (12, .int .i64 ((lastI 0 ((([] : List Int) ++ [(((piecesR prev (WR.hd :: l)).length : Nat) : Int)]).take j)))), (76, .slice (some ⟨g4, 0, none⟩) ((([] : List Int) ++ [(((piecesR prev (WR.hd :: l)).length : Nat) : Int)]).length) cg4), (77, .int .i64 ((((([] : List Int) ++ [(((piecesR prev (WR.hd :: l)).length : Nat) : Int)]).length : Nat) : Int))), (78, .int .i64 (((j : Nat) : Int)))] (Own 9 1 u j (((segs (piecesR prev (WR.hd :: l)) 0 ((([] : List Int) ++ [(((piecesR prev (WR.hd :: l)).length : Nat) : Int)]).take j)).map List.flatten).map strv) :: Ro (Blk g5 ((piecesR prev (WR.hd :: l)).map strv ++ spg5) Tg5) :: Blk g1 (flatOf WR.cells (WR.hd :: l) ++ spg1) 44 :: Blk g4 (flatOf icell (([] : List Int) ++ [(((piecesR prev (WR.hd :: l)).length : Nat) : Int)]) ++ spg4) 3 :: A :: Cel 0 0 (.iface 123 (.pointer (some ep))) :: F)
        replace hj : j ≤ (([] : List Int) ++ [(((piecesR prev (WR.hd :: l)).length : Nat) : Int)]).length := hj
        refine WPc.seq ?_
        refine WPc.region ?_
        refine WP.val rfl rfl rfl (Val.lss rfl rfl rfl) ?_
        refine WP.nil ?_
        refine Out.next ?_
        refine WPc.seq ?_
        refine WPc.ifP rfl (fun h4 => ?_) (fun h4 => ?_)
        · skip
          have h4 : (((j : Nat) : Int) < (((([] : List Int) ++ [(((piecesR prev (WR.hd :: l)).length : Nat) : Int)]).length : Nat) : Int)) := h4
          refine WPc.skip ?_
          refine Out.next ?_
          refine WPc.seq ?_
          refine WPc.block ?_
          refine WPc.seq ?_
          have hjl : j < (([] : List Int) ++ [(((piecesR prev (WR.hd :: l)).length : Nat) : Int)]).length := by omega
          obtain ⟨x, hx⟩ : ∃ x, (([] : List Int) ++ [(((piecesR prev (WR.hd :: l)).length : Nat) : Int)])[j]? = some x := ⟨_, List.getElem?_eq_getElem hjl⟩
          obtain ⟨hx0, hxn, hxl⟩ := rising_at (((piecesR prev (WR.hd :: l)).length : Nat) : Int) 0 (([] : List Int) ++ [(((piecesR prev (WR.hd :: l)).length : Nat) : Int)]) j x hE hx
          have hrt := rising_last (((piecesR prev (WR.hd :: l)).length : Nat) : Int) 0 ((([] : List Int) ++ [(((piecesR prev (WR.hd :: l)).length : Nat) : Int)]).take j) (by omega) (by omega) (rising_take _ _ _ j hE)
          have hnl := nat_last hrt.1
          obtain ⟨n, rfl⟩ : ∃ n : Nat, x = (n : Int) := ⟨x.toNat, by omega⟩
          have htk := take_more hx
          refine WPc.know 12 (.int .i64 (((lastI 0 ((([] : List Int) ++ [(((piecesR prev (WR.hd :: l)).length : Nat) : Int)]).take j)).toNat : Nat) : Int)) rfl (congrArg (Value.int .i64) hnl.symm) ?_
          refine WPc.region ?_
          refine WP.val rfl rfl rfl (Val.indexAddr (j := j) (q := j) rfl Ty.sl36 rfl rfl (by omega) (by omega) (by omega)) ?_
          refine WP.val rfl rfl rfl (Val.load (v := .int .i64 (((n : Nat) : Int))) rfl Ty.sc3 rfl (fun w h => h.cell 3 rfl (icell_at hx _))) ?_
          refine WP.val rfl rfl rfl (Val.assign rfl rfl) ?_
          refine WP.nil ?_
          refine Out.next ?_
          refine WPc.seq ?_
          refine WPc.region ?_
          refine WP.val rfl rfl rfl (Val.move rfl rfl) ?_
          refine WP.val rfl rfl rfl (Val.move rfl rfl) ?_
          refine WP.val rfl rfl rfl (Val.move rfl rfl) ?_
          refine WP.val rfl rfl rfl (Val.move rfl rfl) ?_
          refine WP.val rfl rfl rfl (Val.slice (lo := (lastI 0 ((([] : List Int) ++ [(((piecesR prev (WR.hd :: l)).length : Nat) : Int)]).take j)).toNat) (hi := n) (j := (if cg5 = (lastI 0 ((([] : List Int) ++ [(((piecesR prev (WR.hd :: l)).length : Nat) : Int)]).take j)).toNat then 0 else 0 + ((lastI 0 ((([] : List Int) ++ [(((piecesR prev (WR.hd :: l)).length : Nat) : Int)]).take j)).toNat))) (vlo := some (.i64, (((lastI 0 ((([] : List Int) ++ [(((piecesR prev (WR.hd :: l)).length : Nat) : Int)]).take j)).toNat : Nat) : Int))) (vhi := some (.i64, ((n : Nat) : Int))) rfl Ty.sl27 rfl rfl rfl (by simp [bnd]; try omega) (by simp [bnd]; try omega) (by omega) (by omega) (by omega) (by simp)) ?_
          have hsf := sub_flat (piecesR prev (WR.hd :: l)) (lastI 0 ((([] : List Int) ++ [(((piecesR prev (WR.hd :: l)).length : Nat) : Int)]).take j)).toNat (n - (lastI 0 ((([] : List Int) ++ [(((piecesR prev (WR.hd :: l)).length : Nat) : Int)]).take j)).toNat)
          have hsl : (((piecesR prev (WR.hd :: l)).drop (lastI 0 ((([] : List Int) ++ [(((piecesR prev (WR.hd :: l)).length : Nat) : Int)]).take j)).toNat).take (n - (lastI 0 ((([] : List Int) ++ [(((piecesR prev (WR.hd :: l)).length : Nat) : Int)]).take j)).toNat)).length ≤ (piecesR prev (WR.hd :: l)).length := by rw [List.length_take, List.length_drop]; omega
          refine WP.perm pl1 ?_
          refine WP.eff rfl rfl rfl (Eff.call rfl rfl Tryd.call11 (joinr_spec (Ro (Blk g5 ((piecesR prev (WR.hd :: l)).map strv ++ spg5) Tg5)) (((piecesR prev (WR.hd :: l)).drop (lastI 0 ((([] : List Int) ++ [(((piecesR prev (WR.hd :: l)).length : Nat) : Int)]).take j)).toNat).take (n - (lastI 0 ((([] : List Int) ++ [(((piecesR prev (WR.hd :: l)).length : Nat) : Int)]).take j)).toNat)) (by omega) (by omega) _ (rd_seg (by omega) hpc))) ?_
          rintro _ _ ⟨_, ⟨rfl, rfl⟩, rfl⟩
          show WP _ _ _ _ _ _ _ (Ro (Blk g5 ((piecesR prev (WR.hd :: l)).map strv ++ spg5) Tg5) :: Own 9 1 u j (((segs (piecesR prev (WR.hd :: l)) 0 ((([] : List Int) ++ [(((piecesR prev (WR.hd :: l)).length : Nat) : Int)]).take j)).map List.flatten).map strv) :: Blk g1 (flatOf WR.cells (WR.hd :: l) ++ spg1) 44 :: Blk g4 (flatOf icell (([] : List Int) ++ [(((piecesR prev (WR.hd :: l)).length : Nat) : Int)]) ++ spg4) 3 :: A :: Cel 0 0 (.iface 123 (.pointer (some ep))) :: F)
          refine WP.eff rfl rfl rfl (Eff.mkSlice (C := [.string (str ((((piecesR prev (WR.hd :: l)).drop (lastI 0 ((([] : List Int) ++ [(((piecesR prev (WR.hd :: l)).length : Nat) : Int)]).take j)).toNat).take (n - (lastI 0 ((([] : List Int) ++ [(((piecesR prev (WR.hd :: l)).length : Nat) : Int)]).take j)).toNat)).flatten))]) rfl Ty.sl27 rfl (fun _ => by kernel_rfl)) ?_
          rintro _ _ ⟨b6, rfl, rfl⟩
          refine WP.perm pl2 ?_
          refine WP.eff rfl rfl rfl (Eff.append (m := 1) (n0 := j) (news := [.string (str ((((piecesR prev (WR.hd :: l)).drop (lastI 0 ((([] : List Int) ++ [(((piecesR prev (WR.hd :: l)).length : Nat) : Int)]).take j)).toNat).take (n - (lastI 0 ((([] : List Int) ++ [(((piecesR prev (WR.hd :: l)).length : Nat) : Int)]).take j)).toNat)).flatten))]) rfl Ty.sl27 Ty.z9 rfl rfl rfl (.slice Ty.sl27 rfl rfl (fun w h => cells_range (h.range 1 rfl rfl))) (by omega) (by omega)) ?_
          rintro v7 _ ⟨onev7, rfl⟩
          refine WP.val rfl rfl rfl (Val.assign rfl rfl) ?_
          refine WP.nil ?_
          refine Out.next ?_
          refine WPc.region ?_
          refine WP.val rfl rfl rfl (Val.move rfl rfl) ?_
          refine WP.val rfl rfl rfl (Val.assign rfl rfl) ?_
          refine WP.nil ?_
          refine Out.block ?_
          refine Out.next ?_
          refine WPc.region ?_
          refine WP.val rfl rfl rfl (Val.add (z := ((j + 1 : Nat) : Int)) rfl rfl rfl ((w64 (by omega) (by omega)).trans (by omega))) ?_
          refine WP.val rfl rfl rfl (Val.move rfl rfl) ?_
          refine WP.nil ?_
          have hsn : segs (piecesR prev (WR.hd :: l)) 0 ((([] : List Int) ++ [(((piecesR prev (WR.hd :: l)).length : Nat) : Int)]).take (j + 1)) = segs (piecesR prev (WR.hd :: l)) 0 ((([] : List Int) ++ [(((piecesR prev (WR.hd :: l)).length : Nat) : Int)]).take j) ++ [(((piecesR prev (WR.hd :: l)).drop (lastI 0 ((([] : List Int) ++ [(((piecesR prev (WR.hd :: l)).length : Nat) : Int)]).take j)).toNat).take (n - (lastI 0 ((([] : List Int) ++ [(((piecesR prev (WR.hd :: l)).length : Nat) : Int)]).take j)).toNat))] := by
            rw [htk]
            have := segs_snoc (piecesR prev (WR.hd :: l)) 0 ((([] : List Int) ++ [(((piecesR prev (WR.hd :: l)).length : Nat) : Int)]).take j) ((n : Nat) : Int)
            rw [Int.toNat_natCast] at this
            exact this
          refine Out.perm pl1 ?_
          refine Out.drop ?_
          refine Out.again (j + 1, v7) ?_ ?_ ?_ ?_
          · exact (by first | omega | (dsimp only; omega))
          · (dsimp only; omega)
          · exact (Sub.cons rfl (Sub.cons rfl (Sub.cons rfl (Sub.cons rfl (Sub.cons (by rw [htk, lastI_snoc]; rfl) (Sub.cons rfl (Sub.cons rfl (Sub.cons rfl Sub.nil))))))))
          · exact (fun w h => by dsimp only; rw [hsn, List.map_append, List.map_append]; exact h)
        · skip
          have h4 : ¬ (((j : Nat) : Int) < (((([] : List Int) ++ [(((piecesR prev (WR.hd :: l)).length : Nat) : Int)]).length : Nat) : Int)) := h4
          refine WPc.exit ?_
          refine Out.then_exit ?_
          refine Out.then_exit ?_
          refine Out.block_exit ?_
          refine Out.next ?_
          refine WPc.seq ?_
          obtain rfl : j = (([] : List Int) ++ [(((piecesR prev (WR.hd :: l)).length : Nat) : Int)]).length := by omega
          have htE : (([] : List Int) ++ [(((piecesR prev (WR.hd :: l)).length : Nat) : Int)]).take (([] : List Int) ++ [(((piecesR prev (WR.hd :: l)).length : Nat) : Int)]).length = (([] : List Int) ++ [(((piecesR prev (WR.hd :: l)).length : Nat) : Int)]) := List.take_length
          have hFl : ((segs (piecesR prev (WR.hd :: l)) 0 (([] : List Int) ++ [(((piecesR prev (WR.hd :: l)).length : Nat) : Int)])).map List.flatten).length = (([] : List Int) ++ [(((piecesR prev (WR.hd :: l)).length : Nat) : Int)]).length := by rw [List.length_map, segs_len]
          refine WPc.conv (M := Own 9 1 u (((segs (piecesR prev (WR.hd :: l)) 0 (([] : List Int) ++ [(((piecesR prev (WR.hd :: l)).length : Nat) : Int)])).map List.flatten).length) (((segs (piecesR prev (WR.hd :: l)) 0 (([] : List Int) ++ [(((piecesR prev (WR.hd :: l)).length : Nat) : Int)])).map List.flatten).map strv) :: Ro (Blk g5 ((piecesR prev (WR.hd :: l)).map strv ++ spg5) Tg5) :: Blk g1 (flatOf WR.cells (WR.hd :: l) ++ spg1) 44 :: Blk g4 (flatOf icell (([] : List Int) ++ [(((piecesR prev (WR.hd :: l)).length : Nat) : Int)]) ++ spg4) 3 :: A :: Cel 0 0 (.iface 123 (.pointer (some ep))) :: F) (fun w h => by rw [htE] at h; rw [hFl]; exact h) ?_
          have hPR : (piecesR prev (WR.hd :: l)) = (rfs prev (WR.hd :: l)).map RF.frame := (rfs_frames prev (WR.hd :: l) hok).symm
          have hFr : ((segs (piecesR prev (WR.hd :: l)) 0 (([] : List Int) ++ [(((piecesR prev (WR.hd :: l)).length : Nat) : Int)])).map List.flatten) = (segs (rfs prev (WR.hd :: l)) 0 (([] : List Int) ++ [(((piecesR prev (WR.hd :: l)).length : Nat) : Int)])).map frames := by
            rw [hPR, segs_map, List.map_map]
            refine List.map_congr_left fun s _ => ?_
            show (s.map RF.frame).flatten = frames s
            exact (frames_flat s).symm
          have hRf : (segs (rfs prev (WR.hd :: l)) 0 (([] : List Int) ++ [(((piecesR prev (WR.hd :: l)).length : Nat) : Int)])).flatten = rfs prev (WR.hd :: l) := by
            have := segs_flat (rfs prev (WR.hd :: l)) (((piecesR prev (WR.hd :: l)).length : Nat) : Int) 0 (([] : List Int) ++ [(((piecesR prev (WR.hd :: l)).length : Nat) : Int)]) hE
            rw [this]
            show List.take ((lastI 0 (([] : List Int) ++ [(((piecesR prev (WR.hd :: l)).length : Nat) : Int)])).toNat - 0) _ = _
            rw [hlE, Int.toNat_natCast, Nat.sub_zero, List.drop_zero]
            exact List.take_of_length_le (by omega)
          have hRl : (segs (rfs prev (WR.hd :: l)) 0 (([] : List Int) ++ [(((piecesR prev (WR.hd :: l)).length : Nat) : Int)])).length = (([] : List Int) ++ [(((piecesR prev (WR.hd :: l)).length : Nat) : Int)]).length := segs_len _ _ _
          have hsn1 : (((segs (piecesR prev (WR.hd :: l)) 0 (([] : List Int) ++ [(((piecesR prev (WR.hd :: l)).length : Nat) : Int)])).map List.flatten).map str).length = ((segs (piecesR prev (WR.hd :: l)) 0 (([] : List Int) ++ [(((piecesR prev (WR.hd :: l)).length : Nat) : Int)])).map List.flatten).length := List.length_map _
          have hsm : ((segs (piecesR prev (WR.hd :: l)) 0 (([] : List Int) ++ [(((piecesR prev (WR.hd :: l)).length : Nat) : Int)])).map List.flatten).map strv = (((segs (piecesR prev (WR.hd :: l)) 0 (([] : List Int) ++ [(((piecesR prev (WR.hd :: l)).length : Nat) : Int)])).map List.flatten).map str).map Value.string := (List.map_map (f := str) (g := Value.string) (l := ((segs (piecesR prev (WR.hd :: l)) 0 (([] : List Int) ++ [(((piecesR prev (WR.hd :: l)).length : Nat) : Int)])).map List.flatten))).symm
          have hlc : lastC 0 (rfs prev (WR.hd :: l)) = (WR.hd :: l).foldl stepL prev := lastC_hd prev l
          have hRg : ∀ rs ∈ (segs (rfs prev (WR.hd :: l)) 0 (([] : List Int) ++ [(((piecesR prev (WR.hd :: l)).length : Nat) : Int)])), (frames rs).length ≤ 4294967296 ∧ ∀ r ∈ rs, r.good := fun rs hrs => by
            refine ⟨?_, fun r hr => hrg r (segs_mem hrs r hr)⟩
            obtain ⟨b, k, rfl⟩ := segs_form hrs
            have := sub_flat ((rfs prev (WR.hd :: l)).map RF.frame) b k
            rw [← List.map_drop, ← List.map_take, ← frames_flat, ← frames_flat, hfr] at this
            omega
          obtain ⟨xs, hxs⟩ : ∃ xs, (segs (rfs prev (WR.hd :: l)) 0 (([] : List Int) ++ [(((piecesR prev (WR.hd :: l)).length : Nat) : Int)]))[(segs (rfs prev (WR.hd :: l)) 0 (([] : List Int) ++ [(((piecesR prev (WR.hd :: l)).length : Nat) : Int)])).length - 1]? = some xs := ⟨_, List.getElem?_eq_getElem (by omega)⟩
          have hlF := lastF_at hxs
          have hxf : ((segs (piecesR prev (WR.hd :: l)) 0 (([] : List Int) ++ [(((piecesR prev (WR.hd :: l)).length : Nat) : Int)])).map List.flatten)[((segs (piecesR prev (WR.hd :: l)) 0 (([] : List Int) ++ [(((piecesR prev (WR.hd :: l)).length : Nat) : Int)])).map List.flatten).length - 1]? = some (frames xs) := by
            rw [show ((segs (piecesR prev (WR.hd :: l)) 0 (([] : List Int) ++ [(((piecesR prev (WR.hd :: l)).length : Nat) : Int)])).map List.flatten).length - 1 = (segs (rfs prev (WR.hd :: l)) 0 (([] : List Int) ++ [(((piecesR prev (WR.hd :: l)).length : Nat) : Int)])).length - 1 by omega, hFr, List.getElem?_map, hxs]; rfl
          refine WPc.conv (fun w h => Sat.seqMk h) ?_
          show WPc _ _ _ _ _ _ (Seq u (((segs (piecesR prev (WR.hd :: l)) 0 (([] : List Int) ++ [(((piecesR prev (WR.hd :: l)).length : Nat) : Int)])).map List.flatten).length) (((segs (piecesR prev (WR.hd :: l)) 0 (([] : List Int) ++ [(((piecesR prev (WR.hd :: l)).length : Nat) : Int)])).map List.flatten).map strv) :: Ro (Blk g5 ((piecesR prev (WR.hd :: l)).map strv ++ spg5) Tg5) :: Blk g1 (flatOf WR.cells (WR.hd :: l) ++ spg1) 44 :: Blk g4 (flatOf icell (([] : List Int) ++ [(((piecesR prev (WR.hd :: l)).length : Nat) : Int)]) ++ spg4) 3 :: A :: Cel 0 0 (.iface 123 (.pointer (some ep))) :: F)
          refine WPc.conv (M := Seq u ((((segs (piecesR prev (WR.hd :: l)) 0 (([] : List Int) ++ [(((piecesR prev (WR.hd :: l)).length : Nat) : Int)])).map List.flatten).map str).length) ((((segs (piecesR prev (WR.hd :: l)) 0 (([] : List Int) ++ [(((piecesR prev (WR.hd :: l)).length : Nat) : Int)])).map List.flatten).map str).map Value.string) :: Ro (Blk g5 ((piecesR prev (WR.hd :: l)).map strv ++ spg5) Tg5) :: Blk g1 (flatOf WR.cells (WR.hd :: l) ++ spg1) 44 :: Blk g4 (flatOf icell (([] : List Int) ++ [(((piecesR prev (WR.hd :: l)).length : Nat) : Int)]) ++ spg4) 3 :: A :: Cel 0 0 (.iface 123 (.pointer (some ep))) :: F) (fun w h => by rw [hsn1, ← hsm]; exact h) ?_
          refine WPc.conv (fun w h => Sat.dup (A := Seq u _ _) Seq.pers h) ?_
          show WPc _ _ _ _ _ _ (Seq u ((((segs (piecesR prev (WR.hd :: l)) 0 (([] : List Int) ++ [(((piecesR prev (WR.hd :: l)).length : Nat) : Int)])).map List.flatten).map str).length) ((((segs (piecesR prev (WR.hd :: l)) 0 (([] : List Int) ++ [(((piecesR prev (WR.hd :: l)).length : Nat) : Int)])).map List.flatten).map str).map Value.string) :: Seq u ((((segs (piecesR prev (WR.hd :: l)) 0 (([] : List Int) ++ [(((piecesR prev (WR.hd :: l)).length : Nat) : Int)])).map List.flatten).map str).length) ((((segs (piecesR prev (WR.hd :: l)) 0 (([] : List Int) ++ [(((piecesR prev (WR.hd :: l)).length : Nat) : Int)])).map List.flatten).map str).map Value.string) :: Ro (Blk g5 ((piecesR prev (WR.hd :: l)).map strv ++ spg5) Tg5) :: Blk g1 (flatOf WR.cells (WR.hd :: l) ++ spg1) 44 :: Blk g4 (flatOf icell (([] : List Int) ++ [(((piecesR prev (WR.hd :: l)).length : Nat) : Int)]) ++ spg4) 3 :: A :: Cel 0 0 (.iface 123 (.pointer (some ep))) :: F)
          refine WPc.region ?_
          refine WP.val rfl rfl rfl (Val.move rfl rfl) ?_
          refine WP.val rfl rfl rfl (Val.move rfl rfl) ?_
          refine WP.val rfl rfl rfl (Val.len rfl Ty.sl23 rfl) ?_
          refine WP.val rfl rfl rfl (Val.add (z := ((((WR.hd :: l).length) + 9 : Nat) : Int)) rfl rfl rfl ((w64 (by omega) (by omega)).trans (by omega))) ?_
          refine WP.perm pl6 ?_
          refine WP.perm pl1 ?_
          refine WP.eff rfl rfl rfl (Eff.call rfl rfl Tryd.call10 (walread_spec ep u (((segs (piecesR prev (WR.hd :: l)) 0 (([] : List Int) ++ [(((piecesR prev (WR.hd :: l)).length : Nat) : Int)])).map List.flatten).map str) (segs (rfs prev (WR.hd :: l)) 0 (([] : List Int) ++ [(((piecesR prev (WR.hd :: l)).length : Nat) : Int)])) ((WR.hd :: l).length + 9) (by rw [← hFr]; exact (List.map_map (f := str) (g := fun s : ByteArray => s.data.toList) (l := ((segs (piecesR prev (WR.hd :: l)) 0 (([] : List Int) ++ [(((piecesR prev (WR.hd :: l)).length : Nat) : Int)])).map List.flatten))).trans (List.map_id _)) hRg (by omega) (by omega) (by rw [hRf]; exact chain_hd prev l) (by omega))) ?_
          rintro _ _ ⟨_, ⟨got, gv, e, off, c, hfin, rfl, rfl⟩, rfl⟩
          show WP _ _ _ _ _ _ _ (Own 44 6 gv got.length (flatOf WR.cells got) :: Cel 0 0 (.iface 123 (.pointer (some ep))) :: Seq u ((((segs (piecesR prev (WR.hd :: l)) 0 (([] : List Int) ++ [(((piecesR prev (WR.hd :: l)).length : Nat) : Int)])).map List.flatten).map str).length) ((((segs (piecesR prev (WR.hd :: l)) 0 (([] : List Int) ++ [(((piecesR prev (WR.hd :: l)).length : Nat) : Int)])).map List.flatten).map str).map Value.string) :: Ro (Blk g5 ((piecesR prev (WR.hd :: l)).map strv ++ spg5) Tg5) :: Blk g1 (flatOf WR.cells (WR.hd :: l) ++ spg1) 44 :: Blk g4 (flatOf icell (([] : List Int) ++ [(((piecesR prev (WR.hd :: l)).length : Nat) : Int)]) ++ spg4) 3 :: A :: F)
          refine WP.fact (fun w h => own_oneCell h) (fun onegv => ?_)
          obtain ⟨hc1, ho1, hcase⟩ := hfin
          rw [hRf] at ho1 hcase hc1
          obtain ⟨hgk, rfl, hoff, rfl⟩ : got.length = (WR.hd :: l).length ∧ e = 1 ∧ off = (frames xs).length ∧ c = (WR.hd :: l).foldl stepL prev := by
            rcases hcase with ⟨a1, a2, a3, a4⟩ | ⟨a1, a2, a3, a4⟩
            · exfalso; omega
            · refine ⟨by omega, a3, by rw [a4, hlF], ?_⟩
              rw [hc1, a1, List.take_length]; exact hlc
          rw [hgk, ← hrlen, List.take_length] at ho1
          refine WP.eff rfl rfl rfl (Eff.alloc rfl Ty.z31) ?_
          rintro _ _ ⟨b8, rfl, rfl⟩
          refine WP.eff0 rfl rfl (Eff.storeAgg (cs := [gv, .int .i64 1, .int .i64 (((off : Nat) : Int)), .int .u32 (((WR.hd :: l).foldl stepL prev))]) (C' := [gv, .int .i64 1, .int .i64 (((off : Nat) : Int)), .int .u32 (((WR.hd :: l).foldl stepL prev))]) rfl Ty.ag31 rfl rfl rfl (by simp only [List.all_cons, List.all_nil, Bool.and_true, oc_int, oc_str, oc_bool, oc_ptr, oc_slice, oc_iface, oc_map, onegv]) (by simp) rfl) ?_
          rintro _ _ rfl
          refine WP.nil ?_
          refine Out.next ?_
          refine WPc.seq ?_
          refine WPc.perm pl1 ?_
          refine WPc.conv (fun w h => Sat.seqMk h) ?_
          show WPc _ _ _ _ _ _ (Seq gv got.length (flatOf WR.cells got) :: Blk b8 [gv, .int .i64 1, .int .i64 (((off : Nat) : Int)), .int .u32 (((WR.hd :: l).foldl stepL prev))] 31 :: Cel 0 0 (.iface 123 (.pointer (some ep))) :: Seq u ((((segs (piecesR prev (WR.hd :: l)) 0 (([] : List Int) ++ [(((piecesR prev (WR.hd :: l)).length : Nat) : Int)])).map List.flatten).map str).length) ((((segs (piecesR prev (WR.hd :: l)) 0 (([] : List Int) ++ [(((piecesR prev (WR.hd :: l)).length : Nat) : Int)])).map List.flatten).map str).map Value.string) :: Ro (Blk g5 ((piecesR prev (WR.hd :: l)).map strv ++ spg5) Tg5) :: Blk g1 (flatOf WR.cells (WR.hd :: l) ++ spg1) 44 :: Blk g4 (flatOf icell (([] : List Int) ++ [(((piecesR prev (WR.hd :: l)).length : Nat) : Int)]) ++ spg4) 3 :: A :: F)
          refine WPc.perm pl3 ?_
          refine WPc.open (fun w h => h.seqOpen (by omega)) ?_
          rintro ⟨g9, cg9, spg9, Tg9⟩
          refine WPc.pure (fun hvg9 => ?_)
          refine WPc.know 11 (.slice (some ⟨g9, 0, none⟩) ((((segs (piecesR prev (WR.hd :: l)) 0 (([] : List Int) ++ [(((piecesR prev (WR.hd :: l)).length : Nat) : Int)])).map List.flatten).map str).length) cg9) rfl hvg9.1 ?_
          show WPc _ _ _ _ _ _ (Ro (Blk g9 ((((segs (piecesR prev (WR.hd :: l)) 0 (([] : List Int) ++ [(((piecesR prev (WR.hd :: l)).length : Nat) : Int)])).map List.flatten).map str).map Value.string ++ spg9) Tg9) :: Seq u ((((segs (piecesR prev (WR.hd :: l)) 0 (([] : List Int) ++ [(((piecesR prev (WR.hd :: l)).length : Nat) : Int)])).map List.flatten).map str).length) ((((segs (piecesR prev (WR.hd :: l)) 0 (([] : List Int) ++ [(((piecesR prev (WR.hd :: l)).length : Nat) : Int)])).map List.flatten).map str).map Value.string) :: Seq gv got.length (flatOf WR.cells got) :: Blk b8 [gv, .int .i64 1, .int .i64 (((off : Nat) : Int)), .int .u32 (((WR.hd :: l).foldl stepL prev))] 31 :: Cel 0 0 (.iface 123 (.pointer (some ep))) :: Ro (Blk g5 ((piecesR prev (WR.hd :: l)).map strv ++ spg5) Tg5) :: Blk g1 (flatOf WR.cells (WR.hd :: l) ++ spg1) 44 :: Blk g4 (flatOf icell (([] : List Int) ++ [(((piecesR prev (WR.hd :: l)).length : Nat) : Int)]) ++ spg4) 3 :: A :: F)
          refine WPD.start (Sat W (Ro (Blk g9 ((((segs (piecesR prev (WR.hd :: l)) 0 (([] : List Int) ++ [(((piecesR prev (WR.hd :: l)).length : Nat) : Int)])).map List.flatten).map str).map Value.string ++ spg9) Tg9) :: Seq u ((((segs (piecesR prev (WR.hd :: l)) 0 (([] : List Int) ++ [(((piecesR prev (WR.hd :: l)).length : Nat) : Int)])).map List.flatten).map str).length) ((((segs (piecesR prev (WR.hd :: l)) 0 (([] : List Int) ++ [(((piecesR prev (WR.hd :: l)).length : Nat) : Int)])).map List.flatten).map str).map Value.string) :: Seq gv got.length (flatOf WR.cells got) :: Blk b8 [gv, .int .i64 1, .int .i64 (((off : Nat) : Int)), .int .u32 (((WR.hd :: l).foldl stepL prev))] 31 :: Cel 0 0 (.iface 123 (.pointer (some ep))) :: Ro (Blk g5 ((piecesR prev (WR.hd :: l)).map strv ++ spg5) Tg5) :: Blk g1 (flatOf WR.cells (WR.hd :: l) ++ spg1) 44 :: Blk g4 (flatOf icell (([] : List Int) ++ [(((piecesR prev (WR.hd :: l)).length : Nat) : Int)]) ++ spg4) 3 :: A :: F)) Ty.mixed ?_
          refine WPD.takeM 0 rfl rfl rfl rfl (by kernel_rfl) (by kernel_rfl) (by kernel_rfl) (by kernel_rfl) (fun _ _ _ h => h) (fun _ h => h) (Val.fieldAddr (j := 0) rfl Ty.fo31_0 rfl rfl) ?_
          refine WPD.take 1 rfl rfl rfl rfl (by kernel_rfl) (by kernel_rfl) (by kernel_rfl) (by kernel_rfl) (fun _ _ _ h => h) (by kernel_rfl) (fun _ h => h) (Val.load rfl Ty.sc23 rfl (fun w h => h.cell 3 rfl rfl)) ?_
          refine WPD.takeM 2 rfl rfl rfl rfl (by kernel_rfl) (by kernel_rfl) (by kernel_rfl) (by kernel_rfl) (fun _ _ _ h => h) (fun _ h => h) (Val.move rfl rfl) ?_
          refine WPD.takeM 3 rfl rfl rfl rfl (by kernel_rfl) (by kernel_rfl) (by kernel_rfl) (by kernel_rfl) (fun _ _ _ h => h) (fun _ h => h) (Val.move rfl rfl) ?_
          refine WPD.perm pl6 ?_
          refine WPD.perm pl3 ?_
          refine WPD.stepC 4 (by kernel_rfl) rfl rfl rfl rfl (by kernel_rfl) (Eff.call rfl rfl Tryd.call12 (same_row (Blk g1 (flatOf WR.cells (WR.hd :: l) ++ spg1) 44) gv got (WR.hd :: l) prev ho1 hd (by omega) g1 0 cg1 rd_blkW)) ?_
          rintro _ _ ⟨_, ⟨rfl, rfl⟩, rfl⟩
          refine ⟨(Sat W [Blk b8 [gv, .int .i64 1, .int .i64 (((off : Nat) : Int)), .int .u32 (((WR.hd :: l).foldl stepL prev))] 31, Ro (Blk g9 ((((segs (piecesR prev (WR.hd :: l)) 0 (([] : List Int) ++ [(((piecesR prev (WR.hd :: l)).length : Nat) : Int)])).map List.flatten).map str).map Value.string ++ spg9) Tg9)]), (fun w h => (((h.perm pl2).perm pl4)).dropEnd (L := [_, _])), ?_⟩
          show WPD _ _ _ _ _ _ _ _ _ (Seq gv got.length (flatOf WR.cells got) :: Blk g1 (flatOf WR.cells (WR.hd :: l) ++ spg1) 44 :: Ro (Blk g9 ((((segs (piecesR prev (WR.hd :: l)) 0 (([] : List Int) ++ [(((piecesR prev (WR.hd :: l)).length : Nat) : Int)])).map List.flatten).map str).map Value.string ++ spg9) Tg9) :: Seq u ((((segs (piecesR prev (WR.hd :: l)) 0 (([] : List Int) ++ [(((piecesR prev (WR.hd :: l)).length : Nat) : Int)])).map List.flatten).map str).length) ((((segs (piecesR prev (WR.hd :: l)) 0 (([] : List Int) ++ [(((piecesR prev (WR.hd :: l)).length : Nat) : Int)])).map List.flatten).map str).map Value.string) :: Blk b8 [gv, .int .i64 1, .int .i64 (((off : Nat) : Int)), .int .u32 (((WR.hd :: l).foldl stepL prev))] 31 :: Cel 0 0 (.iface 123 (.pointer (some ep))) :: Ro (Blk g5 ((piecesR prev (WR.hd :: l)).map strv ++ spg5) Tg5) :: Blk g4 (flatOf icell (([] : List Int) ++ [(((piecesR prev (WR.hd :: l)).length : Nat) : Int)]) ++ spg4) 3 :: A :: F)
          refine WPD.takeM 5 rfl rfl rfl rfl (by kernel_rfl) (by kernel_rfl) (by kernel_rfl) (by kernel_rfl) (fun _ _ _ h => h) (fun w h => (((h.perm pl2).perm pl4)).dropEnd (L := [_, _])) (Val.move rfl rfl) ?_
          refine WPD.takeGM 6 rfl rfl rfl rfl rfl rfl rfl rfl (by kernel_rfl) (by kernel_rfl) (by kernel_rfl) (by kernel_rfl) (fun _ _ _ h => h) (fun w h => (((h.perm pl2).perm pl4)).dropEnd (L := [_, _])) (Val.fieldAddr (j := 1) rfl Ty.fo31_1 rfl rfl) ?_
          refine WPD.takeG 7 rfl rfl rfl rfl rfl rfl rfl rfl (by kernel_rfl) (by kernel_rfl) (by kernel_rfl) (by kernel_rfl) (fun _ _ _ h => h) (by kernel_rfl) (fun w h => (((h.perm pl2).perm pl4)).dropEnd (L := [_, _])) (Val.load rfl Ty.sc3 rfl (fun w h => h.cell 0 rfl rfl)) ?_
          refine WPD.takeGM 8 rfl rfl rfl rfl rfl rfl rfl rfl (by kernel_rfl) (by kernel_rfl) (by kernel_rfl) (by kernel_rfl) (fun _ _ _ h => h) (fun w h => (((h.perm pl2).perm pl4)).dropEnd (L := [_, _])) (Val.eqlK rfl rfl rfl rfl) ?_
          refine WPD.takeM 9 rfl rfl rfl rfl (by kernel_rfl) (by kernel_rfl) (by kernel_rfl) (by kernel_rfl) (fun _ _ _ h => h) (fun w h => (((h.perm pl2).perm pl4)).dropEnd (L := [_, _])) (Val.pickT rfl rfl rfl) ?_
          refine WPD.takeM 10 rfl rfl rfl rfl (by kernel_rfl) (by kernel_rfl) (by kernel_rfl) (by kernel_rfl) (fun _ _ _ h => h) (fun w h => (((h.perm pl2).perm pl4)).dropEnd (L := [_, _])) (Val.move rfl rfl) ?_
          refine WPD.takeGM 11 rfl rfl rfl rfl rfl rfl rfl rfl (by kernel_rfl) (by kernel_rfl) (by kernel_rfl) (by kernel_rfl) (fun _ _ _ h => h) (fun w h => (((h.perm pl2).perm pl4)).dropEnd (L := [_, _])) (Val.fieldAddr (j := 2) rfl Ty.fo31_2 rfl rfl) ?_
          refine WPD.takeG 12 rfl rfl rfl rfl rfl rfl rfl rfl (by kernel_rfl) (by kernel_rfl) (by kernel_rfl) (by kernel_rfl) (fun _ _ _ h => h) (by kernel_rfl) (fun w h => (((h.perm pl2).perm pl4)).dropEnd (L := [_, _])) (Val.load rfl Ty.sc2 rfl (fun w h => h.cell 0 rfl rfl)) ?_
          refine WPD.takeGM 13 rfl rfl rfl rfl rfl rfl rfl rfl (by kernel_rfl) (by kernel_rfl) (by kernel_rfl) (by kernel_rfl) (fun _ _ _ h => h) (fun w h => (((h.perm pl2).perm pl4)).dropEnd (L := [_, _])) (Val.move rfl rfl) ?_
          refine WPD.takeGM 14 rfl rfl rfl rfl rfl rfl rfl rfl (by kernel_rfl) (by kernel_rfl) (by kernel_rfl) (by kernel_rfl) (fun _ _ _ h => h) (fun w h => (((h.perm pl2).perm pl4)).dropEnd (L := [_, _])) (Val.move rfl rfl) ?_
          refine WPD.takeG 15 rfl rfl rfl rfl rfl rfl rfl rfl (by kernel_rfl) (by kernel_rfl) (by kernel_rfl) (by kernel_rfl) (fun _ _ _ h => h) (by kernel_rfl) (fun w h => (((h.perm pl2).perm pl4)).dropEnd (L := [_, _])) (Val.len rfl Ty.sl27 rfl) ?_
          refine WPD.takeGM 16 rfl rfl rfl rfl rfl rfl rfl rfl (by kernel_rfl) (by kernel_rfl) (by kernel_rfl) (by kernel_rfl) (fun _ _ _ h => h) (fun w h => (((h.perm pl2).perm pl4)).dropEnd (L := [_, _])) (Val.sub (z := ((((((segs (piecesR prev (WR.hd :: l)) 0 (([] : List Int) ++ [(((piecesR prev (WR.hd :: l)).length : Nat) : Int)])).map List.flatten).map str).length) - 1 : Nat) : Int)) rfl rfl rfl ((w64 (by omega) (by omega)).trans (by omega))) ?_
          refine WPD.takeGM 17 rfl rfl rfl rfl rfl rfl rfl rfl (by kernel_rfl) (by kernel_rfl) (by kernel_rfl) (by kernel_rfl) (fun _ _ _ h => h) (fun w h => (((h.perm pl2).perm pl4)).dropEnd (L := [_, _])) (Val.indexAddr (j := ((((segs (piecesR prev (WR.hd :: l)) 0 (([] : List Int) ++ [(((piecesR prev (WR.hd :: l)).length : Nat) : Int)])).map List.flatten).map str).length) - 1) (q := ((((segs (piecesR prev (WR.hd :: l)) 0 (([] : List Int) ++ [(((piecesR prev (WR.hd :: l)).length : Nat) : Int)])).map List.flatten).map str).length) - 1) rfl Ty.sl27 rfl rfl (by omega) (by omega) (by omega)) ?_
          refine WPD.takeG 18 rfl rfl rfl rfl rfl rfl rfl rfl (by kernel_rfl) (by kernel_rfl) (by kernel_rfl) (by kernel_rfl) (fun _ _ _ h => h) (by kernel_rfl) (fun w h => (((h.perm pl2).perm pl4)).dropEnd (L := [_, _])) (Val.load (v := .string (str (frames xs))) rfl Ty.sc9 rfl (fun w h => h.cellRo 1 rfl (by rw [← hsm, hsn1]; exact strv_at hxf _))) ?_
          refine WPD.takeG 19 rfl rfl rfl rfl rfl rfl rfl rfl (by kernel_rfl) (by kernel_rfl) (by kernel_rfl) (by kernel_rfl) (fun _ _ _ h => h) (by kernel_rfl) (fun w h => (((h.perm pl2).perm pl4)).dropEnd (L := [_, _])) (Val.lenL rfl Ty.st9 rfl) ?_
          refine WPD.takeGM 20 rfl rfl rfl rfl rfl rfl rfl rfl (by kernel_rfl) (by kernel_rfl) (by kernel_rfl) (by kernel_rfl) (fun _ _ _ h => h) (fun w h => (((h.perm pl2).perm pl4)).dropEnd (L := [_, _])) (Val.eql rfl rfl rfl) ?_
          refine WPD.takeM 21 rfl rfl rfl rfl (by kernel_rfl) (by kernel_rfl) (by kernel_rfl) (by kernel_rfl) (fun _ _ _ h => h) (fun w h => (((h.perm pl2).perm pl4)).dropEnd (L := [_, _])) (Val.pickT rfl rfl rfl) ?_
          refine WPD.takeM 22 rfl rfl rfl rfl (by kernel_rfl) (by kernel_rfl) (by kernel_rfl) (by kernel_rfl) (fun _ _ _ h => h) (fun w h => (((h.perm pl2).perm pl4)).dropEnd (L := [_, _])) (Val.move rfl rfl) ?_
          refine WPD.split 119 rfl (fun h5 => ?_) (fun h5 => ?_)
          · skip
            have h5 : (((off : Nat) : Int) = (((frames xs).length : Nat) : Int)) := h5
            refine WPD.takeGM 23 rfl rfl rfl rfl rfl rfl rfl rfl (by kernel_rfl) (by kernel_rfl) (by kernel_rfl) (by kernel_rfl) (fun _ _ _ h => h) (fun w h => (((h.perm pl2).perm pl4)).dropEnd (L := [_, _])) (Val.fieldAddr (j := 3) rfl Ty.fo31_3 rfl rfl) ?_
            refine WPD.takeG 24 rfl rfl rfl rfl rfl rfl rfl rfl (by kernel_rfl) (by kernel_rfl) (by kernel_rfl) (by kernel_rfl) (fun _ _ _ h => h) (by kernel_rfl) (fun w h => (((h.perm pl2).perm pl4)).dropEnd (L := [_, _])) (Val.load rfl Ty.sc22 rfl (fun w h => h.cell 0 rfl rfl)) ?_
            refine WPD.takeGM 25 rfl rfl rfl rfl rfl rfl rfl rfl (by kernel_rfl) (by kernel_rfl) (by kernel_rfl) (by kernel_rfl) (fun _ _ _ h => h) (fun w h => (((h.perm pl2).perm pl4)).dropEnd (L := [_, _])) (Val.move rfl rfl) ?_
            refine WPD.takeGM 26 rfl rfl rfl rfl rfl rfl rfl rfl (by kernel_rfl) (by kernel_rfl) (by kernel_rfl) (by kernel_rfl) (fun _ _ _ h => h) (fun w h => (((h.perm pl2).perm pl4)).dropEnd (L := [_, _])) (Val.move rfl rfl) ?_
            refine WPD.perm pl1 ?_
            refine WPD.stepG 27 (by kernel_rfl) rfl rfl rfl rfl rfl rfl rfl rfl (Eff.call rfl rfl Tryd.call14 (walast_row (Blk g1 (flatOf WR.cells (WR.hd :: l) ++ spg1) 44) prev (WR.hd :: l) hd (by omega) g1 0 cg1 rd_blkW)) ?_
            rintro _ _ ⟨_, ⟨rfl, rfl⟩, rfl⟩
            refine ⟨(fun w h => (((h.perm pl2).perm pl4)).dropEnd (L := [_, _])), ?_⟩
            show WPD _ _ _ _ _ _ _ _ _ (Blk g1 (flatOf WR.cells (WR.hd :: l) ++ spg1) 44 :: Seq gv got.length (flatOf WR.cells got) :: Ro (Blk g9 ((((segs (piecesR prev (WR.hd :: l)) 0 (([] : List Int) ++ [(((piecesR prev (WR.hd :: l)).length : Nat) : Int)])).map List.flatten).map str).map Value.string ++ spg9) Tg9) :: Seq u ((((segs (piecesR prev (WR.hd :: l)) 0 (([] : List Int) ++ [(((piecesR prev (WR.hd :: l)).length : Nat) : Int)])).map List.flatten).map str).length) ((((segs (piecesR prev (WR.hd :: l)) 0 (([] : List Int) ++ [(((piecesR prev (WR.hd :: l)).length : Nat) : Int)])).map List.flatten).map str).map Value.string) :: Blk b8 [gv, .int .i64 1, .int .i64 (((off : Nat) : Int)), .int .u32 (((WR.hd :: l).foldl stepL prev))] 31 :: Cel 0 0 (.iface 123 (.pointer (some ep))) :: Ro (Blk g5 ((piecesR prev (WR.hd :: l)).map strv ++ spg5) Tg5) :: Blk g4 (flatOf icell (([] : List Int) ++ [(((piecesR prev (WR.hd :: l)).length : Nat) : Int)]) ++ spg4) 3 :: A :: F)
            refine WPD.takeGM 28 rfl rfl rfl rfl rfl rfl rfl rfl (by kernel_rfl) (by kernel_rfl) (by kernel_rfl) (by kernel_rfl) (fun _ _ _ h => h) (fun w h => (((h.perm pl2).perm pl4)).dropEnd (L := [_, _])) (Val.eql rfl rfl rfl) ?_
            refine WPD.takeM 29 rfl rfl rfl rfl (by kernel_rfl) (by kernel_rfl) (by kernel_rfl) (by kernel_rfl) (fun _ _ _ h => h) (fun w h => (((h.perm pl2).perm pl4)).dropEnd (L := [_, _])) (Val.pickT rfl rfl rfl) ?_
            refine WPD.takeM 30 rfl rfl rfl rfl (by kernel_rfl) (by kernel_rfl) (by kernel_rfl) (by kernel_rfl) (fun _ _ _ h => h) (fun w h => (((h.perm pl2).perm pl4)).dropEnd (L := [_, _])) (Val.assign rfl rfl) ?_
            refine WPD.done (by kernel_rfl) ?_
            refine Out.next ?_
            refine WPc.ret ?_
            refine Out.drop ?_
            refine Out.drop ?_
            refine Out.drop ?_
            refine Out.drop ?_
            refine Out.drop ?_
            refine Out.drop ?_
            refine Out.drop ?_
            refine Out.drop ?_
            exact Out.ret1 (L' := _) Tryd.results4 rfl ⟨by simp, rfl⟩ (fun _ h => h)
          · skip
            have h5 : ¬ (((off : Nat) : Int) = (((frames xs).length : Nat) : Int)) := h5
            exfalso; omega
set_option maxRecDepth 100000 in
set_option maxHeartbeats 2000000 in
theorem files_row (A : HProp) (ep : Addr) (prev : Int) (l : List WR) (va : Value) (hva : Rd A 6 WR.cells va l) (hlen : l.length ≤ 9223372036854775807) (hwf : ∀ x ∈ l, WfR x) (le : List Int) (hle : le.length ≤ 9223372036854775807) (b1 o1 c1 : Nat) (hre : ∀ w, Holds A w → ∀ i x, le[i]? = some x → w.rangeAt b1 (o1 + i * 1) (icell x)) : Does Tryd.prog 4 [.int .u32 (prev), va, .slice (some ⟨b1, o1, none⟩) le.length c1] [A, Cel 0 0 (.iface 123 (.pointer (some ep)))] (fun v L => v = .bool true ∧ L = [A]) := by
  refine Does.enter 127 Tryd.func4 rfl rfl rfl fun W F => ?_
  show WPc _ _ _ _ _ [(0, .int .u32 (prev)), (1, va), (2, .slice (some ⟨b1, o1, none⟩) le.length c1)] (A :: Cel 0 0 (.iface 123 (.pointer (some ep))) :: F)
  refine WPc.seq ?_
  refine WPc.region ?_
  refine WP.val rfl rfl rfl (Val.assign rfl rfl) ?_
  refine WP.nil ?_
  refine Out.next ?_
  refine WPc.seq ?_
  refine WPc.seq ?_
  refine WPc.region ?_
  refine WP.val rfl rfl rfl (Val.move rfl rfl) ?_
  refine WP.eff rfl rfl rfl (Eff.call rfl rfl Tryd.call6 (fits39_spec A l hlen va hva)) ?_
  rintro _ _ ⟨_, ⟨fb, rfl, rfl⟩, rfl⟩
  show WP _ _ _ _ _ _ _ (A :: Cel 0 0 (.iface 123 (.pointer (some ep))) :: F)
  refine WP.val rfl rfl rfl (Val.not rfl rfl) ?_
  refine WP.val rfl rfl rfl (Val.move rfl rfl) ?_
  refine WP.splitB 19 rfl (fun h1 => ?_) (fun h1 => ?_)
  · skip
    refine WP.skip rfl rfl rfl rfl rfl rfl rfl ?_
    refine WP.skip rfl rfl rfl rfl rfl rfl rfl ?_
    refine WP.skip rfl rfl rfl rfl rfl rfl rfl ?_
    refine WP.val rfl rfl rfl (Val.pickT rfl rfl rfl) ?_
    refine WP.nil ?_
    refine Out.next ?_
    refine WPc.condT rfl rfl ?_
    refine WPc.seq ?_
    refine WPc.region ?_
    refine WP.val rfl rfl rfl (Val.assign rfl rfl) ?_
    refine WP.nil ?_
    refine Out.next ?_
    refine WPc.ret ?_
    refine Out.then_ret ?_
    refine Out.perm pl1 ?_
    refine Out.drop ?_
    exact Out.ret1 (L' := _) Tryd.results4 rfl ⟨rfl, rfl⟩ (fun _ h => h)
  · skip
    refine WP.valG rfl rfl rfl rfl rfl rfl rfl (Val.move rfl rfl) ?_
    refine WP.valG rfl rfl rfl rfl rfl rfl rfl (Val.len rfl Ty.sl36 rfl) ?_
    refine WP.valG rfl rfl rfl rfl rfl rfl rfl (Val.gtr rfl rfl rfl) ?_
    refine WP.val rfl rfl rfl (Val.pickF rfl rfl rfl) ?_
    refine WP.nil ?_
    refine Out.next ?_
    refine WPc.ifP rfl (fun h2 => ?_) (fun h2 => ?_)
    · skip
      have h2 : ((2147483647 : Int) < ((le.length : Nat) : Int)) := h2
      refine WPc.seq ?_
      refine WPc.region ?_
      refine WP.val rfl rfl rfl (Val.assign rfl rfl) ?_
      refine WP.nil ?_
      refine Out.next ?_
      refine WPc.ret ?_
      refine Out.then_ret ?_
      refine Out.perm pl1 ?_
      refine Out.drop ?_
      exact Out.ret1 (L' := _) Tryd.results4 rfl ⟨rfl, rfl⟩ (fun _ h => h)
    · skip
      have h2 : ¬ ((2147483647 : Int) < ((le.length : Nat) : Int)) := h2
      refine WPc.skip ?_
      refine Out.next ?_
      refine WPc.seq ?_
      refine WPc.seq ?_
      refine WPc.region ?_
      refine WP.val rfl rfl rfl (Val.move rfl rfl) ?_
      refine WP.eff rfl rfl rfl (Eff.call rfl rfl Tryd.call7 (wagood_spec A 0 l hlen va hva)) ?_
      rintro _ _ ⟨_, ⟨gb, rfl, hgb, rfl⟩, rfl⟩
      show WP _ _ _ _ _ _ _ (A :: Cel 0 0 (.iface 123 (.pointer (some ep))) :: F)
      refine WP.val rfl rfl rfl (Val.not rfl rfl) ?_
      refine WP.val rfl rfl rfl (Val.move rfl rfl) ?_
      refine WP.splitB 27 rfl (fun h3 => ?_) (fun h3 => ?_)
      · skip
        refine WP.skip rfl rfl rfl rfl rfl rfl rfl ?_
        refine WP.skip rfl rfl rfl rfl rfl rfl rfl ?_
        refine WP.skip rfl rfl rfl rfl rfl rfl rfl ?_
        refine WP.val rfl rfl rfl (Val.pickT rfl rfl rfl) ?_
        refine WP.nil ?_
        refine Out.next ?_
        refine WPc.condT rfl rfl ?_
        refine WPc.seq ?_
        refine WPc.region ?_
        refine WP.val rfl rfl rfl (Val.assign rfl rfl) ?_
        refine WP.nil ?_
        refine Out.next ?_
        refine WPc.ret ?_
        refine Out.then_ret ?_
        refine Out.perm pl1 ?_
        refine Out.drop ?_
        exact Out.ret1 (L' := _) Tryd.results4 rfl ⟨rfl, rfl⟩ (fun _ h => h)
      · skip
        refine WP.valG rfl rfl rfl rfl rfl rfl rfl (Val.move rfl rfl) ?_
        refine WP.valG rfl rfl rfl rfl rfl rfl rfl (Val.len rfl Ty.sl36 rfl) ?_
        refine WP.valG rfl rfl rfl rfl rfl rfl rfl (Val.gtr rfl rfl rfl) ?_
        refine WP.val rfl rfl rfl (Val.pickF rfl rfl rfl) ?_
        refine WP.nil ?_
        refine Out.next ?_
        refine WPc.ifP rfl (fun h4 => ?_) (fun h4 => ?_)
        · skip
          have h4 : ((8 : Int) < ((le.length : Nat) : Int)) := h4
          refine WPc.seq ?_
          refine WPc.region ?_
          refine WP.val rfl rfl rfl (Val.assign rfl rfl) ?_
          refine WP.nil ?_
          refine Out.next ?_
          refine WPc.ret ?_
          refine Out.then_ret ?_
          refine Out.perm pl1 ?_
          refine Out.drop ?_
          exact Out.ret1 (L' := _) Tryd.results4 rfl ⟨rfl, rfl⟩ (fun _ h => h)
        · skip
          have h4 : ¬ ((8 : Int) < ((le.length : Nat) : Int)) := h4
          refine WPc.skip ?_
          refine Out.next ?_
          refine WPc.seq ?_
          have hgt : gb = true := by simpa using (by assumption : (!gb) = false)
          obtain ⟨g1, g2, g3, g4⟩ := hgb hgt
          have hok := ok_all hwf g4
          have hgood : ∀ x ∈ (WR.hd :: l), WFine x := fun x hx => fine_of (hok x hx)
          have hd : ∀ x ∈ (WR.hd :: l), x.d.length ≤ 5000 := fun x hx => (hok x hx).2.2.1
          have hLl : (WR.hd :: l).length = l.length + 1 := rfl
          have hmax := pieces_le prev (WR.hd :: l) hd
          have hpos := pos_hd prev l
          have hplen := pieces_len prev (WR.hd :: l)
          have hrlen := rfs_len prev (WR.hd :: l)
          have hfr := frames_rfs (c := prev) hok
          have hrg := rfs_good prev (WR.hd :: l) hok
          have hEl : le.length ≤ 8 := by omega
          refine WPc.region ?_
          refine WP.val rfl rfl rfl (Val.move rfl rfl) ?_
          refine WP.eff rfl rfl rfl (Eff.call rfl rfl Tryd.call8 (headed_spec A l (by omega) va hva)) ?_
          rintro u1 _ ⟨_, ⟨_, rfl, rfl⟩, rfl⟩
          show WP _ _ _ _ _ _ _ (Own 44 6 u1 ((WR.hd :: l).length) (flatOf WR.cells (WR.hd :: l)) :: A :: Cel 0 0 (.iface 123 (.pointer (some ep))) :: F)
          refine WP.val rfl rfl rfl (Val.assign rfl rfl) ?_
          refine WP.nil ?_
          refine Out.next ?_
          refine WPc.seq ?_
          refine WPc.open (fun w h => h.ownPos (by rw [hLl]; omega)) ?_
          rintro ⟨g1, cg1, spg1⟩
          refine WPc.pure (fun hvg1 => ?_)
          obtain ⟨rfl, hng1, hlg1, hsg1, hcg1⟩ := hvg1
          dsimp only at hng1 hlg1 hsg1 hcg1
          show WPc _ _ _ _ _ _ (Blk g1 (flatOf WR.cells (WR.hd :: l) ++ spg1) 44 :: A :: Cel 0 0 (.iface 123 (.pointer (some ep))) :: F)
          refine WPc.know 1 (.slice (some ⟨g1, 0, none⟩) (WR.hd :: l).length cg1) rfl rfl ?_
          refine WPc.region ?_
          refine WP.val rfl rfl rfl (Val.move rfl rfl) ?_
          refine WP.val rfl rfl rfl (Val.move rfl rfl) ?_
          refine WP.eff rfl rfl rfl (Eff.call rfl rfl Tryd.call9 (pieces_spec (Blk g1 (flatOf WR.cells (WR.hd :: l) ++ spg1) 44) prev (WR.hd :: l) hgood hd (by omega) hpos (by omega) _ (.inl ⟨g1, 0, cg1, rfl, rd_blkW⟩))) ?_
          rintro _ _ ⟨_, ⟨pv, rfl, rfl⟩, rfl⟩
          show WP _ _ _ _ _ _ _ (Own 9 1 pv ((piecesR prev (WR.hd :: l)).length) ((piecesR prev (WR.hd :: l)).map strv) :: Blk g1 (flatOf WR.cells (WR.hd :: l) ++ spg1) 44 :: A :: Cel 0 0 (.iface 123 (.pointer (some ep))) :: F)
          refine WP.val rfl rfl rfl (Val.move rfl rfl) ?_
          refine WP.val rfl rfl rfl (Val.extract rfl rfl rfl) ?_
          refine WP.val rfl rfl rfl (Val.extract rfl rfl rfl) ?_
          refine WP.val rfl rfl rfl (Val.assign rfl rfl) ?_
          refine WP.val rfl rfl rfl (Val.assign rfl rfl) ?_
          refine WP.nil ?_
          refine Out.next ?_
          refine WPc.seq ?_
          refine WPc.seq ?_
          refine WPc.region ?_
          refine WP.val rfl rfl rfl (Val.move rfl rfl) ?_
          refine WP.val rfl rfl rfl (Val.not rfl rfl) ?_
          refine WP.nil ?_
          refine Out.next ?_
          refine WPc.condF rfl rfl ?_
          refine WPc.skip ?_
          refine Out.next ?_
          refine WPc.seq ?_
          refine WPc.seq ?_
          refine WPc.conv (fun w h => Sat.seqMk h) ?_
          show WPc _ _ _ _ _ _ (Seq pv ((piecesR prev (WR.hd :: l)).length) ((piecesR prev (WR.hd :: l)).map strv) :: Blk g1 (flatOf WR.cells (WR.hd :: l) ++ spg1) 44 :: A :: Cel 0 0 (.iface 123 (.pointer (some ep))) :: F)
          refine WPc.region ?_
          refine WP.val rfl rfl rfl (Val.move rfl rfl) ?_
          refine WP.val rfl rfl rfl (Val.len rfl Ty.sl36 rfl) ?_
          refine WP.val rfl rfl rfl (Val.move rfl rfl) ?_
          refine WP.nil ?_
          refine Out.next ?_
          refine WPc.block ?_
          refine WPc.loop (ι := Nat) (fun i => i ≤ le.length ∧ Rising (((piecesR prev (WR.hd :: l)).length : Nat) : Int) 0 (le.take i)) (fun i => [(0, .int .u32 (prev)), (1, .slice (some ⟨g1, 0, none⟩) ((WR.hd :: l).length) cg1), (2, .slice (some ⟨b1, o1, none⟩) le.length c1), (7, pv), (42, .slice (some ⟨b1, o1, none⟩) le.length c1), (43, .int .i64 (((le.length : Nat) : Int))), (44, .int .i64 (((i : Nat) : Int)))]) (fun i => Seq pv ((piecesR prev (WR.hd :: l)).length) ((piecesR prev (WR.hd :: l)).map strv) :: Blk g1 (flatOf WR.cells (WR.hd :: l) ++ spg1) 44 :: A :: Cel 0 0 (.iface 123 (.pointer (some ep))) :: F) (fun i => le.length - i) 0 ⟨Nat.zero_le _, True.intro⟩ ((Sub.cons rfl (Sub.cons rfl (Sub.cons rfl (Sub.cons rfl (Sub.cons rfl (Sub.cons rfl (Sub.cons rfl Sub.nil)))))))) (fun _ h => h) ?_
          rintro i ⟨hi, hri⟩
          show WPc _ _ _ _ _ [(0, .int .u32 (prev)), (1, .slice (some ⟨g1, 0, none⟩) ((WR.hd :: l).length) cg1), (2, .slice (some ⟨b1, o1, none⟩) le.length c1), (7, pv), (42, .slice (some ⟨b1, o1, none⟩) le.length c1), (43, .int .i64 (((le.length : Nat) : Int))), (44, .int .i64 (((i : Nat) : Int)))] (Seq pv ((piecesR prev (WR.hd :: l)).length) ((piecesR prev (WR.hd :: l)).map strv) :: Blk g1 (flatOf WR.cells (WR.hd :: l) ++ spg1) 44 :: A :: Cel 0 0 (.iface 123 (.pointer (some ep))) :: F)
          refine WPc.seq ?_
          refine WPc.region ?_
          refine WP.val rfl rfl rfl (Val.lss rfl rfl rfl) ?_
          refine WP.nil ?_
          refine Out.next ?_
          refine WPc.seq ?_
          refine WPc.ifP rfl (fun h5 => ?_) (fun h5 => ?_)
          · skip
            have h5 : (((i : Nat) : Int) < ((le.length : Nat) : Int)) := h5
            refine WPc.skip ?_
            refine Out.next ?_
            refine WPc.seq ?_
            refine WPc.block ?_
            refine WPc.seq ?_
            have hlt : i < le.length := by omega
            obtain ⟨x, hx⟩ : ∃ x, le[i]? = some x := ⟨_, List.getElem?_eq_getElem hlt⟩
            obtain ⟨y, hy⟩ : ∃ y, 0 < i → le[i - 1]? = some y := by
              by_cases h0 : 0 < i
              · exact ⟨le[i - 1]'(by omega), fun _ => List.getElem?_eq_getElem (by omega)⟩
              · exact ⟨0, fun h => absurd h h0⟩
            refine WPc.region ?_
            refine WP.val rfl rfl rfl (Val.move rfl rfl) ?_
            refine WP.val rfl rfl rfl (Val.indexAddr (j := i) (q := o1 + i) rfl Ty.sl36 rfl rfl (by omega) (by omega) (by omega)) ?_
            refine WP.val rfl rfl rfl (Val.load (v := .int .i64 (x)) rfl Ty.sc3 rfl (fun w h => (by have h2 := hre w (h.at 2 rfl) i x hx 0 _ rfl; rwa [Nat.mul_one] at h2))) ?_
            refine WP.val rfl rfl rfl (Val.assign rfl rfl) ?_
            refine WP.val rfl rfl rfl (Val.assign rfl rfl) ?_
            refine WP.nil ?_
            refine Out.next ?_
            refine WPc.seq ?_
            refine WPc.region ?_
            refine WP.val rfl rfl rfl (Val.move rfl rfl) ?_
            refine WP.val rfl rfl rfl (Val.lss rfl rfl rfl) ?_
            refine WP.val rfl rfl rfl (Val.move rfl rfl) ?_
            refine WP.split 51 rfl (fun h6 => ?_) (fun h6 => ?_)
            · skip
              have h6 : (x < (0 : Int)) := h6
              refine WP.skip rfl rfl rfl rfl rfl rfl rfl ?_
              refine WP.skip rfl rfl rfl rfl rfl rfl rfl ?_
              refine WP.skip rfl rfl rfl rfl rfl rfl rfl ?_
              refine WP.skip rfl rfl rfl rfl rfl rfl rfl ?_
              refine WP.val rfl rfl rfl (Val.pickT rfl rfl rfl) ?_
              refine WP.val rfl rfl rfl (Val.move rfl rfl) ?_
              refine WP.skip rfl rfl rfl rfl rfl rfl rfl ?_
              refine WP.skip rfl rfl rfl rfl rfl rfl rfl ?_
              refine WP.skip rfl rfl rfl rfl rfl rfl rfl ?_
              refine WP.skipU rfl rfl rfl rfl rfl rfl ?_
              refine WP.skipU rfl rfl rfl rfl rfl rfl ?_
              refine WP.skipU rfl rfl rfl rfl rfl rfl ?_
              refine WP.skipU rfl rfl rfl rfl rfl rfl ?_
              refine WP.skipU rfl rfl rfl rfl rfl rfl ?_
              refine WP.skipU rfl rfl rfl rfl rfl rfl ?_
              refine WP.skipU rfl rfl rfl rfl rfl rfl ?_
              refine WP.skip rfl rfl rfl rfl rfl rfl rfl ?_
              refine WP.val rfl rfl rfl (Val.pickT rfl rfl rfl) ?_
              refine WP.nil ?_
              refine Out.next ?_
              refine WPc.condT rfl rfl ?_
              refine WPc.seq ?_
              refine WPc.region ?_
              refine WP.val rfl rfl rfl (Val.assign rfl rfl) ?_
              refine WP.nil ?_
              refine Out.next ?_
              refine WPc.ret ?_
              refine Out.block_ret ?_
              refine Out.then_ret ?_
              refine Out.then_ret ?_
              refine Out.block_ret ?_
              refine Out.then_ret ?_
              refine Out.drop ?_
              refine Out.drop ?_
              refine Out.perm pl1 ?_
              refine Out.drop ?_
              exact Out.ret1 (L' := _) Tryd.results4 rfl ⟨rfl, rfl⟩ (fun _ h => h)
            · skip
              have h6 : ¬ (x < (0 : Int)) := h6
              refine WP.valG rfl rfl rfl rfl rfl rfl rfl (Val.move rfl rfl) ?_
              refine WP.valG rfl rfl rfl rfl rfl rfl rfl (Val.move rfl rfl) ?_
              refine WP.valG rfl rfl rfl rfl rfl rfl rfl (Val.lenSeq rfl Ty.sl27 rfl (fun w h => h.at 0 rfl)) ?_
              refine WP.valG rfl rfl rfl rfl rfl rfl rfl (Val.gtr rfl rfl rfl) ?_
              refine WP.val rfl rfl rfl (Val.pickF rfl rfl rfl) ?_
              refine WP.val rfl rfl rfl (Val.move rfl rfl) ?_
              refine WP.split 57 rfl (fun h7 => ?_) (fun h7 => ?_)
              · skip
                have h7 : ((((piecesR prev (WR.hd :: l)).length : Nat) : Int) < x) := h7
                refine WP.skip rfl rfl rfl rfl rfl rfl rfl ?_
                refine WP.skip rfl rfl rfl rfl rfl rfl rfl ?_
                refine WP.skip rfl rfl rfl rfl rfl rfl rfl ?_
                refine WP.skipU rfl rfl rfl rfl rfl rfl ?_
                refine WP.skipU rfl rfl rfl rfl rfl rfl ?_
                refine WP.skipU rfl rfl rfl rfl rfl rfl ?_
                refine WP.skipU rfl rfl rfl rfl rfl rfl ?_
                refine WP.skipU rfl rfl rfl rfl rfl rfl ?_
                refine WP.skipU rfl rfl rfl rfl rfl rfl ?_
                refine WP.skipU rfl rfl rfl rfl rfl rfl ?_
                refine WP.skip rfl rfl rfl rfl rfl rfl rfl ?_
                refine WP.val rfl rfl rfl (Val.pickT rfl rfl rfl) ?_
                refine WP.nil ?_
                refine Out.next ?_
                refine WPc.condT rfl rfl ?_
                refine WPc.seq ?_
                refine WPc.region ?_
                refine WP.val rfl rfl rfl (Val.assign rfl rfl) ?_
                refine WP.nil ?_
                refine Out.next ?_
                refine WPc.ret ?_
                refine Out.block_ret ?_
                refine Out.then_ret ?_
                refine Out.then_ret ?_
                refine Out.block_ret ?_
                refine Out.then_ret ?_
                refine Out.drop ?_
                refine Out.drop ?_
                refine Out.perm pl1 ?_
                refine Out.drop ?_
                exact Out.ret1 (L' := _) Tryd.results4 rfl ⟨rfl, rfl⟩ (fun _ h => h)
              · skip
                have h7 : ¬ ((((piecesR prev (WR.hd :: l)).length : Nat) : Int) < x) := h7
                refine WP.valG rfl rfl rfl rfl rfl rfl rfl (Val.move rfl rfl) ?_
                refine WP.valG rfl rfl rfl rfl rfl rfl rfl (Val.gtr rfl rfl rfl) ?_
                refine WP.valG rfl rfl rfl rfl rfl rfl rfl (Val.move rfl rfl) ?_
                refine WP.split 60 rfl (fun h8 => ?_) (fun h8 => ?_)
                · skip
                  have h8 : ((0 : Int) < ((i : Nat) : Int)) := h8
                  refine WP.valG rfl rfl rfl rfl rfl rfl rfl (Val.move rfl rfl) ?_
                  refine WP.valG rfl rfl rfl rfl rfl rfl rfl (Val.move rfl rfl) ?_
                  refine WP.valG rfl rfl rfl rfl rfl rfl rfl (Val.move rfl rfl) ?_
                  refine WP.valG rfl rfl rfl rfl rfl rfl rfl (Val.sub (z := ((i - 1 : Nat) : Int)) rfl rfl rfl ((w64 (by omega) (by omega)).trans (by omega))) ?_
                  refine WP.valG rfl rfl rfl rfl rfl rfl rfl (Val.indexAddr (j := i - 1) (q := o1 + i - 1) rfl Ty.sl36 rfl rfl (by omega) (by omega) (by omega)) ?_
                  refine WP.valG rfl rfl rfl rfl rfl rfl rfl (Val.load (v := .int .i64 (y)) rfl Ty.sc3 rfl (fun w h => (by have h2 := hre w (h.at 2 rfl) (i - 1) y (hy (by omega)) 0 _ rfl; rw [Nat.mul_one] at h2; rw [show o1 + i - 1 = o1 + (i - 1) by omega]; exact h2))) ?_
                  refine WP.valG rfl rfl rfl rfl rfl rfl rfl (Val.lss rfl rfl rfl) ?_
                  refine WP.valG rfl rfl rfl rfl rfl rfl rfl (Val.pickT rfl rfl rfl) ?_
                  refine WP.val rfl rfl rfl (Val.pickF rfl rfl rfl) ?_
                  refine WP.nil ?_
                  refine Out.next ?_
                  refine WPc.ifP rfl (fun h9 => ?_) (fun h9 => ?_)
                  · skip
                    have h9 : (x < y) := h9
                    refine WPc.seq ?_
                    refine WPc.region ?_
                    refine WP.val rfl rfl rfl (Val.assign rfl rfl) ?_
                    refine WP.nil ?_
                    refine Out.next ?_
                    refine WPc.ret ?_
                    refine Out.block_ret ?_
                    refine Out.then_ret ?_
                    refine Out.then_ret ?_
                    refine Out.block_ret ?_
                    refine Out.then_ret ?_
                    refine Out.drop ?_
                    refine Out.drop ?_
                    refine Out.perm pl1 ?_
                    refine Out.drop ?_
                    exact Out.ret1 (L' := _) Tryd.results4 rfl ⟨rfl, rfl⟩ (fun _ h => h)
                  · skip
                    have h9 : ¬ (x < y) := h9
                    refine WPc.skip ?_
                    refine Out.block ?_
                    refine Out.next ?_
                    refine WPc.region ?_
                    refine WP.val rfl rfl rfl (Val.add (z := ((i + 1 : Nat) : Int)) rfl rfl rfl ((w64 (by omega) (by omega)).trans (by omega))) ?_
                    refine WP.val rfl rfl rfl (Val.move rfl rfl) ?_
                    refine WP.nil ?_
                    have hlast : lastI 0 (le.take i) ≤ x := by
                      by_cases h0 : 0 < i
                      · have := lastI_at le 0 (i - 1) y (hy h0)
                        rw [show i - 1 + 1 = i by omega] at this
                        rw [this]; omega
                      · rw [show i = 0 by omega]; show (0 : Int) ≤ x; omega
                    have hrs := rising_snoc (((piecesR prev (WR.hd :: l)).length : Nat) : Int) 0 (le.take i) x hri (by omega) (by omega) hlast
                    rw [← take_more hx] at hrs
                    refine Out.again (i + 1) ?_ ?_ ?_ ?_
                    · exact ⟨by omega, hrs⟩
                    · first | omega | (dsimp only; omega)
                    · exact (Sub.cons rfl (Sub.cons rfl (Sub.cons rfl (Sub.cons rfl (Sub.cons rfl (Sub.cons rfl (Sub.cons rfl Sub.nil)))))))
                    · exact (fun _ h => h)
                · skip
                  have h8 : ¬ ((0 : Int) < ((i : Nat) : Int)) := h8
                  refine WP.skip rfl rfl rfl rfl rfl rfl rfl ?_
                  refine WP.skip rfl rfl rfl rfl rfl rfl rfl ?_
                  refine WP.skip rfl rfl rfl rfl rfl rfl rfl ?_
                  refine WP.skip rfl rfl rfl rfl rfl rfl rfl ?_
                  refine WP.skip rfl rfl rfl rfl rfl rfl rfl ?_
                  refine WP.skip rfl rfl rfl rfl rfl rfl rfl ?_
                  refine WP.skip rfl rfl rfl rfl rfl rfl rfl ?_
                  refine WP.valG rfl rfl rfl rfl rfl rfl rfl (Val.pickF rfl rfl rfl) ?_
                  refine WP.val rfl rfl rfl (Val.pickF rfl rfl rfl) ?_
                  refine WP.nil ?_
                  refine Out.next ?_
                  refine WPc.condF rfl rfl ?_
                  refine WPc.skip ?_
                  refine Out.block ?_
                  refine Out.next ?_
                  refine WPc.region ?_
                  refine WP.val rfl rfl rfl (Val.add (z := ((i + 1 : Nat) : Int)) rfl rfl rfl ((w64 (by omega) (by omega)).trans (by omega))) ?_
                  refine WP.val rfl rfl rfl (Val.move rfl rfl) ?_
                  refine WP.nil ?_
                  have hlast : lastI 0 (le.take i) ≤ x := by
                    by_cases h0 : 0 < i
                    · have := lastI_at le 0 (i - 1) y (hy h0)
                      rw [show i - 1 + 1 = i by omega] at this
                      rw [this]; omega
                    · rw [show i = 0 by omega]; show (0 : Int) ≤ x; omega
                  have hrs := rising_snoc (((piecesR prev (WR.hd :: l)).length : Nat) : Int) 0 (le.take i) x hri (by omega) (by omega) hlast
                  rw [← take_more hx] at hrs
                  refine Out.again (i + 1) ?_ ?_ ?_ ?_
                  · exact ⟨by omega, hrs⟩
                  · first | omega | (dsimp only; omega)
                  · exact (Sub.cons rfl (Sub.cons rfl (Sub.cons rfl (Sub.cons rfl (Sub.cons rfl (Sub.cons rfl (Sub.cons rfl Sub.nil)))))))
                  · exact (fun _ h => h)
          · skip
            have h5 : ¬ (((i : Nat) : Int) < ((le.length : Nat) : Int)) := h5
            refine WPc.exit ?_
            refine Out.then_exit ?_
            refine Out.then_exit ?_
            refine Out.block_exit ?_
            refine Out.next ?_
            refine WPc.seq ?_
            have hti : le.take i = le := List.take_of_length_le (by first | omega | (simp at *; try omega))
            rw [hti] at hri
            have hrl := rising_last (((piecesR prev (WR.hd :: l)).length : Nat) : Int) 0 le (by omega) (by omega) hri
            have hE := rising_snoc (((piecesR prev (WR.hd :: l)).length : Nat) : Int) 0 le (((piecesR prev (WR.hd :: l)).length : Nat) : Int) hri (by omega) (by omega) hrl.2
            have hEE : (le ++ [(((piecesR prev (WR.hd :: l)).length : Nat) : Int)]).length = le.length + 1 := by simp
            have hlE : lastI 0 (le ++ [(((piecesR prev (WR.hd :: l)).length : Nat) : Int)]) = (((piecesR prev (WR.hd :: l)).length : Nat) : Int) := lastI_snoc _ _ _
            refine WPc.region ?_
            refine WP.val rfl rfl rfl (Val.assign rfl rfl) ?_
            refine WP.nil ?_
            refine Out.next ?_
            refine WPc.seq ?_
            refine WPc.region ?_
            refine WP.val rfl rfl rfl (Val.assign rfl rfl) ?_
            refine WP.nil ?_
            refine Out.next ?_
            refine WPc.seq ?_
            refine WPc.seq ?_
            refine WPc.region ?_
            refine WP.val rfl rfl rfl (Val.move rfl rfl) ?_
            refine WP.perm pl2 ?_
            refine WP.eff rfl rfl rfl (Eff.call rfl rfl Tryd.call13 (clonei_spec A le (by omega) _ (.inl ⟨b1, o1, c1, rfl, hre⟩))) ?_
            rintro u5 _ ⟨_, ⟨_, rfl, rfl⟩, rfl⟩
            show WP _ _ _ _ _ _ _ (Own 3 1 u5 le.length (flatOf icell le) :: A :: Seq pv ((piecesR prev (WR.hd :: l)).length) ((piecesR prev (WR.hd :: l)).map strv) :: Blk g1 (flatOf WR.cells (WR.hd :: l) ++ spg1) 44 :: Cel 0 0 (.iface 123 (.pointer (some ep))) :: F)
            refine WP.val rfl rfl rfl (Val.move rfl rfl) ?_
            refine WP.val rfl rfl rfl (Val.lenSeq rfl Ty.sl27 rfl (fun w h => h.at 2 rfl)) ?_
            refine WP.eff rfl rfl rfl (Eff.mkSlice (C := [.int .i64 ((((piecesR prev (WR.hd :: l)).length : Nat) : Int))]) rfl Ty.sl36 rfl (fun _ => by kernel_rfl)) ?_
            rintro _ _ ⟨b2, rfl, rfl⟩
            refine WP.perm pl1 ?_
            refine WP.eff rfl rfl rfl (Eff.append (m := 1) (n0 := le.length) (news := [.int .i64 ((((piecesR prev (WR.hd :: l)).length : Nat) : Int))]) rfl Ty.sl36 Ty.z3 rfl rfl rfl (.slice Ty.sl36 rfl rfl (fun w h => cells_range (h.range 1 rfl rfl))) (by omega) (by omega)) ?_
            rintro v3 _ ⟨onev3, rfl⟩
            refine WP.conv (M := Own 3 1 v3 ((le ++ [(((piecesR prev (WR.hd :: l)).length : Nat) : Int)]).length) (flatOf icell (le ++ [(((piecesR prev (WR.hd :: l)).length : Nat) : Int)])) :: Blk b2 [.int .i64 ((((piecesR prev (WR.hd :: l)).length : Nat) : Int))] 3 :: A :: Seq pv ((piecesR prev (WR.hd :: l)).length) ((piecesR prev (WR.hd :: l)).map strv) :: Blk g1 (flatOf WR.cells (WR.hd :: l) ++ spg1) 44 :: Cel 0 0 (.iface 123 (.pointer (some ep))) :: F) (fun w h => by rw [hEE, flatOf_snoc]; exact h) ?_
            refine WP.open (fun w h => h.ownPos (by rw [hEE]; omega)) ?_
            rintro ⟨g4, cg4, spg4⟩
            refine WP.pure (fun hvg4 => ?_)
            obtain ⟨rfl, hng4, hlg4, hsg4, hcg4⟩ := hvg4
            dsimp only at hng4 hlg4 hsg4 hcg4
            show WP _ _ _ _ _ _ _ (Blk g4 (flatOf icell (le ++ [(((piecesR prev (WR.hd :: l)).length : Nat) : Int)]) ++ spg4) 3 :: Blk b2 [.int .i64 ((((piecesR prev (WR.hd :: l)).length : Nat) : Int))] 3 :: A :: Seq pv ((piecesR prev (WR.hd :: l)).length) ((piecesR prev (WR.hd :: l)).map strv) :: Blk g1 (flatOf WR.cells (WR.hd :: l) ++ spg1) 44 :: Cel 0 0 (.iface 123 (.pointer (some ep))) :: F)
            refine WP.know 76 (.slice (some ⟨g4, 0, none⟩) (le ++ [(((piecesR prev (WR.hd :: l)).length : Nat) : Int)]).length cg4) rfl rfl ?_
            refine WP.val rfl rfl rfl (Val.len rfl Ty.sl36 rfl) ?_
            refine WP.val rfl rfl rfl (Val.move rfl rfl) ?_
            refine WP.nil ?_
            refine Out.next ?_
            refine WPc.block ?_
            refine WPc.perm pl3 ?_
            refine WPc.open (fun w h => h.seqOpen (by omega)) ?_
            rintro ⟨g5, cg5, spg5, Tg5⟩
            refine WPc.pure (fun hvg5 => ?_)
            refine WPc.know 7 (.slice (some ⟨g5, 0, none⟩) ((piecesR prev (WR.hd :: l)).length) cg5) rfl hvg5.1 ?_
            show WPc _ _ _ _ _ _ (Ro (Blk g5 ((piecesR prev (WR.hd :: l)).map strv ++ spg5) Tg5) :: Seq pv ((piecesR prev (WR.hd :: l)).length) ((piecesR prev (WR.hd :: l)).map strv) :: Blk g4 (flatOf icell (le ++ [(((piecesR prev (WR.hd :: l)).length : Nat) : Int)]) ++ spg4) 3 :: Blk b2 [.int .i64 ((((piecesR prev (WR.hd :: l)).length : Nat) : Int))] 3 :: A :: Blk g1 (flatOf WR.cells (WR.hd :: l) ++ spg1) 44 :: Cel 0 0 (.iface 123 (.pointer (some ep))) :: F)
            have hpc : (piecesR prev (WR.hd :: l)).length ≤ cg5 := hvg5.2
            refine WPc.conv (fun w h => h.ownNil (e := 9) (k := 1)) ?_
            show WPc _ _ _ _ _ _ (Own 9 1 (.slice none 0 0) 0 ([]) :: Ro (Blk g5 ((piecesR prev (WR.hd :: l)).map strv ++ spg5) Tg5) :: Seq pv ((piecesR prev (WR.hd :: l)).length) ((piecesR prev (WR.hd :: l)).map strv) :: Blk g4 (flatOf icell (le ++ [(((piecesR prev (WR.hd :: l)).length : Nat) : Int)]) ++ spg4) 3 :: Blk b2 [.int .i64 ((((piecesR prev (WR.hd :: l)).length : Nat) : Int))] 3 :: A :: Blk g1 (flatOf WR.cells (WR.hd :: l) ++ spg1) 44 :: Cel 0 0 (.iface 123 (.pointer (some ep))) :: F)
            refine WPc.perm pl2 ?_
            refine WPc.drop ?_
            refine WPc.perm pl3 ?_
            refine WPc.drop ?_
            refine WPc.perm pl5 ?_
            refine WPc.perm pl4 ?_
            refine WPc.perm pl4 ?_
            refine WPc.perm pl5 ?_
            refine WPc.perm pl5 ?_
            refine WPc.perm pl5 ?_
            refine WPc.loop (ι := Nat × Value) (fun ⟨j, u⟩ => j ≤ (le ++ [(((piecesR prev (WR.hd :: l)).length : Nat) : Int)]).length) (fun ⟨j, u⟩ => [(0, .int .u32 (prev)), (1, .slice (some ⟨g1, 0, none⟩) ((WR.hd :: l).length) cg1), (7, .slice (some ⟨g5, 0, none⟩) ((piecesR prev (WR.hd :: l)).length) cg5), (11, u), (12, .int .i64 ((lastI 0 ((le ++ [(((piecesR prev (WR.hd :: l)).length : Nat) : Int)]).take j)))), (76, .slice (some ⟨g4, 0, none⟩) ((le ++ [(((piecesR prev (WR.hd :: l)).length : Nat) : Int)]).length) cg4), (77, .int .i64 ((((le ++ [(((piecesR prev (WR.hd :: l)).length : Nat) : Int)]).length : Nat) : Int))), (78, .int .i64 (((j : Nat) : Int)))]) (fun ⟨j, u⟩ => Own 9 1 u j (((segs (piecesR prev (WR.hd :: l)) 0 ((le ++ [(((piecesR prev (WR.hd :: l)).length : Nat) : Int)]).take j)).map List.flatten).map strv) :: Ro (Blk g5 ((piecesR prev (WR.hd :: l)).map strv ++ spg5) Tg5) :: Blk g1 (flatOf WR.cells (WR.hd :: l) ++ spg1) 44 :: Blk g4 (flatOf icell (le ++ [(((piecesR prev (WR.hd :: l)).length : Nat) : Int)]) ++ spg4) 3 :: A :: Cel 0 0 (.iface 123 (.pointer (some ep))) :: F) (fun ⟨j, u⟩ => (le ++ [(((piecesR prev (WR.hd :: l)).length : Nat) : Int)]).length - j) (0, .slice none 0 0) (Nat.zero_le _) ((Sub.cons rfl (Sub.cons rfl (Sub.cons rfl (Sub.cons rfl (Sub.cons rfl (Sub.cons rfl (Sub.cons rfl (Sub.cons rfl Sub.nil))))))))) (fun _ h => h) ?_
            rintro ⟨j, u⟩ hj
            show WPc _ _ _ _ _ [(0, .int .u32 (prev)), (1, .slice (some ⟨g1, 0, none⟩) ((WR.hd :: l).length) cg1), (7, .slice (some ⟨g5, 0, none⟩) ((piecesR prev (WR.hd :: l)).length) cg5), (11, u), (12, .int .i64 ((lastI 0 ((le ++ [(((piecesR prev (WR.hd :: l)).length : Nat) : Int)]).take j)))), (76, .slice (some ⟨g4, 0, none⟩) ((le ++ [(((piecesR prev (WR.hd :: l)).length : Nat) : Int)]).length) cg4), (77, .int .i64 ((((le ++ [(((piecesR prev (WR.hd :: l)).length : Nat) : Int)]).length : Nat) : Int))), (78, .int .i64 (((j : Nat) : Int)))] (Own 9 1 u j (((segs (piecesR prev (WR.hd :: l)) 0 ((le ++ [(((piecesR prev (WR.hd :: l)).length : Nat) : Int)]).take j)).map List.flatten).map strv) :: Ro (Blk g5 ((piecesR prev (WR.hd :: l)).map strv ++ spg5) Tg5) :: Blk g1 (flatOf WR.cells (WR.hd :: l) ++ spg1) 44 :: Blk g4 (flatOf icell (le ++ [(((piecesR prev (WR.hd :: l)).length : Nat) : Int)]) ++ spg4) 3 :: A :: Cel 0 0 (.iface 123 (.pointer (some ep))) :: F)
            replace hj : j ≤ (le ++ [(((piecesR prev (WR.hd :: l)).length : Nat) : Int)]).length := hj
            refine WPc.seq ?_
            refine WPc.region ?_
            refine WP.val rfl rfl rfl (Val.lss rfl rfl rfl) ?_
            refine WP.nil ?_
            refine Out.next ?_
            refine WPc.seq ?_
            refine WPc.ifP rfl (fun h10 => ?_) (fun h10 => ?_)
            · skip
              have h10 : (((j : Nat) : Int) < (((le ++ [(((piecesR prev (WR.hd :: l)).length : Nat) : Int)]).length : Nat) : Int)) := h10
              refine WPc.skip ?_
              refine Out.next ?_
              refine WPc.seq ?_
              refine WPc.block ?_
              refine WPc.seq ?_
              have hjl : j < (le ++ [(((piecesR prev (WR.hd :: l)).length : Nat) : Int)]).length := by omega
              obtain ⟨x, hx⟩ : ∃ x, (le ++ [(((piecesR prev (WR.hd :: l)).length : Nat) : Int)])[j]? = some x := ⟨_, List.getElem?_eq_getElem hjl⟩
              obtain ⟨hx0, hxn, hxl⟩ := rising_at (((piecesR prev (WR.hd :: l)).length : Nat) : Int) 0 (le ++ [(((piecesR prev (WR.hd :: l)).length : Nat) : Int)]) j x hE hx
              have hrt := rising_last (((piecesR prev (WR.hd :: l)).length : Nat) : Int) 0 ((le ++ [(((piecesR prev (WR.hd :: l)).length : Nat) : Int)]).take j) (by omega) (by omega) (rising_take _ _ _ j hE)
              have hnl := nat_last hrt.1
              obtain ⟨n, rfl⟩ : ∃ n : Nat, x = (n : Int) := ⟨x.toNat, by omega⟩
              have htk := take_more hx
              refine WPc.know 12 (.int .i64 (((lastI 0 ((le ++ [(((piecesR prev (WR.hd :: l)).length : Nat) : Int)]).take j)).toNat : Nat) : Int)) rfl (congrArg (Value.int .i64) hnl.symm) ?_
              refine WPc.region ?_
              refine WP.val rfl rfl rfl (Val.indexAddr (j := j) (q := j) rfl Ty.sl36 rfl rfl (by omega) (by omega) (by omega)) ?_
              refine WP.val rfl rfl rfl (Val.load (v := .int .i64 (((n : Nat) : Int))) rfl Ty.sc3 rfl (fun w h => h.cell 3 rfl (icell_at hx _))) ?_
              refine WP.val rfl rfl rfl (Val.assign rfl rfl) ?_
              refine WP.nil ?_
              refine Out.next ?_
              refine WPc.seq ?_
              refine WPc.region ?_
              refine WP.val rfl rfl rfl (Val.move rfl rfl) ?_
              refine WP.val rfl rfl rfl (Val.move rfl rfl) ?_
              refine WP.val rfl rfl rfl (Val.move rfl rfl) ?_
              refine WP.val rfl rfl rfl (Val.move rfl rfl) ?_
              refine WP.val rfl rfl rfl (Val.slice (lo := (lastI 0 ((le ++ [(((piecesR prev (WR.hd :: l)).length : Nat) : Int)]).take j)).toNat) (hi := n) (j := (if cg5 = (lastI 0 ((le ++ [(((piecesR prev (WR.hd :: l)).length : Nat) : Int)]).take j)).toNat then 0 else 0 + ((lastI 0 ((le ++ [(((piecesR prev (WR.hd :: l)).length : Nat) : Int)]).take j)).toNat))) (vlo := some (.i64, (((lastI 0 ((le ++ [(((piecesR prev (WR.hd :: l)).length : Nat) : Int)]).take j)).toNat : Nat) : Int))) (vhi := some (.i64, ((n : Nat) : Int))) rfl Ty.sl27 rfl rfl rfl (by simp [bnd]; try omega) (by simp [bnd]; try omega) (by omega) (by omega) (by omega) (by simp)) ?_
              have hsf := sub_flat (piecesR prev (WR.hd :: l)) (lastI 0 ((le ++ [(((piecesR prev (WR.hd :: l)).length : Nat) : Int)]).take j)).toNat (n - (lastI 0 ((le ++ [(((piecesR prev (WR.hd :: l)).length : Nat) : Int)]).take j)).toNat)
              have hsl : (((piecesR prev (WR.hd :: l)).drop (lastI 0 ((le ++ [(((piecesR prev (WR.hd :: l)).length : Nat) : Int)]).take j)).toNat).take (n - (lastI 0 ((le ++ [(((piecesR prev (WR.hd :: l)).length : Nat) : Int)]).take j)).toNat)).length ≤ (piecesR prev (WR.hd :: l)).length := by rw [List.length_take, List.length_drop]; omega
              refine WP.perm pl1 ?_
              refine WP.eff rfl rfl rfl (Eff.call rfl rfl Tryd.call11 (joinr_spec (Ro (Blk g5 ((piecesR prev (WR.hd :: l)).map strv ++ spg5) Tg5)) (((piecesR prev (WR.hd :: l)).drop (lastI 0 ((le ++ [(((piecesR prev (WR.hd :: l)).length : Nat) : Int)]).take j)).toNat).take (n - (lastI 0 ((le ++ [(((piecesR prev (WR.hd :: l)).length : Nat) : Int)]).take j)).toNat)) (by omega) (by omega) _ (rd_seg (by omega) hpc))) ?_
              rintro _ _ ⟨_, ⟨rfl, rfl⟩, rfl⟩
              show WP _ _ _ _ _ _ _ (Ro (Blk g5 ((piecesR prev (WR.hd :: l)).map strv ++ spg5) Tg5) :: Own 9 1 u j (((segs (piecesR prev (WR.hd :: l)) 0 ((le ++ [(((piecesR prev (WR.hd :: l)).length : Nat) : Int)]).take j)).map List.flatten).map strv) :: Blk g1 (flatOf WR.cells (WR.hd :: l) ++ spg1) 44 :: Blk g4 (flatOf icell (le ++ [(((piecesR prev (WR.hd :: l)).length : Nat) : Int)]) ++ spg4) 3 :: A :: Cel 0 0 (.iface 123 (.pointer (some ep))) :: F)
              refine WP.eff rfl rfl rfl (Eff.mkSlice (C := [.string (str ((((piecesR prev (WR.hd :: l)).drop (lastI 0 ((le ++ [(((piecesR prev (WR.hd :: l)).length : Nat) : Int)]).take j)).toNat).take (n - (lastI 0 ((le ++ [(((piecesR prev (WR.hd :: l)).length : Nat) : Int)]).take j)).toNat)).flatten))]) rfl Ty.sl27 rfl (fun _ => by kernel_rfl)) ?_
              rintro _ _ ⟨b6, rfl, rfl⟩
              refine WP.perm pl2 ?_
              refine WP.eff rfl rfl rfl (Eff.append (m := 1) (n0 := j) (news := [.string (str ((((piecesR prev (WR.hd :: l)).drop (lastI 0 ((le ++ [(((piecesR prev (WR.hd :: l)).length : Nat) : Int)]).take j)).toNat).take (n - (lastI 0 ((le ++ [(((piecesR prev (WR.hd :: l)).length : Nat) : Int)]).take j)).toNat)).flatten))]) rfl Ty.sl27 Ty.z9 rfl rfl rfl (.slice Ty.sl27 rfl rfl (fun w h => cells_range (h.range 1 rfl rfl))) (by omega) (by omega)) ?_
              rintro v7 _ ⟨onev7, rfl⟩
              refine WP.val rfl rfl rfl (Val.assign rfl rfl) ?_
              refine WP.nil ?_
              refine Out.next ?_
              refine WPc.region ?_
              refine WP.val rfl rfl rfl (Val.move rfl rfl) ?_
              refine WP.val rfl rfl rfl (Val.assign rfl rfl) ?_
              refine WP.nil ?_
              refine Out.block ?_
              refine Out.next ?_
              refine WPc.region ?_
              refine WP.val rfl rfl rfl (Val.add (z := ((j + 1 : Nat) : Int)) rfl rfl rfl ((w64 (by omega) (by omega)).trans (by omega))) ?_
              refine WP.val rfl rfl rfl (Val.move rfl rfl) ?_
              refine WP.nil ?_
              have hsn : segs (piecesR prev (WR.hd :: l)) 0 ((le ++ [(((piecesR prev (WR.hd :: l)).length : Nat) : Int)]).take (j + 1)) = segs (piecesR prev (WR.hd :: l)) 0 ((le ++ [(((piecesR prev (WR.hd :: l)).length : Nat) : Int)]).take j) ++ [(((piecesR prev (WR.hd :: l)).drop (lastI 0 ((le ++ [(((piecesR prev (WR.hd :: l)).length : Nat) : Int)]).take j)).toNat).take (n - (lastI 0 ((le ++ [(((piecesR prev (WR.hd :: l)).length : Nat) : Int)]).take j)).toNat))] := by
                rw [htk]
                have := segs_snoc (piecesR prev (WR.hd :: l)) 0 ((le ++ [(((piecesR prev (WR.hd :: l)).length : Nat) : Int)]).take j) ((n : Nat) : Int)
                rw [Int.toNat_natCast] at this
                exact this
              refine Out.perm pl1 ?_
              refine Out.drop ?_
              refine Out.again (j + 1, v7) ?_ ?_ ?_ ?_
              · exact (by first | omega | (dsimp only; omega))
              · (dsimp only; omega)
              · exact (Sub.cons rfl (Sub.cons rfl (Sub.cons rfl (Sub.cons rfl (Sub.cons (by rw [htk, lastI_snoc]; rfl) (Sub.cons rfl (Sub.cons rfl (Sub.cons rfl Sub.nil))))))))
              · exact (fun w h => by dsimp only; rw [hsn, List.map_append, List.map_append]; exact h)
            · skip
              have h10 : ¬ (((j : Nat) : Int) < (((le ++ [(((piecesR prev (WR.hd :: l)).length : Nat) : Int)]).length : Nat) : Int)) := h10
              refine WPc.exit ?_
              refine Out.then_exit ?_
              refine Out.then_exit ?_
              refine Out.block_exit ?_
              refine Out.next ?_
              refine WPc.seq ?_
              obtain rfl : j = (le ++ [(((piecesR prev (WR.hd :: l)).length : Nat) : Int)]).length := by omega
              have htE : (le ++ [(((piecesR prev (WR.hd :: l)).length : Nat) : Int)]).take (le ++ [(((piecesR prev (WR.hd :: l)).length : Nat) : Int)]).length = (le ++ [(((piecesR prev (WR.hd :: l)).length : Nat) : Int)]) := List.take_length
              have hFl : ((segs (piecesR prev (WR.hd :: l)) 0 (le ++ [(((piecesR prev (WR.hd :: l)).length : Nat) : Int)])).map List.flatten).length = (le ++ [(((piecesR prev (WR.hd :: l)).length : Nat) : Int)]).length := by rw [List.length_map, segs_len]
              refine WPc.conv (M := Own 9 1 u (((segs (piecesR prev (WR.hd :: l)) 0 (le ++ [(((piecesR prev (WR.hd :: l)).length : Nat) : Int)])).map List.flatten).length) (((segs (piecesR prev (WR.hd :: l)) 0 (le ++ [(((piecesR prev (WR.hd :: l)).length : Nat) : Int)])).map List.flatten).map strv) :: Ro (Blk g5 ((piecesR prev (WR.hd :: l)).map strv ++ spg5) Tg5) :: Blk g1 (flatOf WR.cells (WR.hd :: l) ++ spg1) 44 :: Blk g4 (flatOf icell (le ++ [(((piecesR prev (WR.hd :: l)).length : Nat) : Int)]) ++ spg4) 3 :: A :: Cel 0 0 (.iface 123 (.pointer (some ep))) :: F) (fun w h => by rw [htE] at h; rw [hFl]; exact h) ?_
              have hPR : (piecesR prev (WR.hd :: l)) = (rfs prev (WR.hd :: l)).map RF.frame := (rfs_frames prev (WR.hd :: l) hok).symm
              have hFr : ((segs (piecesR prev (WR.hd :: l)) 0 (le ++ [(((piecesR prev (WR.hd :: l)).length : Nat) : Int)])).map List.flatten) = (segs (rfs prev (WR.hd :: l)) 0 (le ++ [(((piecesR prev (WR.hd :: l)).length : Nat) : Int)])).map frames := by
                rw [hPR, segs_map, List.map_map]
                refine List.map_congr_left fun s _ => ?_
                show (s.map RF.frame).flatten = frames s
                exact (frames_flat s).symm
              have hRf : (segs (rfs prev (WR.hd :: l)) 0 (le ++ [(((piecesR prev (WR.hd :: l)).length : Nat) : Int)])).flatten = rfs prev (WR.hd :: l) := by
                have := segs_flat (rfs prev (WR.hd :: l)) (((piecesR prev (WR.hd :: l)).length : Nat) : Int) 0 (le ++ [(((piecesR prev (WR.hd :: l)).length : Nat) : Int)]) hE
                rw [this]
                show List.take ((lastI 0 (le ++ [(((piecesR prev (WR.hd :: l)).length : Nat) : Int)])).toNat - 0) _ = _
                rw [hlE, Int.toNat_natCast, Nat.sub_zero, List.drop_zero]
                exact List.take_of_length_le (by omega)
              have hRl : (segs (rfs prev (WR.hd :: l)) 0 (le ++ [(((piecesR prev (WR.hd :: l)).length : Nat) : Int)])).length = (le ++ [(((piecesR prev (WR.hd :: l)).length : Nat) : Int)]).length := segs_len _ _ _
              have hsn1 : (((segs (piecesR prev (WR.hd :: l)) 0 (le ++ [(((piecesR prev (WR.hd :: l)).length : Nat) : Int)])).map List.flatten).map str).length = ((segs (piecesR prev (WR.hd :: l)) 0 (le ++ [(((piecesR prev (WR.hd :: l)).length : Nat) : Int)])).map List.flatten).length := List.length_map _
              have hsm : ((segs (piecesR prev (WR.hd :: l)) 0 (le ++ [(((piecesR prev (WR.hd :: l)).length : Nat) : Int)])).map List.flatten).map strv = (((segs (piecesR prev (WR.hd :: l)) 0 (le ++ [(((piecesR prev (WR.hd :: l)).length : Nat) : Int)])).map List.flatten).map str).map Value.string := (List.map_map (f := str) (g := Value.string) (l := ((segs (piecesR prev (WR.hd :: l)) 0 (le ++ [(((piecesR prev (WR.hd :: l)).length : Nat) : Int)])).map List.flatten))).symm
              have hlc : lastC 0 (rfs prev (WR.hd :: l)) = (WR.hd :: l).foldl stepL prev := lastC_hd prev l
              have hRg : ∀ rs ∈ (segs (rfs prev (WR.hd :: l)) 0 (le ++ [(((piecesR prev (WR.hd :: l)).length : Nat) : Int)])), (frames rs).length ≤ 4294967296 ∧ ∀ r ∈ rs, r.good := fun rs hrs => by
                refine ⟨?_, fun r hr => hrg r (segs_mem hrs r hr)⟩
                obtain ⟨b, k, rfl⟩ := segs_form hrs
                have := sub_flat ((rfs prev (WR.hd :: l)).map RF.frame) b k
                rw [← List.map_drop, ← List.map_take, ← frames_flat, ← frames_flat, hfr] at this
                omega
              obtain ⟨xs, hxs⟩ : ∃ xs, (segs (rfs prev (WR.hd :: l)) 0 (le ++ [(((piecesR prev (WR.hd :: l)).length : Nat) : Int)]))[(segs (rfs prev (WR.hd :: l)) 0 (le ++ [(((piecesR prev (WR.hd :: l)).length : Nat) : Int)])).length - 1]? = some xs := ⟨_, List.getElem?_eq_getElem (by omega)⟩
              have hlF := lastF_at hxs
              have hxf : ((segs (piecesR prev (WR.hd :: l)) 0 (le ++ [(((piecesR prev (WR.hd :: l)).length : Nat) : Int)])).map List.flatten)[((segs (piecesR prev (WR.hd :: l)) 0 (le ++ [(((piecesR prev (WR.hd :: l)).length : Nat) : Int)])).map List.flatten).length - 1]? = some (frames xs) := by
                rw [show ((segs (piecesR prev (WR.hd :: l)) 0 (le ++ [(((piecesR prev (WR.hd :: l)).length : Nat) : Int)])).map List.flatten).length - 1 = (segs (rfs prev (WR.hd :: l)) 0 (le ++ [(((piecesR prev (WR.hd :: l)).length : Nat) : Int)])).length - 1 by omega, hFr, List.getElem?_map, hxs]; rfl
              refine WPc.conv (fun w h => Sat.seqMk h) ?_
              show WPc _ _ _ _ _ _ (Seq u (((segs (piecesR prev (WR.hd :: l)) 0 (le ++ [(((piecesR prev (WR.hd :: l)).length : Nat) : Int)])).map List.flatten).length) (((segs (piecesR prev (WR.hd :: l)) 0 (le ++ [(((piecesR prev (WR.hd :: l)).length : Nat) : Int)])).map List.flatten).map strv) :: Ro (Blk g5 ((piecesR prev (WR.hd :: l)).map strv ++ spg5) Tg5) :: Blk g1 (flatOf WR.cells (WR.hd :: l) ++ spg1) 44 :: Blk g4 (flatOf icell (le ++ [(((piecesR prev (WR.hd :: l)).length : Nat) : Int)]) ++ spg4) 3 :: A :: Cel 0 0 (.iface 123 (.pointer (some ep))) :: F)
              refine WPc.conv (M := Seq u ((((segs (piecesR prev (WR.hd :: l)) 0 (le ++ [(((piecesR prev (WR.hd :: l)).length : Nat) : Int)])).map List.flatten).map str).length) ((((segs (piecesR prev (WR.hd :: l)) 0 (le ++ [(((piecesR prev (WR.hd :: l)).length : Nat) : Int)])).map List.flatten).map str).map Value.string) :: Ro (Blk g5 ((piecesR prev (WR.hd :: l)).map strv ++ spg5) Tg5) :: Blk g1 (flatOf WR.cells (WR.hd :: l) ++ spg1) 44 :: Blk g4 (flatOf icell (le ++ [(((piecesR prev (WR.hd :: l)).length : Nat) : Int)]) ++ spg4) 3 :: A :: Cel 0 0 (.iface 123 (.pointer (some ep))) :: F) (fun w h => by rw [hsn1, ← hsm]; exact h) ?_
              refine WPc.conv (fun w h => Sat.dup (A := Seq u _ _) Seq.pers h) ?_
              show WPc _ _ _ _ _ _ (Seq u ((((segs (piecesR prev (WR.hd :: l)) 0 (le ++ [(((piecesR prev (WR.hd :: l)).length : Nat) : Int)])).map List.flatten).map str).length) ((((segs (piecesR prev (WR.hd :: l)) 0 (le ++ [(((piecesR prev (WR.hd :: l)).length : Nat) : Int)])).map List.flatten).map str).map Value.string) :: Seq u ((((segs (piecesR prev (WR.hd :: l)) 0 (le ++ [(((piecesR prev (WR.hd :: l)).length : Nat) : Int)])).map List.flatten).map str).length) ((((segs (piecesR prev (WR.hd :: l)) 0 (le ++ [(((piecesR prev (WR.hd :: l)).length : Nat) : Int)])).map List.flatten).map str).map Value.string) :: Ro (Blk g5 ((piecesR prev (WR.hd :: l)).map strv ++ spg5) Tg5) :: Blk g1 (flatOf WR.cells (WR.hd :: l) ++ spg1) 44 :: Blk g4 (flatOf icell (le ++ [(((piecesR prev (WR.hd :: l)).length : Nat) : Int)]) ++ spg4) 3 :: A :: Cel 0 0 (.iface 123 (.pointer (some ep))) :: F)
              refine WPc.region ?_
              refine WP.val rfl rfl rfl (Val.move rfl rfl) ?_
              refine WP.val rfl rfl rfl (Val.move rfl rfl) ?_
              refine WP.val rfl rfl rfl (Val.len rfl Ty.sl23 rfl) ?_
              refine WP.val rfl rfl rfl (Val.add (z := ((((WR.hd :: l).length) + 9 : Nat) : Int)) rfl rfl rfl ((w64 (by omega) (by omega)).trans (by omega))) ?_
              refine WP.perm pl6 ?_
              refine WP.perm pl1 ?_
              refine WP.eff rfl rfl rfl (Eff.call rfl rfl Tryd.call10 (walread_spec ep u (((segs (piecesR prev (WR.hd :: l)) 0 (le ++ [(((piecesR prev (WR.hd :: l)).length : Nat) : Int)])).map List.flatten).map str) (segs (rfs prev (WR.hd :: l)) 0 (le ++ [(((piecesR prev (WR.hd :: l)).length : Nat) : Int)])) ((WR.hd :: l).length + 9) (by rw [← hFr]; exact (List.map_map (f := str) (g := fun s : ByteArray => s.data.toList) (l := ((segs (piecesR prev (WR.hd :: l)) 0 (le ++ [(((piecesR prev (WR.hd :: l)).length : Nat) : Int)])).map List.flatten))).trans (List.map_id _)) hRg (by omega) (by omega) (by rw [hRf]; exact chain_hd prev l) (by omega))) ?_
              rintro _ _ ⟨_, ⟨got, gv, e, off, c, hfin, rfl, rfl⟩, rfl⟩
              show WP _ _ _ _ _ _ _ (Own 44 6 gv got.length (flatOf WR.cells got) :: Cel 0 0 (.iface 123 (.pointer (some ep))) :: Seq u ((((segs (piecesR prev (WR.hd :: l)) 0 (le ++ [(((piecesR prev (WR.hd :: l)).length : Nat) : Int)])).map List.flatten).map str).length) ((((segs (piecesR prev (WR.hd :: l)) 0 (le ++ [(((piecesR prev (WR.hd :: l)).length : Nat) : Int)])).map List.flatten).map str).map Value.string) :: Ro (Blk g5 ((piecesR prev (WR.hd :: l)).map strv ++ spg5) Tg5) :: Blk g1 (flatOf WR.cells (WR.hd :: l) ++ spg1) 44 :: Blk g4 (flatOf icell (le ++ [(((piecesR prev (WR.hd :: l)).length : Nat) : Int)]) ++ spg4) 3 :: A :: F)
              refine WP.fact (fun w h => own_oneCell h) (fun onegv => ?_)
              obtain ⟨hc1, ho1, hcase⟩ := hfin
              rw [hRf] at ho1 hcase hc1
              obtain ⟨hgk, rfl, hoff, rfl⟩ : got.length = (WR.hd :: l).length ∧ e = 1 ∧ off = (frames xs).length ∧ c = (WR.hd :: l).foldl stepL prev := by
                rcases hcase with ⟨a1, a2, a3, a4⟩ | ⟨a1, a2, a3, a4⟩
                · exfalso; omega
                · refine ⟨by omega, a3, by rw [a4, hlF], ?_⟩
                  rw [hc1, a1, List.take_length]; exact hlc
              rw [hgk, ← hrlen, List.take_length] at ho1
              refine WP.eff rfl rfl rfl (Eff.alloc rfl Ty.z31) ?_
              rintro _ _ ⟨b8, rfl, rfl⟩
              refine WP.eff0 rfl rfl (Eff.storeAgg (cs := [gv, .int .i64 1, .int .i64 (((off : Nat) : Int)), .int .u32 (((WR.hd :: l).foldl stepL prev))]) (C' := [gv, .int .i64 1, .int .i64 (((off : Nat) : Int)), .int .u32 (((WR.hd :: l).foldl stepL prev))]) rfl Ty.ag31 rfl rfl rfl (by simp only [List.all_cons, List.all_nil, Bool.and_true, oc_int, oc_str, oc_bool, oc_ptr, oc_slice, oc_iface, oc_map, onegv]) (by simp) rfl) ?_
              rintro _ _ rfl
              refine WP.nil ?_
              refine Out.next ?_
              refine WPc.seq ?_
              refine WPc.perm pl1 ?_
              refine WPc.conv (fun w h => Sat.seqMk h) ?_
              show WPc _ _ _ _ _ _ (Seq gv got.length (flatOf WR.cells got) :: Blk b8 [gv, .int .i64 1, .int .i64 (((off : Nat) : Int)), .int .u32 (((WR.hd :: l).foldl stepL prev))] 31 :: Cel 0 0 (.iface 123 (.pointer (some ep))) :: Seq u ((((segs (piecesR prev (WR.hd :: l)) 0 (le ++ [(((piecesR prev (WR.hd :: l)).length : Nat) : Int)])).map List.flatten).map str).length) ((((segs (piecesR prev (WR.hd :: l)) 0 (le ++ [(((piecesR prev (WR.hd :: l)).length : Nat) : Int)])).map List.flatten).map str).map Value.string) :: Ro (Blk g5 ((piecesR prev (WR.hd :: l)).map strv ++ spg5) Tg5) :: Blk g1 (flatOf WR.cells (WR.hd :: l) ++ spg1) 44 :: Blk g4 (flatOf icell (le ++ [(((piecesR prev (WR.hd :: l)).length : Nat) : Int)]) ++ spg4) 3 :: A :: F)
              refine WPc.perm pl3 ?_
              refine WPc.open (fun w h => h.seqOpen (by omega)) ?_
              rintro ⟨g9, cg9, spg9, Tg9⟩
              refine WPc.pure (fun hvg9 => ?_)
              refine WPc.know 11 (.slice (some ⟨g9, 0, none⟩) ((((segs (piecesR prev (WR.hd :: l)) 0 (le ++ [(((piecesR prev (WR.hd :: l)).length : Nat) : Int)])).map List.flatten).map str).length) cg9) rfl hvg9.1 ?_
              show WPc _ _ _ _ _ _ (Ro (Blk g9 ((((segs (piecesR prev (WR.hd :: l)) 0 (le ++ [(((piecesR prev (WR.hd :: l)).length : Nat) : Int)])).map List.flatten).map str).map Value.string ++ spg9) Tg9) :: Seq u ((((segs (piecesR prev (WR.hd :: l)) 0 (le ++ [(((piecesR prev (WR.hd :: l)).length : Nat) : Int)])).map List.flatten).map str).length) ((((segs (piecesR prev (WR.hd :: l)) 0 (le ++ [(((piecesR prev (WR.hd :: l)).length : Nat) : Int)])).map List.flatten).map str).map Value.string) :: Seq gv got.length (flatOf WR.cells got) :: Blk b8 [gv, .int .i64 1, .int .i64 (((off : Nat) : Int)), .int .u32 (((WR.hd :: l).foldl stepL prev))] 31 :: Cel 0 0 (.iface 123 (.pointer (some ep))) :: Ro (Blk g5 ((piecesR prev (WR.hd :: l)).map strv ++ spg5) Tg5) :: Blk g1 (flatOf WR.cells (WR.hd :: l) ++ spg1) 44 :: Blk g4 (flatOf icell (le ++ [(((piecesR prev (WR.hd :: l)).length : Nat) : Int)]) ++ spg4) 3 :: A :: F)
              refine WPD.start (Sat W (Ro (Blk g9 ((((segs (piecesR prev (WR.hd :: l)) 0 (le ++ [(((piecesR prev (WR.hd :: l)).length : Nat) : Int)])).map List.flatten).map str).map Value.string ++ spg9) Tg9) :: Seq u ((((segs (piecesR prev (WR.hd :: l)) 0 (le ++ [(((piecesR prev (WR.hd :: l)).length : Nat) : Int)])).map List.flatten).map str).length) ((((segs (piecesR prev (WR.hd :: l)) 0 (le ++ [(((piecesR prev (WR.hd :: l)).length : Nat) : Int)])).map List.flatten).map str).map Value.string) :: Seq gv got.length (flatOf WR.cells got) :: Blk b8 [gv, .int .i64 1, .int .i64 (((off : Nat) : Int)), .int .u32 (((WR.hd :: l).foldl stepL prev))] 31 :: Cel 0 0 (.iface 123 (.pointer (some ep))) :: Ro (Blk g5 ((piecesR prev (WR.hd :: l)).map strv ++ spg5) Tg5) :: Blk g1 (flatOf WR.cells (WR.hd :: l) ++ spg1) 44 :: Blk g4 (flatOf icell (le ++ [(((piecesR prev (WR.hd :: l)).length : Nat) : Int)]) ++ spg4) 3 :: A :: F)) Ty.mixed ?_
              refine WPD.takeM 0 rfl rfl rfl rfl (by kernel_rfl) (by kernel_rfl) (by kernel_rfl) (by kernel_rfl) (fun _ _ _ h => h) (fun _ h => h) (Val.fieldAddr (j := 0) rfl Ty.fo31_0 rfl rfl) ?_
              refine WPD.take 1 rfl rfl rfl rfl (by kernel_rfl) (by kernel_rfl) (by kernel_rfl) (by kernel_rfl) (fun _ _ _ h => h) (by kernel_rfl) (fun _ h => h) (Val.load rfl Ty.sc23 rfl (fun w h => h.cell 3 rfl rfl)) ?_
              refine WPD.takeM 2 rfl rfl rfl rfl (by kernel_rfl) (by kernel_rfl) (by kernel_rfl) (by kernel_rfl) (fun _ _ _ h => h) (fun _ h => h) (Val.move rfl rfl) ?_
              refine WPD.takeM 3 rfl rfl rfl rfl (by kernel_rfl) (by kernel_rfl) (by kernel_rfl) (by kernel_rfl) (fun _ _ _ h => h) (fun _ h => h) (Val.move rfl rfl) ?_
              refine WPD.perm pl6 ?_
              refine WPD.perm pl3 ?_
              refine WPD.stepC 4 (by kernel_rfl) rfl rfl rfl rfl (by kernel_rfl) (Eff.call rfl rfl Tryd.call12 (same_row (Blk g1 (flatOf WR.cells (WR.hd :: l) ++ spg1) 44) gv got (WR.hd :: l) prev ho1 hd (by omega) g1 0 cg1 rd_blkW)) ?_
              rintro _ _ ⟨_, ⟨rfl, rfl⟩, rfl⟩
              refine ⟨(Sat W [Blk b8 [gv, .int .i64 1, .int .i64 (((off : Nat) : Int)), .int .u32 (((WR.hd :: l).foldl stepL prev))] 31, Ro (Blk g9 ((((segs (piecesR prev (WR.hd :: l)) 0 (le ++ [(((piecesR prev (WR.hd :: l)).length : Nat) : Int)])).map List.flatten).map str).map Value.string ++ spg9) Tg9)]), (fun w h => (((h.perm pl2).perm pl4)).dropEnd (L := [_, _])), ?_⟩
              show WPD _ _ _ _ _ _ _ _ _ (Seq gv got.length (flatOf WR.cells got) :: Blk g1 (flatOf WR.cells (WR.hd :: l) ++ spg1) 44 :: Ro (Blk g9 ((((segs (piecesR prev (WR.hd :: l)) 0 (le ++ [(((piecesR prev (WR.hd :: l)).length : Nat) : Int)])).map List.flatten).map str).map Value.string ++ spg9) Tg9) :: Seq u ((((segs (piecesR prev (WR.hd :: l)) 0 (le ++ [(((piecesR prev (WR.hd :: l)).length : Nat) : Int)])).map List.flatten).map str).length) ((((segs (piecesR prev (WR.hd :: l)) 0 (le ++ [(((piecesR prev (WR.hd :: l)).length : Nat) : Int)])).map List.flatten).map str).map Value.string) :: Blk b8 [gv, .int .i64 1, .int .i64 (((off : Nat) : Int)), .int .u32 (((WR.hd :: l).foldl stepL prev))] 31 :: Cel 0 0 (.iface 123 (.pointer (some ep))) :: Ro (Blk g5 ((piecesR prev (WR.hd :: l)).map strv ++ spg5) Tg5) :: Blk g4 (flatOf icell (le ++ [(((piecesR prev (WR.hd :: l)).length : Nat) : Int)]) ++ spg4) 3 :: A :: F)
              refine WPD.takeM 5 rfl rfl rfl rfl (by kernel_rfl) (by kernel_rfl) (by kernel_rfl) (by kernel_rfl) (fun _ _ _ h => h) (fun w h => (((h.perm pl2).perm pl4)).dropEnd (L := [_, _])) (Val.move rfl rfl) ?_
              refine WPD.takeGM 6 rfl rfl rfl rfl rfl rfl rfl rfl (by kernel_rfl) (by kernel_rfl) (by kernel_rfl) (by kernel_rfl) (fun _ _ _ h => h) (fun w h => (((h.perm pl2).perm pl4)).dropEnd (L := [_, _])) (Val.fieldAddr (j := 1) rfl Ty.fo31_1 rfl rfl) ?_
              refine WPD.takeG 7 rfl rfl rfl rfl rfl rfl rfl rfl (by kernel_rfl) (by kernel_rfl) (by kernel_rfl) (by kernel_rfl) (fun _ _ _ h => h) (by kernel_rfl) (fun w h => (((h.perm pl2).perm pl4)).dropEnd (L := [_, _])) (Val.load rfl Ty.sc3 rfl (fun w h => h.cell 0 rfl rfl)) ?_
              refine WPD.takeGM 8 rfl rfl rfl rfl rfl rfl rfl rfl (by kernel_rfl) (by kernel_rfl) (by kernel_rfl) (by kernel_rfl) (fun _ _ _ h => h) (fun w h => (((h.perm pl2).perm pl4)).dropEnd (L := [_, _])) (Val.eqlK rfl rfl rfl rfl) ?_
              refine WPD.takeM 9 rfl rfl rfl rfl (by kernel_rfl) (by kernel_rfl) (by kernel_rfl) (by kernel_rfl) (fun _ _ _ h => h) (fun w h => (((h.perm pl2).perm pl4)).dropEnd (L := [_, _])) (Val.pickT rfl rfl rfl) ?_
              refine WPD.takeM 10 rfl rfl rfl rfl (by kernel_rfl) (by kernel_rfl) (by kernel_rfl) (by kernel_rfl) (fun _ _ _ h => h) (fun w h => (((h.perm pl2).perm pl4)).dropEnd (L := [_, _])) (Val.move rfl rfl) ?_
              refine WPD.takeGM 11 rfl rfl rfl rfl rfl rfl rfl rfl (by kernel_rfl) (by kernel_rfl) (by kernel_rfl) (by kernel_rfl) (fun _ _ _ h => h) (fun w h => (((h.perm pl2).perm pl4)).dropEnd (L := [_, _])) (Val.fieldAddr (j := 2) rfl Ty.fo31_2 rfl rfl) ?_
              refine WPD.takeG 12 rfl rfl rfl rfl rfl rfl rfl rfl (by kernel_rfl) (by kernel_rfl) (by kernel_rfl) (by kernel_rfl) (fun _ _ _ h => h) (by kernel_rfl) (fun w h => (((h.perm pl2).perm pl4)).dropEnd (L := [_, _])) (Val.load rfl Ty.sc2 rfl (fun w h => h.cell 0 rfl rfl)) ?_
              refine WPD.takeGM 13 rfl rfl rfl rfl rfl rfl rfl rfl (by kernel_rfl) (by kernel_rfl) (by kernel_rfl) (by kernel_rfl) (fun _ _ _ h => h) (fun w h => (((h.perm pl2).perm pl4)).dropEnd (L := [_, _])) (Val.move rfl rfl) ?_
              refine WPD.takeGM 14 rfl rfl rfl rfl rfl rfl rfl rfl (by kernel_rfl) (by kernel_rfl) (by kernel_rfl) (by kernel_rfl) (fun _ _ _ h => h) (fun w h => (((h.perm pl2).perm pl4)).dropEnd (L := [_, _])) (Val.move rfl rfl) ?_
              refine WPD.takeG 15 rfl rfl rfl rfl rfl rfl rfl rfl (by kernel_rfl) (by kernel_rfl) (by kernel_rfl) (by kernel_rfl) (fun _ _ _ h => h) (by kernel_rfl) (fun w h => (((h.perm pl2).perm pl4)).dropEnd (L := [_, _])) (Val.len rfl Ty.sl27 rfl) ?_
              refine WPD.takeGM 16 rfl rfl rfl rfl rfl rfl rfl rfl (by kernel_rfl) (by kernel_rfl) (by kernel_rfl) (by kernel_rfl) (fun _ _ _ h => h) (fun w h => (((h.perm pl2).perm pl4)).dropEnd (L := [_, _])) (Val.sub (z := ((((((segs (piecesR prev (WR.hd :: l)) 0 (le ++ [(((piecesR prev (WR.hd :: l)).length : Nat) : Int)])).map List.flatten).map str).length) - 1 : Nat) : Int)) rfl rfl rfl ((w64 (by omega) (by omega)).trans (by omega))) ?_
              refine WPD.takeGM 17 rfl rfl rfl rfl rfl rfl rfl rfl (by kernel_rfl) (by kernel_rfl) (by kernel_rfl) (by kernel_rfl) (fun _ _ _ h => h) (fun w h => (((h.perm pl2).perm pl4)).dropEnd (L := [_, _])) (Val.indexAddr (j := ((((segs (piecesR prev (WR.hd :: l)) 0 (le ++ [(((piecesR prev (WR.hd :: l)).length : Nat) : Int)])).map List.flatten).map str).length) - 1) (q := ((((segs (piecesR prev (WR.hd :: l)) 0 (le ++ [(((piecesR prev (WR.hd :: l)).length : Nat) : Int)])).map List.flatten).map str).length) - 1) rfl Ty.sl27 rfl rfl (by omega) (by omega) (by omega)) ?_
              refine WPD.takeG 18 rfl rfl rfl rfl rfl rfl rfl rfl (by kernel_rfl) (by kernel_rfl) (by kernel_rfl) (by kernel_rfl) (fun _ _ _ h => h) (by kernel_rfl) (fun w h => (((h.perm pl2).perm pl4)).dropEnd (L := [_, _])) (Val.load (v := .string (str (frames xs))) rfl Ty.sc9 rfl (fun w h => h.cellRo 1 rfl (by rw [← hsm, hsn1]; exact strv_at hxf _))) ?_
              refine WPD.takeG 19 rfl rfl rfl rfl rfl rfl rfl rfl (by kernel_rfl) (by kernel_rfl) (by kernel_rfl) (by kernel_rfl) (fun _ _ _ h => h) (by kernel_rfl) (fun w h => (((h.perm pl2).perm pl4)).dropEnd (L := [_, _])) (Val.lenL rfl Ty.st9 rfl) ?_
              refine WPD.takeGM 20 rfl rfl rfl rfl rfl rfl rfl rfl (by kernel_rfl) (by kernel_rfl) (by kernel_rfl) (by kernel_rfl) (fun _ _ _ h => h) (fun w h => (((h.perm pl2).perm pl4)).dropEnd (L := [_, _])) (Val.eql rfl rfl rfl) ?_
              refine WPD.takeM 21 rfl rfl rfl rfl (by kernel_rfl) (by kernel_rfl) (by kernel_rfl) (by kernel_rfl) (fun _ _ _ h => h) (fun w h => (((h.perm pl2).perm pl4)).dropEnd (L := [_, _])) (Val.pickT rfl rfl rfl) ?_
              refine WPD.takeM 22 rfl rfl rfl rfl (by kernel_rfl) (by kernel_rfl) (by kernel_rfl) (by kernel_rfl) (fun _ _ _ h => h) (fun w h => (((h.perm pl2).perm pl4)).dropEnd (L := [_, _])) (Val.move rfl rfl) ?_
              refine WPD.split 119 rfl (fun h11 => ?_) (fun h11 => ?_)
              · skip
                have h11 : (((off : Nat) : Int) = (((frames xs).length : Nat) : Int)) := h11
                refine WPD.takeGM 23 rfl rfl rfl rfl rfl rfl rfl rfl (by kernel_rfl) (by kernel_rfl) (by kernel_rfl) (by kernel_rfl) (fun _ _ _ h => h) (fun w h => (((h.perm pl2).perm pl4)).dropEnd (L := [_, _])) (Val.fieldAddr (j := 3) rfl Ty.fo31_3 rfl rfl) ?_
                refine WPD.takeG 24 rfl rfl rfl rfl rfl rfl rfl rfl (by kernel_rfl) (by kernel_rfl) (by kernel_rfl) (by kernel_rfl) (fun _ _ _ h => h) (by kernel_rfl) (fun w h => (((h.perm pl2).perm pl4)).dropEnd (L := [_, _])) (Val.load rfl Ty.sc22 rfl (fun w h => h.cell 0 rfl rfl)) ?_
                refine WPD.takeGM 25 rfl rfl rfl rfl rfl rfl rfl rfl (by kernel_rfl) (by kernel_rfl) (by kernel_rfl) (by kernel_rfl) (fun _ _ _ h => h) (fun w h => (((h.perm pl2).perm pl4)).dropEnd (L := [_, _])) (Val.move rfl rfl) ?_
                refine WPD.takeGM 26 rfl rfl rfl rfl rfl rfl rfl rfl (by kernel_rfl) (by kernel_rfl) (by kernel_rfl) (by kernel_rfl) (fun _ _ _ h => h) (fun w h => (((h.perm pl2).perm pl4)).dropEnd (L := [_, _])) (Val.move rfl rfl) ?_
                refine WPD.perm pl1 ?_
                refine WPD.stepG 27 (by kernel_rfl) rfl rfl rfl rfl rfl rfl rfl rfl (Eff.call rfl rfl Tryd.call14 (walast_row (Blk g1 (flatOf WR.cells (WR.hd :: l) ++ spg1) 44) prev (WR.hd :: l) hd (by omega) g1 0 cg1 rd_blkW)) ?_
                rintro _ _ ⟨_, ⟨rfl, rfl⟩, rfl⟩
                refine ⟨(fun w h => (((h.perm pl2).perm pl4)).dropEnd (L := [_, _])), ?_⟩
                show WPD _ _ _ _ _ _ _ _ _ (Blk g1 (flatOf WR.cells (WR.hd :: l) ++ spg1) 44 :: Seq gv got.length (flatOf WR.cells got) :: Ro (Blk g9 ((((segs (piecesR prev (WR.hd :: l)) 0 (le ++ [(((piecesR prev (WR.hd :: l)).length : Nat) : Int)])).map List.flatten).map str).map Value.string ++ spg9) Tg9) :: Seq u ((((segs (piecesR prev (WR.hd :: l)) 0 (le ++ [(((piecesR prev (WR.hd :: l)).length : Nat) : Int)])).map List.flatten).map str).length) ((((segs (piecesR prev (WR.hd :: l)) 0 (le ++ [(((piecesR prev (WR.hd :: l)).length : Nat) : Int)])).map List.flatten).map str).map Value.string) :: Blk b8 [gv, .int .i64 1, .int .i64 (((off : Nat) : Int)), .int .u32 (((WR.hd :: l).foldl stepL prev))] 31 :: Cel 0 0 (.iface 123 (.pointer (some ep))) :: Ro (Blk g5 ((piecesR prev (WR.hd :: l)).map strv ++ spg5) Tg5) :: Blk g4 (flatOf icell (le ++ [(((piecesR prev (WR.hd :: l)).length : Nat) : Int)]) ++ spg4) 3 :: A :: F)
                refine WPD.takeGM 28 rfl rfl rfl rfl rfl rfl rfl rfl (by kernel_rfl) (by kernel_rfl) (by kernel_rfl) (by kernel_rfl) (fun _ _ _ h => h) (fun w h => (((h.perm pl2).perm pl4)).dropEnd (L := [_, _])) (Val.eql rfl rfl rfl) ?_
                refine WPD.takeM 29 rfl rfl rfl rfl (by kernel_rfl) (by kernel_rfl) (by kernel_rfl) (by kernel_rfl) (fun _ _ _ h => h) (fun w h => (((h.perm pl2).perm pl4)).dropEnd (L := [_, _])) (Val.pickT rfl rfl rfl) ?_
                refine WPD.takeM 30 rfl rfl rfl rfl (by kernel_rfl) (by kernel_rfl) (by kernel_rfl) (by kernel_rfl) (fun _ _ _ h => h) (fun w h => (((h.perm pl2).perm pl4)).dropEnd (L := [_, _])) (Val.assign rfl rfl) ?_
                refine WPD.done (by kernel_rfl) ?_
                refine Out.next ?_
                refine WPc.ret ?_
                refine Out.drop ?_
                refine Out.drop ?_
                refine Out.drop ?_
                refine Out.drop ?_
                refine Out.drop ?_
                refine Out.drop ?_
                refine Out.drop ?_
                refine Out.drop ?_
                exact Out.ret1 (L' := _) Tryd.results4 rfl ⟨by simp, rfl⟩ (fun _ h => h)
              · skip
                have h11 : ¬ (((off : Nat) : Int) = (((frames xs).length : Nat) : Int)) := h11
                exfalso; omega

theorem files_spec (A : HProp) (ep : Addr) (prev : Int) (l : List WR) (va : Value) (hva : Rd A 6 WR.cells va l) (hlen : l.length ≤ 9223372036854775807) (hwf : ∀ x ∈ l, WfR x) (le : List Int) (hle : le.length ≤ 9223372036854775807) (ve : Value) (hve : Rd A 1 icell ve le) : Does Tryd.prog 4 [.int .u32 prev, va, ve] [A, Cel 0 0 (.iface 123 (.pointer (some ep)))] (fun v L => v = .bool true ∧ L = [A]) := by
  rcases hve with ⟨b, o, c, rfl, hr⟩ | ⟨rfl, a, c, rfl⟩
  · exact files_row A ep prev l va hva hlen hwf le hle b o c hr
  · exact files_nil A ep prev l va hva hlen hwf a c

end Go.Proofs.YthicijpjpijdjaaDoor.WA
