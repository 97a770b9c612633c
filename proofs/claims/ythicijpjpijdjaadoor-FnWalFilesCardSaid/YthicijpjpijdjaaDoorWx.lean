import Derived.Test.YthicijpjpijdjaaDoorWw
namespace Go.Proofs.YthicijpjpijdjaaDoor.Wx
open Go.RowKit Go.Proofs.YthicijpjpijdjaaDoor Go.Proofs.YthicijpjpijdjaaDoor.Sl Go.Proofs.YthicijpjpijdjaaDoor.Wa Go.Proofs.YthicijpjpijdjaaDoor.Wb Go.Proofs.YthicijpjpijdjaaDoor.Wc Go.Proofs.YthicijpjpijdjaaDoor.Wd Go.Proofs.YthicijpjpijdjaaDoor.We Go.Proofs.YthicijpjpijdjaaDoor.Wf Go.Proofs.YthicijpjpijdjaaDoor.Wg Go.Proofs.YthicijpjpijdjaaDoor.Wh Go.Proofs.YthicijpjpijdjaaDoor.Wi Go.Proofs.YthicijpjpijdjaaDoor.Wj Go.Proofs.YthicijpjpijdjaaDoor.Wk Go.Proofs.YthicijpjpijdjaaDoor.Wl Go.Proofs.YthicijpjpijdjaaDoor.Wm Go.Proofs.YthicijpjpijdjaaDoor.Wn Go.Proofs.YthicijpjpijdjaaDoor.Wo Go.Proofs.YthicijpjpijdjaaDoor.Wp Go.Proofs.YthicijpjpijdjaaDoor.Wq Go.Proofs.YthicijpjpijdjaaDoor.Wr Go.Proofs.YthicijpjpijdjaaDoor.Ws Go.Proofs.YthicijpjpijdjaaDoor.Wt Go.Proofs.YthicijpjpijdjaaDoor.Wu Go.Proofs.YthicijpjpijdjaaDoor.Wv Go.Proofs.YthicijpjpijdjaaDoor.Ww
set_option linter.unusedVariables false
set_option linter.unusedSimpArgs false
set_option linter.unusedSectionVars false


theorem seq_blk {W w : World} {b n c : Nat} {xs : List Value} {T : TypeId} {L : List HProp} (hn : n ≤ c) (h : Sat W (Blk b xs T :: L) w) : Sat W (Seq (.slice (some ⟨b, 0, none⟩) n c) n xs :: L) w :=
  Sat.ex_mk (some (b, c, [], T)) (Sat.sep_mk (Sat.pure_mk ⟨rfl, hn⟩ (by rw [List.append_nil]; exact h.freeze)))
theorem seq_take {W w : World} {b k c : Nat} {P : List (List UInt8)} {sp : List Value} {T : TypeId} {L : List HProp} (hk : k ≤ c) (h : Sat W (Ro (Blk b (P.map strv ++ sp) T) :: L) w) : Sat W (Seq (.slice (some ⟨b, 0, none⟩) k c) k ((P.take k).map strv) :: Ro (Blk b (P.map strv ++ sp) T) :: L) w := by
  refine Sat.ex_mk (some (b, c, (P.drop k).map strv ++ sp, T)) (Sat.sep_mk (Sat.pure_mk ⟨rfl, hk⟩ ?_))
  have e : (P.take k).map strv ++ ((P.drop k).map strv ++ sp) = P.map strv ++ sp := by rw [← List.append_assoc, ← List.map_append, List.take_append_drop]
  rw [e]
  exact h.ro_dup
theorem take_at {α : Type} {l : List α} {k i : Nat} {x : α} (h : (l.take k)[i]? = some x) : l[i]? = some x := by
  rw [List.getElem?_take] at h
  split at h
  · exact h
  · cases h
theorem fine_of {x : WR} (h : OkR x) : WFine x := ⟨h.2.1, h.2.2.1, h.2.2.2.1⟩
theorem ok_hd : OkR WR.hd := ⟨⟨⟨by decide, by decide⟩, ⟨by decide, by decide⟩⟩, rfl, by decide, fun _ => rfl, fun _ => rfl⟩
theorem ok_all {l : List WR} (hw : ∀ x ∈ l, WfR x) (hg : ∀ x ∈ l, GoodR x) : ∀ x ∈ WR.hd :: l, OkR x := fun x hx => by
  rcases List.mem_cons.1 hx with rfl | h
  · exact ok_hd
  · exact ⟨hw x h, hg x h⟩
theorem pos_hd (c : Int) (l : List WR) : 0 < (piecesR c (WR.hd :: l)).flatten.length := by
  simp only [piecesR, List.flatten_cons, List.length_append]
  rw [wframe_len]; omega
theorem pieces_take : ∀ (c : Int) (l : List WR) (k : Nat), (piecesR c l).take k = piecesR c (l.take k)
  | _, [], k => by simp [piecesR]
  | _, _ :: _, 0 => rfl
  | c, x :: l, k + 1 => by simp [piecesR, pieces_take]
theorem frames_rfs {c : Int} {l : List WR} (h : ∀ x ∈ l, OkR x) : frames (rfs c l) = (piecesR c l).flatten := by rw [frames_flat, rfs_frames c l h]
theorem frames_drop {c : Int} {l : List WR} (h : ∀ x ∈ l, OkR x) (k : Nat) : (frames ((rfs c l).drop k)).length = (piecesR c l).flatten.length - ((piecesR c l).take k).flatten.length := by
  rw [frames_flat, List.map_drop, rfs_frames c l h]
  have : (piecesR c l).flatten = ((piecesR c l).take k).flatten ++ ((piecesR c l).drop k).flatten := by rw [← List.flatten_append, List.take_append_drop]
  rw [this, List.length_append]; omega
set_option maxRecDepth 100000 in
set_option maxHeartbeats 2000000 in
theorem stops_spec (A : HProp) (ep : Addr) (prev : Int) (l : List WR) (va : Value) (hva : Rd A 6 WR.cells va l) (hlen : l.length ≤ 9223372036854775807) (hwf : ∀ x ∈ l, WfR x) (m : Int) : Does Tryd.prog 3 [.int .u32 (prev), va, .int .i64 (m)] [A, Cel 0 0 (.iface 123 (.pointer (some ep)))] (fun v L => v = .bool true ∧ L = [A]) := by
  refine Does.enter 63 Tryd.func3 rfl rfl rfl fun W F => ?_
  show WPc _ _ _ _ _ [(0, .int .u32 (prev)), (1, va), (2, .int .i64 (m))] (A :: Cel 0 0 (.iface 123 (.pointer (some ep))) :: F)
  refine WPc.seq ?_
  refine WPc.region ?_
  refine WP.val rfl rfl rfl (Val.assign rfl rfl) ?_
  refine WP.nil ?_
  refine Out.next ?_
  refine WPc.seq ?_
  refine WPc.seq ?_
  refine WPc.region ?_
  refine WP.val rfl rfl rfl (Val.move rfl rfl) ?_
  refine WP.eff rfl rfl rfl (Eff.call rfl rfl Tryd.call6 (fits39_spec A l hlen va hva)) ?_
  rintro _ _ ⟨_, ⟨fb, rfl, rfl⟩, rfl⟩
  show WP _ _ _ _ _ _ _ (A :: Cel 0 0 (.iface 123 (.pointer (some ep))) :: F)
  refine WP.val rfl rfl rfl (Val.not rfl rfl) ?_
  refine WP.nil ?_
  refine Out.next ?_
  refine WPc.cond rfl (fun h1 => ?_) (fun h1 => ?_)
  · skip
    have h1 : (!fb) = true := h1
    refine WPc.seq ?_
    refine WPc.region ?_
    refine WP.val rfl rfl rfl (Val.assign rfl rfl) ?_
    refine WP.nil ?_
    refine Out.next ?_
    refine WPc.ret ?_
    refine Out.then_ret ?_
    refine Out.perm pl1 ?_
    refine Out.drop ?_
    exact Out.ret1 (L' := _) Tryd.results3 rfl ⟨rfl, rfl⟩ (fun _ h => h)
  · skip
    have h1 : (!fb) = false := h1
    refine WPc.skip ?_
    refine Out.next ?_
    refine WPc.seq ?_
    refine WPc.seq ?_
    refine WPc.region ?_
    refine WP.val rfl rfl rfl (Val.move rfl rfl) ?_
    refine WP.eff rfl rfl rfl (Eff.call rfl rfl Tryd.call7 (wagood_spec A 0 l hlen va hva)) ?_
    rintro _ _ ⟨_, ⟨gb, rfl, hgb, rfl⟩, rfl⟩
    show WP _ _ _ _ _ _ _ (A :: Cel 0 0 (.iface 123 (.pointer (some ep))) :: F)
    refine WP.val rfl rfl rfl (Val.not rfl rfl) ?_
    refine WP.val rfl rfl rfl (Val.move rfl rfl) ?_
    refine WP.splitB 16 rfl (fun h2 => ?_) (fun h2 => ?_)
    · skip
      refine WP.skip rfl rfl rfl rfl rfl rfl rfl ?_
      refine WP.skip rfl rfl rfl rfl rfl rfl rfl ?_
      refine WP.val rfl rfl rfl (Val.pickT rfl rfl rfl) ?_
      refine WP.val rfl rfl rfl (Val.move rfl rfl) ?_
      refine WP.skip rfl rfl rfl rfl rfl rfl rfl ?_
      refine WP.skip rfl rfl rfl rfl rfl rfl rfl ?_
      refine WP.skip rfl rfl rfl rfl rfl rfl rfl ?_
      refine WP.skip rfl rfl rfl rfl rfl rfl rfl ?_
      refine WP.val rfl rfl rfl (Val.pickT rfl rfl rfl) ?_
      refine WP.nil ?_
      refine Out.next ?_
      refine WPc.condT rfl rfl ?_
      refine WPc.seq ?_
      refine WPc.region ?_
      refine WP.val rfl rfl rfl (Val.assign rfl rfl) ?_
      refine WP.nil ?_
      refine Out.next ?_
      refine WPc.ret ?_
      refine Out.then_ret ?_
      refine Out.perm pl1 ?_
      refine Out.drop ?_
      exact Out.ret1 (L' := _) Tryd.results3 rfl ⟨rfl, rfl⟩ (fun _ h => h)
    · skip
      refine WP.valG rfl rfl rfl rfl rfl rfl rfl (Val.move rfl rfl) ?_
      refine WP.valG rfl rfl rfl rfl rfl rfl rfl (Val.lss rfl rfl rfl) ?_
      refine WP.val rfl rfl rfl (Val.pickF rfl rfl rfl) ?_
      refine WP.val rfl rfl rfl (Val.move rfl rfl) ?_
      refine WP.split 20 rfl (fun h3 => ?_) (fun h3 => ?_)
      · skip
        have h3 : (m < (0 : Int)) := h3
        refine WP.skip rfl rfl rfl rfl rfl rfl rfl ?_
        refine WP.skip rfl rfl rfl rfl rfl rfl rfl ?_
        refine WP.skip rfl rfl rfl rfl rfl rfl rfl ?_
        refine WP.skip rfl rfl rfl rfl rfl rfl rfl ?_
        refine WP.val rfl rfl rfl (Val.pickT rfl rfl rfl) ?_
        refine WP.nil ?_
        refine Out.next ?_
        refine WPc.condT rfl rfl ?_
        refine WPc.seq ?_
        refine WPc.region ?_
        refine WP.val rfl rfl rfl (Val.assign rfl rfl) ?_
        refine WP.nil ?_
        refine Out.next ?_
        refine WPc.ret ?_
        refine Out.then_ret ?_
        refine Out.perm pl1 ?_
        refine Out.drop ?_
        exact Out.ret1 (L' := _) Tryd.results3 rfl ⟨rfl, rfl⟩ (fun _ h => h)
      · skip
        have h3 : ¬ (m < (0 : Int)) := h3
        refine WP.valG rfl rfl rfl rfl rfl rfl rfl (Val.move rfl rfl) ?_
        refine WP.valG rfl rfl rfl rfl rfl rfl rfl (Val.move rfl rfl) ?_
        refine WP.valG rfl rfl rfl rfl rfl rfl rfl (Rd.len hva rfl Ty.sl23 rfl) ?_
        refine WP.valG rfl rfl rfl rfl rfl rfl rfl (Val.gtr rfl rfl rfl) ?_
        refine WP.val rfl rfl rfl (Val.pickF rfl rfl rfl) ?_
        refine WP.nil ?_
        refine Out.next ?_
        refine WPc.ifP rfl (fun h4 => ?_) (fun h4 => ?_)
        · skip
          have h4 : (((l.length : Nat) : Int) < m) := h4
          refine WPc.seq ?_
          refine WPc.region ?_
          refine WP.val rfl rfl rfl (Val.assign rfl rfl) ?_
          refine WP.nil ?_
          refine Out.next ?_
          refine WPc.ret ?_
          refine Out.then_ret ?_
          refine Out.perm pl1 ?_
          refine Out.drop ?_
          exact Out.ret1 (L' := _) Tryd.results3 rfl ⟨rfl, rfl⟩ (fun _ h => h)
        · skip
          have h4 : ¬ (((l.length : Nat) : Int) < m) := h4
          refine WPc.skip ?_
          refine Out.next ?_
          refine WPc.seq ?_
          have hgt : gb = true := by simpa using (by assumption : (!gb) = false)
          obtain ⟨g1, g2, g3, g4⟩ := hgb hgt
          have hok := ok_all hwf g4
          have hgood : ∀ x ∈ (WR.hd :: l), WFine x := fun x hx => fine_of (hok x hx)
          have hd : ∀ x ∈ (WR.hd :: l), x.d.length ≤ 5000 := fun x hx => (hok x hx).2.2.1
          have hLl : (WR.hd :: l).length = l.length + 1 := rfl
          have hmax := pieces_le prev (WR.hd :: l) hd
          have hpos := pos_hd prev l
          have hplen := pieces_len prev (WR.hd :: l)
          have hrlen := rfs_len prev (WR.hd :: l)
          have hfr := frames_rfs (c := prev) hok
          have hrg := rfs_good prev (WR.hd :: l) hok
          obtain ⟨k, rfl⟩ : ∃ k : Nat, m = (k : Int) := ⟨m.toNat, by omega⟩
          refine WPc.region ?_
          refine WP.val rfl rfl rfl (Val.move rfl rfl) ?_
          refine WP.eff rfl rfl rfl (Eff.call rfl rfl Tryd.call8 (headed_spec A l (by omega) va hva)) ?_
          rintro u1 _ ⟨_, ⟨_, rfl, rfl⟩, rfl⟩
          show WP _ _ _ _ _ _ _ (Own 44 6 u1 ((WR.hd :: l).length) (flatOf WR.cells (WR.hd :: l)) :: A :: Cel 0 0 (.iface 123 (.pointer (some ep))) :: F)
          refine WP.val rfl rfl rfl (Val.assign rfl rfl) ?_
          refine WP.nil ?_
          refine Out.next ?_
          refine WPc.seq ?_
          refine WPc.open (fun w h => h.ownPos (by rw [hLl]; omega)) ?_
          rintro ⟨g1, cg1, spg1⟩
          refine WPc.pure (fun hvg1 => ?_)
          obtain ⟨rfl, hng1, hlg1, hsg1, hcg1⟩ := hvg1
          dsimp only at hng1 hlg1 hsg1 hcg1
          show WPc _ _ _ _ _ _ (Blk g1 (flatOf WR.cells (WR.hd :: l) ++ spg1) 44 :: A :: Cel 0 0 (.iface 123 (.pointer (some ep))) :: F)
          refine WPc.know 1 (.slice (some ⟨g1, 0, none⟩) (WR.hd :: l).length cg1) rfl rfl ?_
          refine WPc.region ?_
          refine WP.val rfl rfl rfl (Val.move rfl rfl) ?_
          refine WP.val rfl rfl rfl (Val.move rfl rfl) ?_
          refine WP.eff rfl rfl rfl (Eff.call rfl rfl Tryd.call9 (pieces_spec (Blk g1 (flatOf WR.cells (WR.hd :: l) ++ spg1) 44) prev (WR.hd :: l) hgood hd (by omega) hpos (by omega) _ (.inl ⟨g1, 0, cg1, rfl, rd_blkW⟩))) ?_
          rintro _ _ ⟨_, ⟨pv, rfl, rfl⟩, rfl⟩
          show WP _ _ _ _ _ _ _ (Own 9 1 pv ((piecesR prev (WR.hd :: l)).length) ((piecesR prev (WR.hd :: l)).map strv) :: Blk g1 (flatOf WR.cells (WR.hd :: l) ++ spg1) 44 :: A :: Cel 0 0 (.iface 123 (.pointer (some ep))) :: F)
          refine WP.val rfl rfl rfl (Val.move rfl rfl) ?_
          refine WP.val rfl rfl rfl (Val.extract rfl rfl rfl) ?_
          refine WP.val rfl rfl rfl (Val.extract rfl rfl rfl) ?_
          refine WP.val rfl rfl rfl (Val.assign rfl rfl) ?_
          refine WP.val rfl rfl rfl (Val.assign rfl rfl) ?_
          refine WP.nil ?_
          refine Out.next ?_
          refine WPc.seq ?_
          refine WPc.seq ?_
          refine WPc.region ?_
          refine WP.val rfl rfl rfl (Val.move rfl rfl) ?_
          refine WP.val rfl rfl rfl (Val.not rfl rfl) ?_
          refine WP.nil ?_
          refine Out.next ?_
          refine WPc.condF rfl rfl ?_
          refine WPc.skip ?_
          refine Out.next ?_
          refine WPc.seq ?_
          refine WPc.conv (fun w h => Sat.seqMk h) ?_
          show WPc _ _ _ _ _ _ (Seq pv ((piecesR prev (WR.hd :: l)).length) ((piecesR prev (WR.hd :: l)).map strv) :: Blk g1 (flatOf WR.cells (WR.hd :: l) ++ spg1) 44 :: A :: Cel 0 0 (.iface 123 (.pointer (some ep))) :: F)
          refine WPc.region ?_
          refine WP.val rfl rfl rfl (Val.move rfl rfl) ?_
          refine WP.eff rfl rfl rfl (Eff.call rfl rfl Tryd.call11 (join_spec pv (piecesR prev (WR.hd :: l)) (by omega) (by omega))) ?_
          rintro _ _ ⟨_, ⟨rfl, rfl⟩, rfl⟩
          show WP _ _ _ _ _ _ _ (Seq pv ((piecesR prev (WR.hd :: l)).length) ((piecesR prev (WR.hd :: l)).map strv) :: Blk g1 (flatOf WR.cells (WR.hd :: l) ++ spg1) 44 :: A :: Cel 0 0 (.iface 123 (.pointer (some ep))) :: F)
          refine WP.eff rfl rfl rfl (Eff.mkSlice (C := [.string (str ((piecesR prev (WR.hd :: l)).flatten))]) rfl Ty.sl27 rfl (fun _ => by kernel_rfl)) ?_
          rintro _ _ ⟨b2, rfl, rfl⟩
          refine WP.val rfl rfl rfl (Val.move rfl rfl) ?_
          refine WP.conv (fun w h => seq_blk (n := 1) (c := 1) (by decide) h) ?_
          show WP _ _ _ _ _ _ _ (Seq (.slice (some ⟨b2, 0, none⟩) 1 1) 1 [.string (str (piecesR prev (WR.hd :: l)).flatten)] :: Seq pv ((piecesR prev (WR.hd :: l)).length) ((piecesR prev (WR.hd :: l)).map strv) :: Blk g1 (flatOf WR.cells (WR.hd :: l) ++ spg1) 44 :: A :: Cel 0 0 (.iface 123 (.pointer (some ep))) :: F)
          refine WP.perm pl4 ?_
          refine WP.perm pl1 ?_
          refine WP.eff rfl rfl rfl (Eff.call rfl rfl Tryd.call10 (walread_spec ep _ [str (piecesR prev (WR.hd :: l)).flatten] [rfs prev (WR.hd :: l)] k (by simp only [List.map_cons, List.map_nil]; rw [hfr]; rfl) (fun rs hrs => by rw [List.mem_singleton.1 hrs]; exact ⟨by rw [hfr]; omega, hrg⟩) (by simp) (by simp) (by simpa using chain_hd prev l) (by omega))) ?_
          rintro _ _ ⟨_, ⟨got, gv, e, off, c, hfin, rfl, rfl⟩, rfl⟩
          show WP _ _ _ _ _ _ _ (Own 44 6 gv got.length (flatOf WR.cells got) :: Cel 0 0 (.iface 123 (.pointer (some ep))) :: Seq pv ((piecesR prev (WR.hd :: l)).length) ((piecesR prev (WR.hd :: l)).map strv) :: Blk g1 (flatOf WR.cells (WR.hd :: l) ++ spg1) 44 :: A :: F)
          refine WP.fact (fun w h => own_oneCell h) (fun onegv => ?_)
          have hfl : [rfs prev (WR.hd :: l)].flatten = rfs prev (WR.hd :: l) := by simp
          obtain ⟨hc1, ho1, hcase⟩ := hfin
          rw [hfl] at ho1 hcase hc1
          obtain ⟨hgk, rfl, hoff⟩ : got.length = k ∧ e = 0 ∧ off + (frames ((rfs prev (WR.hd :: l)).drop k)).length = (frames (rfs prev (WR.hd :: l))).length := by
            rcases hcase with ⟨a1, a2, a3, a4⟩ | ⟨a1, a2, -⟩
            · refine ⟨a1, a2, ?_⟩
              have := a4 rfl
              rwa [a1] at this
            · exfalso; omega
          rw [hgk, rfs_take] at ho1
          rw [frames_drop hok, hfr] at hoff
          have hoffeq : ((off : Nat) : Int) = ((((piecesR prev (WR.hd :: l)).take k).flatten.length : Nat) : Int) := by have := flat_take_le (piecesR prev (WR.hd :: l)) k; omega
          refine WP.eff rfl rfl rfl (Eff.alloc rfl Ty.z31) ?_
          rintro _ _ ⟨b3, rfl, rfl⟩
          refine WP.eff0 rfl rfl (Eff.storeAgg (cs := [gv, .int .i64 0, .int .i64 (((off : Nat) : Int)), .int .u32 (c)]) (C' := [gv, .int .i64 0, .int .i64 (((off : Nat) : Int)), .int .u32 (c)]) rfl Ty.ag31 rfl rfl rfl (by simp only [List.all_cons, List.all_nil, Bool.and_true, oc_int, oc_str, oc_bool, oc_ptr, oc_slice, oc_iface, oc_map, onegv]) (by simp) rfl) ?_
          rintro _ _ rfl
          refine WP.nil ?_
          refine Out.next ?_
          refine WPc.seq ?_
          refine WPc.perm pl1 ?_
          refine WPc.conv (fun w h => Sat.seqMk h) ?_
          show WPc _ _ _ _ _ _ (Seq gv got.length (flatOf WR.cells got) :: Blk b3 [gv, .int .i64 0, .int .i64 (((off : Nat) : Int)), .int .u32 (c)] 31 :: Cel 0 0 (.iface 123 (.pointer (some ep))) :: Seq pv ((piecesR prev (WR.hd :: l)).length) ((piecesR prev (WR.hd :: l)).map strv) :: Blk g1 (flatOf WR.cells (WR.hd :: l) ++ spg1) 44 :: A :: F)
          refine WPc.perm pl3 ?_
          refine WPc.open (fun w h => h.seqOpen (by omega)) ?_
          rintro ⟨g4, cg4, spg4, Tg4⟩
          refine WPc.pure (fun hvg4 => ?_)
          refine WPc.know 7 (.slice (some ⟨g4, 0, none⟩) ((piecesR prev (WR.hd :: l)).length) cg4) rfl hvg4.1 ?_
          show WPc _ _ _ _ _ _ (Ro (Blk g4 ((piecesR prev (WR.hd :: l)).map strv ++ spg4) Tg4) :: Seq pv ((piecesR prev (WR.hd :: l)).length) ((piecesR prev (WR.hd :: l)).map strv) :: Seq gv got.length (flatOf WR.cells got) :: Blk b3 [gv, .int .i64 0, .int .i64 (((off : Nat) : Int)), .int .u32 (c)] 31 :: Cel 0 0 (.iface 123 (.pointer (some ep))) :: Blk g1 (flatOf WR.cells (WR.hd :: l) ++ spg1) 44 :: A :: F)
          have hkc : k ≤ cg4 := by have := hvg4.2; dsimp only at this; omega
          have hpc : (piecesR prev (WR.hd :: l)).length ≤ cg4 := hvg4.2
          refine WPc.conv (fun w h => seq_take hkc h) ?_
          show WPc _ _ _ _ _ _ (Seq (.slice (some ⟨g4, 0, none⟩) k cg4) k (((piecesR prev (WR.hd :: l)).take k).map strv) :: Ro (Blk g4 ((piecesR prev (WR.hd :: l)).map strv ++ spg4) Tg4) :: Seq pv ((piecesR prev (WR.hd :: l)).length) ((piecesR prev (WR.hd :: l)).map strv) :: Seq gv got.length (flatOf WR.cells got) :: Blk b3 [gv, .int .i64 0, .int .i64 (((off : Nat) : Int)), .int .u32 (c)] 31 :: Cel 0 0 (.iface 123 (.pointer (some ep))) :: Blk g1 (flatOf WR.cells (WR.hd :: l) ++ spg1) 44 :: A :: F)
          refine WPD.start (Sat W (Seq (.slice (some ⟨g4, 0, none⟩) k cg4) k (((piecesR prev (WR.hd :: l)).take k).map strv) :: Ro (Blk g4 ((piecesR prev (WR.hd :: l)).map strv ++ spg4) Tg4) :: Seq pv ((piecesR prev (WR.hd :: l)).length) ((piecesR prev (WR.hd :: l)).map strv) :: Seq gv got.length (flatOf WR.cells got) :: Blk b3 [gv, .int .i64 0, .int .i64 (((off : Nat) : Int)), .int .u32 (c)] 31 :: Cel 0 0 (.iface 123 (.pointer (some ep))) :: Blk g1 (flatOf WR.cells (WR.hd :: l) ++ spg1) 44 :: A :: F)) Ty.mixed ?_
          refine WPD.takeM 0 rfl rfl rfl rfl (by kernel_rfl) (by kernel_rfl) (by kernel_rfl) (by kernel_rfl) (fun _ _ _ h => h) (fun _ h => h) (Val.fieldAddr (j := 0) rfl Ty.fo31_0 rfl rfl) ?_
          refine WPD.take 1 rfl rfl rfl rfl (by kernel_rfl) (by kernel_rfl) (by kernel_rfl) (by kernel_rfl) (fun _ _ _ h => h) (by kernel_rfl) (fun _ h => h) (Val.load rfl Ty.sc23 rfl (fun w h => h.cell 4 rfl rfl)) ?_
          refine WPD.takeM 2 rfl rfl rfl rfl (by kernel_rfl) (by kernel_rfl) (by kernel_rfl) (by kernel_rfl) (fun _ _ _ h => h) (fun _ h => h) (Val.move rfl rfl) ?_
          refine WPD.takeM 3 rfl rfl rfl rfl (by kernel_rfl) (by kernel_rfl) (by kernel_rfl) (by kernel_rfl) (fun _ _ _ h => h) (fun _ h => h) (Val.move rfl rfl) ?_
          refine WPD.takeM 4 rfl rfl rfl rfl (by kernel_rfl) (by kernel_rfl) (by kernel_rfl) (by kernel_rfl) (fun _ _ _ h => h) (fun _ h => h) (Val.slice (lo := 0) (hi := k) (j := 0) (vlo := none) (vhi := some (.i64, ((k : Nat) : Int))) rfl Ty.sl23 rfl rfl rfl (by simp [bnd]) (by simp [bnd]; try omega) (by omega) (by omega) (by omega) (by simp)) ?_
          refine WPD.takeM 5 rfl rfl rfl rfl (by kernel_rfl) (by kernel_rfl) (by kernel_rfl) (by kernel_rfl) (fun _ _ _ h => h) (fun _ h => h) (Val.move rfl rfl) ?_
          refine WPD.know 45 (.slice (some ⟨g1, 0, none⟩) ((WR.hd :: l).take k).length cg1) rfl (by rw [List.length_take]; congr 1; omega) ?_
          refine WPD.perm pl6 ?_
          refine WPD.perm pl4 ?_
          refine WPD.stepC 6 (by kernel_rfl) rfl rfl rfl rfl (by kernel_rfl) (Eff.call rfl rfl Tryd.call12 (same_row (Blk g1 (flatOf WR.cells (WR.hd :: l) ++ spg1) 44) gv got ((WR.hd :: l).take k) prev ho1 (fun x hx => hd x (List.mem_of_mem_take hx)) (by rw [List.length_take]; omega) g1 0 cg1 (fun w h i x hx => rd_blkW w h i x (take_at hx)))) ?_
          rintro _ _ ⟨_, ⟨rfl, rfl⟩, rfl⟩
          refine ⟨(Sat W [Blk b3 [gv, .int .i64 0, .int .i64 (((off : Nat) : Int)), .int .u32 (c)] 31]), (fun w h => ((h.perm pl5)).dropEnd (L := [_])), ?_⟩
          show WPD _ _ _ _ _ _ _ _ _ (Seq gv got.length (flatOf WR.cells got) :: Blk g1 (flatOf WR.cells (WR.hd :: l) ++ spg1) 44 :: Seq (.slice (some ⟨g4, 0, none⟩) k cg4) k (((piecesR prev (WR.hd :: l)).take k).map strv) :: Ro (Blk g4 ((piecesR prev (WR.hd :: l)).map strv ++ spg4) Tg4) :: Seq pv ((piecesR prev (WR.hd :: l)).length) ((piecesR prev (WR.hd :: l)).map strv) :: Blk b3 [gv, .int .i64 0, .int .i64 (((off : Nat) : Int)), .int .u32 (c)] 31 :: Cel 0 0 (.iface 123 (.pointer (some ep))) :: A :: F)
          refine WPD.takeM 7 rfl rfl rfl rfl (by kernel_rfl) (by kernel_rfl) (by kernel_rfl) (by kernel_rfl) (fun _ _ _ h => h) (fun w h => ((h.perm pl5)).dropEnd (L := [_])) (Val.move rfl rfl) ?_
          refine WPD.takeGM 8 rfl rfl rfl rfl rfl rfl rfl rfl (by kernel_rfl) (by kernel_rfl) (by kernel_rfl) (by kernel_rfl) (fun _ _ _ h => h) (fun w h => ((h.perm pl5)).dropEnd (L := [_])) (Val.fieldAddr (j := 1) rfl Ty.fo31_1 rfl rfl) ?_
          refine WPD.takeG 9 rfl rfl rfl rfl rfl rfl rfl rfl (by kernel_rfl) (by kernel_rfl) (by kernel_rfl) (by kernel_rfl) (fun _ _ _ h => h) (by kernel_rfl) (fun w h => ((h.perm pl5)).dropEnd (L := [_])) (Val.load rfl Ty.sc3 rfl (fun w h => h.cell 0 rfl rfl)) ?_
          refine WPD.takeGM 10 rfl rfl rfl rfl rfl rfl rfl rfl (by kernel_rfl) (by kernel_rfl) (by kernel_rfl) (by kernel_rfl) (fun _ _ _ h => h) (fun w h => ((h.perm pl5)).dropEnd (L := [_])) (Val.eqlK rfl rfl rfl rfl) ?_
          refine WPD.takeM 11 rfl rfl rfl rfl (by kernel_rfl) (by kernel_rfl) (by kernel_rfl) (by kernel_rfl) (fun _ _ _ h => h) (fun w h => ((h.perm pl5)).dropEnd (L := [_])) (Val.pickT rfl rfl rfl) ?_
          refine WPD.takeM 12 rfl rfl rfl rfl (by kernel_rfl) (by kernel_rfl) (by kernel_rfl) (by kernel_rfl) (fun _ _ _ h => h) (fun w h => ((h.perm pl5)).dropEnd (L := [_])) (Val.move rfl rfl) ?_
          refine WPD.takeGM 13 rfl rfl rfl rfl rfl rfl rfl rfl (by kernel_rfl) (by kernel_rfl) (by kernel_rfl) (by kernel_rfl) (fun _ _ _ h => h) (fun w h => ((h.perm pl5)).dropEnd (L := [_])) (Val.fieldAddr (j := 2) rfl Ty.fo31_2 rfl rfl) ?_
          refine WPD.takeG 14 rfl rfl rfl rfl rfl rfl rfl rfl (by kernel_rfl) (by kernel_rfl) (by kernel_rfl) (by kernel_rfl) (fun _ _ _ h => h) (by kernel_rfl) (fun w h => ((h.perm pl5)).dropEnd (L := [_])) (Val.load rfl Ty.sc2 rfl (fun w h => h.cell 0 rfl rfl)) ?_
          refine WPD.takeGM 15 rfl rfl rfl rfl rfl rfl rfl rfl (by kernel_rfl) (by kernel_rfl) (by kernel_rfl) (by kernel_rfl) (fun _ _ _ h => h) (fun w h => ((h.perm pl5)).dropEnd (L := [_])) (Val.move rfl rfl) ?_
          refine WPD.takeGM 16 rfl rfl rfl rfl rfl rfl rfl rfl (by kernel_rfl) (by kernel_rfl) (by kernel_rfl) (by kernel_rfl) (fun _ _ _ h => h) (fun w h => ((h.perm pl5)).dropEnd (L := [_])) (Val.move rfl rfl) ?_
          refine WPD.takeGM 17 rfl rfl rfl rfl rfl rfl rfl rfl (by kernel_rfl) (by kernel_rfl) (by kernel_rfl) (by kernel_rfl) (fun _ _ _ h => h) (fun w h => ((h.perm pl5)).dropEnd (L := [_])) (Val.slice (lo := 0) (hi := k) (j := 0) (vlo := none) (vhi := some (.i64, ((k : Nat) : Int))) rfl Ty.sl27 rfl rfl rfl (by simp [bnd]) (by simp [bnd]; try omega) (by omega) (by omega) (by omega) (by simp)) ?_
          have htl : ((piecesR prev (WR.hd :: l)).take k).length = k := by rw [List.length_take]; omega
          have hjs := join_spec (.slice (some ⟨g4, 0, none⟩) k cg4) ((piecesR prev (WR.hd :: l)).take k) (by have := flat_take_le (piecesR prev (WR.hd :: l)) k; omega) (by omega)
          rw [htl] at hjs
          refine WPD.perm pl2 ?_
          refine WPD.stepG 18 (by kernel_rfl) rfl rfl rfl rfl rfl rfl rfl rfl (Eff.call rfl rfl Tryd.call11 (hjs)) ?_
          rintro _ _ ⟨_, ⟨rfl, rfl⟩, rfl⟩
          refine ⟨(fun w h => ((h.perm pl5)).dropEnd (L := [_])), ?_⟩
          show WPD _ _ _ _ _ _ _ _ _ (Seq (.slice (some ⟨g4, 0, none⟩) k cg4) k (((piecesR prev (WR.hd :: l)).take k).map strv) :: Seq gv got.length (flatOf WR.cells got) :: Blk g1 (flatOf WR.cells (WR.hd :: l) ++ spg1) 44 :: Ro (Blk g4 ((piecesR prev (WR.hd :: l)).map strv ++ spg4) Tg4) :: Seq pv ((piecesR prev (WR.hd :: l)).length) ((piecesR prev (WR.hd :: l)).map strv) :: Blk b3 [gv, .int .i64 0, .int .i64 (((off : Nat) : Int)), .int .u32 (c)] 31 :: Cel 0 0 (.iface 123 (.pointer (some ep))) :: A :: F)
          refine WPD.takeG 19 rfl rfl rfl rfl rfl rfl rfl rfl (by kernel_rfl) (by kernel_rfl) (by kernel_rfl) (by kernel_rfl) (fun _ _ _ h => h) (by kernel_rfl) (fun w h => ((h.perm pl5)).dropEnd (L := [_])) (Val.lenL rfl Ty.st9 rfl) ?_
          refine WPD.takeGM 20 rfl rfl rfl rfl rfl rfl rfl rfl (by kernel_rfl) (by kernel_rfl) (by kernel_rfl) (by kernel_rfl) (fun _ _ _ h => h) (fun w h => ((h.perm pl5)).dropEnd (L := [_])) (Val.eql rfl rfl rfl) ?_
          refine WPD.takeM 21 rfl rfl rfl rfl (by kernel_rfl) (by kernel_rfl) (by kernel_rfl) (by kernel_rfl) (fun _ _ _ h => h) (fun w h => ((h.perm pl5)).dropEnd (L := [_])) (Val.pickT rfl rfl rfl) ?_
          refine WPD.takeM 22 rfl rfl rfl rfl (by kernel_rfl) (by kernel_rfl) (by kernel_rfl) (by kernel_rfl) (fun _ _ _ h => h) (fun w h => ((h.perm pl5)).dropEnd (L := [_])) (Val.assign rfl rfl) ?_
          refine WPD.done (by kernel_rfl) ?_
          refine Out.next ?_
          refine WPc.ret ?_
          refine Out.drop ?_
          refine Out.drop ?_
          refine Out.drop ?_
          refine Out.drop ?_
          refine Out.drop ?_
          refine Out.drop ?_
          refine Out.drop ?_
          exact Out.ret1 (L' := _) Tryd.results3 rfl ⟨by rw [decide_eq_true hoffeq], rfl⟩ (fun _ h => h)

end Go.Proofs.YthicijpjpijdjaaDoor.Wx
