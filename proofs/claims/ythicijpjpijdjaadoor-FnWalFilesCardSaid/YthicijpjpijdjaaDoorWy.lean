import Derived.Test.YthicijpjpijdjaaDoorWx
namespace Go.Proofs.YthicijpjpijdjaaDoor.Wy
open Go.RowKit Go.Proofs.YthicijpjpijdjaaDoor Go.Proofs.YthicijpjpijdjaaDoor.Sl Go.Proofs.YthicijpjpijdjaaDoor.Wa Go.Proofs.YthicijpjpijdjaaDoor.Wb Go.Proofs.YthicijpjpijdjaaDoor.Wc Go.Proofs.YthicijpjpijdjaaDoor.Wd Go.Proofs.YthicijpjpijdjaaDoor.We Go.Proofs.YthicijpjpijdjaaDoor.Wf Go.Proofs.YthicijpjpijdjaaDoor.Wg Go.Proofs.YthicijpjpijdjaaDoor.Wh Go.Proofs.YthicijpjpijdjaaDoor.Wi Go.Proofs.YthicijpjpijdjaaDoor.Wj Go.Proofs.YthicijpjpijdjaaDoor.Wk Go.Proofs.YthicijpjpijdjaaDoor.Wl Go.Proofs.YthicijpjpijdjaaDoor.Wm Go.Proofs.YthicijpjpijdjaaDoor.Wn Go.Proofs.YthicijpjpijdjaaDoor.Wo Go.Proofs.YthicijpjpijdjaaDoor.Wp Go.Proofs.YthicijpjpijdjaaDoor.Wq Go.Proofs.YthicijpjpijdjaaDoor.Wr Go.Proofs.YthicijpjpijdjaaDoor.Ws Go.Proofs.YthicijpjpijdjaaDoor.Wt Go.Proofs.YthicijpjpijdjaaDoor.Wu Go.Proofs.YthicijpjpijdjaaDoor.Wv Go.Proofs.YthicijpjpijdjaaDoor.Ww Go.Proofs.YthicijpjpijdjaaDoor.Wx
set_option linter.unusedVariables false
set_option linter.unusedSimpArgs false
set_option linter.unusedSectionVars false


theorem Srcs.ofRd {P : Program} {W : World} {L : List HProp} {A : HProp} {tx e' : TypeId} {k' b' : Nat} {va : Value} {l : List WR} (hk : slcE P tx = some (e', k', b')) (h : Rd A 6 WR.cells va l) (i : Nat) (hi : L[i]? = some A) : Srcs P W L 6 tx va l.length (flatOf WR.cells l) := by
  rcases h with ⟨b, o, c, rfl, hr⟩ | ⟨rfl, a, c, rfl⟩
  · exact Srcs.slice hk (flatOf_length WR.len l) (flat_one6 l) (fun w h => cells_range (rows_at (hr w (h.at i hi))))
  · exact Srcs.empty hk a
set_option maxRecDepth 100000 in
set_option maxHeartbeats 2000000 in
theorem goeson_spec (A : HProp) (ep : Addr) (prev one two : Int) (la lb : List WR) (va vb : Value) (hva : Rd A 6 WR.cells va la) (hvb : Rd A 6 WR.cells vb lb) (hla : la.length ≤ 9223372036854775807) (hlb : lb.length ≤ 9223372036854775807) (hwa : ∀ x ∈ la, WfR x) (hwb : ∀ x ∈ lb, WfR x) : Does Tryd.prog 5 [.int .u32 (prev), .int .i64 (one), .int .i64 (two), va, vb] [A, Cel 0 0 (.iface 123 (.pointer (some ep)))] (fun v L => v = .bool true ∧ L = [A]) := by
  refine Does.enter 99 Tryd.func5 rfl rfl rfl fun W F => ?_
  show WPc _ _ _ _ _ [(0, .int .u32 (prev)), (1, .int .i64 (one)), (2, .int .i64 (two)), (3, va), (4, vb)] (A :: Cel 0 0 (.iface 123 (.pointer (some ep))) :: F)
  refine WPc.seq ?_
  refine WPc.region ?_
  refine WP.val rfl rfl rfl (Val.assign rfl rfl) ?_
  refine WP.nil ?_
  refine Out.next ?_
  refine WPc.seq ?_
  refine WPc.seq ?_
  refine WPc.region ?_
  refine WP.val rfl rfl rfl (Val.move rfl rfl) ?_
  refine WP.eff rfl rfl rfl (Eff.call rfl rfl Tryd.call6 (fits39_spec A la (by omega) va hva)) ?_
  rintro _ _ ⟨_, ⟨fa, rfl, rfl⟩, rfl⟩
  show WP _ _ _ _ _ _ _ (A :: Cel 0 0 (.iface 123 (.pointer (some ep))) :: F)
  refine WP.val rfl rfl rfl (Val.not rfl rfl) ?_
  refine WP.val rfl rfl rfl (Val.move rfl rfl) ?_
  refine WP.splitB 22 rfl (fun h1 => ?_) (fun h1 => ?_)
  · skip
    refine WP.skip rfl rfl rfl rfl rfl rfl rfl ?_
    refine WP.skip rfl rfl rfl rfl rfl rfl rfl ?_
    refine WP.skip rfl rfl rfl rfl rfl rfl rfl ?_
    refine WP.val rfl rfl rfl (Val.pickT rfl rfl rfl) ?_
    refine WP.nil ?_
    refine Out.next ?_
    refine WPc.condT rfl rfl ?_
    refine WPc.seq ?_
    refine WPc.region ?_
    refine WP.val rfl rfl rfl (Val.assign rfl rfl) ?_
    refine WP.nil ?_
    refine Out.next ?_
    refine WPc.ret ?_
    refine Out.then_ret ?_
    refine Out.perm pl1 ?_
    refine Out.drop ?_
    exact Out.ret1 (L' := _) Tryd.results5 rfl ⟨rfl, rfl⟩ (fun _ h => h)
  · skip
    refine WP.valG rfl rfl rfl rfl rfl rfl rfl (Val.move rfl rfl) ?_
    refine WP.effG rfl rfl rfl rfl rfl rfl rfl (Eff.call rfl rfl Tryd.call6 (fits39_spec A lb (by omega) vb hvb)) ?_
    rintro _ _ ⟨_, ⟨fb, rfl, rfl⟩, rfl⟩
    show WP _ _ _ _ _ _ _ (A :: Cel 0 0 (.iface 123 (.pointer (some ep))) :: F)
    refine WP.valG rfl rfl rfl rfl rfl rfl rfl (Val.not rfl rfl) ?_
    refine WP.val rfl rfl rfl (Val.pickF rfl rfl rfl) ?_
    refine WP.nil ?_
    refine Out.next ?_
    refine WPc.cond rfl (fun h2 => ?_) (fun h2 => ?_)
    · skip
      have h2 : (!fb) = true := h2
      refine WPc.seq ?_
      refine WPc.region ?_
      refine WP.val rfl rfl rfl (Val.assign rfl rfl) ?_
      refine WP.nil ?_
      refine Out.next ?_
      refine WPc.ret ?_
      refine Out.then_ret ?_
      refine Out.perm pl1 ?_
      refine Out.drop ?_
      exact Out.ret1 (L' := _) Tryd.results5 rfl ⟨rfl, rfl⟩ (fun _ h => h)
    · skip
      have h2 : (!fb) = false := h2
      refine WPc.skip ?_
      refine Out.next ?_
      refine WPc.seq ?_
      refine WPc.seq ?_
      refine WPc.region ?_
      refine WP.val rfl rfl rfl (Val.move rfl rfl) ?_
      refine WP.val rfl rfl rfl (Val.move rfl rfl) ?_
      refine WP.eff rfl rfl rfl (Eff.call rfl rfl Tryd.call7 (wagood_spec A one la (by omega) va hva)) ?_
      rintro _ _ ⟨_, ⟨ga, rfl, hga, rfl⟩, rfl⟩
      show WP _ _ _ _ _ _ _ (A :: Cel 0 0 (.iface 123 (.pointer (some ep))) :: F)
      refine WP.val rfl rfl rfl (Val.not rfl rfl) ?_
      refine WP.val rfl rfl rfl (Val.move rfl rfl) ?_
      refine WP.splitB 31 rfl (fun h3 => ?_) (fun h3 => ?_)
      · skip
        refine WP.skip rfl rfl rfl rfl rfl rfl rfl ?_
        refine WP.skip rfl rfl rfl rfl rfl rfl rfl ?_
        refine WP.skip rfl rfl rfl rfl rfl rfl rfl ?_
        refine WP.skip rfl rfl rfl rfl rfl rfl rfl ?_
        refine WP.val rfl rfl rfl (Val.pickT rfl rfl rfl) ?_
        refine WP.nil ?_
        refine Out.next ?_
        refine WPc.condT rfl rfl ?_
        refine WPc.seq ?_
        refine WPc.region ?_
        refine WP.val rfl rfl rfl (Val.assign rfl rfl) ?_
        refine WP.nil ?_
        refine Out.next ?_
        refine WPc.ret ?_
        refine Out.then_ret ?_
        refine Out.perm pl1 ?_
        refine Out.drop ?_
        exact Out.ret1 (L' := _) Tryd.results5 rfl ⟨rfl, rfl⟩ (fun _ h => h)
      · skip
        refine WP.valG rfl rfl rfl rfl rfl rfl rfl (Val.move rfl rfl) ?_
        refine WP.valG rfl rfl rfl rfl rfl rfl rfl (Val.move rfl rfl) ?_
        refine WP.effG rfl rfl rfl rfl rfl rfl rfl (Eff.call rfl rfl Tryd.call7 (wagood_spec A two lb (by omega) vb hvb)) ?_
        rintro _ _ ⟨_, ⟨gb, rfl, hgb, rfl⟩, rfl⟩
        show WP _ _ _ _ _ _ _ (A :: Cel 0 0 (.iface 123 (.pointer (some ep))) :: F)
        refine WP.valG rfl rfl rfl rfl rfl rfl rfl (Val.not rfl rfl) ?_
        refine WP.val rfl rfl rfl (Val.pickF rfl rfl rfl) ?_
        refine WP.nil ?_
        refine Out.next ?_
        refine WPc.cond rfl (fun h4 => ?_) (fun h4 => ?_)
        · skip
          have h4 : (!gb) = true := h4
          refine WPc.seq ?_
          refine WPc.region ?_
          refine WP.val rfl rfl rfl (Val.assign rfl rfl) ?_
          refine WP.nil ?_
          refine Out.next ?_
          refine WPc.ret ?_
          refine Out.then_ret ?_
          refine Out.perm pl1 ?_
          refine Out.drop ?_
          exact Out.ret1 (L' := _) Tryd.results5 rfl ⟨rfl, rfl⟩ (fun _ h => h)
        · skip
          have h4 : (!gb) = false := h4
          refine WPc.skip ?_
          refine Out.next ?_
          refine WPc.seq ?_
          have hgta : ga = true := by simpa using (by assumption : (!ga) = false)
          obtain ⟨g1a, g2a, g3a, g4a⟩ := hga hgta
          have hgtb : gb = true := by simpa using (by assumption : (!gb) = false)
          obtain ⟨g1b, g2b, g3b, g4b⟩ := hgb hgtb
          have hok := ok_all hwa g4a
          have hokb : ∀ x ∈ lb, OkR x := fun x hx => ⟨hwb x hx, g4b x hx⟩
          have hgood : ∀ x ∈ (WR.hd :: la), WFine x := fun x hx => fine_of (hok x hx)
          have hgoodb : ∀ x ∈ lb, WFine x := fun x hx => fine_of (hokb x hx)
          have hd : ∀ x ∈ (WR.hd :: la), x.d.length ≤ 5000 := fun x hx => (hok x hx).2.2.1
          have hdb : ∀ x ∈ lb, x.d.length ≤ 5000 := fun x hx => (hokb x hx).2.2.1
          have hgoodc : ∀ x ∈ (WR.hd :: la) ++ lb, WFine x := fun x hx => by
            rcases List.mem_append.1 hx with h | h
            · exact hgood x h
            · exact hgoodb x h
          have hdc : ∀ x ∈ (WR.hd :: la) ++ lb, x.d.length ≤ 5000 := fun x hx => (hgoodc x hx).2.1
          have hLl : (WR.hd :: la).length = la.length + 1 := rfl
          have hmax := pieces_le prev (WR.hd :: la) hd
          have hrlen := rfs_len prev (WR.hd :: la)
          have hfr := frames_rfs (c := prev) hok
          have hrg := rfs_good prev (WR.hd :: la) hok
          have hW1 : ((WR.hd :: la).foldl stepW (prev, [])).2 = (piecesR prev (WR.hd :: la)).flatten := by rw [(foldW (WR.hd :: la) (prev, []) hd).1, List.nil_append]
          have hlc : lastC 0 (rfs prev (WR.hd :: la)) = (WR.hd :: la).foldl stepL prev := lastC_hd prev la
          have hW2 : (lb.foldl stepW ((WR.hd :: la).foldl stepL prev, [])).2 = (piecesR ((WR.hd :: la).foldl stepL prev) lb).flatten := by rw [(foldW lb _ hdb).1, List.nil_append]
          have hW3 : (((WR.hd :: la) ++ lb).foldl stepW (prev, [])).2 = (piecesR prev (WR.hd :: la)).flatten ++ (piecesR ((WR.hd :: la).foldl stepL prev) lb).flatten := by rw [(foldW _ (prev, []) hdc).1, List.nil_append, pieces_app, List.flatten_append]
          have hm2 := pieces_le ((WR.hd :: la).foldl stepL prev) lb hdb
          obtain ⟨o1, rfl⟩ : ∃ k : Nat, one = (k : Int) := ⟨one.toNat, by omega⟩
          obtain ⟨o2, rfl⟩ : ∃ k : Nat, two = (k : Int) := ⟨two.toNat, by omega⟩
          refine WPc.region ?_
          refine WP.val rfl rfl rfl (Val.move rfl rfl) ?_
          refine WP.eff rfl rfl rfl (Eff.call rfl rfl Tryd.call8 (headed_spec A la (by omega) va hva)) ?_
          rintro u1 _ ⟨_, ⟨_, rfl, rfl⟩, rfl⟩
          show WP _ _ _ _ _ _ _ (Own 44 6 u1 ((WR.hd :: la).length) (flatOf WR.cells (WR.hd :: la)) :: A :: Cel 0 0 (.iface 123 (.pointer (some ep))) :: F)
          refine WP.val rfl rfl rfl (Val.assign rfl rfl) ?_
          refine WP.nil ?_
          refine Out.next ?_
          refine WPc.seq ?_
          refine WPc.open (fun w h => h.ownPos (by rw [hLl]; omega)) ?_
          rintro ⟨g1, cg1, spg1⟩
          refine WPc.pure (fun hvg1 => ?_)
          obtain ⟨rfl, hng1, hlg1, hsg1, hcg1⟩ := hvg1
          dsimp only at hng1 hlg1 hsg1 hcg1
          show WPc _ _ _ _ _ _ (Blk g1 (flatOf WR.cells (WR.hd :: la) ++ spg1) 44 :: A :: Cel 0 0 (.iface 123 (.pointer (some ep))) :: F)
          refine WPc.know 11 (.slice (some ⟨g1, 0, none⟩) (WR.hd :: la).length cg1) rfl rfl ?_
          refine WPc.region ?_
          refine WP.val rfl rfl rfl (Val.move rfl rfl) ?_
          refine WP.val rfl rfl rfl (Val.move rfl rfl) ?_
          refine WP.val rfl rfl rfl (Val.move rfl rfl) ?_
          refine WP.eff rfl rfl rfl (Eff.call rfl rfl Tryd.call15 (ww_spec (Blk g1 (flatOf WR.cells (WR.hd :: la) ++ spg1) 44) prev o1 (by omega) (WR.hd :: la) hgood (by omega) _ (.inl ⟨g1, 0, cg1, rfl, rd_blkW⟩))) ?_
          rintro _ _ ⟨_, ⟨w1, rfl, rfl⟩, rfl⟩
          show WP _ _ _ _ _ _ _ (Own 5 1 w1 (((WR.hd :: la).foldl stepW (prev, [])).2.length) (byt ((WR.hd :: la).foldl stepW (prev, [])).2) :: Blk g1 (flatOf WR.cells (WR.hd :: la) ++ spg1) 44 :: A :: Cel 0 0 (.iface 123 (.pointer (some ep))) :: F)
          refine WP.val rfl rfl rfl (Val.move rfl rfl) ?_
          refine WP.val rfl rfl rfl (Val.extract rfl rfl rfl) ?_
          refine WP.val rfl rfl rfl (Val.extract rfl rfl rfl) ?_
          refine WP.val rfl rfl rfl (Val.assign rfl rfl) ?_
          refine WP.val rfl rfl rfl (Val.assign rfl rfl) ?_
          refine WP.nil ?_
          refine Out.next ?_
          refine WPc.seq ?_
          refine WPc.conv (M := Byts w1 ((piecesR prev (WR.hd :: la)).flatten) :: Blk g1 (flatOf WR.cells (WR.hd :: la) ++ spg1) 44 :: A :: Cel 0 0 (.iface 123 (.pointer (some ep))) :: F) (fun w h => by rw [hW1] at h; exact own_byts h) ?_
          refine WPc.region ?_
          refine WP.val rfl rfl rfl (Val.move rfl rfl) ?_
          refine WP.val rfl rfl rfl (show Val _ _ _ _ _ (.string (str ((piecesR prev (WR.hd :: la)).flatten))) from Val.str rfl Ty.by40 Ty.st9 rfl (fun w h => h.at 0 rfl)) ?_
          refine WP.eff rfl rfl rfl (Eff.mkSlice (C := [.string (str ((piecesR prev (WR.hd :: la)).flatten))]) rfl Ty.sl27 rfl (fun _ => by kernel_rfl)) ?_
          rintro _ _ ⟨b2, rfl, rfl⟩
          refine WP.val rfl rfl rfl (Val.move rfl rfl) ?_
          refine WP.val rfl rfl rfl (Val.len rfl Ty.sl23 rfl) ?_
          refine WP.val rfl rfl rfl (Val.add (z := ((((WR.hd :: la).length) + 9 : Nat) : Int)) rfl rfl rfl ((w64 (by omega) (by omega)).trans (by omega))) ?_
          refine WP.conv (fun w h => seq_blk (n := 1) (c := 1) (by decide) h) ?_
          show WP _ _ _ _ _ _ _ (Seq (.slice (some ⟨b2, 0, none⟩) 1 1) 1 [.string (str ((piecesR prev (WR.hd :: la)).flatten))] :: Byts w1 ((piecesR prev (WR.hd :: la)).flatten) :: Blk g1 (flatOf WR.cells (WR.hd :: la) ++ spg1) 44 :: A :: Cel 0 0 (.iface 123 (.pointer (some ep))) :: F)
          refine WP.perm pl4 ?_
          refine WP.perm pl1 ?_
          refine WP.eff rfl rfl rfl (Eff.call rfl rfl Tryd.call10 (walread_spec ep _ [str ((piecesR prev (WR.hd :: la)).flatten)] [rfs prev (WR.hd :: la)] ((WR.hd :: la).length + 9) (by simp only [List.map_cons, List.map_nil]; rw [hfr]; rfl) (fun rs hrs => by rw [List.mem_singleton.1 hrs]; exact ⟨by rw [hfr]; omega, hrg⟩) (by simp) (by simp) (by simpa using chain_hd prev la) (by omega))) ?_
          rintro _ _ ⟨_, ⟨got, gv, e, off, c, hfin, rfl, rfl⟩, rfl⟩
          show WP _ _ _ _ _ _ _ (Own 44 6 gv got.length (flatOf WR.cells got) :: Cel 0 0 (.iface 123 (.pointer (some ep))) :: Byts w1 ((piecesR prev (WR.hd :: la)).flatten) :: Blk g1 (flatOf WR.cells (WR.hd :: la) ++ spg1) 44 :: A :: F)
          refine WP.fact (fun w h => own_oneCell h) (fun onegv => ?_)
          have hfl : [rfs prev (WR.hd :: la)].flatten = rfs prev (WR.hd :: la) := by simp
          obtain ⟨hc1, ho1, hcase⟩ := hfin
          rw [hfl] at ho1 hcase hc1
          obtain ⟨hgk, rfl⟩ : got.length = (WR.hd :: la).length ∧ c = ((WR.hd :: la).foldl stepL prev) := by
            rcases hcase with ⟨a1, a2, a3, a4⟩ | ⟨a1, a2, -⟩
            · exfalso; omega
            · refine ⟨by omega, ?_⟩
              rw [hc1, a1, List.take_length]; exact hlc
          refine WP.eff rfl rfl rfl (Eff.alloc rfl Ty.z31) ?_
          rintro _ _ ⟨b3, rfl, rfl⟩
          refine WP.eff0 rfl rfl (Eff.storeAgg (cs := [gv, .int .i64 (e), .int .i64 (((off : Nat) : Int)), .int .u32 (((WR.hd :: la).foldl stepL prev))]) (C' := [gv, .int .i64 (e), .int .i64 (((off : Nat) : Int)), .int .u32 (((WR.hd :: la).foldl stepL prev))]) rfl Ty.ag31 rfl rfl rfl (by simp only [List.all_cons, List.all_nil, Bool.and_true, oc_int, oc_str, oc_bool, oc_ptr, oc_slice, oc_iface, oc_map, onegv]) (by simp) rfl) ?_
          rintro _ _ rfl
          refine WP.nil ?_
          refine Out.next ?_
          refine WPc.seq ?_
          refine WPc.region ?_
          refine WP.val rfl rfl rfl (Val.fieldAddr (j := 3) rfl Ty.fo31_3 rfl rfl) ?_
          refine WP.val rfl rfl rfl (Val.load rfl Ty.sc22 rfl (fun w h => h.cell 0 rfl rfl)) ?_
          refine WP.val rfl rfl rfl (Val.move rfl rfl) ?_
          refine WP.val rfl rfl rfl (Val.move rfl rfl) ?_
          refine WP.perm pl5 ?_
          refine WP.eff rfl rfl rfl (Eff.call rfl rfl Tryd.call15 (ww_spec A ((WR.hd :: la).foldl stepL prev) o2 (by omega) lb hgoodb (by omega) vb hvb)) ?_
          rintro _ _ ⟨_, ⟨w2, rfl, rfl⟩, rfl⟩
          show WP _ _ _ _ _ _ _ (Own 5 1 w2 ((lb.foldl stepW (((WR.hd :: la).foldl stepL prev), [])).2.length) (byt (lb.foldl stepW (((WR.hd :: la).foldl stepL prev), [])).2) :: A :: Blk b3 [gv, .int .i64 (e), .int .i64 (((off : Nat) : Int)), .int .u32 (((WR.hd :: la).foldl stepL prev))] 31 :: Own 44 6 gv got.length (flatOf WR.cells got) :: Cel 0 0 (.iface 123 (.pointer (some ep))) :: Byts w1 ((piecesR prev (WR.hd :: la)).flatten) :: Blk g1 (flatOf WR.cells (WR.hd :: la) ++ spg1) 44 :: F)
          refine WP.val rfl rfl rfl (Val.move rfl rfl) ?_
          refine WP.val rfl rfl rfl (Val.extract rfl rfl rfl) ?_
          refine WP.val rfl rfl rfl (Val.extract rfl rfl rfl) ?_
          refine WP.val rfl rfl rfl (Val.assign rfl rfl) ?_
          refine WP.val rfl rfl rfl (Val.assign rfl rfl) ?_
          refine WP.nil ?_
          refine Out.next ?_
          refine WPc.seq ?_
          refine WPc.region ?_
          refine WP.val rfl rfl rfl (Val.move rfl rfl) ?_
          refine WP.val rfl rfl rfl (Val.move rfl rfl) ?_
          refine WP.val rfl rfl rfl (Val.move rfl rfl) ?_
          refine WP.perm pl6 ?_
          refine WP.eff rfl rfl rfl (Eff.call rfl rfl Tryd.call16 (cloner_spec (Blk g1 (flatOf WR.cells (WR.hd :: la) ++ spg1) 44) (WR.hd :: la) (by omega) _ (.inl ⟨g1, 0, cg1, rfl, rd_blkW⟩))) ?_
          rintro u3 _ ⟨_, ⟨_, rfl, rfl⟩, rfl⟩
          show WP _ _ _ _ _ _ _ (Own 44 6 u3 ((WR.hd :: la).length) (flatOf WR.cells (WR.hd :: la)) :: Blk g1 (flatOf WR.cells (WR.hd :: la) ++ spg1) 44 :: Own 5 1 w2 ((lb.foldl stepW (((WR.hd :: la).foldl stepL prev), [])).2.length) (byt (lb.foldl stepW (((WR.hd :: la).foldl stepL prev), [])).2) :: A :: Blk b3 [gv, .int .i64 (e), .int .i64 (((off : Nat) : Int)), .int .u32 (((WR.hd :: la).foldl stepL prev))] 31 :: Own 44 6 gv got.length (flatOf WR.cells got) :: Cel 0 0 (.iface 123 (.pointer (some ep))) :: Byts w1 ((piecesR prev (WR.hd :: la)).flatten) :: F)
          refine WP.val rfl rfl rfl (Val.move rfl rfl) ?_
          refine WP.eff rfl rfl rfl (Eff.append (m := lb.length) (n0 := (WR.hd :: la).length) (news := flatOf WR.cells lb) rfl Ty.sl23 Ty.z44 rfl rfl rfl (Srcs.ofRd Ty.sl23 hvb 3 rfl) (by omega) (by omega)) ?_
          rintro v4 _ ⟨onev4, rfl⟩
          refine WP.conv (M := Own 44 6 v4 (((WR.hd :: la) ++ lb).length) (flatOf WR.cells ((WR.hd :: la) ++ lb)) :: Blk g1 (flatOf WR.cells (WR.hd :: la) ++ spg1) 44 :: Own 5 1 w2 ((lb.foldl stepW (((WR.hd :: la).foldl stepL prev), [])).2.length) (byt (lb.foldl stepW (((WR.hd :: la).foldl stepL prev), [])).2) :: A :: Blk b3 [gv, .int .i64 (e), .int .i64 (((off : Nat) : Int)), .int .u32 (((WR.hd :: la).foldl stepL prev))] 31 :: Own 44 6 gv got.length (flatOf WR.cells got) :: Cel 0 0 (.iface 123 (.pointer (some ep))) :: Byts w1 ((piecesR prev (WR.hd :: la)).flatten) :: F) (fun w h => by rw [List.length_append, flatOf_append]; exact h) ?_
          have hL3 : ((WR.hd :: la) ++ lb).length = la.length + 1 + lb.length := by rw [List.length_append, hLl]
          refine WP.open (fun w h => h.ownPos (by rw [hL3]; omega)) ?_
          rintro ⟨g5, cg5, spg5⟩
          refine WP.pure (fun hvg5 => ?_)
          obtain ⟨rfl, hng5, hlg5, hsg5, hcg5⟩ := hvg5
          dsimp only at hng5 hlg5 hsg5 hcg5
          show WP _ _ _ _ _ _ _ (Blk g5 (flatOf WR.cells ((WR.hd :: la) ++ lb) ++ spg5) 44 :: Blk g1 (flatOf WR.cells (WR.hd :: la) ++ spg1) 44 :: Own 5 1 w2 ((lb.foldl stepW (((WR.hd :: la).foldl stepL prev), [])).2.length) (byt (lb.foldl stepW (((WR.hd :: la).foldl stepL prev), [])).2) :: A :: Blk b3 [gv, .int .i64 (e), .int .i64 (((off : Nat) : Int)), .int .u32 (((WR.hd :: la).foldl stepL prev))] 31 :: Own 44 6 gv got.length (flatOf WR.cells got) :: Cel 0 0 (.iface 123 (.pointer (some ep))) :: Byts w1 ((piecesR prev (WR.hd :: la)).flatten) :: F)
          refine WP.know 67 (.slice (some ⟨g5, 0, none⟩) ((WR.hd :: la) ++ lb).length cg5) rfl rfl ?_
          refine WP.eff rfl rfl rfl (Eff.call rfl rfl Tryd.call15 (ww_spec (Blk g5 (flatOf WR.cells ((WR.hd :: la) ++ lb) ++ spg5) 44) prev o2 (by omega) ((WR.hd :: la) ++ lb) hgoodc (by omega) _ (.inl ⟨g5, 0, cg5, rfl, rd_blkW⟩))) ?_
          rintro _ _ ⟨_, ⟨w3, rfl, rfl⟩, rfl⟩
          show WP _ _ _ _ _ _ _ (Own 5 1 w3 ((((WR.hd :: la) ++ lb).foldl stepW (prev, [])).2.length) (byt (((WR.hd :: la) ++ lb).foldl stepW (prev, [])).2) :: Blk g5 (flatOf WR.cells ((WR.hd :: la) ++ lb) ++ spg5) 44 :: Blk g1 (flatOf WR.cells (WR.hd :: la) ++ spg1) 44 :: Own 5 1 w2 ((lb.foldl stepW (((WR.hd :: la).foldl stepL prev), [])).2.length) (byt (lb.foldl stepW (((WR.hd :: la).foldl stepL prev), [])).2) :: A :: Blk b3 [gv, .int .i64 (e), .int .i64 (((off : Nat) : Int)), .int .u32 (((WR.hd :: la).foldl stepL prev))] 31 :: Own 44 6 gv got.length (flatOf WR.cells got) :: Cel 0 0 (.iface 123 (.pointer (some ep))) :: Byts w1 ((piecesR prev (WR.hd :: la)).flatten) :: F)
          refine WP.val rfl rfl rfl (Val.move rfl rfl) ?_
          refine WP.val rfl rfl rfl (Val.extract rfl rfl rfl) ?_
          refine WP.val rfl rfl rfl (Val.extract rfl rfl rfl) ?_
          refine WP.val rfl rfl rfl (Val.assign rfl rfl) ?_
          refine WP.val rfl rfl rfl (Val.assign rfl rfl) ?_
          refine WP.nil ?_
          refine Out.next ?_
          refine WPc.seq ?_
          refine WPc.perm pl3 ?_
          refine WPc.conv (M := Byts w2 ((piecesR ((WR.hd :: la).foldl stepL prev) lb).flatten) :: Own 5 1 w3 ((((WR.hd :: la) ++ lb).foldl stepW (prev, [])).2.length) (byt (((WR.hd :: la) ++ lb).foldl stepW (prev, [])).2) :: Blk g5 (flatOf WR.cells ((WR.hd :: la) ++ lb) ++ spg5) 44 :: Blk g1 (flatOf WR.cells (WR.hd :: la) ++ spg1) 44 :: A :: Blk b3 [gv, .int .i64 (e), .int .i64 (((off : Nat) : Int)), .int .u32 (((WR.hd :: la).foldl stepL prev))] 31 :: Own 44 6 gv got.length (flatOf WR.cells got) :: Cel 0 0 (.iface 123 (.pointer (some ep))) :: Byts w1 ((piecesR prev (WR.hd :: la)).flatten) :: F) (fun w h => by rw [hW2] at h; exact own_byts h) ?_
          refine WPc.perm pl1 ?_
          refine WPc.conv (M := Byts w3 ((piecesR prev (WR.hd :: la)).flatten ++ (piecesR ((WR.hd :: la).foldl stepL prev) lb).flatten) :: Byts w2 ((piecesR ((WR.hd :: la).foldl stepL prev) lb).flatten) :: Blk g5 (flatOf WR.cells ((WR.hd :: la) ++ lb) ++ spg5) 44 :: Blk g1 (flatOf WR.cells (WR.hd :: la) ++ spg1) 44 :: A :: Blk b3 [gv, .int .i64 (e), .int .i64 (((off : Nat) : Int)), .int .u32 (((WR.hd :: la).foldl stepL prev))] 31 :: Own 44 6 gv got.length (flatOf WR.cells got) :: Cel 0 0 (.iface 123 (.pointer (some ep))) :: Byts w1 ((piecesR prev (WR.hd :: la)).flatten) :: F) (fun w h => by rw [hW3] at h; exact own_byts h) ?_
          refine WPc.region ?_
          refine WP.val rfl rfl rfl (Val.move rfl rfl) ?_
          refine WP.val rfl rfl rfl (Val.eqlK rfl rfl rfl rfl) ?_
          refine WP.val rfl rfl rfl (Val.move rfl rfl) ?_
          refine WP.valG rfl rfl rfl rfl rfl rfl rfl (Val.move rfl rfl) ?_
          refine WP.valG rfl rfl rfl rfl rfl rfl rfl (Val.eqlK rfl rfl rfl rfl) ?_
          refine WP.val rfl rfl rfl (Val.pickT rfl rfl rfl) ?_
          refine WP.val rfl rfl rfl (Val.move rfl rfl) ?_
          refine WP.valG rfl rfl rfl rfl rfl rfl rfl (Val.move rfl rfl) ?_
          refine WP.valG rfl rfl rfl rfl rfl rfl rfl (Val.eqlK rfl rfl rfl rfl) ?_
          refine WP.val rfl rfl rfl (Val.pickT rfl rfl rfl) ?_
          refine WP.val rfl rfl rfl (Val.move rfl rfl) ?_
          refine WP.valG rfl rfl rfl rfl rfl rfl rfl (Val.fieldAddr (j := 0) rfl Ty.fo31_0 rfl rfl) ?_
          refine WP.valG rfl rfl rfl rfl rfl rfl rfl (Val.load rfl Ty.sc23 rfl (fun w h => h.cell 5 rfl rfl)) ?_
          refine WP.valG rfl rfl rfl rfl rfl rfl rfl (Val.lenOwn rfl Ty.sl23 rfl (fun w h => h.at 6 rfl)) ?_
          refine WP.valG rfl rfl rfl rfl rfl rfl rfl (Val.move rfl rfl) ?_
          refine WP.valG rfl rfl rfl rfl rfl rfl rfl (Val.len rfl Ty.sl23 rfl) ?_
          refine WP.valG rfl rfl rfl rfl rfl rfl rfl (Val.eql rfl rfl rfl) ?_
          refine WP.val rfl rfl rfl (Val.pickT rfl rfl rfl) ?_
          refine WP.val rfl rfl rfl (Val.move rfl rfl) ?_
          refine WP.split 89 rfl (fun h5 => ?_) (fun h5 => ?_)
          · skip
            have h5 : (((got.length : Nat) : Int) = (((WR.hd :: la).length : Nat) : Int)) := h5
            refine WP.valG rfl rfl rfl rfl rfl rfl rfl (Val.move rfl rfl) ?_
            refine WP.valG rfl rfl rfl rfl rfl rfl rfl (show Val _ _ _ _ _ (.string (str ((piecesR prev (WR.hd :: la)).flatten))) from Val.str rfl Ty.by40 Ty.st9 rfl (fun w h => h.at 8 rfl)) ?_
            refine WP.valG rfl rfl rfl rfl rfl rfl rfl (Val.move rfl rfl) ?_
            refine WP.valG rfl rfl rfl rfl rfl rfl rfl (show Val _ _ _ _ _ (.string (str ((piecesR ((WR.hd :: la).foldl stepL prev) lb).flatten))) from Val.str rfl Ty.by40 Ty.st9 rfl (fun w h => h.at 1 rfl)) ?_
            refine WP.valG rfl rfl rfl rfl rfl rfl rfl (Val.addL (a := (piecesR prev (WR.hd :: la)).flatten) (b := (piecesR ((WR.hd :: la).foldl stepL prev) lb).flatten) rfl rfl rfl (by omega)) ?_
            refine WP.valG rfl rfl rfl rfl rfl rfl rfl (Val.move rfl rfl) ?_
            refine WP.valG rfl rfl rfl rfl rfl rfl rfl (show Val _ _ _ _ _ (.string (str ((piecesR prev (WR.hd :: la)).flatten ++ (piecesR ((WR.hd :: la).foldl stepL prev) lb).flatten))) from Val.str rfl Ty.by40 Ty.st9 rfl (fun w h => h.at 0 rfl)) ?_
            refine WP.valG rfl rfl rfl rfl rfl rfl rfl (Val.boolK (q := true) (Val.eqlS rfl rfl rfl) (by rw [seq_eq]; simp)) ?_
            refine WP.val rfl rfl rfl (Val.pickT rfl rfl rfl) ?_
            refine WP.val rfl rfl rfl (Val.assign rfl rfl) ?_
            refine WP.nil ?_
            refine Out.next ?_
            refine WPc.ret ?_
            refine Out.drop ?_
            refine Out.drop ?_
            refine Out.drop ?_
            refine Out.drop ?_
            refine Out.perm pl1 ?_
            refine Out.drop ?_
            refine Out.perm pl1 ?_
            refine Out.drop ?_
            refine Out.perm pl1 ?_
            refine Out.drop ?_
            refine Out.perm pl1 ?_
            refine Out.drop ?_
            exact Out.ret1 (L' := _) Tryd.results5 rfl ⟨rfl, rfl⟩ (fun _ h => h)
          · skip
            have h5 : ¬ (((got.length : Nat) : Int) = (((WR.hd :: la).length : Nat) : Int)) := h5
            exfalso; omega

end Go.Proofs.YthicijpjpijdjaaDoor.Wy
