import Derived.Test.YthicijpjpijdjaaDoorWp
namespace Go.Proofs.YthicijpjpijdjaaDoor.Wq
open Go.RowKit Go.Proofs.YthicijpjpijdjaaDoor Go.Proofs.YthicijpjpijdjaaDoor.Sl Go.Proofs.YthicijpjpijdjaaDoor.Wa Go.Proofs.YthicijpjpijdjaaDoor.Wb Go.Proofs.YthicijpjpijdjaaDoor.Wc Go.Proofs.YthicijpjpijdjaaDoor.Wd Go.Proofs.YthicijpjpijdjaaDoor.We Go.Proofs.YthicijpjpijdjaaDoor.Wf Go.Proofs.YthicijpjpijdjaaDoor.Wg Go.Proofs.YthicijpjpijdjaaDoor.Wh Go.Proofs.YthicijpjpijdjaaDoor.Wi Go.Proofs.YthicijpjpijdjaaDoor.Wj Go.Proofs.YthicijpjpijdjaaDoor.Wk Go.Proofs.YthicijpjpijdjaaDoor.Wl Go.Proofs.YthicijpjpijdjaaDoor.Wm Go.Proofs.YthicijpjpijdjaaDoor.Wn Go.Proofs.YthicijpjpijdjaaDoor.Wo Go.Proofs.YthicijpjpijdjaaDoor.Wp
set_option linter.unusedVariables false
set_option linter.unusedSimpArgs false
set_option linter.unusedSectionVars false


theorem fl_all {fl : List (Value × List UInt8)} {x : Value × List UInt8} : ∀ y ∈ fl ++ [x], y = x ∨ y ∈ fl := fun y hy => by
  rcases List.mem_append.1 hy with h | h
  · exact .inr h
  · exact .inl (by simpa using h)
theorem str_cell {ss : List ByteArray} {i : Nat} {x : ByteArray} (h : ss[i]? = some x) (sp : List Value) : (ss.map Value.string ++ sp)[i]? = some (.string x) := by
  have hlt := (List.getElem?_eq_some_iff.1 h).1
  rw [List.getElem?_append_left (by simpa using hlt), List.getElem?_map, h]; rfl
def Fin (rss : List (List RF)) (most : Nat) (got : List WR) (e : Int) (off : Nat) (c : Int) : Prop :=
  c = lastC 0 (rss.flatten.take got.length) ∧ Outs got (rss.flatten.take got.length) ∧ ((got.length = most ∧ e = 0 ∧ got.length ≤ rss.flatten.length ∧ (rss.length = 1 → off + (frames (rss.flatten.drop got.length)).length = (frames rss.flatten).length)) ∨ (got.length = rss.flatten.length ∧ got.length < most ∧ e = 1 ∧ off = lastF rss))
theorem rec_new {W w : World} {rb : Nat} {L : List HProp} (h : Sat W (Blk rb [.pointer none, .pointer none, .slice none 0 0] 59 :: L) w) : Sat W (Rec rb none none [] :: L) w :=
  rec_mk (t := none) (c := none) (d := []) ((((Sat.ownNil (e := 5) (k := 1) h).ptrNil (T := 22)).ptrNil (T := 2)).perm pl3)
theorem off_one {fs : List Fil} {p : Nat} {rss rss' : List (List RF)} {n : Nat} (h : Lay fs p rss') (hne : fs ≠ []) (hl : lastLen fs = lastF rss) (hlen : fs.length ≤ rss.length) (hf : rss'.flatten = rss.flatten.drop n) (h1 : rss.length = 1) : p + (frames (rss.flatten.drop n)).length = (frames rss.flatten).length := by
  cases fs with
  | nil => exact absurd rfl hne
  | cons x fs =>
    have : fs = [] := List.eq_nil_of_length_eq_zero (by simp at hlen; omega)
    subst this
    have e := lay_one h
    rw [hf] at e
    rw [e]
    cases rss with
    | nil => simp at h1
    | cons a rss =>
      have : rss = [] := List.eq_nil_of_length_eq_zero (by simpa using h1)
      subst this
      simpa [lastLen, lastF] using hl
set_option maxRecDepth 100000 in
set_option maxHeartbeats 2000000 in
theorem walread_spec (ep : Addr) (fv : Value) (ss : List ByteArray) (rss : List (List RF)) (most : Nat) (hss : ss.map (fun s => s.data.toList) = rss.map frames) (hg : ∀ rs ∈ rss, (frames rs).length ≤ 4294967296 ∧ ∀ r ∈ rs, r.good) (hn : 0 < ss.length) (hn2 : ss.length ≤ 1000) (hch : Chain 0 rss.flatten) (hm : most ≤ 1000000) : Does Tryd.prog 10 [fv, .int .i64 (((most : Nat) : Int)), .bool true, .bool false] [Seq fv ss.length (ss.map Value.string), Cel 0 0 (.iface 123 (.pointer (some ep)))] (fun v L => ∃ (got : List WR) (gv : Value) (e : Int) (off : Nat) (c : Int), Fin rss most got e off c ∧ v = .agg #[gv, .int .i64 e, .int .i64 ((off : Nat) : Int), .int .u32 c] ∧ L = [Own 44 6 gv got.length (flatOf WR.cells got), Cel 0 0 (.iface 123 (.pointer (some ep)))]) := by
  refine Does.enter 89 Tryd.func10 rfl rfl rfl fun W F => ?_
  show WPc _ _ _ _ _ [(0, fv), (1, .int .i64 (((most : Nat) : Int))), (2, .bool true), (3, .bool false)] (Seq fv ss.length (ss.map Value.string) :: Cel 0 0 (.iface 123 (.pointer (some ep))) :: F)
  refine WPc.seq ?_
  refine WPc.region ?_
  refine WP.eff rfl rfl rfl (Eff.alloc rfl Ty.z31) ?_
  rintro _ _ ⟨b1, rfl, rfl⟩
  refine WP.nil ?_
  refine Out.next ?_
  refine WPc.seq ?_
  refine WPc.region ?_
  refine WP.val rfl rfl rfl (Val.assign rfl rfl) ?_
  refine WP.nil ?_
  refine Out.next ?_
  refine WPc.seq ?_
  refine WPc.seq ?_
  refine WPc.region ?_
  refine WP.val rfl rfl rfl (Val.assign rfl rfl) ?_
  refine WP.nil ?_
  refine Out.next ?_
  refine WPc.block ?_
  refine WPc.conv (fun w h => h.ownNil (e := 51) (k := 1)) ?_
  show WPc _ _ _ _ _ _ (Own 51 1 (.slice none 0 0) 0 ([]) :: Blk b1 [.slice none 0 0, .int .i64 0, .int .i64 0, .int .u32 0] 31 :: Seq fv ss.length (ss.map Value.string) :: Cel 0 0 (.iface 123 (.pointer (some ep))) :: F)
  refine WPc.conv (fun w h => h.allNil (f := fun x : Value × List UInt8 => Byts x.1 x.2)) ?_
  show WPc _ _ _ _ _ _ (AllP (fun x : Value × List UInt8 => Byts x.1 x.2) ([]) :: Own 51 1 (.slice none 0 0) 0 ([]) :: Blk b1 [.slice none 0 0, .int .i64 0, .int .i64 0, .int .u32 0] 31 :: Seq fv ss.length (ss.map Value.string) :: Cel 0 0 (.iface 123 (.pointer (some ep))) :: F)
  refine WPc.perm pl4 ?_
  refine WPc.perm pl3 ?_
  refine WPc.perm pl4 ?_
  refine WPc.perm pl3 ?_
  refine WPc.perm pl4 ?_
  refine WPc.loop (ι := List (Value × List UInt8) × Value) (fun ⟨fl, lv⟩ => fl.length ≤ ss.length ∧ fl.map Prod.snd = (ss.take fl.length).map (fun s => s.data.toList)) (fun ⟨fl, lv⟩ => [(0, fv), (1, .int .i64 (((most : Nat) : Int))), (2, .bool true), (3, .bool false), (8, .pointer (some ⟨b1, 0, none⟩)), (9, lv), (10, .int .i64 (((fl.length : Nat) : Int)))]) (fun ⟨fl, lv⟩ => Own 51 1 lv fl.length (flatOf fcell fl) :: AllP (fun x : Value × List UInt8 => Byts x.1 x.2) fl :: Seq fv ss.length (ss.map Value.string) :: Blk b1 [.slice none 0 0, .int .i64 0, .int .i64 0, .int .u32 0] 31 :: Cel 0 0 (.iface 123 (.pointer (some ep))) :: F) (fun ⟨fl, lv⟩ => ss.length - fl.length) ([], .slice none 0 0) ⟨Nat.zero_le _, rfl⟩ ((Sub.cons rfl (Sub.cons rfl (Sub.cons rfl (Sub.cons rfl (Sub.cons rfl (Sub.cons rfl (Sub.cons rfl Sub.nil)))))))) (fun _ h => h) ?_
  rintro ⟨fl, lv⟩ ⟨hfl, hfe⟩
  show WPc _ _ _ _ _ [(0, fv), (1, .int .i64 (((most : Nat) : Int))), (2, .bool true), (3, .bool false), (8, .pointer (some ⟨b1, 0, none⟩)), (9, lv), (10, .int .i64 (((fl.length : Nat) : Int)))] (Own 51 1 lv fl.length (flatOf fcell fl) :: AllP (fun x : Value × List UInt8 => Byts x.1 x.2) fl :: Seq fv ss.length (ss.map Value.string) :: Blk b1 [.slice none 0 0, .int .i64 0, .int .i64 0, .int .u32 0] 31 :: Cel 0 0 (.iface 123 (.pointer (some ep))) :: F)
  refine WPc.seq ?_
  refine WPc.seq ?_
  refine WPc.region ?_
  refine WP.val rfl rfl rfl (Val.move rfl rfl) ?_
  refine WP.val rfl rfl rfl (Val.move rfl rfl) ?_
  refine WP.val rfl rfl rfl (Val.lenSeq rfl Ty.sl27 rfl (fun w h => h.at 2 rfl)) ?_
  refine WP.val rfl rfl rfl (Val.lss rfl rfl rfl) ?_
  refine WP.nil ?_
  refine Out.next ?_
  refine WPc.ifP rfl (fun h1 => ?_) (fun h1 => ?_)
  · skip
    have h1 : (((fl.length : Nat) : Int) < ((ss.length : Nat) : Int)) := h1
    refine WPc.skip ?_
    refine Out.next ?_
    refine WPc.seq ?_
    refine WPc.block ?_
    have hlt : fl.length < ss.length := by omega
    obtain ⟨x, hx⟩ : ∃ x, ss[fl.length]? = some x := ⟨_, List.getElem?_eq_getElem hlt⟩
    refine WPc.perm pl2 ?_
    refine WPc.open (fun w h => h.seqOpen (by omega)) ?_
    rintro ⟨g2, cg2, spg2, Tg2⟩
    refine WPc.pure (fun hvg2 => ?_)
    refine WPc.know 0 (.slice (some ⟨g2, 0, none⟩) ss.length cg2) rfl hvg2.1 ?_
    show WPc _ _ _ _ _ _ (Ro (Blk g2 (ss.map Value.string ++ spg2) Tg2) :: Seq fv ss.length (ss.map Value.string) :: Own 51 1 lv fl.length (flatOf fcell fl) :: AllP (fun x : Value × List UInt8 => Byts x.1 x.2) fl :: Blk b1 [.slice none 0 0, .int .i64 0, .int .i64 0, .int .u32 0] 31 :: Cel 0 0 (.iface 123 (.pointer (some ep))) :: F)
    refine WPc.region ?_
    refine WP.val rfl rfl rfl (Val.move rfl rfl) ?_
    refine WP.val rfl rfl rfl (Val.move rfl rfl) ?_
    refine WP.val rfl rfl rfl (Val.move rfl rfl) ?_
    refine WP.val rfl rfl rfl (Val.indexAddr (j := fl.length) (q := fl.length) rfl Ty.sl27 rfl rfl (by omega) (by omega) (by omega)) ?_
    refine WP.val rfl rfl rfl (Val.load (v := .string x) rfl Ty.sc9 rfl (fun w h => h.cellRo 0 rfl (str_cell hx _))) ?_
    refine WP.eff rfl rfl rfl (Eff.bytes rfl Ty.st9 Ty.by51 rfl) ?_
    rintro _ _ ⟨b3, capb3, spb3, rfl, hcb3, hsb3, rfl⟩
    refine WP.eff rfl rfl rfl (Eff.mkSlice (C := [.slice (some ⟨b3, 0, none⟩) ((x).size) capb3]) rfl Ty.sl50 rfl (fun _ => by kernel_rfl)) ?_
    rintro _ _ ⟨b4, rfl, rfl⟩
    refine WP.perm pl4 ?_
    refine WP.eff rfl rfl rfl (Eff.append (m := 1) (n0 := fl.length) (news := ([.slice (some ⟨b3, 0, none⟩) ((x).size) capb3] : List Value)) rfl Ty.sl50 Ty.z51 rfl rfl rfl (.slice Ty.sl50 rfl rfl (fun w h => cells_range (h.range 1 rfl rfl))) (by omega) (by omega)) ?_
    rintro v5 _ ⟨onev5, rfl⟩
    refine WP.val rfl rfl rfl (Val.assign rfl rfl) ?_
    refine WP.nil ?_
    refine Out.block ?_
    refine Out.next ?_
    refine WPc.region ?_
    refine WP.val rfl rfl rfl (Val.move rfl rfl) ?_
    refine WP.val rfl rfl rfl (Val.add (z := ((fl.length + 1 : Nat) : Int)) rfl rfl rfl ((w64 (by omega) (by omega)).trans (by omega))) ?_
    refine WP.val rfl rfl rfl (Val.assign rfl rfl) ?_
    refine WP.nil ?_
    refine Out.perm pl5 ?_
    refine Out.perm pl3 ?_
    refine Out.conv (fun w h => Sat.bytsStr h (by omega)) ?_
    show Out _ _ _ _ _ (Byts (Value.slice (some ⟨b3, 0, none⟩) x.size capb3) x.data.toList :: AllP (fun x : Value × List UInt8 => Byts x.1 x.2) fl :: Own 51 1 v5 (fl.length + 1) ((flatOf fcell fl) ++ (([.slice (some ⟨b3, 0, none⟩) ((x).size) capb3] : List Value))) :: Blk b4 [.slice (some ⟨b3, 0, none⟩) ((x).size) capb3] 51 :: Ro (Blk g2 (ss.map Value.string ++ spg2) Tg2) :: Seq fv ss.length (ss.map Value.string) :: Blk b1 [.slice none 0 0, .int .i64 0, .int .i64 0, .int .u32 0] 31 :: Cel 0 0 (.iface 123 (.pointer (some ep))) :: F)
    refine Out.conv (fun w h => Sat.allAdd (f := fun x : Value × List UInt8 => Byts x.1 x.2) (x := (Value.slice (some ⟨b3, 0, none⟩) x.size capb3, x.data.toList)) (l' := (fl ++ [(Value.slice (some ⟨b3, 0, none⟩) x.size capb3, x.data.toList)])) Byts.pers fl_all h) ?_
    show Out _ _ _ _ _ (AllP (fun x : Value × List UInt8 => Byts x.1 x.2) ((fl ++ [(Value.slice (some ⟨b3, 0, none⟩) x.size capb3, x.data.toList)])) :: Own 51 1 v5 (fl.length + 1) ((flatOf fcell fl) ++ (([.slice (some ⟨b3, 0, none⟩) ((x).size) capb3] : List Value))) :: Blk b4 [.slice (some ⟨b3, 0, none⟩) ((x).size) capb3] 51 :: Ro (Blk g2 (ss.map Value.string ++ spg2) Tg2) :: Seq fv ss.length (ss.map Value.string) :: Blk b1 [.slice none 0 0, .int .i64 0, .int .i64 0, .int .u32 0] 31 :: Cel 0 0 (.iface 123 (.pointer (some ep))) :: F)
    refine Out.perm pl1 ?_
    refine Out.conv (M := Own 51 1 v5 ((fl ++ [(Value.slice (some ⟨b3, 0, none⟩) x.size capb3, x.data.toList)]).length) (flatOf fcell (fl ++ [(Value.slice (some ⟨b3, 0, none⟩) x.size capb3, x.data.toList)])) :: AllP (fun x : Value × List UInt8 => Byts x.1 x.2) ((fl ++ [(Value.slice (some ⟨b3, 0, none⟩) x.size capb3, x.data.toList)])) :: Blk b4 [.slice (some ⟨b3, 0, none⟩) ((x).size) capb3] 51 :: Ro (Blk g2 (ss.map Value.string ++ spg2) Tg2) :: Seq fv ss.length (ss.map Value.string) :: Blk b1 [.slice none 0 0, .int .i64 0, .int .i64 0, .int .u32 0] 31 :: Cel 0 0 (.iface 123 (.pointer (some ep))) :: F) (fun w h => by rw [List.length_append, flatOf_snoc]; exact h) ?_
    have hl1 : (fl ++ [(Value.slice (some ⟨b3, 0, none⟩) x.size capb3, x.data.toList)]).length = fl.length + 1 := by simp
    refine Out.perm pl2 ?_
    refine Out.drop ?_
    refine Out.perm pl2 ?_
    refine Out.drop ?_
    refine Out.again ((fl ++ [(Value.slice (some ⟨b3, 0, none⟩) x.size capb3, x.data.toList)]), v5) ?_ ?_ ?_ ?_
    · exact ⟨by omega, by rw [hl1, take_more hx, List.map_append, List.map_append, hfe]; rfl⟩
    · (show ss.length - (fl ++ [(Value.slice (some ⟨b3, 0, none⟩) x.size capb3, x.data.toList)]).length < ss.length - fl.length; omega)
    · exact (Sub.cons (congrArg some hvg2.1.symm) (Sub.cons rfl (Sub.cons rfl (Sub.cons rfl (Sub.cons rfl (Sub.cons rfl (Sub.cons (congrArg some (congrArg (Value.int .i64) (by omega))) Sub.nil)))))))
    · exact (fun _ h => h)
  · skip
    have h1 : ¬ (((fl.length : Nat) : Int) < ((ss.length : Nat) : Int)) := h1
    refine WPc.exit ?_
    refine Out.then_exit ?_
    refine Out.then_exit ?_
    refine Out.block_exit ?_
    refine Out.next ?_
    refine WPc.seq ?_
    refine WPc.region ?_
    refine WP.val rfl rfl rfl (Val.move rfl rfl) ?_
    refine WP.val rfl rfl rfl (Val.move rfl rfl) ?_
    refine WP.perm pl1 ?_
    refine WP.perm pl1 ?_
    refine WP.eff rfl rfl rfl (Eff.call rfl rfl Tryd.call19 (newdec_spec false lv fl (by omega) (by omega))) ?_
    rintro _ _ ⟨_, ⟨db, y, ys, hfs, rfl, rfl⟩, rfl⟩
    show WP _ _ _ _ _ _ _ (Dec db false (y :: ys) 0 0 0 :: Seq fv ss.length (ss.map Value.string) :: Blk b1 [.slice none 0 0, .int .i64 0, .int .i64 0, .int .u32 0] 31 :: Cel 0 0 (.iface 123 (.pointer (some ep))) :: F)
    have hfn : fl.length = ss.length := by omega
    have hfs2 : (y :: ys).map Prod.snd = rss.map frames := by rw [hfs, hfe, hfn, List.take_length, hss]
    have hlay := lay_of (y :: ys) rss hfs2 hg
    have hll := lastLen_of (y :: ys) rss hfs2
    have hln : (y :: ys).length = rss.length := by have := congrArg List.length hfs2; simpa using this
    refine WP.val rfl rfl rfl (Val.assign rfl rfl) ?_
    refine WP.nil ?_
    refine Out.next ?_
    refine WPc.seq ?_
    refine WPc.region ?_
    refine WP.val rfl rfl rfl (Val.mk (cs := [.slice none 0 0, .int .i64 0, .int .i64 0, .int .u32 0]) rfl rfl (fun _ => by kernel_rfl)) ?_
    refine WP.eff rfl rfl rfl (Eff.alloc rfl Ty.z31) ?_
    rintro _ _ ⟨b7, rfl, rfl⟩
    refine WP.eff0 rfl rfl (Eff.storeAgg (cs := [.slice none 0 0, .int .i64 0, .int .i64 0, .int .u32 0]) (C' := [.slice none 0 0, .int .i64 0, .int .i64 0, .int .u32 0]) rfl Ty.ag31 rfl rfl rfl rfl (by simp) rfl) ?_
    rintro _ _ rfl
    refine WP.nil ?_
    refine Out.next ?_
    refine WPc.cut (ι := Nat × Nat × Nat × List WR × Value × Int × Nat × Int × List Fil × Nat) (fun ⟨res, g, db, got, gv, e, off, c, fs, p⟩ => Fin rss most got e off c) (fun ⟨res, g, db, got, gv, e, off, c, fs, p⟩ => [(8, .pointer (some ⟨res, 0, none⟩)), (11, .iface 83 (.pointer (some ⟨db, 0, none⟩))), (12, .pointer (some ⟨g, 0, none⟩))]) (fun ⟨res, g, db, got, gv, e, off, c, fs, p⟩ => Blk g [gv, .int .i64 (e), .int .i64 0, .int .u32 0] 31 :: Blk res [.slice none 0 0, .int .i64 0, .int .i64 0, .int .u32 0] 31 :: Own 44 6 gv got.length (flatOf WR.cells got) :: Dec db false fs p off c :: Cel 0 0 (.iface 123 (.pointer (some ep))) :: F) ?_ ?_
    · skip
      refine WPc.block ?_
      refine WPc.conv (fun w h => h.ownNil (e := 44) (k := 6)) ?_
      show WPc _ _ _ _ _ _ (Own 44 6 (.slice none 0 0) 0 ([]) :: Blk b7 [.slice none 0 0, .int .i64 0, .int .i64 0, .int .u32 0] 31 :: Dec db false (y :: ys) 0 0 0 :: Seq fv ss.length (ss.map Value.string) :: Blk b1 [.slice none 0 0, .int .i64 0, .int .i64 0, .int .u32 0] 31 :: Cel 0 0 (.iface 123 (.pointer (some ep))) :: F)
      refine WPc.perm pl3 ?_
      refine WPc.drop ?_
      refine WPc.perm pl4 ?_
      refine WPc.perm pl3 ?_
      refine WPc.perm pl2 ?_
      refine WPc.perm pl4 ?_
      refine WPc.perm pl4 ?_
      refine WPc.loop (ι := List WR × Value × List Fil × Nat × Int × List (List RF)) (fun ⟨got, gv, fs, p, c, rss'⟩ => Lay fs p rss' ∧ fs ≠ [] ∧ lastLen fs = lastF rss ∧ fs.length ≤ rss.length ∧ got.length ≤ most ∧ rss'.flatten = rss.flatten.drop got.length ∧ Outs got (rss.flatten.take got.length) ∧ Chain c rss'.flatten ∧ c = lastC 0 (rss.flatten.take got.length) ∧ got.length ≤ rss.flatten.length) (fun ⟨got, gv, fs, p, c, rss'⟩ => [(1, .int .i64 (((most : Nat) : Int))), (2, .bool true), (3, .bool false), (8, .pointer (some ⟨b1, 0, none⟩)), (11, .iface 83 (.pointer (some ⟨db, 0, none⟩))), (12, .pointer (some ⟨b7, 0, none⟩))]) (fun ⟨got, gv, fs, p, c, rss'⟩ => Blk b7 [gv, .int .i64 0, .int .i64 0, .int .u32 0] 31 :: Blk b1 [.slice none 0 0, .int .i64 0, .int .i64 0, .int .u32 0] 31 :: Own 44 6 gv got.length (flatOf WR.cells got) :: Dec db false fs p p c :: Cel 0 0 (.iface 123 (.pointer (some ep))) :: F) (fun ⟨got, gv, fs, p, c, rss'⟩ => most - got.length) ([], .slice none 0 0, y :: ys, 0, 0, rss) ⟨hlay, by simp, hll, by omega, Nat.zero_le _, rfl, True.intro, hch, rfl, Nat.zero_le _⟩ ((Sub.cons rfl (Sub.cons rfl (Sub.cons rfl (Sub.cons rfl (Sub.cons rfl (Sub.cons rfl Sub.nil))))))) (fun _ h => h) ?_
      rintro ⟨got, gv, fs, p, c, rss'⟩ ⟨hlay, hne, hll, hln, hgm, hfl2, hout, hchn, hcl, hgl⟩
      show WPc _ _ _ _ _ [(1, .int .i64 (((most : Nat) : Int))), (2, .bool true), (3, .bool false), (8, .pointer (some ⟨b1, 0, none⟩)), (11, .iface 83 (.pointer (some ⟨db, 0, none⟩))), (12, .pointer (some ⟨b7, 0, none⟩))] (Blk b7 [gv, .int .i64 0, .int .i64 0, .int .u32 0] 31 :: Blk b1 [.slice none 0 0, .int .i64 0, .int .i64 0, .int .u32 0] 31 :: Own 44 6 gv got.length (flatOf WR.cells got) :: Dec db false fs p p c :: Cel 0 0 (.iface 123 (.pointer (some ep))) :: F)
      refine WPc.fact (fun w h => own_oneCell (h.perm pl2)) (fun onegv => ?_)
      refine WPc.seq ?_
      refine WPc.seq ?_
      refine WPc.region ?_
      refine WP.val rfl rfl rfl (Val.fieldAddr (j := 0) rfl Ty.fo31_0 rfl rfl) ?_
      refine WP.val rfl rfl rfl (Val.load rfl Ty.sc23 rfl (fun w h => h.cell 0 rfl rfl)) ?_
      refine WP.val rfl rfl rfl (Val.lenOwn rfl Ty.sl23 rfl (fun w h => h.at 2 rfl)) ?_
      refine WP.val rfl rfl rfl (Val.move rfl rfl) ?_
      refine WP.val rfl rfl rfl (Val.lss rfl rfl rfl) ?_
      refine WP.val rfl rfl rfl (Val.move rfl rfl) ?_
      refine WP.split 38 rfl (fun h2 => ?_) (fun h2 => ?_)
      · skip
        have h2 : (((got.length : Nat) : Int) < ((most : Nat) : Int)) := h2
        refine WP.valG rfl rfl rfl rfl rfl rfl rfl (Val.fieldAddr (j := 1) rfl Ty.fo31_1 rfl rfl) ?_
        refine WP.valG rfl rfl rfl rfl rfl rfl rfl (Val.load rfl Ty.sc3 rfl (fun w h => h.cell 0 rfl rfl)) ?_
        refine WP.valG rfl rfl rfl rfl rfl rfl rfl (Val.eqlK rfl rfl rfl rfl) ?_
        refine WP.val rfl rfl rfl (Val.pickT rfl rfl rfl) ?_
        refine WP.nil ?_
        refine Out.next ?_
        refine WPc.condT rfl rfl ?_
        refine WPc.skip ?_
        refine Out.next ?_
        refine WPc.block ?_
        refine WPc.seq ?_
        refine WPc.region ?_
        refine WP.val rfl rfl rfl (Val.mk (cs := [.pointer none, .pointer none, .slice none 0 0]) rfl rfl (fun _ => by kernel_rfl)) ?_
        refine WP.eff rfl rfl rfl (Eff.box (C := [.pointer none, .pointer none, .slice none 0 0]) rfl rfl rfl) ?_
        rintro _ _ ⟨b8, rfl, rfl⟩
        refine WP.val rfl rfl rfl (Val.assign rfl rfl) ?_
        refine WP.nil ?_
        refine Out.next ?_
        refine WPc.seq ?_
        rcases hcase : rss'.flatten with _ | ⟨r, more⟩
        · skip
          refine WPc.conv (fun w h => rec_new h) ?_
          show WPc _ _ _ _ _ _ (Rec b8 none none [] :: Blk b7 [gv, .int .i64 0, .int .i64 0, .int .u32 0] 31 :: Blk b1 [.slice none 0 0, .int .i64 0, .int .i64 0, .int .u32 0] 31 :: Own 44 6 gv got.length (flatOf WR.cells got) :: Dec db false fs p p c :: Cel 0 0 (.iface 123 (.pointer (some ep))) :: F)
          refine WPc.region ?_
          refine WP.val rfl rfl rfl (Val.move rfl rfl) ?_
          refine WP.val rfl rfl rfl (Val.move rfl rfl) ?_
          refine WP.perm pl5 ?_
          refine WP.perm pl1 ?_
          refine WP.perm pl5 ?_
          refine WP.eff rfl rfl rfl (Eff.invoke (f := 71) rfl rfl rfl (fun _ => by kernel_rfl) Tryd.call71 (decode_spec db false fs p p c b8 ep none none [] _ _ _ (dec_fin db b8 ep false c fs p rss' hlay hne hcase))) ?_
          rintro _ _ ⟨_, ⟨rfl, rfl⟩, rfl⟩
          show WP _ _ _ _ _ _ _ (Dec db false [] 0 (lastLen fs) c :: Rec b8 none none [] :: Cel 0 0 (.iface 123 (.pointer (some ep))) :: Blk b7 [gv, .int .i64 0, .int .i64 0, .int .u32 0] 31 :: Blk b1 [.slice none 0 0, .int .i64 0, .int .i64 0, .int .u32 0] 31 :: Own 44 6 gv got.length (flatOf WR.cells got) :: F)
          refine WP.val rfl rfl rfl (Val.assign rfl rfl) ?_
          refine WP.nil ?_
          refine Out.next ?_
          refine WPc.seq ?_
          refine WPc.seq ?_
          refine WPc.region ?_
          refine WP.val rfl rfl rfl (Val.move rfl rfl) ?_
          refine WP.val rfl rfl rfl (Val.someIn rfl Ty.if61 rfl) ?_
          refine WP.val rfl rfl rfl (Val.move rfl rfl) ?_
          refine WP.valG rfl rfl rfl rfl rfl rfl rfl (Val.move rfl rfl) ?_
          refine WP.valG rfl rfl rfl rfl rfl rfl rfl (Val.move rfl rfl) ?_
          refine WP.skip rfl rfl rfl rfl rfl rfl rfl ?_
          refine WP.skip rfl rfl rfl rfl rfl rfl rfl ?_
          refine WP.skip rfl rfl rfl rfl rfl rfl rfl ?_
          refine WP.valG rfl rfl rfl rfl rfl rfl rfl (Val.pickF rfl rfl rfl) ?_
          refine WP.valG rfl rfl rfl rfl rfl rfl rfl (Val.not rfl rfl) ?_
          refine WP.val rfl rfl rfl (Val.pickT rfl rfl rfl) ?_
          refine WP.nil ?_
          refine Out.next ?_
          refine WPc.condT rfl rfl ?_
          refine WPc.seq ?_
          refine WPc.region ?_
          refine WP.val rfl rfl rfl (Val.move rfl rfl) ?_
          refine WP.perm pl2 ?_
          refine WP.eff rfl rfl rfl (Eff.call rfl rfl Tryd.call20 (walend_spec ep)) ?_
          rintro _ _ ⟨_, ⟨rfl, rfl⟩, rfl⟩
          show WP _ _ _ _ _ _ _ (Cel 0 0 (.iface 123 (.pointer (some ep))) :: Dec db false [] 0 (lastLen fs) c :: Rec b8 none none [] :: Blk b7 [gv, .int .i64 0, .int .i64 0, .int .u32 0] 31 :: Blk b1 [.slice none 0 0, .int .i64 0, .int .i64 0, .int .u32 0] 31 :: Own 44 6 gv got.length (flatOf WR.cells got) :: F)
          refine WP.val rfl rfl rfl (Val.fieldAddr (j := 1) rfl Ty.fo31_1 rfl rfl) ?_
          refine WP.perm pl3 ?_
          refine WP.eff0 rfl rfl (Eff.store rfl Ty.sc3 rfl rfl rfl (by simp) st1) ?_
          rintro _ _ rfl
          refine WP.nil ?_
          refine Out.next ?_
          refine WPc.exit ?_
          refine Out.then_exit ?_
          refine Out.block_other rfl ?_
          refine Out.then_exit ?_
          refine Out.block_exit ?_
          have hnil : got.length = rss.flatten.length := by
            have := congrArg List.length (hfl2.symm.trans hcase)
            rw [List.length_drop, List.length_nil] at this
            omega
          refine Out.perm pl3 ?_
          refine Out.drop ?_
          refine Out.perm pl1 ?_
          refine Out.perm pl2 ?_
          refine Out.perm pl4 ?_
          refine Out.perm pl4 ?_
          refine Out.perm pl4 ?_
          refine Out.meet (b1, b7, db, got, gv, 1, lastLen fs, c, [], 0) ?_ ?_ ?_
          · exact ⟨hcl, hout, .inr ⟨hnil, by omega, rfl, hll⟩⟩
          · exact (Sub.cons rfl (Sub.cons rfl (Sub.cons rfl Sub.nil)))
          · exact (fun _ h => h)
        · skip
          rw [hcase] at hchn
          refine WPc.conv (fun w h => rec_new h) ?_
          show WPc _ _ _ _ _ _ (Rec b8 none none [] :: Blk b7 [gv, .int .i64 0, .int .i64 0, .int .u32 0] 31 :: Blk b1 [.slice none 0 0, .int .i64 0, .int .i64 0, .int .u32 0] 31 :: Own 44 6 gv got.length (flatOf WR.cells got) :: Dec db false fs p p c :: Cel 0 0 (.iface 123 (.pointer (some ep))) :: F)
          refine WPc.region ?_
          refine WP.val rfl rfl rfl (Val.move rfl rfl) ?_
          refine WP.val rfl rfl rfl (Val.move rfl rfl) ?_
          obtain ⟨k, p', rss'', hl2, hk, hf2, hdoes⟩ := dec_step db b8 ep false r more c hchn.1 fs p rss' hlay hcase
          refine WP.perm pl5 ?_
          refine WP.perm pl1 ?_
          refine WP.perm pl5 ?_
          refine WP.eff rfl rfl rfl (Eff.invoke (f := 71) rfl rfl rfl (fun _ => by kernel_rfl) Tryd.call71 (decode_spec db false fs p p c b8 ep none none [] _ _ _ hdoes)) ?_
          rintro _ _ ⟨_, ⟨rfl, rfl⟩, rfl⟩
          show WP _ _ _ _ _ _ _ (Dec db false (fs.drop k) p' p' (if r.tx = 4 then c else crcWrite c r.d) :: Rec b8 (some r.tx) (some r.cx) r.d :: Cel 0 0 (.iface 123 (.pointer (some ep))) :: Blk b7 [gv, .int .i64 0, .int .i64 0, .int .u32 0] 31 :: Blk b1 [.slice none 0 0, .int .i64 0, .int .i64 0, .int .u32 0] 31 :: Own 44 6 gv got.length (flatOf WR.cells got) :: F)
          refine WP.val rfl rfl rfl (Val.assign rfl rfl) ?_
          refine WP.nil ?_
          refine Out.next ?_
          refine WPc.seq ?_
          refine WPc.seq ?_
          refine WPc.region ?_
          refine WP.val rfl rfl rfl (Val.move rfl rfl) ?_
          refine WP.val rfl rfl rfl (Val.nilIn rfl Ty.if61 rfl) ?_
          refine WP.val rfl rfl rfl (Val.move rfl rfl) ?_
          refine WP.skip rfl rfl rfl rfl rfl rfl rfl ?_
          refine WP.skip rfl rfl rfl rfl rfl rfl rfl ?_
          refine WP.skipU rfl rfl rfl rfl rfl rfl ?_
          refine WP.skipU rfl rfl rfl rfl rfl rfl ?_
          refine WP.skipU rfl rfl rfl rfl rfl rfl ?_
          refine WP.skip rfl rfl rfl rfl rfl rfl rfl ?_
          refine WP.skip rfl rfl rfl rfl rfl rfl rfl ?_
          refine WP.val rfl rfl rfl (Val.pickF rfl rfl rfl) ?_
          refine WP.nil ?_
          refine Out.next ?_
          refine WPc.condF rfl rfl ?_
          refine WPc.skip ?_
          refine Out.next ?_
          refine WPc.seq ?_
          refine WPc.perm pl1 ?_
          refine WPc.open (fun w h => rec_open h) ?_
          rintro ⟨tv, cv, dv⟩
          show WPc _ _ _ _ _ _ (Blk b8 [tv, cv, dv] 59 :: PtrO 2 tv ((some (r.tx)).map (Value.int .i64)) :: PtrO 22 cv ((some (r.cx)).map (Value.int .u32)) :: Own 5 1 dv r.d.length (byt r.d) :: Dec db false (fs.drop k) p' p' (if r.tx = 4 then c else crcWrite c r.d) :: Cel 0 0 (.iface 123 (.pointer (some ep))) :: Blk b7 [gv, .int .i64 0, .int .i64 0, .int .u32 0] 31 :: Blk b1 [.slice none 0 0, .int .i64 0, .int .i64 0, .int .u32 0] 31 :: Own 44 6 gv got.length (flatOf WR.cells got) :: F)
          refine WPc.perm pl1 ?_
          refine WPc.open (fun w h => h.ptrSome) ?_
          rintro tb
          refine WPc.pure (fun hvtb => ?_)
          subst hvtb
          show WPc _ _ _ _ _ _ (Blk tb [.int .i64 (r.tx)] 2 :: Blk b8 [.pointer (some ⟨tb, 0, none⟩), cv, dv] 59 :: PtrO 22 cv ((some (r.cx)).map (Value.int .u32)) :: Own 5 1 dv r.d.length (byt r.d) :: Dec db false (fs.drop k) p' p' (if r.tx = 4 then c else crcWrite c r.d) :: Cel 0 0 (.iface 123 (.pointer (some ep))) :: Blk b7 [gv, .int .i64 0, .int .i64 0, .int .u32 0] 31 :: Blk b1 [.slice none 0 0, .int .i64 0, .int .i64 0, .int .u32 0] 31 :: Own 44 6 gv got.length (flatOf WR.cells got) :: F)
          refine WPc.perm pl2 ?_
          refine WPc.open (fun w h => h.ptrSome) ?_
          rintro xb
          refine WPc.pure (fun hvxb => ?_)
          subst hvxb
          show WPc _ _ _ _ _ _ (Blk xb [.int .u32 (r.cx)] 22 :: Blk tb [.int .i64 (r.tx)] 2 :: Blk b8 [.pointer (some ⟨tb, 0, none⟩), .pointer (some ⟨xb, 0, none⟩), dv] 59 :: Own 5 1 dv r.d.length (byt r.d) :: Dec db false (fs.drop k) p' p' (if r.tx = 4 then c else crcWrite c r.d) :: Cel 0 0 (.iface 123 (.pointer (some ep))) :: Blk b7 [gv, .int .i64 0, .int .i64 0, .int .u32 0] 31 :: Blk b1 [.slice none 0 0, .int .i64 0, .int .i64 0, .int .u32 0] 31 :: Own 44 6 gv got.length (flatOf WR.cells got) :: F)
          refine WPc.perm pl3 ?_
          refine WPc.conv (fun w h => own_byts h) ?_
          show WPc _ _ _ _ _ _ (Byts dv r.d :: Blk xb [.int .u32 (r.cx)] 22 :: Blk tb [.int .i64 (r.tx)] 2 :: Blk b8 [.pointer (some ⟨tb, 0, none⟩), .pointer (some ⟨xb, 0, none⟩), dv] 59 :: Dec db false (fs.drop k) p' p' (if r.tx = 4 then c else crcWrite c r.d) :: Cel 0 0 (.iface 123 (.pointer (some ep))) :: Blk b7 [gv, .int .i64 0, .int .i64 0, .int .u32 0] 31 :: Blk b1 [.slice none 0 0, .int .i64 0, .int .i64 0, .int .u32 0] 31 :: Own 44 6 gv got.length (flatOf WR.cells got) :: F)
          refine WPD.start (Sat W [Blk b7 [gv, .int .i64 0, .int .i64 0, .int .u32 0] 31]) Ty.mixed ?_
          refine WPD.takeM 0 rfl rfl rfl rfl (by kernel_rfl) (by kernel_rfl) (by kernel_rfl) (by kernel_rfl) (fun _ _ _ h => h) (fun w h => ((h.perm pl6)).dropEnd (L := [_])) (Val.fieldAddr (j := 0) rfl Ty.fo31_0 rfl rfl) ?_
          refine WPD.take 1 rfl rfl rfl rfl (by kernel_rfl) (by kernel_rfl) (by kernel_rfl) (by kernel_rfl) (fun _ _ _ h => h) (by kernel_rfl) (fun w h => ((h.perm pl6)).dropEnd (L := [_])) (Val.load rfl Ty.sc23 rfl (fun w h => h.cell 0 rfl rfl)) ?_
          refine WPD.takeM 2 rfl rfl rfl rfl (by kernel_rfl) (by kernel_rfl) (by kernel_rfl) (by kernel_rfl) (fun _ _ _ h => h) (fun w h => ((h.perm pl6)).dropEnd (L := [_])) (Val.move rfl rfl) ?_
          refine WPD.perm pl1 ?_
          refine WPD.perm pl2 ?_
          refine WPD.perm pl3 ?_
          refine WPD.step 3 (by kernel_rfl) rfl rfl rfl rfl (Eff.call rfl rfl Tryd.call21 (recout_spec b8 tb xb dv r.tx r.cx r.d)) ?_
          rintro _ _ ⟨_, ⟨hb, rfl, rfl⟩, rfl⟩
          refine ⟨(fun w h => ((h.perm pl6)).dropEnd (L := [_])), ?_⟩
          show WPD _ _ _ _ _ _ _ _ _ (Blk b8 [.pointer (some ⟨tb, 0, none⟩), .pointer (some ⟨xb, 0, none⟩), dv] 59 :: Blk tb [.int .i64 (r.tx)] 2 :: Blk xb [.int .u32 (r.cx)] 22 :: Byts dv r.d :: Dec db false (fs.drop k) p' p' (if r.tx = 4 then c else crcWrite c r.d) :: Cel 0 0 (.iface 123 (.pointer (some ep))) :: Blk b7 [gv, .int .i64 0, .int .i64 0, .int .u32 0] 31 :: Blk b1 [.slice none 0 0, .int .i64 0, .int .i64 0, .int .u32 0] 31 :: Own 44 6 gv got.length (flatOf WR.cells got) :: F)
          refine WPD.step 4 (by kernel_rfl) rfl rfl rfl rfl (Eff.mkSlice (C := [.int .i64 (r.tx), .bool true, .int .u32 (r.cx), .bool true, .string (str (r.d)), .bool (hb)]) rfl Ty.sl23 rfl (fun _ => by kernel_rfl)) ?_
          rintro _ _ ⟨b9, rfl, rfl⟩
          refine ⟨(fun w h => ((h.perm pl7)).dropEnd (L := [_])), ?_⟩
          refine WPD.perm pl9 ?_
          refine WPD.stepC 5 (by kernel_rfl) rfl rfl rfl rfl (by kernel_rfl) (Eff.append (m := 1) (n0 := got.length) (news := ([.int .i64 (r.tx), .bool true, .int .u32 (r.cx), .bool true, .string (str (r.d)), .bool (hb)] : List Value)) rfl Ty.sl23 Ty.z44 rfl rfl rfl (.slice Ty.sl23 rfl rfl (fun w h => cells_range (h.range 1 rfl rfl))) (by omega) (by omega)) ?_
          rintro v10 _ ⟨onev10, rfl⟩
          refine ⟨(Sat W (Own 44 6 v10 (got.length + 1) ((flatOf WR.cells got) ++ (([.int .i64 (r.tx), .bool true, .int .u32 (r.cx), .bool true, .string (str (r.d)), .bool (hb)] : List Value))) :: Blk b9 [.int .i64 (r.tx), .bool true, .int .u32 (r.cx), .bool true, .string (str (r.d)), .bool (hb)] 44 :: Blk b8 [.pointer (some ⟨tb, 0, none⟩), .pointer (some ⟨xb, 0, none⟩), dv] 59 :: Blk tb [.int .i64 (r.tx)] 2 :: Blk xb [.int .u32 (r.cx)] 22 :: Byts dv r.d :: Dec db false (fs.drop k) p' p' (if r.tx = 4 then c else crcWrite c r.d) :: Cel 0 0 (.iface 123 (.pointer (some ep))) :: Blk b7 [gv, .int .i64 0, .int .i64 0, .int .u32 0] 31 :: Blk b1 [.slice none 0 0, .int .i64 0, .int .i64 0, .int .u32 0] 31 :: F)), (fun _ h => h), ?_⟩
          refine WPD.takeM 6 rfl rfl rfl rfl (by kernel_rfl) (by kernel_rfl) (by kernel_rfl) (by kernel_rfl) (fun _ _ _ h => h) (fun _ h => h) (Val.fieldAddr (j := 0) rfl Ty.fo31_0 rfl rfl) ?_
          refine WPD.perm pl8 ?_
          refine WPD.stepC0 7 (by kernel_rfl) rfl rfl rfl (by kernel_rfl) (Eff.store rfl Ty.sc23 rfl rfl onev10 (by simp) st0) ?_
          rintro _ _ rfl
          refine ⟨(Sat W (Blk b7 [v10, .int .i64 0, .int .i64 0, .int .u32 0] 31 :: Own 44 6 v10 (got.length + 1) ((flatOf WR.cells got) ++ (([.int .i64 (r.tx), .bool true, .int .u32 (r.cx), .bool true, .string (str (r.d)), .bool (hb)] : List Value))) :: Blk b9 [.int .i64 (r.tx), .bool true, .int .u32 (r.cx), .bool true, .string (str (r.d)), .bool (hb)] 44 :: Blk b8 [.pointer (some ⟨tb, 0, none⟩), .pointer (some ⟨xb, 0, none⟩), dv] 59 :: Blk tb [.int .i64 (r.tx)] 2 :: Blk xb [.int .u32 (r.cx)] 22 :: Byts dv r.d :: Dec db false (fs.drop k) p' p' (if r.tx = 4 then c else crcWrite c r.d) :: Cel 0 0 (.iface 123 (.pointer (some ep))) :: Blk b1 [.slice none 0 0, .int .i64 0, .int .i64 0, .int .u32 0] 31 :: F)), (fun _ h => h), ?_⟩
          refine WPD.done (by kernel_rfl) ?_
          refine Out.next ?_
          refine WPc.seq ?_
          refine WPc.region ?_
          refine WP.val rfl rfl rfl (Val.move rfl rfl) ?_
          refine WP.val rfl rfl rfl (Val.move rfl rfl) ?_
          refine WP.valG rfl rfl rfl rfl rfl rfl rfl (Val.move rfl rfl) ?_
          refine WP.perm pl5 ?_
          refine WP.perm pl5 ?_
          refine WP.perm pl5 ?_
          refine WP.effG rfl rfl rfl rfl rfl rfl rfl (Eff.call rfl rfl Tryd.call22 (gty2 b8 tb xb dv r.tx r.cx)) ?_
          rintro _ _ ⟨_, ⟨rfl, rfl⟩, rfl⟩
          show WP _ _ _ _ _ _ _ (Blk b8 [.pointer (some ⟨tb, 0, none⟩), .pointer (some ⟨xb, 0, none⟩), dv] 59 :: Blk tb [.int .i64 (r.tx)] 2 :: Blk xb [.int .u32 (r.cx)] 22 :: Blk b7 [v10, .int .i64 0, .int .i64 0, .int .u32 0] 31 :: Own 44 6 v10 (got.length + 1) ((flatOf WR.cells got) ++ (([.int .i64 (r.tx), .bool true, .int .u32 (r.cx), .bool true, .string (str (r.d)), .bool (hb)] : List Value))) :: Blk b9 [.int .i64 (r.tx), .bool true, .int .u32 (r.cx), .bool true, .string (str (r.d)), .bool (hb)] 44 :: Byts dv r.d :: Dec db false (fs.drop k) p' p' (if r.tx = 4 then c else crcWrite c r.d) :: Cel 0 0 (.iface 123 (.pointer (some ep))) :: Blk b1 [.slice none 0 0, .int .i64 0, .int .i64 0, .int .u32 0] 31 :: F)
          refine WP.valG rfl rfl rfl rfl rfl rfl rfl (Val.eql rfl rfl rfl) ?_
          refine WP.val rfl rfl rfl (Val.pickT rfl rfl rfl) ?_
          refine WP.nil ?_
          refine Out.next ?_
          refine WPc.ifP rfl (fun h3 => ?_) (fun h3 => ?_)
          · skip
            have h3 : (r.tx = (4 : Int)) := h3
            refine WPD.start (Sat W []) Ty.mixed ?_
            refine WPD.takeM 0 rfl rfl rfl rfl (by kernel_rfl) (by kernel_rfl) (by kernel_rfl) (by kernel_rfl) (fun _ _ _ h => h) (fun w h => (h).dropEnd (L := [])) (Val.move rfl rfl) ?_
            refine WPD.takeM 1 rfl rfl rfl rfl (by kernel_rfl) (by kernel_rfl) (by kernel_rfl) (by kernel_rfl) (fun _ _ _ h => h) (fun w h => (h).dropEnd (L := [])) (Val.move rfl rfl) ?_
            refine WPD.take 3 rfl rfl rfl rfl (by kernel_rfl) (by kernel_rfl) (by kernel_rfl) (by kernel_rfl) (fun _ _ _ h => h) (by kernel_rfl) (fun w h => (h).dropEnd (L := [])) (Val.mkFunc rfl rfl rfl) ?_
            refine WPD.takeM 4 rfl rfl rfl rfl (by kernel_rfl) (by kernel_rfl) (by kernel_rfl) (by kernel_rfl) (fun _ _ _ h => h) (fun w h => (h).dropEnd (L := [])) (Val.nilCheckM rfl rfl (by kernel_rfl)) ?_
            refine WPD.takeM 5 rfl rfl rfl rfl (by kernel_rfl) (by kernel_rfl) (by kernel_rfl) (by kernel_rfl) (fun _ _ _ h => h) (fun w h => (h).dropEnd (L := [])) (Val.move rfl rfl) ?_
            refine WPD.perm pl2 ?_
            refine WPD.perm pl2 ?_
            refine WPD.perm pl2 ?_
            refine WPD.step 2 (by kernel_rfl) rfl rfl rfl rfl (Eff.call rfl rfl Tryd.call23 (gcr2 b8 tb xb dv r.tx r.cx)) ?_
            rintro _ _ ⟨_, ⟨rfl, rfl⟩, rfl⟩
            refine ⟨(fun w h => (h).dropEnd (L := [])), ?_⟩
            show WPD _ _ _ _ _ _ _ _ _ (Blk b8 [.pointer (some ⟨tb, 0, none⟩), .pointer (some ⟨xb, 0, none⟩), dv] 59 :: Blk tb [.int .i64 (r.tx)] 2 :: Blk xb [.int .u32 (r.cx)] 22 :: Blk b7 [v10, .int .i64 0, .int .i64 0, .int .u32 0] 31 :: Own 44 6 v10 (got.length + 1) ((flatOf WR.cells got) ++ (([.int .i64 (r.tx), .bool true, .int .u32 (r.cx), .bool true, .string (str (r.d)), .bool (hb)] : List Value))) :: Blk b9 [.int .i64 (r.tx), .bool true, .int .u32 (r.cx), .bool true, .string (str (r.d)), .bool (hb)] 44 :: Byts dv r.d :: Dec db false (fs.drop k) p' p' (if r.tx = 4 then c else crcWrite c r.d) :: Cel 0 0 (.iface 123 (.pointer (some ep))) :: Blk b1 [.slice none 0 0, .int .i64 0, .int .i64 0, .int .u32 0] 31 :: F)
            refine WPD.perm pl7 ?_
            refine WPD.stepC 6 (by kernel_rfl) rfl rfl rfl rfl (by kernel_rfl) (Eff.invoke (f := 74) rfl rfl rfl (fun _ => by kernel_rfl) Tryd.call74 ((ucrc_spec db false (fs.drop k) p' p' (if r.tx = 4 then c else crcWrite c r.d) r.cx))) ?_
            rintro uu _ ⟨_, rfl, rfl⟩
            refine ⟨(Sat W (Dec db false (fs.drop k) p' p' r.cx :: Blk b8 [.pointer (some ⟨tb, 0, none⟩), .pointer (some ⟨xb, 0, none⟩), dv] 59 :: Blk tb [.int .i64 (r.tx)] 2 :: Blk xb [.int .u32 (r.cx)] 22 :: Blk b7 [v10, .int .i64 0, .int .i64 0, .int .u32 0] 31 :: Own 44 6 v10 (got.length + 1) ((flatOf WR.cells got) ++ (([.int .i64 (r.tx), .bool true, .int .u32 (r.cx), .bool true, .string (str (r.d)), .bool (hb)] : List Value))) :: Blk b9 [.int .i64 (r.tx), .bool true, .int .u32 (r.cx), .bool true, .string (str (r.d)), .bool (hb)] 44 :: Byts dv r.d :: Cel 0 0 (.iface 123 (.pointer (some ep))) :: Blk b1 [.slice none 0 0, .int .i64 0, .int .i64 0, .int .u32 0] 31 :: F)), (fun _ h => h), ?_⟩
            show WPD _ _ _ _ _ _ _ _ _ (Dec db false (fs.drop k) p' p' r.cx :: Blk b8 [.pointer (some ⟨tb, 0, none⟩), .pointer (some ⟨xb, 0, none⟩), dv] 59 :: Blk tb [.int .i64 (r.tx)] 2 :: Blk xb [.int .u32 (r.cx)] 22 :: Blk b7 [v10, .int .i64 0, .int .i64 0, .int .u32 0] 31 :: Own 44 6 v10 (got.length + 1) ((flatOf WR.cells got) ++ (([.int .i64 (r.tx), .bool true, .int .u32 (r.cx), .bool true, .string (str (r.d)), .bool (hb)] : List Value))) :: Blk b9 [.int .i64 (r.tx), .bool true, .int .u32 (r.cx), .bool true, .string (str (r.d)), .bool (hb)] 44 :: Byts dv r.d :: Cel 0 0 (.iface 123 (.pointer (some ep))) :: Blk b1 [.slice none 0 0, .int .i64 0, .int .i64 0, .int .u32 0] 31 :: F)
            refine WPD.done (by kernel_rfl) ?_
            refine Out.block ?_
            refine Out.perm pl5 ?_
            refine Out.conv (M := Own 44 6 v10 ((got ++ [WR.mk r.tx true r.cx true r.d hb]).length) (flatOf WR.cells (got ++ [WR.mk r.tx true r.cx true r.d hb])) :: Dec db false (fs.drop k) p' p' r.cx :: Blk b8 [.pointer (some ⟨tb, 0, none⟩), .pointer (some ⟨xb, 0, none⟩), dv] 59 :: Blk tb [.int .i64 (r.tx)] 2 :: Blk xb [.int .u32 (r.cx)] 22 :: Blk b7 [v10, .int .i64 0, .int .i64 0, .int .u32 0] 31 :: Blk b9 [.int .i64 (r.tx), .bool true, .int .u32 (r.cx), .bool true, .string (str (r.d)), .bool (hb)] 44 :: Byts dv r.d :: Cel 0 0 (.iface 123 (.pointer (some ep))) :: Blk b1 [.slice none 0 0, .int .i64 0, .int .i64 0, .int .u32 0] 31 :: F) (fun w h => by rw [List.length_append, flatOf_snoc]; exact h) ?_
            have hdr : rss.flatten.drop got.length = r :: more := hfl2.symm.trans hcase
            have hat : rss.flatten[got.length]? = some r := by
              have e : rss.flatten[got.length]? = (rss.flatten.drop got.length)[0]? := by rw [List.getElem?_drop]; rfl
              rw [e, hdr]; rfl
            have htk := take_more hat
            have hl1 : (got ++ [WR.mk r.tx true r.cx true r.d hb]).length = got.length + 1 := by simp
            have hdr2 : rss.flatten.drop (got.length + 1) = more := by
              rw [← List.drop_drop, hdr]; rfl
            have hlt2 := (List.getElem?_eq_some_iff.1 hat).1
            refine Out.perm pl2 ?_
            refine Out.drop ?_
            refine Out.perm pl2 ?_
            refine Out.drop ?_
            refine Out.perm pl2 ?_
            refine Out.drop ?_
            refine Out.perm pl3 ?_
            refine Out.drop ?_
            refine Out.perm pl3 ?_
            refine Out.drop ?_
            refine Out.perm pl3 ?_
            refine Out.perm pl2 ?_
            refine Out.perm pl2 ?_
            refine Out.perm pl4 ?_
            refine Out.perm pl4 ?_
            refine Out.again ((got ++ [WR.mk r.tx true r.cx true r.d hb]), v10, fs.drop k, p', r.cx, rss'') ?_ ?_ ?_ ?_
            · exact ⟨hl2, by intro e; have := congrArg List.length e; simp at this; omega, (lastLen_drop fs k hk).trans hll, by rw [List.length_drop]; omega, by omega, by rw [hf2, hl1, hdr2], by rw [hl1, htk]; exact outs_snoc hout ⟨rfl, rfl, rfl, rfl, rfl⟩, by rw [hf2]; exact hchn.2, by rw [hl1, htk, lastC_snoc], by omega⟩
            · (show most - (got ++ [WR.mk r.tx true r.cx true r.d hb]).length < most - got.length; omega)
            · exact (Sub.cons rfl (Sub.cons rfl (Sub.cons rfl (Sub.cons rfl (Sub.cons rfl (Sub.cons rfl Sub.nil))))))
            · exact (fun _ h => h)
          · skip
            have h3 : ¬ (r.tx = (4 : Int)) := h3
            refine WPc.skip ?_
            refine Out.block ?_
            refine Out.perm pl7 ?_
            refine Out.conv (M := Dec db false (fs.drop k) p' p' r.cx :: Blk b8 [.pointer (some ⟨tb, 0, none⟩), .pointer (some ⟨xb, 0, none⟩), dv] 59 :: Blk tb [.int .i64 (r.tx)] 2 :: Blk xb [.int .u32 (r.cx)] 22 :: Blk b7 [v10, .int .i64 0, .int .i64 0, .int .u32 0] 31 :: Own 44 6 v10 (got.length + 1) ((flatOf WR.cells got) ++ (([.int .i64 (r.tx), .bool true, .int .u32 (r.cx), .bool true, .string (str (r.d)), .bool (hb)] : List Value))) :: Blk b9 [.int .i64 (r.tx), .bool true, .int .u32 (r.cx), .bool true, .string (str (r.d)), .bool (hb)] 44 :: Byts dv r.d :: Cel 0 0 (.iface 123 (.pointer (some ep))) :: Blk b1 [.slice none 0 0, .int .i64 0, .int .i64 0, .int .u32 0] 31 :: F) (fun w h => by rw [if_neg (by omega), ← hchn.1 (by omega)] at h; exact h) ?_
            refine Out.perm pl5 ?_
            refine Out.conv (M := Own 44 6 v10 ((got ++ [WR.mk r.tx true r.cx true r.d hb]).length) (flatOf WR.cells (got ++ [WR.mk r.tx true r.cx true r.d hb])) :: Dec db false (fs.drop k) p' p' r.cx :: Blk b8 [.pointer (some ⟨tb, 0, none⟩), .pointer (some ⟨xb, 0, none⟩), dv] 59 :: Blk tb [.int .i64 (r.tx)] 2 :: Blk xb [.int .u32 (r.cx)] 22 :: Blk b7 [v10, .int .i64 0, .int .i64 0, .int .u32 0] 31 :: Blk b9 [.int .i64 (r.tx), .bool true, .int .u32 (r.cx), .bool true, .string (str (r.d)), .bool (hb)] 44 :: Byts dv r.d :: Cel 0 0 (.iface 123 (.pointer (some ep))) :: Blk b1 [.slice none 0 0, .int .i64 0, .int .i64 0, .int .u32 0] 31 :: F) (fun w h => by rw [List.length_append, flatOf_snoc]; exact h) ?_
            have hdr : rss.flatten.drop got.length = r :: more := hfl2.symm.trans hcase
            have hat : rss.flatten[got.length]? = some r := by
              have e : rss.flatten[got.length]? = (rss.flatten.drop got.length)[0]? := by rw [List.getElem?_drop]; rfl
              rw [e, hdr]; rfl
            have htk := take_more hat
            have hl1 : (got ++ [WR.mk r.tx true r.cx true r.d hb]).length = got.length + 1 := by simp
            have hdr2 : rss.flatten.drop (got.length + 1) = more := by
              rw [← List.drop_drop, hdr]; rfl
            have hlt2 := (List.getElem?_eq_some_iff.1 hat).1
            refine Out.perm pl2 ?_
            refine Out.drop ?_
            refine Out.perm pl2 ?_
            refine Out.drop ?_
            refine Out.perm pl2 ?_
            refine Out.drop ?_
            refine Out.perm pl3 ?_
            refine Out.drop ?_
            refine Out.perm pl3 ?_
            refine Out.drop ?_
            refine Out.perm pl3 ?_
            refine Out.perm pl2 ?_
            refine Out.perm pl2 ?_
            refine Out.perm pl4 ?_
            refine Out.perm pl4 ?_
            refine Out.again ((got ++ [WR.mk r.tx true r.cx true r.d hb]), v10, fs.drop k, p', r.cx, rss'') ?_ ?_ ?_ ?_
            · exact ⟨hl2, by intro e; have := congrArg List.length e; simp at this; omega, (lastLen_drop fs k hk).trans hll, by rw [List.length_drop]; omega, by omega, by rw [hf2, hl1, hdr2], by rw [hl1, htk]; exact outs_snoc hout ⟨rfl, rfl, rfl, rfl, rfl⟩, by rw [hf2]; exact hchn.2, by rw [hl1, htk, lastC_snoc], by omega⟩
            · (show most - (got ++ [WR.mk r.tx true r.cx true r.d hb]).length < most - got.length; omega)
            · exact (Sub.cons rfl (Sub.cons rfl (Sub.cons rfl (Sub.cons rfl (Sub.cons rfl (Sub.cons rfl Sub.nil))))))
            · exact (fun _ h => h)
      · skip
        have h2 : ¬ (((got.length : Nat) : Int) < ((most : Nat) : Int)) := h2
        refine WP.skip rfl rfl rfl rfl rfl rfl rfl ?_
        refine WP.skip rfl rfl rfl rfl rfl rfl rfl ?_
        refine WP.skip rfl rfl rfl rfl rfl rfl rfl ?_
        refine WP.val rfl rfl rfl (Val.pickF rfl rfl rfl) ?_
        refine WP.nil ?_
        refine Out.next ?_
        refine WPc.condF rfl rfl ?_
        refine WPc.exit ?_
        refine Out.then_exit ?_
        refine Out.then_exit ?_
        refine Out.block_exit ?_
        refine Out.meet (b1, b7, db, got, gv, 0, p, c, fs, p) ?_ ?_ ?_
        · exact ⟨hcl, hout, .inl ⟨by omega, rfl, hgl, off_one hlay hne hll hln hfl2⟩⟩
        · exact (Sub.cons rfl (Sub.cons rfl (Sub.cons rfl Sub.nil)))
        · exact (fun _ h => h)
    · skip
      rintro ⟨res, g, db, got, gv, e, off, c, fs, p⟩ hfin
      show WPc _ _ _ _ _ [(8, .pointer (some ⟨res, 0, none⟩)), (11, .iface 83 (.pointer (some ⟨db, 0, none⟩))), (12, .pointer (some ⟨g, 0, none⟩))] (Blk g [gv, .int .i64 (e), .int .i64 0, .int .u32 0] 31 :: Blk res [.slice none 0 0, .int .i64 0, .int .i64 0, .int .u32 0] 31 :: Own 44 6 gv got.length (flatOf WR.cells got) :: Dec db false fs p off c :: Cel 0 0 (.iface 123 (.pointer (some ep))) :: F)
      refine WPc.fact (fun w h => own_oneCell (h.perm pl2)) (fun onegv => ?_)
      refine WPc.seq ?_
      refine WPc.region ?_
      refine WP.val rfl rfl rfl (Val.move rfl rfl) ?_
      refine WP.perm pl3 ?_
      refine WP.eff rfl rfl rfl (Eff.invoke (f := 73) rfl rfl rfl (fun _ => by kernel_rfl) Tryd.call73 (loff_spec db false fs p off c)) ?_
      rintro _ _ ⟨_, ⟨rfl, rfl⟩, rfl⟩
      show WP _ _ _ _ _ _ _ (Dec db false fs p off c :: Blk g [gv, .int .i64 (e), .int .i64 0, .int .u32 0] 31 :: Blk res [.slice none 0 0, .int .i64 0, .int .i64 0, .int .u32 0] 31 :: Own 44 6 gv got.length (flatOf WR.cells got) :: Cel 0 0 (.iface 123 (.pointer (some ep))) :: F)
      refine WP.val rfl rfl rfl (Val.fieldAddr (j := 2) rfl Ty.fo31_2 rfl rfl) ?_
      refine WP.perm pl1 ?_
      refine WP.eff0 rfl rfl (Eff.store rfl Ty.sc2 rfl rfl rfl (by simp) st2) ?_
      rintro _ _ rfl
      refine WP.nil ?_
      refine Out.next ?_
      refine WPc.seq ?_
      refine WPc.region ?_
      refine WP.val rfl rfl rfl (Val.move rfl rfl) ?_
      refine WP.perm pl1 ?_
      refine WP.eff rfl rfl rfl (Eff.invoke (f := 72) rfl rfl rfl (fun _ => by kernel_rfl) Tryd.call72 (lcrc_spec db false fs p off c)) ?_
      rintro _ _ ⟨_, ⟨rfl, rfl⟩, rfl⟩
      show WP _ _ _ _ _ _ _ (Dec db false fs p off c :: Blk g [gv, .int .i64 (e), .int .i64 (((off : Nat) : Int)), .int .u32 0] 31 :: Blk res [.slice none 0 0, .int .i64 0, .int .i64 0, .int .u32 0] 31 :: Own 44 6 gv got.length (flatOf WR.cells got) :: Cel 0 0 (.iface 123 (.pointer (some ep))) :: F)
      refine WP.val rfl rfl rfl (Val.fieldAddr (j := 3) rfl Ty.fo31_3 rfl rfl) ?_
      refine WP.perm pl1 ?_
      refine WP.eff0 rfl rfl (Eff.store rfl Ty.sc22 rfl rfl rfl (by simp) st3) ?_
      rintro _ _ rfl
      refine WP.nil ?_
      refine Out.next ?_
      refine WPc.seq ?_
      refine WPc.region ?_
      refine WP.val rfl rfl rfl (Val.loadAgg (cs := [gv, .int .i64 (e), .int .i64 (((off : Nat) : Int)), .int .u32 (c)]) rfl Ty.ag31 rfl rfl (fun w h => h.range 0 rfl rfl)) ?_
      refine WP.perm pl2 ?_
      refine WP.eff0 rfl rfl (Eff.storeAgg (cs := [gv, .int .i64 (e), .int .i64 (((off : Nat) : Int)), .int .u32 (c)]) (C' := [gv, .int .i64 (e), .int .i64 (((off : Nat) : Int)), .int .u32 (c)]) rfl Ty.ag31 rfl rfl rfl (by simp only [List.all_cons, List.all_nil, Bool.and_true, oc_int, oc_str, oc_bool, oc_ptr, oc_slice, oc_iface, oc_map, onegv]) (by simp) rfl) ?_
      rintro _ _ rfl
      refine WP.nil ?_
      refine Out.next ?_
      refine WPc.ret ?_
      refine Out.perm pl1 ?_
      refine Out.drop ?_
      refine Out.perm pl1 ?_
      refine Out.drop ?_
      exact Out.retRun (L' := [Own 44 6 gv got.length (flatOf WR.cells got), Cel 0 0 (.iface 123 (.pointer (some ep)))]) (results_cell (cs := [gv, .int .i64 (e), .int .i64 (((off : Nat) : Int)), .int .u32 (c)]) Tryd.results10 Ty.ag31 rfl rfl (fun w h => h.range 0 rfl rfl)) ⟨got, gv, e, off, c, hfin, rfl, rfl⟩ (fun w h => h.drop)

end Go.Proofs.YthicijpjpijdjaaDoor.Wq
