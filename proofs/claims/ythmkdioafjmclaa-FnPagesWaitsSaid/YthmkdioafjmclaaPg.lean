import Derived.Test.YthmkdioafjmclaaTy
import Derived.Test.YthmkdioafjmclaaPgModel
namespace Go.Proofs.Ythmkdioafjmclaa.Pg
open Go.RowKit Go.Proofs.Ythmkdioafjmclaa Go.Proofs.Ythmkdioafjmclaa.Sl Go.Proofs.Ythmkdioafjmclaa.PgModel
set_option linter.unusedVariables false
set_option linter.unusedSimpArgs false

set_option maxRecDepth 100000 in
set_option maxHeartbeats 1000000 in
theorem below_spec (A : HProp) (bb xb xo xc : Nat) (bs : List UInt8) (ss : List ByteArray) (wv : Value) (hA : ∀ w, Holds A w → w.rangeAt xb xo (byt bs)) (hn : bs.length ≤ 4294967296) (hss : ss.length ≤ 4294967296) : Does Try.prog 161 [.pointer (some ⟨bb, 0, none⟩), .slice (some ⟨xb, xo, none⟩) bs.length xc] [Own 9 1 wv ((ss).length) (strs (ss)), Blk bb [wv] 78, A] (fun v L => ∃ wv', v = .tuple #[.int .i64 ((bs.length : Nat) : Int), .nilIface] ∧ L = [Blk bb [wv'] 78, Own 9 1 wv' (ss ++ [str bs]).length (strs (ss ++ [str bs])), A]) := by
  refine Does.enter 19 Try.func161 rfl rfl rfl fun W F => ?_
  show WPc _ _ _ _ _ [(0, .pointer (some ⟨bb, 0, none⟩)), (1, .slice (some ⟨xb, xo, none⟩) bs.length xc)] (Own 9 1 wv ((ss).length) (strs (ss)) :: Blk bb [wv] 78 :: A :: F)
  refine WPc.seq ?_
  refine WPc.fact (fun w h => own_oneCell h) (fun onewv => ?_)
  refine WPc.region ?_
  refine WP.val rfl rfl rfl (Val.assign rfl rfl) ?_
  refine WP.val rfl rfl rfl (Val.assign rfl rfl) ?_
  refine WP.nil ?_
  refine Out.next ?_
  refine WPc.seq ?_
  refine WPD.start (Sat W [Blk bb [wv] 78, A]) Ty.mixed ?_
  refine WPD.take 0 rfl rfl rfl rfl (by kernel_rfl) (by kernel_rfl) (by kernel_rfl) (by kernel_rfl) (fun _ _ _ h => h) (fun w h => (((h.perm pl2).perm pl2)).dropEnd (L := [_, _])) (Val.move rfl rfl) ?_
  refine WPD.take 1 rfl rfl rfl rfl (by kernel_rfl) (by kernel_rfl) (by kernel_rfl) (by kernel_rfl) (fun _ _ _ h => h) (fun w h => (((h.perm pl2).perm pl2)).dropEnd (L := [_, _])) (Val.move rfl rfl) ?_
  refine WPD.take 2 rfl rfl rfl rfl (by kernel_rfl) (by kernel_rfl) (by kernel_rfl) (by kernel_rfl) (fun _ _ _ h => h) (fun w h => (((h.perm pl2).perm pl2)).dropEnd (L := [_, _])) (Val.nilCheck rfl rfl) ?_
  refine WPD.take 3 rfl rfl rfl rfl (by kernel_rfl) (by kernel_rfl) (by kernel_rfl) (by kernel_rfl) (fun _ _ _ h => h) (fun w h => (((h.perm pl2).perm pl2)).dropEnd (L := [_, _])) (Val.fieldAddr (j := 0) rfl Ty.fo78_0 rfl rfl) ?_
  refine WPD.take 4 rfl rfl rfl rfl (by kernel_rfl) (by kernel_rfl) (by kernel_rfl) (by kernel_rfl) (fun _ _ _ h => h) (fun w h => (((h.perm pl2).perm pl2)).dropEnd (L := [_, _])) (Val.load rfl Ty.sc28 rfl (fun w h => h.cell 0 rfl rfl)) ?_
  refine WPD.take 5 rfl rfl rfl rfl (by kernel_rfl) (by kernel_rfl) (by kernel_rfl) (by kernel_rfl) (fun _ _ _ h => h) (fun w h => (((h.perm pl2).perm pl2)).dropEnd (L := [_, _])) (Val.move rfl rfl) ?_
  refine WPD.take 6 rfl rfl rfl rfl (by kernel_rfl) (by kernel_rfl) (by kernel_rfl) (by kernel_rfl) (fun _ _ _ h => h) (fun w h => (((h.perm pl2).perm pl2)).dropEnd (L := [_, _])) (Val.bytesBack (bs := bs) rfl Ty.by86 Ty.st9 rfl rfl (fun w h => bytesAt (hA w (h.at 1 rfl)))) ?_
  refine WPD.step 7 (by kernel_rfl) rfl rfl rfl rfl (Eff.mkSlice (C := [.string (str bs)]) rfl Ty.sl28 rfl (fun _ => by kernel_rfl)) ?_
  rintro _ _ ⟨b1, rfl, rfl⟩
  refine ⟨.inl (fun w h => (((h.perm pl3).perm pl3)).dropEnd (L := [_, _])), ?_⟩
  refine WPD.perm pl1 ?_
  refine WPD.step 8 (by kernel_rfl) rfl rfl rfl rfl (Eff.append (m := 1) (n0 := (ss).length) (news := [.string (str bs)]) rfl Ty.sl28 Ty.z9 rfl rfl rfl (.slice Ty.sl28 rfl rfl (fun w h => cells_range (h.range 1 rfl rfl))) (by omega) (by omega)) ?_
  rintro v2 _ ⟨onev2, rfl⟩
  refine ⟨.inl (fun w h => (((h.perm pl3).perm pl3)).dropEnd (L := [_, _])), ?_⟩
  refine WPD.take 9 rfl rfl rfl rfl (by kernel_rfl) (by kernel_rfl) (by kernel_rfl) (by kernel_rfl) (fun _ _ _ h => h) (fun w h => (((h.perm pl3).perm pl3)).dropEnd (L := [_, _])) (Val.nilCheck rfl rfl) ?_
  refine WPD.take 10 rfl rfl rfl rfl (by kernel_rfl) (by kernel_rfl) (by kernel_rfl) (by kernel_rfl) (fun _ _ _ h => h) (fun w h => (((h.perm pl3).perm pl3)).dropEnd (L := [_, _])) (Val.fieldAddr (j := 0) rfl Ty.fo78_0 rfl rfl) ?_
  refine WPD.perm pl2 ?_
  refine WPD.step0 11 (by kernel_rfl) rfl rfl rfl (Eff.store rfl Ty.sc28 rfl rfl onev2 (by simp) st0) ?_
  rintro _ _ rfl
  refine ⟨.inr (by kernel_rfl), ?_⟩
  refine WPD.done (by kernel_rfl) ?_
  refine Out.next ?_
  refine WPc.seq ?_
  refine WPc.region ?_
  refine WP.val rfl rfl rfl (Val.move rfl rfl) ?_
  refine WP.val rfl rfl rfl (Val.len rfl Ty.sl86 rfl) ?_
  refine WP.val rfl rfl rfl (Val.assign rfl rfl) ?_
  refine WP.val rfl rfl rfl (Val.assign rfl rfl) ?_
  refine WP.nil ?_
  refine Out.next ?_
  refine WPc.ret ?_
  refine Out.perm pl2 ?_
  refine Out.drop ?_
  exact Out.ret2 (L' := [Blk bb [v2] 78, Own 9 1 v2 (ss ++ [str bs]).length (strs (ss ++ [str bs])), A]) Try.results161 rfl rfl ⟨v2, rfl, rfl⟩ (fun w h => by rw [List.length_append, strs, List.map_append]; exact h)
set_option maxRecDepth 100000 in
set_option maxHeartbeats 1000000 in
theorem flush_spec (pw bb bf page B off : Nat) (pend junk : List UInt8) (ss : List ByteArray) (wv : Value) (hp : 0 < page) (hpb : page ≤ B) (hB : B ≤ 1048576) (hoff : off ≤ 4294967296) (hlen : pend.length + junk.length = B + page) (hss : ss.length ≤ 4294967296) : Does Try.prog 57 [.pointer (some ⟨pw, 0, none⟩)] [Blk pw [.iface 76 (.pointer (some ⟨bb, 0, none⟩)), .int .i64 (((off : Nat) : Int)), .int .i64 (((page : Nat) : Int)), .int .i64 ((((pend).length : Nat) : Int)), .slice (some ⟨bf, 0, none⟩) ((B + page)) ((B + page)), .int .i64 (((B : Nat) : Int))] 125, Blk bf (byt (pend) ++ byt (junk)) 5, Blk bb [wv] 78, Own 9 1 wv ((ss).length) (strs (ss))] (fun v L => ∃ (k : Int) (wv' : Value) (junk' : List UInt8), ([] : List UInt8).length + junk'.length = B + page ∧ v = .tuple #[.int .i64 k, .nilIface] ∧ L = [Blk pw [.iface 76 (.pointer (some ⟨bb, 0, none⟩)), .int .i64 ((offs page off pend : Nat) : Int), .int .i64 ((page : Nat) : Int), .int .i64 (((([] : List UInt8)).length : Nat) : Int), .slice (some ⟨bf, 0, none⟩) (B + page) (B + page), .int .i64 ((B : Nat) : Int)] 125, Blk bf (byt (([] : List UInt8)) ++ byt junk') 5, Blk bb [wv'] 78, Own 9 1 wv' (ss ++ (outs pend).map str).length (strs (ss ++ (outs pend).map str))]) := by
  refine Does.enter 52 Try.func57 rfl rfl rfl fun W F => ?_
  show WPc _ _ _ _ _ [(0, .pointer (some ⟨pw, 0, none⟩))] (Blk pw [.iface 76 (.pointer (some ⟨bb, 0, none⟩)), .int .i64 (((off : Nat) : Int)), .int .i64 (((page : Nat) : Int)), .int .i64 ((((pend).length : Nat) : Int)), .slice (some ⟨bf, 0, none⟩) ((B + page)) ((B + page)), .int .i64 (((B : Nat) : Int))] 125 :: Blk bf (byt (pend) ++ byt (junk)) 5 :: Blk bb [wv] 78 :: Own 9 1 wv ((ss).length) (strs (ss)) :: F)
  refine WPc.seq ?_
  refine WPc.region ?_
  refine WP.val rfl rfl rfl (Val.assign rfl rfl) ?_
  refine WP.val rfl rfl rfl (Val.assign rfl rfl) ?_
  refine WP.nil ?_
  refine Out.next ?_
  refine WPc.seq ?_
  refine WPc.seq ?_
  refine WPc.region ?_
  refine WP.val rfl rfl rfl (Val.move rfl rfl) ?_
  refine WP.val rfl rfl rfl (Val.nilCheck rfl rfl) ?_
  refine WP.val rfl rfl rfl (Val.fieldAddr (j := 3) rfl Ty.fo125_3 rfl rfl) ?_
  refine WP.val rfl rfl rfl (Val.load rfl Ty.sc3 rfl (fun w h => h.cell 0 rfl rfl)) ?_
  refine WP.val rfl rfl rfl (Val.eql rfl rfl rfl) ?_
  refine WP.nil ?_
  refine Out.next ?_
  refine WPc.ifP rfl (fun h1 => ?_) (fun h1 => ?_)
  · skip
    have h1 : ((((pend).length : Nat) : Int) = (0 : Int)) := h1
    refine WPc.seq ?_
    refine WPc.region ?_
    refine WP.val rfl rfl rfl (Val.assign rfl rfl) ?_
    refine WP.val rfl rfl rfl (Val.assign rfl rfl) ?_
    refine WP.nil ?_
    refine Out.next ?_
    refine WPc.ret ?_
    refine Out.then_ret ?_
    have e : pend = [] := List.eq_nil_of_length_eq_zero (by omega)
    subst e
    exact Out.ret2 (L' := _) Try.results57 rfl rfl ⟨_, wv, junk, by simpa using hlen, rfl, by simp only [offs, outs, if_true, List.map_nil, List.append_nil]; rfl⟩ (fun _ h => h)
  · skip
    have h1 : ¬ ((((pend).length : Nat) : Int) = (0 : Int)) := h1
    refine WPc.skip ?_
    refine Out.next ?_
    refine WPc.seq ?_
    have hne : pend ≠ [] := by intro e; rw [e] at h1; simp at h1
    refine WPD.start (Sat W [Blk pw [.iface 76 (.pointer (some ⟨bb, 0, none⟩)), .int .i64 (((off : Nat) : Int)), .int .i64 (((page : Nat) : Int)), .int .i64 ((((pend).length : Nat) : Int)), .slice (some ⟨bf, 0, none⟩) ((B + page)) ((B + page)), .int .i64 (((B : Nat) : Int))] 125]) Ty.mixed ?_
    refine WPD.take 0 rfl rfl rfl rfl (by kernel_rfl) (by kernel_rfl) (by kernel_rfl) (by kernel_rfl) (fun _ _ _ h => h) (fun w h => (h).dropEnd (L := [_])) (Val.move rfl rfl) ?_
    refine WPD.take 1 rfl rfl rfl rfl (by kernel_rfl) (by kernel_rfl) (by kernel_rfl) (by kernel_rfl) (fun _ _ _ h => h) (fun w h => (h).dropEnd (L := [_])) (Val.nilCheck rfl rfl) ?_
    refine WPD.take 2 rfl rfl rfl rfl (by kernel_rfl) (by kernel_rfl) (by kernel_rfl) (by kernel_rfl) (fun _ _ _ h => h) (fun w h => (h).dropEnd (L := [_])) (Val.fieldAddr (j := 0) rfl Ty.fo125_0 rfl rfl) ?_
    refine WPD.take 3 rfl rfl rfl rfl (by kernel_rfl) (by kernel_rfl) (by kernel_rfl) (by kernel_rfl) (fun _ _ _ h => h) (fun w h => (h).dropEnd (L := [_])) (Val.load rfl Ty.sc122 rfl (fun w h => h.cell 0 rfl rfl)) ?_
    refine WPD.take 4 rfl rfl rfl rfl (by kernel_rfl) (by kernel_rfl) (by kernel_rfl) (by kernel_rfl) (fun _ _ _ h => h) (fun w h => (h).dropEnd (L := [_])) (Val.move rfl rfl) ?_
    refine WPD.take 5 rfl rfl rfl rfl (by kernel_rfl) (by kernel_rfl) (by kernel_rfl) (by kernel_rfl) (fun _ _ _ h => h) (fun w h => (h).dropEnd (L := [_])) (Val.nilCheck rfl rfl) ?_
    refine WPD.take 6 rfl rfl rfl rfl (by kernel_rfl) (by kernel_rfl) (by kernel_rfl) (by kernel_rfl) (fun _ _ _ h => h) (fun w h => (h).dropEnd (L := [_])) (Val.fieldAddr (j := 4) rfl Ty.fo125_4 rfl rfl) ?_
    refine WPD.take 7 rfl rfl rfl rfl (by kernel_rfl) (by kernel_rfl) (by kernel_rfl) (by kernel_rfl) (fun _ _ _ h => h) (fun w h => (h).dropEnd (L := [_])) (Val.load rfl Ty.sc86 rfl (fun w h => h.cell 0 rfl rfl)) ?_
    refine WPD.take 8 rfl rfl rfl rfl (by kernel_rfl) (by kernel_rfl) (by kernel_rfl) (by kernel_rfl) (fun _ _ _ h => h) (fun w h => (h).dropEnd (L := [_])) (Val.move rfl rfl) ?_
    refine WPD.take 9 rfl rfl rfl rfl (by kernel_rfl) (by kernel_rfl) (by kernel_rfl) (by kernel_rfl) (fun _ _ _ h => h) (fun w h => (h).dropEnd (L := [_])) (Val.nilCheck rfl rfl) ?_
    refine WPD.take 10 rfl rfl rfl rfl (by kernel_rfl) (by kernel_rfl) (by kernel_rfl) (by kernel_rfl) (fun _ _ _ h => h) (fun w h => (h).dropEnd (L := [_])) (Val.fieldAddr (j := 3) rfl Ty.fo125_3 rfl rfl) ?_
    refine WPD.take 11 rfl rfl rfl rfl (by kernel_rfl) (by kernel_rfl) (by kernel_rfl) (by kernel_rfl) (fun _ _ _ h => h) (fun w h => (h).dropEnd (L := [_])) (Val.load rfl Ty.sc3 rfl (fun w h => h.cell 0 rfl rfl)) ?_
    refine WPD.take 12 rfl rfl rfl rfl (by kernel_rfl) (by kernel_rfl) (by kernel_rfl) (by kernel_rfl) (fun _ _ _ h => h) (fun w h => (h).dropEnd (L := [_])) (Val.slice (lo := 0) (hi := (pend).length) (j := 0) (vlo := none) (vhi := some (.i64, (((pend).length : Nat) : Int))) rfl Ty.sl86 rfl rfl rfl (by simp [bnd]) (by simp [bnd]; try omega) (by omega) (by omega) (by omega) (by simp)) ?_
    refine WPD.take 13 rfl rfl rfl rfl (by kernel_rfl) (by kernel_rfl) (by kernel_rfl) (by kernel_rfl) (fun _ _ _ h => h) (fun w h => (h).dropEnd (L := [_])) (Val.nilCheckI rfl rfl) ?_
    refine WPD.take 14 rfl rfl rfl rfl (by kernel_rfl) (by kernel_rfl) (by kernel_rfl) (by kernel_rfl) (fun _ _ _ h => h) (fun w h => (h).dropEnd (L := [_])) (Val.move rfl rfl) ?_
    refine WPD.perm pl1 ?_
    refine WPD.perm pl2 ?_
    refine WPD.perm pl3 ?_
    refine WPD.step 15 (by kernel_rfl) rfl rfl rfl rfl (Eff.invoke (f := 161) rfl rfl rfl (fun _ => by kernel_rfl) Try.call161 (below_spec (Blk bf (byt (pend) ++ byt (junk)) 5) bb bf 0 ((B + page)) (pend) (ss) wv (fun w h => h.cell_range (by simp [byt])) (by omega) (by omega))) ?_
    rintro _ _ ⟨_, ⟨wv1, rfl, rfl⟩, rfl⟩
    refine ⟨.inl (fun w h => ((h.perm pl3)).dropEnd (L := [_])), ?_⟩
    show WPD _ _ _ _ _ _ _ _ _ (Blk bb [wv1] 78 :: Own 9 1 wv1 ((ss ++ [str (pend)]).length) (strs (ss ++ [str (pend)])) :: Blk bf (byt (pend) ++ byt (junk)) 5 :: Blk pw [.iface 76 (.pointer (some ⟨bb, 0, none⟩)), .int .i64 (((off : Nat) : Int)), .int .i64 (((page : Nat) : Int)), .int .i64 ((((pend).length : Nat) : Int)), .slice (some ⟨bf, 0, none⟩) ((B + page)) ((B + page)), .int .i64 (((B : Nat) : Int))] 125 :: F)
    refine WPD.take 16 rfl rfl rfl rfl (by kernel_rfl) (by kernel_rfl) (by kernel_rfl) (by kernel_rfl) (fun _ _ _ h => h) (fun w h => ((h.perm pl3)).dropEnd (L := [_])) (Val.move rfl rfl) ?_
    refine WPD.take 17 rfl rfl rfl rfl (by kernel_rfl) (by kernel_rfl) (by kernel_rfl) (by kernel_rfl) (fun _ _ _ h => h) (fun w h => ((h.perm pl3)).dropEnd (L := [_])) (Val.extract rfl rfl rfl) ?_
    refine WPD.take 18 rfl rfl rfl rfl (by kernel_rfl) (by kernel_rfl) (by kernel_rfl) (by kernel_rfl) (fun _ _ _ h => h) (fun w h => ((h.perm pl3)).dropEnd (L := [_])) (Val.extract rfl rfl rfl) ?_
    refine WPD.take 19 rfl rfl rfl rfl (by kernel_rfl) (by kernel_rfl) (by kernel_rfl) (by kernel_rfl) (fun _ _ _ h => h) (fun w h => ((h.perm pl3)).dropEnd (L := [_])) (Val.assign rfl rfl) ?_
    refine WPD.take 20 rfl rfl rfl rfl (by kernel_rfl) (by kernel_rfl) (by kernel_rfl) (by kernel_rfl) (fun _ _ _ h => h) (fun w h => ((h.perm pl3)).dropEnd (L := [_])) (Val.assign rfl rfl) ?_
    refine WPD.done (by kernel_rfl) ?_
    refine Out.next ?_
    refine WPc.seq ?_
    refine WPD.start (Sat W (Blk bb [wv1] 78 :: Own 9 1 wv1 ((ss ++ [str (pend)]).length) (strs (ss ++ [str (pend)])) :: Blk bf (byt (pend) ++ byt (junk)) 5 :: Blk pw [.iface 76 (.pointer (some ⟨bb, 0, none⟩)), .int .i64 (((off : Nat) : Int)), .int .i64 (((page : Nat) : Int)), .int .i64 ((((pend).length : Nat) : Int)), .slice (some ⟨bf, 0, none⟩) ((B + page)) ((B + page)), .int .i64 (((B : Nat) : Int))] 125 :: F)) Ty.mixed ?_
    refine WPD.take 0 rfl rfl rfl rfl (by kernel_rfl) (by kernel_rfl) (by kernel_rfl) (by kernel_rfl) (fun _ _ _ h => h) (fun _ h => h) (Val.move rfl rfl) ?_
    refine WPD.take 1 rfl rfl rfl rfl (by kernel_rfl) (by kernel_rfl) (by kernel_rfl) (by kernel_rfl) (fun _ _ _ h => h) (fun _ h => h) (Val.move rfl rfl) ?_
    refine WPD.take 2 rfl rfl rfl rfl (by kernel_rfl) (by kernel_rfl) (by kernel_rfl) (by kernel_rfl) (fun _ _ _ h => h) (fun _ h => h) (Val.nilCheck rfl rfl) ?_
    refine WPD.take 3 rfl rfl rfl rfl (by kernel_rfl) (by kernel_rfl) (by kernel_rfl) (by kernel_rfl) (fun _ _ _ h => h) (fun _ h => h) (Val.fieldAddr (j := 1) rfl Ty.fo125_1 rfl rfl) ?_
    refine WPD.take 4 rfl rfl rfl rfl (by kernel_rfl) (by kernel_rfl) (by kernel_rfl) (by kernel_rfl) (fun _ _ _ h => h) (fun _ h => h) (Val.load rfl Ty.sc3 rfl (fun w h => h.cell 3 rfl rfl)) ?_
    refine WPD.take 5 rfl rfl rfl rfl (by kernel_rfl) (by kernel_rfl) (by kernel_rfl) (by kernel_rfl) (fun _ _ _ h => h) (fun _ h => h) (Val.move rfl rfl) ?_
    refine WPD.take 6 rfl rfl rfl rfl (by kernel_rfl) (by kernel_rfl) (by kernel_rfl) (by kernel_rfl) (fun _ _ _ h => h) (fun _ h => h) (Val.nilCheck rfl rfl) ?_
    refine WPD.take 7 rfl rfl rfl rfl (by kernel_rfl) (by kernel_rfl) (by kernel_rfl) (by kernel_rfl) (fun _ _ _ h => h) (fun _ h => h) (Val.fieldAddr (j := 3) rfl Ty.fo125_3 rfl rfl) ?_
    refine WPD.take 8 rfl rfl rfl rfl (by kernel_rfl) (by kernel_rfl) (by kernel_rfl) (by kernel_rfl) (fun _ _ _ h => h) (fun _ h => h) (Val.load rfl Ty.sc3 rfl (fun w h => h.cell 3 rfl rfl)) ?_
    refine WPD.take 9 rfl rfl rfl rfl (by kernel_rfl) (by kernel_rfl) (by kernel_rfl) (by kernel_rfl) (fun _ _ _ h => h) (fun _ h => h) (Val.add (z := ((off + ((pend).length) : Nat) : Int)) rfl rfl rfl ((w64 (by omega) (by omega)).trans (by omega))) ?_
    refine WPD.take 10 rfl rfl rfl rfl (by kernel_rfl) (by kernel_rfl) (by kernel_rfl) (by kernel_rfl) (fun _ _ _ h => h) (fun _ h => h) (Val.move rfl rfl) ?_
    refine WPD.take 11 rfl rfl rfl rfl (by kernel_rfl) (by kernel_rfl) (by kernel_rfl) (by kernel_rfl) (fun _ _ _ h => h) (fun _ h => h) (Val.nilCheck rfl rfl) ?_
    refine WPD.take 12 rfl rfl rfl rfl (by kernel_rfl) (by kernel_rfl) (by kernel_rfl) (by kernel_rfl) (fun _ _ _ h => h) (fun _ h => h) (Val.fieldAddr (j := 2) rfl Ty.fo125_2 rfl rfl) ?_
    refine WPD.take 13 rfl rfl rfl rfl (by kernel_rfl) (by kernel_rfl) (by kernel_rfl) (by kernel_rfl) (fun _ _ _ h => h) (fun _ h => h) (Val.load rfl Ty.sc3 rfl (fun w h => h.cell 3 rfl rfl)) ?_
    refine WPD.take 14 rfl rfl rfl rfl (by kernel_rfl) (by kernel_rfl) (by kernel_rfl) (by kernel_rfl) (fun _ _ _ h => h) (fun _ h => h) (Val.rem (z := (((off + ((pend).length)) % page : Nat) : Int)) rfl rfl rfl (by omega) (by rfl)) ?_
    refine WPD.take 15 rfl rfl rfl rfl (by kernel_rfl) (by kernel_rfl) (by kernel_rfl) (by kernel_rfl) (fun _ _ _ h => h) (fun _ h => h) (Val.nilCheck rfl rfl) ?_
    refine WPD.take 16 rfl rfl rfl rfl (by kernel_rfl) (by kernel_rfl) (by kernel_rfl) (by kernel_rfl) (fun _ _ _ h => h) (fun _ h => h) (Val.fieldAddr (j := 1) rfl Ty.fo125_1 rfl rfl) ?_
    refine WPD.perm pl3 ?_
    refine WPD.step0 17 (by kernel_rfl) rfl rfl rfl (Eff.store rfl Ty.sc3 rfl rfl rfl (by simp) st1) ?_
    rintro _ _ rfl
    refine ⟨.inr (by kernel_rfl), ?_⟩
    refine WPD.done (by kernel_rfl) ?_
    refine Out.next ?_
    refine WPc.seq ?_
    refine WPc.region ?_
    refine WP.val rfl rfl rfl (Val.move rfl rfl) ?_
    refine WP.val rfl rfl rfl (Val.nilCheck rfl rfl) ?_
    refine WP.val rfl rfl rfl (Val.fieldAddr (j := 3) rfl Ty.fo125_3 rfl rfl) ?_
    refine WP.eff0 rfl rfl (Eff.store rfl Ty.sc3 rfl rfl rfl (by simp) st3) ?_
    rintro _ _ rfl
    refine WP.nil ?_
    refine Out.next ?_
    refine WPc.seq ?_
    refine WPc.region ?_
    refine WP.val rfl rfl rfl (Val.move rfl rfl) ?_
    refine WP.val rfl rfl rfl (Val.move rfl rfl) ?_
    refine WP.val rfl rfl rfl (Val.assign rfl rfl) ?_
    refine WP.val rfl rfl rfl (Val.assign rfl rfl) ?_
    refine WP.nil ?_
    refine Out.next ?_
    refine WPc.ret ?_
    refine Out.perm pl2 ?_
    refine Out.perm pl2 ?_
    refine Out.perm pl3 ?_
    refine Out.perm pl3 ?_
    exact Out.ret2 (L' := _) Try.results57 rfl rfl ⟨_, wv1, pend ++ junk, by simp; omega, rfl, by simp only [offs, outs, if_neg hne, List.map_cons, List.map_nil]; rfl⟩ (fun w h => by simpa [byt_append, show byt [] = [] from rfl] using h)

end Go.Proofs.Ythmkdioafjmclaa.Pg
