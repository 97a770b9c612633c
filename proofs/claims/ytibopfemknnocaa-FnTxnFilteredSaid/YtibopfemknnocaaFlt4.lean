import Derived.Test.YtibopfemknnocaaFlt3
namespace Go.Proofs.Ytibopfemknnocaa.Flt4
open Go.RowKit Go.Proofs.Ytibopfemknnocaa Go.Proofs.Ytibopfemknnocaa.Sl Go.Proofs.Ytibopfemknnocaa.KvRow Go.Proofs.Ytibopfemknnocaa.Flt Go.Proofs.Ytibopfemknnocaa.Flt2 Go.Proofs.Ytibopfemknnocaa.Flt3
set_option linter.unusedVariables false


theorem kvp_all {W w : World} {b : Nat} {x : KV} {L : List HProp} (h : Sat W (Kvp b x :: L) w) : ∃ q : Value × Value, Sat W (Byts q.1 x.key.data.toList :: Byts q.2 x.val.data.toList :: Ro (Blk b [q.1, .int .i64 x.cr, .int .i64 x.md, .int .i64 x.ver, q.2, .int .i64 x.ls] 115) :: Kvp b x :: L) w := by
  obtain ⟨k, v, h1⟩ := kvp_open (h.dup (Kvp.pers b x))
  exact ⟨(k, v), h1⟩
theorem flat_snoc (l : List KV) (x : KV) : KvRow.flat (l ++ [x]) = KvRow.flat l ++ [.string x.key, .string x.val, .int .i64 x.cr, .int .i64 x.md, .int .i64 x.ver, .int .i64 x.ls] := by rw [flat_append]; rfl
set_option maxRecDepth 100000 in
set_option maxHeartbeats 1000000 in
theorem kvOf_spec (b : Nat) (x : KV) : Does Try.prog 55 [.pointer (some ⟨b, 0, none⟩)] [Kvp b x] (fun v L => v = .agg x.cells.toArray ∧ L = [Kvp b x]) := by
  refine Does.enter 30 Try.func55 rfl rfl rfl fun W F => ?_
  show WPc _ _ _ _ _ [(0, .pointer (some ⟨b, 0, none⟩))] (Kvp b x :: F)
  refine WPc.seq ?_
  refine WPc.open (fun w h => kvp_all h) ?_
  rintro ⟨k, v⟩
  show WPc _ _ _ _ _ _ (Byts k x.key.data.toList :: Byts v x.val.data.toList :: Ro (Blk b [k, .int .i64 (x.cr), .int .i64 (x.md), .int .i64 (x.ver), v, .int .i64 (x.ls)] 115) :: Kvp b x :: F)
  refine WPc.region ?_
  refine WP.eff rfl rfl rfl (Eff.alloc rfl Ty.z34) ?_
  rintro _ _ ⟨b1, rfl, rfl⟩
  refine WP.nil ?_
  refine Out.next ?_
  refine WPc.seq ?_
  refine WPD.start (Sat W [Ro (Blk b [k, .int .i64 (x.cr), .int .i64 (x.md), .int .i64 (x.ver), v, .int .i64 (x.ls)] 115), Byts k x.key.data.toList, Byts v x.val.data.toList]) Ty.mixed ?_
  refine WPD.take 0 rfl rfl rfl rfl (by kernel_rfl) (by kernel_rfl) (by kernel_rfl) (fun _ _ _ h => h) (fun w h => ((((h.perm pl2).perm pl2).perm pl3)).dropEnd (L := [_, _, _])) (Val.move rfl rfl) ?_
  refine WPD.take 1 rfl rfl rfl rfl (by kernel_rfl) (by kernel_rfl) (by kernel_rfl) (fun _ _ _ h => h) (fun w h => ((((h.perm pl2).perm pl2).perm pl3)).dropEnd (L := [_, _, _])) (Val.nilCheck rfl rfl) ?_
  refine WPD.take 2 rfl rfl rfl rfl (by kernel_rfl) (by kernel_rfl) (by kernel_rfl) (fun _ _ _ h => h) (fun w h => ((((h.perm pl2).perm pl2).perm pl3)).dropEnd (L := [_, _, _])) (Val.fieldAddr (j := 0) rfl Ty.fo115_0 rfl rfl) ?_
  refine WPD.take 3 rfl rfl rfl rfl (by kernel_rfl) (by kernel_rfl) (by kernel_rfl) (fun _ _ _ h => h) (fun w h => ((((h.perm pl2).perm pl2).perm pl3)).dropEnd (L := [_, _, _])) (Val.load rfl Ty.sc47 rfl (fun w h => h.cellRo 0 rfl rfl)) ?_
  refine WPD.take 4 rfl rfl rfl rfl (by kernel_rfl) (by kernel_rfl) (by kernel_rfl) (fun _ _ _ h => h) (fun w h => ((((h.perm pl2).perm pl2).perm pl3)).dropEnd (L := [_, _, _])) (show Val _ _ _ _ _ (.string x.key) from Val.str rfl Ty.by47 Ty.st9 rfl (fun w h => h.at 1 rfl)) ?_
  refine WPD.take 5 rfl rfl rfl rfl (by kernel_rfl) (by kernel_rfl) (by kernel_rfl) (fun _ _ _ h => h) (fun w h => ((((h.perm pl2).perm pl2).perm pl3)).dropEnd (L := [_, _, _])) (Val.move rfl rfl) ?_
  refine WPD.take 6 rfl rfl rfl rfl (by kernel_rfl) (by kernel_rfl) (by kernel_rfl) (fun _ _ _ h => h) (fun w h => ((((h.perm pl2).perm pl2).perm pl3)).dropEnd (L := [_, _, _])) (Val.nilCheck rfl rfl) ?_
  refine WPD.take 7 rfl rfl rfl rfl (by kernel_rfl) (by kernel_rfl) (by kernel_rfl) (fun _ _ _ h => h) (fun w h => ((((h.perm pl2).perm pl2).perm pl3)).dropEnd (L := [_, _, _])) (Val.fieldAddr (j := 4) rfl Ty.fo115_4 rfl rfl) ?_
  refine WPD.take 8 rfl rfl rfl rfl (by kernel_rfl) (by kernel_rfl) (by kernel_rfl) (fun _ _ _ h => h) (fun w h => ((((h.perm pl2).perm pl2).perm pl3)).dropEnd (L := [_, _, _])) (Val.load rfl Ty.sc47 rfl (fun w h => h.cellRo 0 rfl rfl)) ?_
  refine WPD.take 9 rfl rfl rfl rfl (by kernel_rfl) (by kernel_rfl) (by kernel_rfl) (fun _ _ _ h => h) (fun w h => ((((h.perm pl2).perm pl2).perm pl3)).dropEnd (L := [_, _, _])) (show Val _ _ _ _ _ (.string x.val) from Val.str rfl Ty.by47 Ty.st9 rfl (fun w h => h.at 2 rfl)) ?_
  refine WPD.take 10 rfl rfl rfl rfl (by kernel_rfl) (by kernel_rfl) (by kernel_rfl) (fun _ _ _ h => h) (fun w h => ((((h.perm pl2).perm pl2).perm pl3)).dropEnd (L := [_, _, _])) (Val.move rfl rfl) ?_
  refine WPD.take 11 rfl rfl rfl rfl (by kernel_rfl) (by kernel_rfl) (by kernel_rfl) (fun _ _ _ h => h) (fun w h => ((((h.perm pl2).perm pl2).perm pl3)).dropEnd (L := [_, _, _])) (Val.nilCheck rfl rfl) ?_
  refine WPD.take 12 rfl rfl rfl rfl (by kernel_rfl) (by kernel_rfl) (by kernel_rfl) (fun _ _ _ h => h) (fun w h => ((((h.perm pl2).perm pl2).perm pl3)).dropEnd (L := [_, _, _])) (Val.fieldAddr (j := 1) rfl Ty.fo115_1 rfl rfl) ?_
  refine WPD.take 13 rfl rfl rfl rfl (by kernel_rfl) (by kernel_rfl) (by kernel_rfl) (fun _ _ _ h => h) (fun w h => ((((h.perm pl2).perm pl2).perm pl3)).dropEnd (L := [_, _, _])) (Val.load rfl Ty.sc2 rfl (fun w h => h.cellRo 0 rfl rfl)) ?_
  refine WPD.take 14 rfl rfl rfl rfl (by kernel_rfl) (by kernel_rfl) (by kernel_rfl) (fun _ _ _ h => h) (fun w h => ((((h.perm pl2).perm pl2).perm pl3)).dropEnd (L := [_, _, _])) (Val.move rfl rfl) ?_
  refine WPD.take 15 rfl rfl rfl rfl (by kernel_rfl) (by kernel_rfl) (by kernel_rfl) (fun _ _ _ h => h) (fun w h => ((((h.perm pl2).perm pl2).perm pl3)).dropEnd (L := [_, _, _])) (Val.nilCheck rfl rfl) ?_
  refine WPD.take 16 rfl rfl rfl rfl (by kernel_rfl) (by kernel_rfl) (by kernel_rfl) (fun _ _ _ h => h) (fun w h => ((((h.perm pl2).perm pl2).perm pl3)).dropEnd (L := [_, _, _])) (Val.fieldAddr (j := 2) rfl Ty.fo115_2 rfl rfl) ?_
  refine WPD.take 17 rfl rfl rfl rfl (by kernel_rfl) (by kernel_rfl) (by kernel_rfl) (fun _ _ _ h => h) (fun w h => ((((h.perm pl2).perm pl2).perm pl3)).dropEnd (L := [_, _, _])) (Val.load rfl Ty.sc2 rfl (fun w h => h.cellRo 0 rfl rfl)) ?_
  refine WPD.take 18 rfl rfl rfl rfl (by kernel_rfl) (by kernel_rfl) (by kernel_rfl) (fun _ _ _ h => h) (fun w h => ((((h.perm pl2).perm pl2).perm pl3)).dropEnd (L := [_, _, _])) (Val.move rfl rfl) ?_
  refine WPD.take 19 rfl rfl rfl rfl (by kernel_rfl) (by kernel_rfl) (by kernel_rfl) (fun _ _ _ h => h) (fun w h => ((((h.perm pl2).perm pl2).perm pl3)).dropEnd (L := [_, _, _])) (Val.nilCheck rfl rfl) ?_
  refine WPD.take 20 rfl rfl rfl rfl (by kernel_rfl) (by kernel_rfl) (by kernel_rfl) (fun _ _ _ h => h) (fun w h => ((((h.perm pl2).perm pl2).perm pl3)).dropEnd (L := [_, _, _])) (Val.fieldAddr (j := 3) rfl Ty.fo115_3 rfl rfl) ?_
  refine WPD.take 21 rfl rfl rfl rfl (by kernel_rfl) (by kernel_rfl) (by kernel_rfl) (fun _ _ _ h => h) (fun w h => ((((h.perm pl2).perm pl2).perm pl3)).dropEnd (L := [_, _, _])) (Val.load rfl Ty.sc2 rfl (fun w h => h.cellRo 0 rfl rfl)) ?_
  refine WPD.take 22 rfl rfl rfl rfl (by kernel_rfl) (by kernel_rfl) (by kernel_rfl) (fun _ _ _ h => h) (fun w h => ((((h.perm pl2).perm pl2).perm pl3)).dropEnd (L := [_, _, _])) (Val.move rfl rfl) ?_
  refine WPD.take 23 rfl rfl rfl rfl (by kernel_rfl) (by kernel_rfl) (by kernel_rfl) (fun _ _ _ h => h) (fun w h => ((((h.perm pl2).perm pl2).perm pl3)).dropEnd (L := [_, _, _])) (Val.nilCheck rfl rfl) ?_
  refine WPD.take 24 rfl rfl rfl rfl (by kernel_rfl) (by kernel_rfl) (by kernel_rfl) (fun _ _ _ h => h) (fun w h => ((((h.perm pl2).perm pl2).perm pl3)).dropEnd (L := [_, _, _])) (Val.fieldAddr (j := 5) rfl Ty.fo115_5 rfl rfl) ?_
  refine WPD.take 25 rfl rfl rfl rfl (by kernel_rfl) (by kernel_rfl) (by kernel_rfl) (fun _ _ _ h => h) (fun w h => ((((h.perm pl2).perm pl2).perm pl3)).dropEnd (L := [_, _, _])) (Val.load rfl Ty.sc2 rfl (fun w h => h.cellRo 0 rfl rfl)) ?_
  refine WPD.take 26 rfl rfl rfl rfl (by kernel_rfl) (by kernel_rfl) (by kernel_rfl) (fun _ _ _ h => h) (fun w h => ((((h.perm pl2).perm pl2).perm pl3)).dropEnd (L := [_, _, _])) (Val.mk (cs := [.string x.key, .string x.val, .int .i64 (x.cr), .int .i64 (x.md), .int .i64 (x.ver), .int .i64 (x.ls)]) rfl rfl (fun _ => by kernel_rfl)) ?_
  refine WPD.step0 27 (by kernel_rfl) rfl rfl rfl (Eff.storeAgg (cs := [.string x.key, .string x.val, .int .i64 (x.cr), .int .i64 (x.md), .int .i64 (x.ver), .int .i64 (x.ls)]) (C' := [.string x.key, .string x.val, .int .i64 (x.cr), .int .i64 (x.md), .int .i64 (x.ver), .int .i64 (x.ls)]) rfl Ty.ag34 rfl rfl rfl rfl (by simp) rfl) ?_
  rintro _ _ rfl
  refine ⟨(fun w h => ((((h.perm pl2).perm pl2).perm pl3)).dropEnd (L := [_, _, _])), ?_⟩
  refine WPD.done (by kernel_rfl) ?_
  refine Out.next ?_
  refine WPc.ret ?_
  refine Out.perm pl1 ?_
  refine Out.drop ?_
  refine Out.perm pl1 ?_
  refine Out.drop ?_
  refine Out.perm pl1 ?_
  refine Out.drop ?_
  exact Out.retRun (L' := [Kvp b x]) (results_cell (cs := x.cells) Try.results55 Ty.ag34 rfl rfl (fun w h => h.range 0 rfl rfl)) ⟨rfl, rfl⟩ (fun _ h => h.drop)
set_option maxRecDepth 100000 in
set_option maxHeartbeats 1000000 in
theorem kvsOf_nil (qs : List (Nat × KV)) (hn : qs.length ≤ 1000) (hq : qs = []) : Does Try.prog 34 [.slice none 0 0] [Kvps qs] (fun v L => ∃ u, v = u ∧ L = [Own 34 6 u qs.length (KvRow.flat (qs.map (·.2))), Kvps qs]) := by
  refine Does.enter 20 Try.func34 rfl rfl rfl fun W F => ?_
  show WPc _ _ _ _ _ [(0, .slice none 0 0)] (Kvps qs :: F)
  refine WPc.seq ?_
  refine WPc.region ?_
  refine WP.val rfl rfl rfl (Val.assign rfl rfl) ?_
  refine WP.nil ?_
  refine Out.next ?_
  refine WPc.seq ?_
  refine WPc.region ?_
  refine WP.val rfl rfl rfl (Val.assign rfl rfl) ?_
  refine WP.nil ?_
  refine Out.next ?_
  refine WPc.seq ?_
  refine WPc.seq ?_
  refine WPc.region ?_
  refine WP.val rfl rfl rfl (Val.assign rfl rfl) ?_
  refine WP.nil ?_
  refine Out.next ?_
  refine WPc.block ?_
  refine WPc.loop (ι := Nat × Value) (fun ⟨i, v⟩ => i ≤ qs.length) (fun ⟨i, v⟩ => [(0, .slice none 0 0), (3, v), (4, .int .i64 (((i : Nat) : Int)))]) (fun ⟨i, v⟩ => Own 34 6 v i (KvRow.flat ((qs.take i).map (·.2))) :: Kvps qs :: F) (fun ⟨i, v⟩ => qs.length - i) (0, .slice none 0 0) (by first | omega | (dsimp only; omega)) ((Sub.cons rfl (Sub.cons rfl (Sub.cons rfl Sub.nil)))) (fun w h => h.ownNil) ?_
  rintro ⟨i, v⟩ hi
  show WPc _ _ _ _ _ [(0, .slice none 0 0), (3, v), (4, .int .i64 (((i : Nat) : Int)))] (Own 34 6 v i (KvRow.flat ((qs.take i).map (·.2))) :: Kvps qs :: F)
  replace hi : i ≤ qs.length := hi
  refine WPc.seq ?_
  refine WPc.seq ?_
  refine WPc.region ?_
  refine WP.val rfl rfl rfl (Val.move rfl rfl) ?_
  refine WP.val rfl rfl rfl (Val.move rfl rfl) ?_
  refine WP.val rfl rfl rfl (Val.len rfl Ty.sl63 rfl) ?_
  refine WP.val rfl rfl rfl (Val.lss rfl rfl rfl) ?_
  refine WP.nil ?_
  refine Out.next ?_
  refine WPc.ifP rfl (fun h1 => ?_) (fun h1 => ?_)
  · skip
    have h1 : (((i : Nat) : Int) < (0 : Int)) := h1
    exfalso; omega
  · skip
    have h1 : ¬ (((i : Nat) : Int) < (0 : Int)) := h1
    refine WPc.exit ?_
    refine Out.then_exit ?_
    refine Out.then_exit ?_
    refine Out.block_exit ?_
    refine Out.next ?_
    refine WPc.seq ?_
    refine WPc.region ?_
    refine WP.val rfl rfl rfl (Val.move rfl rfl) ?_
    refine WP.val rfl rfl rfl (Val.assign rfl rfl) ?_
    refine WP.nil ?_
    refine Out.next ?_
    refine WPc.ret ?_
    have e : i = qs.length := by subst hq; simp at hi ⊢; omega
    subst e
    exact Out.ret1 (L' := [Own 34 6 v qs.length (KvRow.flat (qs.map (·.2))), Kvps qs]) Try.results34 rfl ⟨v, rfl, rfl⟩ (fun w h => by rw [List.take_length] at h; exact h)
set_option maxRecDepth 100000 in
set_option maxHeartbeats 1000000 in
theorem kvsOf_row (qs : List (Nat × KV)) (hn : qs.length ≤ 1000) (g cap : Nat) (sp : List Value) : Does Try.prog 34 [.slice (some ⟨g, 0, none⟩) qs.length cap] [Blk g (row qs ++ sp) 70, Kvps qs] (fun v L => ∃ u, v = u ∧ L = [Own 34 6 u qs.length (KvRow.flat (qs.map (·.2))), Kvps qs]) := by
  refine Does.enter 20 Try.func34 rfl rfl rfl fun W F => ?_
  show WPc _ _ _ _ _ [(0, .slice (some ⟨g, 0, none⟩) qs.length cap)] (Blk g (row qs ++ sp) 70 :: Kvps qs :: F)
  refine WPc.seq ?_
  refine WPc.region ?_
  refine WP.val rfl rfl rfl (Val.assign rfl rfl) ?_
  refine WP.nil ?_
  refine Out.next ?_
  refine WPc.seq ?_
  refine WPc.region ?_
  refine WP.val rfl rfl rfl (Val.assign rfl rfl) ?_
  refine WP.nil ?_
  refine Out.next ?_
  refine WPc.seq ?_
  refine WPc.seq ?_
  refine WPc.region ?_
  refine WP.val rfl rfl rfl (Val.assign rfl rfl) ?_
  refine WP.nil ?_
  refine Out.next ?_
  refine WPc.block ?_
  refine WPc.loop (ι := Nat × Value) (fun ⟨i, v⟩ => i ≤ qs.length) (fun ⟨i, v⟩ => [(0, .slice (some ⟨g, 0, none⟩) qs.length cap), (3, v), (4, .int .i64 (((i : Nat) : Int)))]) (fun ⟨i, v⟩ => Own 34 6 v i (KvRow.flat ((qs.take i).map (·.2))) :: Blk g (row qs ++ sp) 70 :: Kvps qs :: F) (fun ⟨i, v⟩ => qs.length - i) (0, .slice none 0 0) (by first | omega | (dsimp only; omega)) ((Sub.cons rfl (Sub.cons rfl (Sub.cons rfl Sub.nil)))) (fun w h => h.ownNil) ?_
  rintro ⟨i, v⟩ hi
  show WPc _ _ _ _ _ [(0, .slice (some ⟨g, 0, none⟩) qs.length cap), (3, v), (4, .int .i64 (((i : Nat) : Int)))] (Own 34 6 v i (KvRow.flat ((qs.take i).map (·.2))) :: Blk g (row qs ++ sp) 70 :: Kvps qs :: F)
  replace hi : i ≤ qs.length := hi
  refine WPc.seq ?_
  refine WPc.seq ?_
  refine WPc.region ?_
  refine WP.val rfl rfl rfl (Val.move rfl rfl) ?_
  refine WP.val rfl rfl rfl (Val.move rfl rfl) ?_
  refine WP.val rfl rfl rfl (Val.len rfl Ty.sl63 rfl) ?_
  refine WP.val rfl rfl rfl (Val.lss rfl rfl rfl) ?_
  refine WP.nil ?_
  refine Out.next ?_
  refine WPc.ifP rfl (fun h1 => ?_) (fun h1 => ?_)
  · skip
    have h1 : (((i : Nat) : Int) < ((qs.length : Nat) : Int)) := h1
    refine WPc.skip ?_
    refine Out.next ?_
    refine WPc.seq ?_
    refine WPc.block ?_
    have hlt : i < qs.length := by omega
    obtain ⟨q, hqi⟩ : ∃ q, qs[i]? = some q := ⟨_, List.getElem?_eq_getElem hlt⟩
    have hgi : (row qs ++ sp)[i]? = some (.pointer (some ⟨q.1, 0, none⟩)) := row_at hqi
    refine WPc.region ?_
    refine WP.val rfl rfl rfl (Val.move rfl rfl) ?_
    refine WP.val rfl rfl rfl (Val.move rfl rfl) ?_
    refine WP.val rfl rfl rfl (Val.move rfl rfl) ?_
    refine WP.val rfl rfl rfl (Val.indexAddr (j := i) (q := i) rfl Ty.sl63 rfl rfl (by omega) (by omega) (by omega)) ?_
    refine WP.val rfl rfl rfl (Val.load (v := .pointer (some ⟨q.1, 0, none⟩)) rfl Ty.sc70 rfl (fun w h => h.cell 1 rfl hgi)) ?_
    refine WP.perm pl2 ?_
    refine WP.conv (fun w h => h.allGet (f := fun q : Nat × KV => Kvp q.1 q.2) (x := q) (List.mem_of_getElem? hqi)) ?_
    show WP _ _ _ _ _ _ _ (Kvp q.1 q.2 :: Kvps qs :: Own 34 6 v i (KvRow.flat ((qs.take i).map (·.2))) :: Blk g (row qs ++ sp) 70 :: F)
    refine WP.eff rfl rfl rfl (Eff.call rfl rfl Try.call55 (kvOf_spec q.1 q.2)) ?_
    rintro _ _ ⟨_, ⟨rfl, rfl⟩, rfl⟩
    show WP _ _ _ _ _ _ _ (Kvp q.1 q.2 :: Kvps qs :: Own 34 6 v i (KvRow.flat ((qs.take i).map (·.2))) :: Blk g (row qs ++ sp) 70 :: F)
    refine WP.eff rfl rfl rfl (Eff.mkSlice (C := [.string q.2.key, .string q.2.val, .int .i64 (q.2.cr), .int .i64 (q.2.md), .int .i64 (q.2.ver), .int .i64 (q.2.ls)]) rfl Ty.sl30 rfl (fun _ => by kernel_rfl)) ?_
    rintro _ _ ⟨b1, rfl, rfl⟩
    refine WP.perm pl3 ?_
    refine WP.eff rfl rfl rfl (Eff.append (m := 1) (n0 := i) (news := [.string q.2.key, .string q.2.val, .int .i64 (q.2.cr), .int .i64 (q.2.md), .int .i64 (q.2.ver), .int .i64 (q.2.ls)]) rfl Ty.sl30 Ty.z34 rfl rfl rfl (.slice Ty.sl30 rfl rfl (fun w h => cells_range (h.range 1 rfl rfl))) (by omega) (by omega)) ?_
    rintro v2 _ rfl
    refine WP.val rfl rfl rfl (Val.assign rfl rfl) ?_
    refine WP.nil ?_
    refine Out.block ?_
    refine Out.next ?_
    refine WPc.region ?_
    refine WP.val rfl rfl rfl (Val.move rfl rfl) ?_
    refine WP.val rfl rfl rfl (Val.add (z := ((i + 1 : Nat) : Int)) rfl rfl rfl ((w64 (by omega) (by omega)).trans (by omega))) ?_
    refine WP.val rfl rfl rfl (Val.assign rfl rfl) ?_
    refine WP.nil ?_
    refine Out.perm pl1 ?_
    refine Out.drop ?_
    refine Out.perm pl1 ?_
    refine Out.drop ?_
    refine Out.perm pl1 ?_
    refine Out.perm pl2 ?_
    refine Out.perm pl2 ?_
    refine Out.again (i + 1, v2) ?_ ?_ ?_ ?_
    · exact (by first | omega | (dsimp only; omega))
    · first | omega | (dsimp only; omega)
    · exact (Sub.cons rfl (Sub.cons rfl (Sub.cons rfl Sub.nil)))
    · exact (fun w h => by dsimp only; rw [take_more hqi, List.map_append]; rw [show List.map (fun x : Nat × KV => x.2) [q] = [q.2] from rfl, flat_snoc]; exact h)
  · skip
    have h1 : ¬ (((i : Nat) : Int) < ((qs.length : Nat) : Int)) := h1
    refine WPc.exit ?_
    refine Out.then_exit ?_
    refine Out.then_exit ?_
    refine Out.block_exit ?_
    refine Out.next ?_
    refine WPc.seq ?_
    refine WPc.region ?_
    refine WP.val rfl rfl rfl (Val.move rfl rfl) ?_
    refine WP.val rfl rfl rfl (Val.assign rfl rfl) ?_
    refine WP.nil ?_
    refine Out.next ?_
    refine WPc.ret ?_
    have e : i = qs.length := by omega
    subst e
    refine Out.perm pl1 ?_
    refine Out.drop ?_
    exact Out.ret1 (L' := [Own 34 6 v qs.length (KvRow.flat (qs.map (·.2))), Kvps qs]) Try.results34 rfl ⟨v, rfl, rfl⟩ (fun w h => by rw [List.take_length] at h; exact h)

theorem kvsOf_spec (v : Value) (qs : List (Nat × KV)) (hn : qs.length ≤ 1000) : Does Try.prog 34 [v] [Own 70 1 v qs.length (row qs), Kvps qs] (fun v L => ∃ u, v = u ∧ L = [Own 34 6 u qs.length (KvRow.flat (qs.map (·.2))), Kvps qs]) := by
  intro W F w h
  rcases h.own with ⟨rfl, h1, h2, h3⟩ | ⟨b, cap, sp, rfl, h1, h2, h3, h4, h5⟩
  · exact kvsOf_nil qs hn (by simpa using h1) W F w h3
  · exact kvsOf_row qs hn b cap sp W F w h5

end Go.Proofs.Ytibopfemknnocaa.Flt4
