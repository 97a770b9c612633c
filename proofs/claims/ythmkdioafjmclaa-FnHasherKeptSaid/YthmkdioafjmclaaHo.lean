import Derived.Test.YthmkdioafjmclaaHz
namespace Go.Proofs.Ythmkdioafjmclaa.Ho
open Go.RowKit Go.Proofs.Ythmkdioafjmclaa Go.Proofs.Ythmkdioafjmclaa.Sl Go.Proofs.Ythmkdioafjmclaa.Hc Go.Proofs.Ythmkdioafjmclaa.Hp Go.Proofs.Ythmkdioafjmclaa.Hm Go.Proofs.Ythmkdioafjmclaa.Hb Go.Proofs.Ythmkdioafjmclaa.Hk Go.Proofs.Ythmkdioafjmclaa.Hr Go.Proofs.Ythmkdioafjmclaa.Hy Go.Proofs.Ythmkdioafjmclaa.Hn Go.Proofs.Ythmkdioafjmclaa.Hw Go.Proofs.Ythmkdioafjmclaa.Hz
set_option linter.unusedVariables false
set_option linter.unusedSimpArgs false
set_option linter.unusedSectionVars false


theorem sub_rng {w : World} {b o k : Nat} {cs ds : List Value} (he : (cs.drop k).take ds.length = ds) (h : w.rangeAt b o cs) : w.rangeAt b (o + k) ds := fun j v hj => by
  have h1 : cs[k + j]? = some v := by
    have hlt := (List.getElem?_eq_some_iff.1 hj).1
    rw [← he, List.getElem?_take_of_lt hlt, List.getElem?_drop] at hj
    exact hj
  have := h (k + j) v h1
  rw [Nat.add_assoc]; exact this
set_option maxRecDepth 100000 in
set_option maxHeartbeats 1000000 in
theorem rows_nil (A : HProp) (a : Option Addr) (c : Nat) : Does Try.prog 51 [.slice a 0 c] [A] (fun v L => ∃ zs : List ZR, zs.map ZR.x = ([] : List Rw) ∧ L = [Own 164 4 v zs.length (flatOf ZR.cells zs), AllP KvZ zs, A]) := by
  refine Does.enter 34 Try.func51 rfl rfl rfl fun W F => ?_
  show WPc _ _ _ _ _ [(0, .slice a 0 c)] (A :: F)
  refine WPc.seq ?_
  refine WPc.region ?_
  refine WP.val rfl rfl rfl (Val.assign rfl rfl) ?_
  refine WP.nil ?_
  refine Out.next ?_
  refine WPc.seq ?_
  refine WPc.region ?_
  refine WP.val rfl rfl rfl (Val.assign rfl rfl) ?_
  refine WP.nil ?_
  refine Out.next ?_
  refine WPc.seq ?_
  refine WPc.seq ?_
  refine WPc.conv (fun w h => Sat.allNil (f := KvZ) h) ?_
  refine WPc.conv (fun w h => h.ownNil (e := 164) (k := 4)) ?_
  show WPc _ _ _ _ _ _ (Own 164 4 (.slice none 0 0) 0 ([]) :: AllP KvZ (([] : List ZR)) :: A :: F)
  refine WPc.region ?_
  refine WP.val rfl rfl rfl (Val.assign rfl rfl) ?_
  refine WP.nil ?_
  refine Out.next ?_
  refine WPc.block ?_
  refine WPc.loop (ι := Nat × List ZR × Value) (fun ⟨i, zs, v⟩ => i ≤ (([] : List Rw)).length ∧ zs.map ZR.x = (([] : List Rw)).take i) (fun ⟨i, zs, v⟩ => [(0, .slice a 0 c), (3, v), (4, .int .i64 (((i : Nat) : Int)))]) (fun ⟨i, zs, v⟩ => Own 164 4 v zs.length (flatOf ZR.cells zs) :: AllP KvZ zs :: A :: F) (fun ⟨i, zs, v⟩ => (([] : List Rw)).length - i) (0, [], .slice none 0 0) ⟨Nat.zero_le _, rfl⟩ ((Sub.cons rfl (Sub.cons rfl (Sub.cons rfl Sub.nil)))) (fun _ h => h) ?_
  rintro ⟨i, zs, v⟩ ⟨hi, hz⟩
  show WPc _ _ _ _ _ [(0, .slice a 0 c), (3, v), (4, .int .i64 (((i : Nat) : Int)))] (Own 164 4 v zs.length (flatOf ZR.cells zs) :: AllP KvZ zs :: A :: F)
  refine WPc.seq ?_
  refine WPc.seq ?_
  refine WPc.region ?_
  refine WP.val rfl rfl rfl (Val.move rfl rfl) ?_
  refine WP.val rfl rfl rfl (Val.move rfl rfl) ?_
  refine WP.val rfl rfl rfl (Val.len rfl Ty.sl42 rfl) ?_
  refine WP.val rfl rfl rfl (Val.lss rfl rfl rfl) ?_
  refine WP.nil ?_
  refine Out.next ?_
  refine WPc.ifP rfl (fun h1 => ?_) (fun h1 => ?_)
  · skip
    have h1 : (((i : Nat) : Int) < (0 : Int)) := h1
    exfalso; simp at *; omega
  · skip
    have h1 : ¬ (((i : Nat) : Int) < (0 : Int)) := h1
    refine WPc.exit ?_
    refine Out.then_exit ?_
    refine Out.then_exit ?_
    refine Out.block_exit ?_
    refine Out.next ?_
    refine WPc.seq ?_
    refine WPc.region ?_
    refine WP.val rfl rfl rfl (Val.move rfl rfl) ?_
    refine WP.val rfl rfl rfl (Val.assign rfl rfl) ?_
    refine WP.nil ?_
    refine Out.next ?_
    refine WPc.ret ?_
    have hti2 : (([] : List Rw)).take i = ([] : List Rw) := List.take_of_length_le (by first | omega | (simp at *; try omega))
    exact Out.ret1 (L' := _) Try.results51 rfl ⟨zs, hz.trans hti2, rfl⟩ (fun _ h => h)

set_option maxRecDepth 100000 in
set_option maxHeartbeats 1000000 in
theorem rows_row (A : HProp) (l : List Rw) (hl : l.length ≤ 100000) (b0 o0 c0 : Nat) (hr : ∀ w, Holds A w → ∀ i x, l[i]? = some x → w.rangeAt b0 (o0 + i * 9) (Rw.cells x)) : Does Try.prog 51 [.slice (some ⟨b0, o0, none⟩) l.length c0] [A] (fun v L => ∃ zs : List ZR, zs.map ZR.x = l ∧ L = [Own 164 4 v zs.length (flatOf ZR.cells zs), AllP KvZ zs, A]) := by
  refine Does.enter 34 Try.func51 rfl rfl rfl fun W F => ?_
  show WPc _ _ _ _ _ [(0, .slice (some ⟨b0, o0, none⟩) l.length c0)] (A :: F)
  refine WPc.seq ?_
  refine WPc.region ?_
  refine WP.val rfl rfl rfl (Val.assign rfl rfl) ?_
  refine WP.nil ?_
  refine Out.next ?_
  refine WPc.seq ?_
  refine WPc.region ?_
  refine WP.val rfl rfl rfl (Val.assign rfl rfl) ?_
  refine WP.nil ?_
  refine Out.next ?_
  refine WPc.seq ?_
  refine WPc.seq ?_
  refine WPc.conv (fun w h => Sat.allNil (f := KvZ) h) ?_
  refine WPc.conv (fun w h => h.ownNil (e := 164) (k := 4)) ?_
  show WPc _ _ _ _ _ _ (Own 164 4 (.slice none 0 0) 0 ([]) :: AllP KvZ (([] : List ZR)) :: A :: F)
  refine WPc.region ?_
  refine WP.val rfl rfl rfl (Val.assign rfl rfl) ?_
  refine WP.nil ?_
  refine Out.next ?_
  refine WPc.block ?_
  refine WPc.loop (ι := Nat × List ZR × Value) (fun ⟨i, zs, v⟩ => i ≤ (l).length ∧ zs.map ZR.x = (l).take i) (fun ⟨i, zs, v⟩ => [(0, .slice (some ⟨b0, o0, none⟩) l.length c0), (3, v), (4, .int .i64 (((i : Nat) : Int)))]) (fun ⟨i, zs, v⟩ => Own 164 4 v zs.length (flatOf ZR.cells zs) :: AllP KvZ zs :: A :: F) (fun ⟨i, zs, v⟩ => (l).length - i) (0, [], .slice none 0 0) ⟨Nat.zero_le _, rfl⟩ ((Sub.cons rfl (Sub.cons rfl (Sub.cons rfl Sub.nil)))) (fun _ h => h) ?_
  rintro ⟨i, zs, v⟩ ⟨hi, hz⟩
  show WPc _ _ _ _ _ [(0, .slice (some ⟨b0, o0, none⟩) l.length c0), (3, v), (4, .int .i64 (((i : Nat) : Int)))] (Own 164 4 v zs.length (flatOf ZR.cells zs) :: AllP KvZ zs :: A :: F)
  refine WPc.seq ?_
  refine WPc.seq ?_
  refine WPc.region ?_
  refine WP.val rfl rfl rfl (Val.move rfl rfl) ?_
  refine WP.val rfl rfl rfl (Val.move rfl rfl) ?_
  refine WP.val rfl rfl rfl (Val.len rfl Ty.sl42 rfl) ?_
  refine WP.val rfl rfl rfl (Val.lss rfl rfl rfl) ?_
  refine WP.nil ?_
  refine Out.next ?_
  refine WPc.ifP rfl (fun h1 => ?_) (fun h1 => ?_)
  · skip
    have h1 : (((i : Nat) : Int) < ((l.length : Nat) : Int)) := h1
    refine WPc.skip ?_
    refine Out.next ?_
    refine WPc.seq ?_
    refine WPc.block ?_
    have hlt : i < l.length := by omega
    obtain ⟨x, hx⟩ : ∃ x, l[i]? = some x := ⟨_, List.getElem?_eq_getElem hlt⟩
    have hzl : zs.length = i := by have := congrArg List.length hz; rw [List.length_map, List.length_take] at this; omega
    refine WPD.start (Sat W [A]) Ty.mixed ?_
    refine WPD.takeM 0 rfl rfl rfl rfl (by kernel_rfl) (by kernel_rfl) (by kernel_rfl) (by kernel_rfl) (fun _ _ _ h => h) (fun w h => ((h.perm pl2)).dropEnd (L := [_])) (Val.move rfl rfl) ?_
    refine WPD.takeM 1 rfl rfl rfl rfl (by kernel_rfl) (by kernel_rfl) (by kernel_rfl) (by kernel_rfl) (fun _ _ _ h => h) (fun w h => ((h.perm pl2)).dropEnd (L := [_])) (Val.move rfl rfl) ?_
    refine WPD.takeM 2 rfl rfl rfl rfl (by kernel_rfl) (by kernel_rfl) (by kernel_rfl) (by kernel_rfl) (fun _ _ _ h => h) (fun w h => ((h.perm pl2)).dropEnd (L := [_])) (Val.move rfl rfl) ?_
    refine WPD.takeM 3 rfl rfl rfl rfl (by kernel_rfl) (by kernel_rfl) (by kernel_rfl) (by kernel_rfl) (fun _ _ _ h => h) (fun w h => ((h.perm pl2)).dropEnd (L := [_])) (Val.indexAddr (j := i) (q := o0 + i * 9) rfl Ty.sl42 rfl rfl (by omega) (by omega) (by omega)) ?_
    refine WPD.takeM 4 rfl rfl rfl rfl (by kernel_rfl) (by kernel_rfl) (by kernel_rfl) (by kernel_rfl) (fun _ _ _ h => h) (fun w h => ((h.perm pl2)).dropEnd (L := [_])) (Val.fieldAddr (j := o0 + i * 9) rfl Ty.fo106_0 rfl rfl) ?_
    refine WPD.take 5 rfl rfl rfl rfl (by kernel_rfl) (by kernel_rfl) (by kernel_rfl) (by kernel_rfl) (fun _ _ _ h => h) (by kernel_rfl) (fun w h => ((h.perm pl2)).dropEnd (L := [_])) (Val.loadAgg (cs := [.int .i64 (x.m), .int .i64 (x.s)]) rfl Ty.ag47 rfl (by rfl) (fun w h => sub_rng (k := 0) rfl (hr w (h.at 0 rfl) i x hx))) ?_
    refine WPD.takeM 7 rfl rfl rfl rfl (by kernel_rfl) (by kernel_rfl) (by kernel_rfl) (by kernel_rfl) (fun _ _ _ h => h) (fun w h => ((h.perm pl2)).dropEnd (L := [_])) (Val.move rfl rfl) ?_
    refine WPD.takeM 8 rfl rfl rfl rfl (by kernel_rfl) (by kernel_rfl) (by kernel_rfl) (by kernel_rfl) (fun _ _ _ h => h) (fun w h => ((h.perm pl2)).dropEnd (L := [_])) (Val.move rfl rfl) ?_
    refine WPD.takeM 9 rfl rfl rfl rfl (by kernel_rfl) (by kernel_rfl) (by kernel_rfl) (by kernel_rfl) (fun _ _ _ h => h) (fun w h => ((h.perm pl2)).dropEnd (L := [_])) (Val.indexAddr (j := i) (q := o0 + i * 9) rfl Ty.sl42 rfl rfl (by omega) (by omega) (by omega)) ?_
    refine WPD.takeM 10 rfl rfl rfl rfl (by kernel_rfl) (by kernel_rfl) (by kernel_rfl) (by kernel_rfl) (fun _ _ _ h => h) (fun w h => ((h.perm pl2)).dropEnd (L := [_])) (Val.fieldAddr (j := o0 + i * 9 + 2) rfl Ty.fo106_1 rfl rfl) ?_
    refine WPD.take 11 rfl rfl rfl rfl (by kernel_rfl) (by kernel_rfl) (by kernel_rfl) (by kernel_rfl) (fun _ _ _ h => h) (by kernel_rfl) (fun w h => ((h.perm pl2)).dropEnd (L := [_])) (Val.load (v := .bool (x.gone)) rfl Ty.sc4 rfl (fun w h => hr w (h.at 0 rfl) i x hx 2 _ rfl)) ?_
    refine WPD.takeM 13 rfl rfl rfl rfl (by kernel_rfl) (by kernel_rfl) (by kernel_rfl) (by kernel_rfl) (fun _ _ _ h => h) (fun w h => ((h.perm pl2)).dropEnd (L := [_])) (Val.move rfl rfl) ?_
    refine WPD.takeM 14 rfl rfl rfl rfl (by kernel_rfl) (by kernel_rfl) (by kernel_rfl) (by kernel_rfl) (fun _ _ _ h => h) (fun w h => ((h.perm pl2)).dropEnd (L := [_])) (Val.move rfl rfl) ?_
    refine WPD.takeM 15 rfl rfl rfl rfl (by kernel_rfl) (by kernel_rfl) (by kernel_rfl) (by kernel_rfl) (fun _ _ _ h => h) (fun w h => ((h.perm pl2)).dropEnd (L := [_])) (Val.indexAddr (j := i) (q := o0 + i * 9) rfl Ty.sl42 rfl rfl (by omega) (by omega) (by omega)) ?_
    refine WPD.takeM 16 rfl rfl rfl rfl (by kernel_rfl) (by kernel_rfl) (by kernel_rfl) (by kernel_rfl) (fun _ _ _ h => h) (fun w h => ((h.perm pl2)).dropEnd (L := [_])) (Val.fieldAddr (j := o0 + i * 9 + 3) rfl Ty.fo106_2 rfl rfl) ?_
    refine WPD.take 17 rfl rfl rfl rfl (by kernel_rfl) (by kernel_rfl) (by kernel_rfl) (by kernel_rfl) (fun _ _ _ h => h) (by kernel_rfl) (fun w h => ((h.perm pl2)).dropEnd (L := [_])) (Val.loadAgg (cs := [.string x.kv.key, .string x.kv.val, .int .i64 (x.kv.create), .int .i64 (x.kv.mod), .int .i64 (x.kv.ver), .int .i64 (x.kv.lease)]) rfl Ty.ag104 rfl (by rfl) (fun w h => sub_rng (k := 3) rfl (hr w (h.at 0 rfl) i x hx))) ?_
    refine WPD.step 6 (by kernel_rfl) rfl rfl rfl rfl (Eff.call rfl rfl Try.call69 (revin_spec x.m x.s)) ?_
    rintro _ _ ⟨_, ⟨rfl, rfl⟩, rfl⟩
    refine ⟨(fun w h => ((h.perm pl2)).dropEnd (L := [_])), ?_⟩
    show WPD _ _ _ _ _ _ _ _ _ (Own 164 4 v zs.length (flatOf ZR.cells zs) :: AllP KvZ zs :: A :: F)
    refine WPD.step 12 (by kernel_rfl) rfl rfl rfl rfl (Eff.call rfl rfl Try.call70 (zzkey_spec x.m x.s x.gone)) ?_
    rintro _ _ ⟨_, ⟨rfl, rfl⟩, rfl⟩
    refine ⟨(fun w h => ((h.perm pl2)).dropEnd (L := [_])), ?_⟩
    show WPD _ _ _ _ _ _ _ _ _ (Own 164 4 v zs.length (flatOf ZR.cells zs) :: AllP KvZ zs :: A :: F)
    refine WPD.stepC 18 (by kernel_rfl) rfl rfl rfl rfl (by kernel_rfl) (Eff.call rfl rfl Try.call71 (kvin_spec x.kv)) ?_
    rintro _ _ ⟨_, ⟨pb, kb, kc, ks, vb, vc, vs, hkc, rfl, rfl⟩, rfl⟩
    refine ⟨(Sat W (Blk pb [.slice (some ⟨kb, 0, none⟩) x.kv.k.length kc, .int .i64 (x.kv.create), .int .i64 (x.kv.mod), .int .i64 (x.kv.ver), .slice (some ⟨vb, 0, none⟩) x.kv.v.length vc, .int .i64 (x.kv.lease)] 204 :: Blk kb (byt x.kv.k ++ ks) 5 :: Blk vb (byt x.kv.v ++ vs) 5 :: Own 164 4 v zs.length (flatOf ZR.cells zs) :: AllP KvZ zs :: A :: F)), (fun _ h => h), ?_⟩
    show WPD _ _ _ _ _ _ _ _ _ (Blk pb [.slice (some ⟨kb, 0, none⟩) x.kv.k.length kc, .int .i64 (x.kv.create), .int .i64 (x.kv.mod), .int .i64 (x.kv.ver), .slice (some ⟨vb, 0, none⟩) x.kv.v.length vc, .int .i64 (x.kv.lease)] 204 :: Blk kb (byt x.kv.k ++ ks) 5 :: Blk vb (byt x.kv.v ++ vs) 5 :: Own 164 4 v zs.length (flatOf ZR.cells zs) :: AllP KvZ zs :: A :: F)
    refine WPD.take 19 rfl rfl rfl rfl (by kernel_rfl) (by kernel_rfl) (by kernel_rfl) (by kernel_rfl) (fun _ _ _ h => h) (by kernel_rfl) (fun _ h => h) (Val.mk (cs := [.int .i64 (x.m), .int .i64 (x.s), .bool (x.gone), .pointer (some ⟨pb, 0, none⟩)]) rfl rfl (fun _ => by kernel_rfl)) ?_
    refine WPD.stepC 20 (by kernel_rfl) rfl rfl rfl rfl (by kernel_rfl) (Eff.mkSlice (C := [.int .i64 (x.m), .int .i64 (x.s), .bool (x.gone), .pointer (some ⟨pb, 0, none⟩)]) rfl Ty.sl113 rfl (fun _ => by kernel_rfl)) ?_
    rintro _ _ ⟨b1, rfl, rfl⟩
    refine ⟨(Sat W (Blk b1 [.int .i64 (x.m), .int .i64 (x.s), .bool (x.gone), .pointer (some ⟨pb, 0, none⟩)] 164 :: Blk pb [.slice (some ⟨kb, 0, none⟩) x.kv.k.length kc, .int .i64 (x.kv.create), .int .i64 (x.kv.mod), .int .i64 (x.kv.ver), .slice (some ⟨vb, 0, none⟩) x.kv.v.length vc, .int .i64 (x.kv.lease)] 204 :: Blk kb (byt x.kv.k ++ ks) 5 :: Blk vb (byt x.kv.v ++ vs) 5 :: Own 164 4 v zs.length (flatOf ZR.cells zs) :: AllP KvZ zs :: A :: F)), (fun _ h => h), ?_⟩
    refine WPD.perm pl4 ?_
    refine WPD.stepC 21 (by kernel_rfl) rfl rfl rfl rfl (by kernel_rfl) (Eff.append (m := 1) (n0 := zs.length) (news := [.int .i64 (x.m), .int .i64 (x.s), .bool (x.gone), .pointer (some ⟨pb, 0, none⟩)]) rfl Ty.sl113 Ty.z164 rfl rfl rfl (.slice Ty.sl113 rfl rfl (fun w h => cells_range (h.range 1 rfl rfl))) (by omega) (by omega)) ?_
    rintro v2 _ ⟨onev2, rfl⟩
    refine ⟨(Sat W (Own 164 4 v2 (zs.length + 1) ((flatOf ZR.cells zs) ++ ([.int .i64 (x.m), .int .i64 (x.s), .bool (x.gone), .pointer (some ⟨pb, 0, none⟩)])) :: Blk b1 [.int .i64 (x.m), .int .i64 (x.s), .bool (x.gone), .pointer (some ⟨pb, 0, none⟩)] 164 :: Blk pb [.slice (some ⟨kb, 0, none⟩) x.kv.k.length kc, .int .i64 (x.kv.create), .int .i64 (x.kv.mod), .int .i64 (x.kv.ver), .slice (some ⟨vb, 0, none⟩) x.kv.v.length vc, .int .i64 (x.kv.lease)] 204 :: Blk kb (byt x.kv.k ++ ks) 5 :: Blk vb (byt x.kv.v ++ vs) 5 :: AllP KvZ zs :: A :: F)), (fun _ h => h), ?_⟩
    refine WPD.takeM 22 rfl rfl rfl rfl (by kernel_rfl) (by kernel_rfl) (by kernel_rfl) (by kernel_rfl) (fun _ _ _ h => h) (fun _ h => h) (Val.assign rfl rfl) ?_
    refine WPD.done (by kernel_rfl) ?_
    refine Out.block ?_
    refine Out.next ?_
    refine WPc.perm pl4 ?_
    refine WPc.perm pl4 ?_
    refine WPc.perm pl4 ?_
    refine WPc.conv (M := KvAt pb x.kv :: Own 164 4 v2 (zs.length + 1) ((flatOf ZR.cells zs) ++ ([.int .i64 (x.m), .int .i64 (x.s), .bool (x.gone), .pointer (some ⟨pb, 0, none⟩)])) :: Blk b1 [.int .i64 (x.m), .int .i64 (x.s), .bool (x.gone), .pointer (some ⟨pb, 0, none⟩)] 164 :: AllP KvZ zs :: A :: F) (fun w h => kv_mk hkc h) ?_
    refine WPc.perm pl3 ?_
    refine WPc.perm pl1 ?_
    refine WPc.conv (M := AllP KvZ (zs ++ [⟨x, pb⟩]) :: Own 164 4 v2 (zs.length + 1) ((flatOf ZR.cells zs) ++ ([.int .i64 (x.m), .int .i64 (x.s), .bool (x.gone), .pointer (some ⟨pb, 0, none⟩)])) :: Blk b1 [.int .i64 (x.m), .int .i64 (x.s), .bool (x.gone), .pointer (some ⟨pb, 0, none⟩)] 164 :: A :: F) (fun w h => kvz_add h) ?_
    refine WPc.region ?_
    refine WP.val rfl rfl rfl (Val.move rfl rfl) ?_
    refine WP.val rfl rfl rfl (Val.add (z := ((i + 1 : Nat) : Int)) rfl rfl rfl ((w64 (by omega) (by omega)).trans (by omega))) ?_
    refine WP.val rfl rfl rfl (Val.assign rfl rfl) ?_
    refine WP.nil ?_
    refine Out.perm pl2 ?_
    refine Out.drop ?_
    refine Out.perm pl2 ?_
    refine Out.perm pl1 ?_
    refine Out.perm pl2 ?_
    refine Out.again (i + 1, zs ++ [⟨x, pb⟩], v2) ?_ ?_ ?_ ?_
    · exact ⟨by omega, by rw [List.map_append, hz, take_more hx]; rfl⟩
    · (dsimp only; omega)
    · exact (Sub.cons rfl (Sub.cons rfl (Sub.cons rfl Sub.nil)))
    · exact (fun w h => by dsimp only; rw [flatOf_snoc, List.length_append]; exact h)
  · skip
    have h1 : ¬ (((i : Nat) : Int) < ((l.length : Nat) : Int)) := h1
    refine WPc.exit ?_
    refine Out.then_exit ?_
    refine Out.then_exit ?_
    refine Out.block_exit ?_
    refine Out.next ?_
    refine WPc.seq ?_
    refine WPc.region ?_
    refine WP.val rfl rfl rfl (Val.move rfl rfl) ?_
    refine WP.val rfl rfl rfl (Val.assign rfl rfl) ?_
    refine WP.nil ?_
    refine Out.next ?_
    refine WPc.ret ?_
    have hti2 : (l).take i = l := List.take_of_length_le (by first | omega | (simp at *; try omega))
    exact Out.ret1 (L' := _) Try.results51 rfl ⟨zs, hz.trans hti2, rfl⟩ (fun _ h => h)

theorem rows_spec (A : HProp) (l : List Rw) (hl : l.length ≤ 100000) (va : Value) (hva : Rd A 9 Rw.cells va l) : Does Try.prog 51 [va] [A] (fun v L => ∃ zs : List ZR, zs.map ZR.x = l ∧ L = [Own 164 4 v zs.length (flatOf ZR.cells zs), AllP KvZ zs, A]) := by
  rcases hva with ⟨b0, o0, c0, rfl, hr⟩ | ⟨rfl, a, c, rfl⟩
  · exact rows_row A l hl b0 o0 c0 hr
  · exact rows_nil A a c

end Go.Proofs.Ythmkdioafjmclaa.Ho
