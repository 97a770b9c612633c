import Derived.Test.YthicijpjpijdjaaDoorWd
namespace Go.Proofs.YthicijpjpijdjaaDoor.We
open Go.RowKit Go.Proofs.YthicijpjpijdjaaDoor Go.Proofs.YthicijpjpijdjaaDoor.Sl Go.Proofs.YthicijpjpijdjaaDoor.Wa Go.Proofs.YthicijpjpijdjaaDoor.Wb Go.Proofs.YthicijpjpijdjaaDoor.Wc Go.Proofs.YthicijpjpijdjaaDoor.Wd
set_option linter.unusedVariables false
set_option linter.unusedSimpArgs false
set_option linter.unusedSectionVars false


theorem own_byt1 {W w : World} {v : Value} {l : List UInt8} {c : UInt8} {L : List HProp} (h : Sat W (Own 5 1 v (l.length + 1) (byt l ++ [.int .u8 ((c.toNat : Nat) : Int)]) :: L) w) : Sat W (Own 5 1 v (l ++ [c]).length (byt (l ++ [c])) :: L) w := by
  rw [List.length_append, byt_append]; exact h

/-- a record's bytes -/
def rbody (ty su : Int) (d : Option (List UInt8)) : List UInt8 := [8] ++ vint (IntKind.wrap .u64 ty) ++ [16] ++ vint (IntKind.wrap .u64 su) ++ (match d with | some l => pbytes 3 l | none => [])
theorem rbody_len (ty su : Int) (d : Option (List UInt8)) : (rbody ty su d).length ≤ 60 + (d.getD []).length := by
  have h1 := vint_len (IntKind.wrap .u64 ty)
  have h2 := vint_len (IntKind.wrap .u64 su)
  unfold rbody
  cases d with
  | none => simp; omega
  | some l => have := pbytes_len 3 l; simp; omega
set_option maxRecDepth 100000 in
set_option maxHeartbeats 1000000 in
theorem fields_has (A : HProp) (l : List UInt8) (b0 o0 c0 : Nat) (hr : ∀ w, Holds A w → w.rangeAt b0 o0 (byt l)) (hl : l.length ≤ 1000000) (hlc : l.length ≤ c0) (rb tb cc : Nat) (ty su : Int) : Does Tryd.prog 64 [.pointer (some ⟨rb, 0, none⟩)] [Blk rb [.pointer (some ⟨tb, 0, none⟩), .pointer (some ⟨cc, 0, none⟩), .slice (some ⟨b0, o0, none⟩) l.length c0] 59, Blk tb [.int .i64 (ty)] 2, Blk cc [.int .u32 (su)] 22, A] (fun v L => L = [Own 5 1 v ((rbody ty su (some l) : List UInt8).length) (byt (rbody ty su (some l))), Blk rb [.pointer (some ⟨tb, 0, none⟩), .pointer (some ⟨cc, 0, none⟩), .slice (some ⟨b0, o0, none⟩) l.length c0] 59, Blk tb [.int .i64 (ty)] 2, Blk cc [.int .u32 (su)] 22, A]) := by
  refine Does.enter 48 Tryd.func64 rfl rfl rfl fun W F => ?_
  show WPc _ _ _ _ _ [(0, .pointer (some ⟨rb, 0, none⟩))] (Blk rb [.pointer (some ⟨tb, 0, none⟩), .pointer (some ⟨cc, 0, none⟩), .slice (some ⟨b0, o0, none⟩) l.length c0] 59 :: Blk tb [.int .i64 (ty)] 2 :: Blk cc [.int .u32 (su)] 22 :: A :: F)
  refine WPc.seq ?_
  refine WPc.region ?_
  refine WP.val rfl rfl rfl (Val.assign rfl rfl) ?_
  refine WP.nil ?_
  refine Out.next ?_
  refine WPc.seq ?_
  refine WPc.region ?_
  refine WP.val rfl rfl rfl (Val.assign rfl rfl) ?_
  refine WP.nil ?_
  refine Out.next ?_
  refine WPc.seq ?_
  refine WPc.seq ?_
  refine WPc.conv (fun w h => h.ownNil (e := 5) (k := 1)) ?_
  show WPc _ _ _ _ _ _ (Own 5 1 (.slice none 0 0) (([] : List UInt8).length) (byt ([] : List UInt8)) :: Blk rb [.pointer (some ⟨tb, 0, none⟩), .pointer (some ⟨cc, 0, none⟩), .slice (some ⟨b0, o0, none⟩) l.length c0] 59 :: Blk tb [.int .i64 (ty)] 2 :: Blk cc [.int .u32 (su)] 22 :: A :: F)
  have hm0 : ([] : List UInt8).length = 0 := rfl
  refine WPc.region ?_
  refine WP.val rfl rfl rfl (Val.move rfl rfl) ?_
  refine WP.val rfl rfl rfl (Val.nilCheck rfl rfl) ?_
  refine WP.val rfl rfl rfl (Val.fieldAddr (j := 0) rfl Ty.fo59_0 rfl rfl) ?_
  refine WP.val rfl rfl rfl (Val.load rfl Ty.sc56 rfl (fun w h => h.cell 1 rfl rfl)) ?_
  refine WP.val rfl rfl rfl (Val.nilPn rfl Ty.ip56 rfl rfl) ?_
  refine WP.nil ?_
  refine Out.next ?_
  refine WPc.condT rfl rfl ?_
  refine WPD.start (Sat W [Blk rb [.pointer (some ⟨tb, 0, none⟩), .pointer (some ⟨cc, 0, none⟩), .slice (some ⟨b0, o0, none⟩) l.length c0] 59, Blk tb [.int .i64 (ty)] 2]) Ty.mixed ?_
  refine WPD.takeM 0 rfl rfl rfl rfl (by kernel_rfl) (by kernel_rfl) (by kernel_rfl) (by kernel_rfl) (fun _ _ _ h => h) (fun w h => (((h.perm pl2).perm pl2)).dropEnd (L := [_, _])) (Val.move rfl rfl) ?_
  refine WPD.takeM 3 rfl rfl rfl rfl (by kernel_rfl) (by kernel_rfl) (by kernel_rfl) (by kernel_rfl) (fun _ _ _ h => h) (fun w h => (((h.perm pl2).perm pl2)).dropEnd (L := [_, _])) (Val.move rfl rfl) ?_
  refine WPD.takeM 4 rfl rfl rfl rfl (by kernel_rfl) (by kernel_rfl) (by kernel_rfl) (by kernel_rfl) (fun _ _ _ h => h) (fun w h => (((h.perm pl2).perm pl2)).dropEnd (L := [_, _])) (Val.nilCheck rfl rfl) ?_
  refine WPD.takeM 5 rfl rfl rfl rfl (by kernel_rfl) (by kernel_rfl) (by kernel_rfl) (by kernel_rfl) (fun _ _ _ h => h) (fun w h => (((h.perm pl2).perm pl2)).dropEnd (L := [_, _])) (Val.fieldAddr (j := 0) rfl Ty.fo59_0 rfl rfl) ?_
  refine WPD.take 6 rfl rfl rfl rfl (by kernel_rfl) (by kernel_rfl) (by kernel_rfl) (by kernel_rfl) (fun _ _ _ h => h) (by kernel_rfl) (fun w h => (((h.perm pl2).perm pl2)).dropEnd (L := [_, _])) (Val.load rfl Ty.sc56 rfl (fun w h => h.cell 0 rfl rfl)) ?_
  refine WPD.takeM 7 rfl rfl rfl rfl (by kernel_rfl) (by kernel_rfl) (by kernel_rfl) (by kernel_rfl) (fun _ _ _ h => h) (fun w h => (((h.perm pl2).perm pl2)).dropEnd (L := [_, _])) (Val.nilCheck rfl rfl) ?_
  refine WPD.take 8 rfl rfl rfl rfl (by kernel_rfl) (by kernel_rfl) (by kernel_rfl) (by kernel_rfl) (fun _ _ _ h => h) (by kernel_rfl) (fun w h => (((h.perm pl2).perm pl2)).dropEnd (L := [_, _])) (Val.load rfl Ty.sc2 rfl (fun w h => h.cell 1 rfl rfl)) ?_
  refine WPD.take 9 rfl rfl rfl rfl (by kernel_rfl) (by kernel_rfl) (by kernel_rfl) (by kernel_rfl) (fun _ _ _ h => h) (by kernel_rfl) (fun w h => (((h.perm pl2).perm pl2)).dropEnd (L := [_, _])) (Val.conv (z := IntKind.wrap .u64 ty) rfl Ty.ik94 Ty.un2 rfl rfl) ?_
  refine WPD.step 1 (by kernel_rfl) rfl rfl rfl rfl (Eff.mkSlice (C := [.int .u8 8]) rfl Ty.sl40 rfl (fun _ => by kernel_rfl)) ?_
  rintro _ _ ⟨b1, rfl, rfl⟩
  refine ⟨(fun w h => (((h.perm pl3).perm pl3)).dropEnd (L := [_, _])), ?_⟩
  refine WPD.perm pl1 ?_
  refine WPD.step 2 (by kernel_rfl) rfl rfl rfl rfl (Eff.append (m := 1) (n0 := ([] : List UInt8).length) (news := [.int .u8 8]) rfl Ty.sl40 Ty.z5 rfl rfl rfl (.slice Ty.sl40 rfl rfl (fun w h => cells_range (h.range 1 rfl rfl))) (by omega) (by omega)) ?_
  rintro v2 _ ⟨onev2, rfl⟩
  refine ⟨(fun w h => (((h.perm pl3).perm pl3)).dropEnd (L := [_, _])), ?_⟩
  refine WPD.conv (fun w h => own_byt1 (l := ([] : List UInt8)) (c := 8) h) ?_
  show WPD _ _ _ _ _ _ _ _ _ (Own 5 1 v2 ((([] : List UInt8) ++ [8] : List UInt8).length) (byt (([] : List UInt8) ++ [8])) :: Blk b1 [.int .u8 8] 5 :: Blk rb [.pointer (some ⟨tb, 0, none⟩), .pointer (some ⟨cc, 0, none⟩), .slice (some ⟨b0, o0, none⟩) l.length c0] 59 :: Blk tb [.int .i64 (ty)] 2 :: Blk cc [.int .u32 (su)] 22 :: A :: F)
  have hq3 : (([] : List UInt8) ++ [8]).length = (([] : List UInt8)).length + 1 := List.length_append
  have hl4 := vint_len (IntKind.wrap .u64 ty)
  have hm4 : (([] : List UInt8) ++ [8] ++ vint (IntKind.wrap .u64 ty)).length = (([] : List UInt8) ++ [8]).length + (vint (IntKind.wrap .u64 ty)).length := List.length_append
  refine WPD.stepC 10 (by kernel_rfl) rfl rfl rfl rfl (by kernel_rfl) (Eff.call rfl rfl Tryd.call66 (varint_spec v2 (([] : List UInt8) ++ [8]) (IntKind.wrap .u64 ty) (u64_range _) (by first | omega | (simp <;> omega)))) ?_
  rintro pv4 _ ⟨_, rfl, rfl⟩
  refine ⟨(Sat W (Own 5 1 pv4 ((([] : List UInt8) ++ [8] ++ vint (IntKind.wrap .u64 ty) : List UInt8).length) (byt (([] : List UInt8) ++ [8] ++ vint (IntKind.wrap .u64 ty))) :: Blk b1 [.int .u8 8] 5 :: Blk rb [.pointer (some ⟨tb, 0, none⟩), .pointer (some ⟨cc, 0, none⟩), .slice (some ⟨b0, o0, none⟩) l.length c0] 59 :: Blk tb [.int .i64 (ty)] 2 :: Blk cc [.int .u32 (su)] 22 :: A :: F)), (fun _ h => h), ?_⟩
  show WPD _ _ _ _ _ _ _ _ _ (Own 5 1 pv4 ((([] : List UInt8) ++ [8] ++ vint (IntKind.wrap .u64 ty) : List UInt8).length) (byt (([] : List UInt8) ++ [8] ++ vint (IntKind.wrap .u64 ty))) :: Blk b1 [.int .u8 8] 5 :: Blk rb [.pointer (some ⟨tb, 0, none⟩), .pointer (some ⟨cc, 0, none⟩), .slice (some ⟨b0, o0, none⟩) l.length c0] 59 :: Blk tb [.int .i64 (ty)] 2 :: Blk cc [.int .u32 (su)] 22 :: A :: F)
  refine WPD.takeM 11 rfl rfl rfl rfl (by kernel_rfl) (by kernel_rfl) (by kernel_rfl) (by kernel_rfl) (fun _ _ _ h => h) (fun _ h => h) (Val.assign rfl rfl) ?_
  refine WPD.done (by kernel_rfl) ?_
  refine Out.next ?_
  refine WPc.seq ?_
  refine WPc.seq ?_
  refine WPc.region ?_
  refine WP.val rfl rfl rfl (Val.move rfl rfl) ?_
  refine WP.val rfl rfl rfl (Val.nilCheck rfl rfl) ?_
  refine WP.val rfl rfl rfl (Val.fieldAddr (j := 1) rfl Ty.fo59_1 rfl rfl) ?_
  refine WP.val rfl rfl rfl (Val.load rfl Ty.sc57 rfl (fun w h => h.cell 2 rfl rfl)) ?_
  refine WP.val rfl rfl rfl (Val.nilPn rfl Ty.ip57 rfl rfl) ?_
  refine WP.nil ?_
  refine Out.next ?_
  refine WPc.condT rfl rfl ?_
  refine WPD.start (Sat W [Blk rb [.pointer (some ⟨tb, 0, none⟩), .pointer (some ⟨cc, 0, none⟩), .slice (some ⟨b0, o0, none⟩) l.length c0] 59, Blk cc [.int .u32 (su)] 22]) Ty.mixed ?_
  refine WPD.takeM 0 rfl rfl rfl rfl (by kernel_rfl) (by kernel_rfl) (by kernel_rfl) (by kernel_rfl) (fun _ _ _ h => h) (fun w h => (((h.perm pl4).perm pl3)).dropEnd (L := [_, _])) (Val.move rfl rfl) ?_
  refine WPD.takeM 3 rfl rfl rfl rfl (by kernel_rfl) (by kernel_rfl) (by kernel_rfl) (by kernel_rfl) (fun _ _ _ h => h) (fun w h => (((h.perm pl4).perm pl3)).dropEnd (L := [_, _])) (Val.move rfl rfl) ?_
  refine WPD.takeM 4 rfl rfl rfl rfl (by kernel_rfl) (by kernel_rfl) (by kernel_rfl) (by kernel_rfl) (fun _ _ _ h => h) (fun w h => (((h.perm pl4).perm pl3)).dropEnd (L := [_, _])) (Val.nilCheck rfl rfl) ?_
  refine WPD.takeM 5 rfl rfl rfl rfl (by kernel_rfl) (by kernel_rfl) (by kernel_rfl) (by kernel_rfl) (fun _ _ _ h => h) (fun w h => (((h.perm pl4).perm pl3)).dropEnd (L := [_, _])) (Val.fieldAddr (j := 1) rfl Ty.fo59_1 rfl rfl) ?_
  refine WPD.take 6 rfl rfl rfl rfl (by kernel_rfl) (by kernel_rfl) (by kernel_rfl) (by kernel_rfl) (fun _ _ _ h => h) (by kernel_rfl) (fun w h => (((h.perm pl4).perm pl3)).dropEnd (L := [_, _])) (Val.load rfl Ty.sc57 rfl (fun w h => h.cell 0 rfl rfl)) ?_
  refine WPD.takeM 7 rfl rfl rfl rfl (by kernel_rfl) (by kernel_rfl) (by kernel_rfl) (by kernel_rfl) (fun _ _ _ h => h) (fun w h => (((h.perm pl4).perm pl3)).dropEnd (L := [_, _])) (Val.nilCheck rfl rfl) ?_
  refine WPD.take 8 rfl rfl rfl rfl (by kernel_rfl) (by kernel_rfl) (by kernel_rfl) (by kernel_rfl) (fun _ _ _ h => h) (by kernel_rfl) (fun w h => (((h.perm pl4).perm pl3)).dropEnd (L := [_, _])) (Val.load rfl Ty.sc22 rfl (fun w h => h.cell 1 rfl rfl)) ?_
  refine WPD.take 9 rfl rfl rfl rfl (by kernel_rfl) (by kernel_rfl) (by kernel_rfl) (by kernel_rfl) (fun _ _ _ h => h) (by kernel_rfl) (fun w h => (((h.perm pl4).perm pl3)).dropEnd (L := [_, _])) (Val.conv (z := IntKind.wrap .u64 su) rfl Ty.ik94 Ty.un22 rfl rfl) ?_
  refine WPD.step 1 (by kernel_rfl) rfl rfl rfl rfl (Eff.mkSlice (C := [.int .u8 16]) rfl Ty.sl40 rfl (fun _ => by kernel_rfl)) ?_
  rintro _ _ ⟨b5, rfl, rfl⟩
  refine ⟨(fun w h => (((h.perm pl5).perm pl4)).dropEnd (L := [_, _])), ?_⟩
  refine WPD.perm pl1 ?_
  refine WPD.step 2 (by kernel_rfl) rfl rfl rfl rfl (Eff.append (m := 1) (n0 := (([] : List UInt8) ++ [8] ++ vint (IntKind.wrap .u64 ty) : List UInt8).length) (news := [.int .u8 16]) rfl Ty.sl40 Ty.z5 rfl rfl rfl (.slice Ty.sl40 rfl rfl (fun w h => cells_range (h.range 1 rfl rfl))) (by omega) (by omega)) ?_
  rintro v6 _ ⟨onev6, rfl⟩
  refine ⟨(fun w h => (((h.perm pl5).perm pl4)).dropEnd (L := [_, _])), ?_⟩
  refine WPD.conv (fun w h => own_byt1 (l := ([] : List UInt8) ++ [8] ++ vint (IntKind.wrap .u64 ty)) (c := 16) h) ?_
  show WPD _ _ _ _ _ _ _ _ _ (Own 5 1 v6 ((([] : List UInt8) ++ [8] ++ vint (IntKind.wrap .u64 ty) ++ [16] : List UInt8).length) (byt (([] : List UInt8) ++ [8] ++ vint (IntKind.wrap .u64 ty) ++ [16])) :: Blk b5 [.int .u8 16] 5 :: Blk b1 [.int .u8 8] 5 :: Blk rb [.pointer (some ⟨tb, 0, none⟩), .pointer (some ⟨cc, 0, none⟩), .slice (some ⟨b0, o0, none⟩) l.length c0] 59 :: Blk tb [.int .i64 (ty)] 2 :: Blk cc [.int .u32 (su)] 22 :: A :: F)
  have hq7 : (([] : List UInt8) ++ [8] ++ vint (IntKind.wrap .u64 ty) ++ [16]).length = (([] : List UInt8) ++ [8] ++ vint (IntKind.wrap .u64 ty)).length + 1 := List.length_append
  have hl8 := vint_len (IntKind.wrap .u64 su)
  have hm8 : (([] : List UInt8) ++ [8] ++ vint (IntKind.wrap .u64 ty) ++ [16] ++ vint (IntKind.wrap .u64 su)).length = (([] : List UInt8) ++ [8] ++ vint (IntKind.wrap .u64 ty) ++ [16]).length + (vint (IntKind.wrap .u64 su)).length := List.length_append
  refine WPD.stepC 10 (by kernel_rfl) rfl rfl rfl rfl (by kernel_rfl) (Eff.call rfl rfl Tryd.call66 (varint_spec v6 (([] : List UInt8) ++ [8] ++ vint (IntKind.wrap .u64 ty) ++ [16]) (IntKind.wrap .u64 su) (u64_range _) (by first | omega | (simp <;> omega)))) ?_
  rintro pv8 _ ⟨_, rfl, rfl⟩
  refine ⟨(Sat W (Own 5 1 pv8 ((([] : List UInt8) ++ [8] ++ vint (IntKind.wrap .u64 ty) ++ [16] ++ vint (IntKind.wrap .u64 su) : List UInt8).length) (byt (([] : List UInt8) ++ [8] ++ vint (IntKind.wrap .u64 ty) ++ [16] ++ vint (IntKind.wrap .u64 su))) :: Blk b5 [.int .u8 16] 5 :: Blk b1 [.int .u8 8] 5 :: Blk rb [.pointer (some ⟨tb, 0, none⟩), .pointer (some ⟨cc, 0, none⟩), .slice (some ⟨b0, o0, none⟩) l.length c0] 59 :: Blk tb [.int .i64 (ty)] 2 :: Blk cc [.int .u32 (su)] 22 :: A :: F)), (fun _ h => h), ?_⟩
  show WPD _ _ _ _ _ _ _ _ _ (Own 5 1 pv8 ((([] : List UInt8) ++ [8] ++ vint (IntKind.wrap .u64 ty) ++ [16] ++ vint (IntKind.wrap .u64 su) : List UInt8).length) (byt (([] : List UInt8) ++ [8] ++ vint (IntKind.wrap .u64 ty) ++ [16] ++ vint (IntKind.wrap .u64 su))) :: Blk b5 [.int .u8 16] 5 :: Blk b1 [.int .u8 8] 5 :: Blk rb [.pointer (some ⟨tb, 0, none⟩), .pointer (some ⟨cc, 0, none⟩), .slice (some ⟨b0, o0, none⟩) l.length c0] 59 :: Blk tb [.int .i64 (ty)] 2 :: Blk cc [.int .u32 (su)] 22 :: A :: F)
  refine WPD.takeM 11 rfl rfl rfl rfl (by kernel_rfl) (by kernel_rfl) (by kernel_rfl) (by kernel_rfl) (fun _ _ _ h => h) (fun _ h => h) (Val.assign rfl rfl) ?_
  refine WPD.done (by kernel_rfl) ?_
  refine Out.next ?_
  refine WPc.seq ?_
  refine WPc.seq ?_
  refine WPc.region ?_
  refine WP.val rfl rfl rfl (Val.move rfl rfl) ?_
  refine WP.val rfl rfl rfl (Val.nilCheck rfl rfl) ?_
  refine WP.val rfl rfl rfl (Val.fieldAddr (j := 2) rfl Ty.fo59_2 rfl rfl) ?_
  refine WP.val rfl rfl rfl (Val.load rfl Ty.sc40 rfl (fun w h => h.cell 3 rfl rfl)) ?_
  refine WP.val rfl rfl rfl (Val.nilSn rfl Ty.is40 rfl rfl) ?_
  refine WP.nil ?_
  refine Out.next ?_
  refine WPc.condT rfl rfl ?_
  refine WPc.region ?_
  refine WP.val rfl rfl rfl (Val.move rfl rfl) ?_
  refine WP.val rfl rfl rfl (Val.move rfl rfl) ?_
  refine WP.val rfl rfl rfl (Val.nilCheck rfl rfl) ?_
  refine WP.val rfl rfl rfl (Val.fieldAddr (j := 2) rfl Ty.fo59_2 rfl rfl) ?_
  refine WP.val rfl rfl rfl (Val.load rfl Ty.sc40 rfl (fun w h => h.cell 3 rfl rfl)) ?_
  have hl9 := pbytes_len 3 l
  have hm9 : (([] : List UInt8) ++ [8] ++ vint (IntKind.wrap .u64 ty) ++ [16] ++ vint (IntKind.wrap .u64 su) ++ pbytes 3 l).length = (([] : List UInt8) ++ [8] ++ vint (IntKind.wrap .u64 ty) ++ [16] ++ vint (IntKind.wrap .u64 su)).length + (pbytes 3 l).length := List.length_append
  refine WP.perm pl6 ?_
  refine WP.perm pl1 ?_
  refine WP.eff rfl rfl rfl (Eff.call rfl rfl Tryd.call67 (putbytes_spec A pv8 (([] : List UInt8) ++ [8] ++ vint (IntKind.wrap .u64 ty) ++ [16] ++ vint (IntKind.wrap .u64 su)) 3 l b0 o0 c0 hr (by omega) hlc (by first | omega | (simp <;> omega)))) ?_
  rintro pb9 _ ⟨_, rfl, rfl⟩
  show WP _ _ _ _ _ _ _ (Own 5 1 pb9 ((([] : List UInt8) ++ [8] ++ vint (IntKind.wrap .u64 ty) ++ [16] ++ vint (IntKind.wrap .u64 su) ++ pbytes 3 l : List UInt8).length) (byt (([] : List UInt8) ++ [8] ++ vint (IntKind.wrap .u64 ty) ++ [16] ++ vint (IntKind.wrap .u64 su) ++ pbytes 3 l)) :: A :: Blk b5 [.int .u8 16] 5 :: Blk b1 [.int .u8 8] 5 :: Blk rb [.pointer (some ⟨tb, 0, none⟩), .pointer (some ⟨cc, 0, none⟩), .slice (some ⟨b0, o0, none⟩) l.length c0] 59 :: Blk tb [.int .i64 (ty)] 2 :: Blk cc [.int .u32 (su)] 22 :: F)
  refine WP.val rfl rfl rfl (Val.assign rfl rfl) ?_
  refine WP.nil ?_
  refine Out.next ?_
  refine WPc.seq ?_
  refine WPc.region ?_
  refine WP.val rfl rfl rfl (Val.move rfl rfl) ?_
  refine WP.val rfl rfl rfl (Val.assign rfl rfl) ?_
  refine WP.nil ?_
  refine Out.next ?_
  refine WPc.ret ?_
  refine Out.perm pl2 ?_
  refine Out.drop ?_
  refine Out.perm pl2 ?_
  refine Out.drop ?_
  refine Out.perm pl1 ?_
  refine Out.perm pl4 ?_
  refine Out.perm pl4 ?_
  refine Out.perm pl4 ?_
  refine Out.perm pl4 ?_
  exact Out.ret1 (L' := _) Tryd.results64 rfl rfl (fun w h => by rw [show rbody ty su (some l) = ([] : List UInt8) ++ [8] ++ vint (IntKind.wrap .u64 ty) ++ [16] ++ vint (IntKind.wrap .u64 su) ++ pbytes 3 l from by unfold rbody; simp]; exact h)

set_option maxRecDepth 100000 in
set_option maxHeartbeats 1000000 in
theorem fields_none (rb tb cc : Nat) (ty su : Int) : Does Tryd.prog 64 [.pointer (some ⟨rb, 0, none⟩)] [Blk rb [.pointer (some ⟨tb, 0, none⟩), .pointer (some ⟨cc, 0, none⟩), .slice none 0 0] 59, Blk tb [.int .i64 (ty)] 2, Blk cc [.int .u32 (su)] 22] (fun v L => L = [Own 5 1 v ((rbody ty su none : List UInt8).length) (byt (rbody ty su none)), Blk rb [.pointer (some ⟨tb, 0, none⟩), .pointer (some ⟨cc, 0, none⟩), .slice none 0 0] 59, Blk tb [.int .i64 (ty)] 2, Blk cc [.int .u32 (su)] 22]) := by
  refine Does.enter 48 Tryd.func64 rfl rfl rfl fun W F => ?_
  show WPc _ _ _ _ _ [(0, .pointer (some ⟨rb, 0, none⟩))] (Blk rb [.pointer (some ⟨tb, 0, none⟩), .pointer (some ⟨cc, 0, none⟩), .slice none 0 0] 59 :: Blk tb [.int .i64 (ty)] 2 :: Blk cc [.int .u32 (su)] 22 :: F)
  refine WPc.seq ?_
  refine WPc.region ?_
  refine WP.val rfl rfl rfl (Val.assign rfl rfl) ?_
  refine WP.nil ?_
  refine Out.next ?_
  refine WPc.seq ?_
  refine WPc.region ?_
  refine WP.val rfl rfl rfl (Val.assign rfl rfl) ?_
  refine WP.nil ?_
  refine Out.next ?_
  refine WPc.seq ?_
  refine WPc.seq ?_
  refine WPc.conv (fun w h => h.ownNil (e := 5) (k := 1)) ?_
  show WPc _ _ _ _ _ _ (Own 5 1 (.slice none 0 0) (([] : List UInt8).length) (byt ([] : List UInt8)) :: Blk rb [.pointer (some ⟨tb, 0, none⟩), .pointer (some ⟨cc, 0, none⟩), .slice none 0 0] 59 :: Blk tb [.int .i64 (ty)] 2 :: Blk cc [.int .u32 (su)] 22 :: F)
  have hm0 : ([] : List UInt8).length = 0 := rfl
  refine WPc.region ?_
  refine WP.val rfl rfl rfl (Val.move rfl rfl) ?_
  refine WP.val rfl rfl rfl (Val.nilCheck rfl rfl) ?_
  refine WP.val rfl rfl rfl (Val.fieldAddr (j := 0) rfl Ty.fo59_0 rfl rfl) ?_
  refine WP.val rfl rfl rfl (Val.load rfl Ty.sc56 rfl (fun w h => h.cell 1 rfl rfl)) ?_
  refine WP.val rfl rfl rfl (Val.nilPn rfl Ty.ip56 rfl rfl) ?_
  refine WP.nil ?_
  refine Out.next ?_
  refine WPc.condT rfl rfl ?_
  refine WPD.start (Sat W [Blk rb [.pointer (some ⟨tb, 0, none⟩), .pointer (some ⟨cc, 0, none⟩), .slice none 0 0] 59, Blk tb [.int .i64 (ty)] 2]) Ty.mixed ?_
  refine WPD.takeM 0 rfl rfl rfl rfl (by kernel_rfl) (by kernel_rfl) (by kernel_rfl) (by kernel_rfl) (fun _ _ _ h => h) (fun w h => (((h.perm pl2).perm pl2)).dropEnd (L := [_, _])) (Val.move rfl rfl) ?_
  refine WPD.takeM 3 rfl rfl rfl rfl (by kernel_rfl) (by kernel_rfl) (by kernel_rfl) (by kernel_rfl) (fun _ _ _ h => h) (fun w h => (((h.perm pl2).perm pl2)).dropEnd (L := [_, _])) (Val.move rfl rfl) ?_
  refine WPD.takeM 4 rfl rfl rfl rfl (by kernel_rfl) (by kernel_rfl) (by kernel_rfl) (by kernel_rfl) (fun _ _ _ h => h) (fun w h => (((h.perm pl2).perm pl2)).dropEnd (L := [_, _])) (Val.nilCheck rfl rfl) ?_
  refine WPD.takeM 5 rfl rfl rfl rfl (by kernel_rfl) (by kernel_rfl) (by kernel_rfl) (by kernel_rfl) (fun _ _ _ h => h) (fun w h => (((h.perm pl2).perm pl2)).dropEnd (L := [_, _])) (Val.fieldAddr (j := 0) rfl Ty.fo59_0 rfl rfl) ?_
  refine WPD.take 6 rfl rfl rfl rfl (by kernel_rfl) (by kernel_rfl) (by kernel_rfl) (by kernel_rfl) (fun _ _ _ h => h) (by kernel_rfl) (fun w h => (((h.perm pl2).perm pl2)).dropEnd (L := [_, _])) (Val.load rfl Ty.sc56 rfl (fun w h => h.cell 0 rfl rfl)) ?_
  refine WPD.takeM 7 rfl rfl rfl rfl (by kernel_rfl) (by kernel_rfl) (by kernel_rfl) (by kernel_rfl) (fun _ _ _ h => h) (fun w h => (((h.perm pl2).perm pl2)).dropEnd (L := [_, _])) (Val.nilCheck rfl rfl) ?_
  refine WPD.take 8 rfl rfl rfl rfl (by kernel_rfl) (by kernel_rfl) (by kernel_rfl) (by kernel_rfl) (fun _ _ _ h => h) (by kernel_rfl) (fun w h => (((h.perm pl2).perm pl2)).dropEnd (L := [_, _])) (Val.load rfl Ty.sc2 rfl (fun w h => h.cell 1 rfl rfl)) ?_
  refine WPD.take 9 rfl rfl rfl rfl (by kernel_rfl) (by kernel_rfl) (by kernel_rfl) (by kernel_rfl) (fun _ _ _ h => h) (by kernel_rfl) (fun w h => (((h.perm pl2).perm pl2)).dropEnd (L := [_, _])) (Val.conv (z := IntKind.wrap .u64 ty) rfl Ty.ik94 Ty.un2 rfl rfl) ?_
  refine WPD.step 1 (by kernel_rfl) rfl rfl rfl rfl (Eff.mkSlice (C := [.int .u8 8]) rfl Ty.sl40 rfl (fun _ => by kernel_rfl)) ?_
  rintro _ _ ⟨b1, rfl, rfl⟩
  refine ⟨(fun w h => (((h.perm pl3).perm pl3)).dropEnd (L := [_, _])), ?_⟩
  refine WPD.perm pl1 ?_
  refine WPD.step 2 (by kernel_rfl) rfl rfl rfl rfl (Eff.append (m := 1) (n0 := ([] : List UInt8).length) (news := [.int .u8 8]) rfl Ty.sl40 Ty.z5 rfl rfl rfl (.slice Ty.sl40 rfl rfl (fun w h => cells_range (h.range 1 rfl rfl))) (by omega) (by omega)) ?_
  rintro v2 _ ⟨onev2, rfl⟩
  refine ⟨(fun w h => (((h.perm pl3).perm pl3)).dropEnd (L := [_, _])), ?_⟩
  refine WPD.conv (fun w h => own_byt1 (l := ([] : List UInt8)) (c := 8) h) ?_
  show WPD _ _ _ _ _ _ _ _ _ (Own 5 1 v2 ((([] : List UInt8) ++ [8] : List UInt8).length) (byt (([] : List UInt8) ++ [8])) :: Blk b1 [.int .u8 8] 5 :: Blk rb [.pointer (some ⟨tb, 0, none⟩), .pointer (some ⟨cc, 0, none⟩), .slice none 0 0] 59 :: Blk tb [.int .i64 (ty)] 2 :: Blk cc [.int .u32 (su)] 22 :: F)
  have hq3 : (([] : List UInt8) ++ [8]).length = (([] : List UInt8)).length + 1 := List.length_append
  have hl4 := vint_len (IntKind.wrap .u64 ty)
  have hm4 : (([] : List UInt8) ++ [8] ++ vint (IntKind.wrap .u64 ty)).length = (([] : List UInt8) ++ [8]).length + (vint (IntKind.wrap .u64 ty)).length := List.length_append
  refine WPD.stepC 10 (by kernel_rfl) rfl rfl rfl rfl (by kernel_rfl) (Eff.call rfl rfl Tryd.call66 (varint_spec v2 (([] : List UInt8) ++ [8]) (IntKind.wrap .u64 ty) (u64_range _) (by first | omega | (simp <;> omega)))) ?_
  rintro pv4 _ ⟨_, rfl, rfl⟩
  refine ⟨(Sat W (Own 5 1 pv4 ((([] : List UInt8) ++ [8] ++ vint (IntKind.wrap .u64 ty) : List UInt8).length) (byt (([] : List UInt8) ++ [8] ++ vint (IntKind.wrap .u64 ty))) :: Blk b1 [.int .u8 8] 5 :: Blk rb [.pointer (some ⟨tb, 0, none⟩), .pointer (some ⟨cc, 0, none⟩), .slice none 0 0] 59 :: Blk tb [.int .i64 (ty)] 2 :: Blk cc [.int .u32 (su)] 22 :: F)), (fun _ h => h), ?_⟩
  show WPD _ _ _ _ _ _ _ _ _ (Own 5 1 pv4 ((([] : List UInt8) ++ [8] ++ vint (IntKind.wrap .u64 ty) : List UInt8).length) (byt (([] : List UInt8) ++ [8] ++ vint (IntKind.wrap .u64 ty))) :: Blk b1 [.int .u8 8] 5 :: Blk rb [.pointer (some ⟨tb, 0, none⟩), .pointer (some ⟨cc, 0, none⟩), .slice none 0 0] 59 :: Blk tb [.int .i64 (ty)] 2 :: Blk cc [.int .u32 (su)] 22 :: F)
  refine WPD.takeM 11 rfl rfl rfl rfl (by kernel_rfl) (by kernel_rfl) (by kernel_rfl) (by kernel_rfl) (fun _ _ _ h => h) (fun _ h => h) (Val.assign rfl rfl) ?_
  refine WPD.done (by kernel_rfl) ?_
  refine Out.next ?_
  refine WPc.seq ?_
  refine WPc.seq ?_
  refine WPc.region ?_
  refine WP.val rfl rfl rfl (Val.move rfl rfl) ?_
  refine WP.val rfl rfl rfl (Val.nilCheck rfl rfl) ?_
  refine WP.val rfl rfl rfl (Val.fieldAddr (j := 1) rfl Ty.fo59_1 rfl rfl) ?_
  refine WP.val rfl rfl rfl (Val.load rfl Ty.sc57 rfl (fun w h => h.cell 2 rfl rfl)) ?_
  refine WP.val rfl rfl rfl (Val.nilPn rfl Ty.ip57 rfl rfl) ?_
  refine WP.nil ?_
  refine Out.next ?_
  refine WPc.condT rfl rfl ?_
  refine WPD.start (Sat W [Blk rb [.pointer (some ⟨tb, 0, none⟩), .pointer (some ⟨cc, 0, none⟩), .slice none 0 0] 59, Blk cc [.int .u32 (su)] 22]) Ty.mixed ?_
  refine WPD.takeM 0 rfl rfl rfl rfl (by kernel_rfl) (by kernel_rfl) (by kernel_rfl) (by kernel_rfl) (fun _ _ _ h => h) (fun w h => (((h.perm pl4).perm pl3)).dropEnd (L := [_, _])) (Val.move rfl rfl) ?_
  refine WPD.takeM 3 rfl rfl rfl rfl (by kernel_rfl) (by kernel_rfl) (by kernel_rfl) (by kernel_rfl) (fun _ _ _ h => h) (fun w h => (((h.perm pl4).perm pl3)).dropEnd (L := [_, _])) (Val.move rfl rfl) ?_
  refine WPD.takeM 4 rfl rfl rfl rfl (by kernel_rfl) (by kernel_rfl) (by kernel_rfl) (by kernel_rfl) (fun _ _ _ h => h) (fun w h => (((h.perm pl4).perm pl3)).dropEnd (L := [_, _])) (Val.nilCheck rfl rfl) ?_
  refine WPD.takeM 5 rfl rfl rfl rfl (by kernel_rfl) (by kernel_rfl) (by kernel_rfl) (by kernel_rfl) (fun _ _ _ h => h) (fun w h => (((h.perm pl4).perm pl3)).dropEnd (L := [_, _])) (Val.fieldAddr (j := 1) rfl Ty.fo59_1 rfl rfl) ?_
  refine WPD.take 6 rfl rfl rfl rfl (by kernel_rfl) (by kernel_rfl) (by kernel_rfl) (by kernel_rfl) (fun _ _ _ h => h) (by kernel_rfl) (fun w h => (((h.perm pl4).perm pl3)).dropEnd (L := [_, _])) (Val.load rfl Ty.sc57 rfl (fun w h => h.cell 0 rfl rfl)) ?_
  refine WPD.takeM 7 rfl rfl rfl rfl (by kernel_rfl) (by kernel_rfl) (by kernel_rfl) (by kernel_rfl) (fun _ _ _ h => h) (fun w h => (((h.perm pl4).perm pl3)).dropEnd (L := [_, _])) (Val.nilCheck rfl rfl) ?_
  refine WPD.take 8 rfl rfl rfl rfl (by kernel_rfl) (by kernel_rfl) (by kernel_rfl) (by kernel_rfl) (fun _ _ _ h => h) (by kernel_rfl) (fun w h => (((h.perm pl4).perm pl3)).dropEnd (L := [_, _])) (Val.load rfl Ty.sc22 rfl (fun w h => h.cell 1 rfl rfl)) ?_
  refine WPD.take 9 rfl rfl rfl rfl (by kernel_rfl) (by kernel_rfl) (by kernel_rfl) (by kernel_rfl) (fun _ _ _ h => h) (by kernel_rfl) (fun w h => (((h.perm pl4).perm pl3)).dropEnd (L := [_, _])) (Val.conv (z := IntKind.wrap .u64 su) rfl Ty.ik94 Ty.un22 rfl rfl) ?_
  refine WPD.step 1 (by kernel_rfl) rfl rfl rfl rfl (Eff.mkSlice (C := [.int .u8 16]) rfl Ty.sl40 rfl (fun _ => by kernel_rfl)) ?_
  rintro _ _ ⟨b5, rfl, rfl⟩
  refine ⟨(fun w h => (((h.perm pl5).perm pl4)).dropEnd (L := [_, _])), ?_⟩
  refine WPD.perm pl1 ?_
  refine WPD.step 2 (by kernel_rfl) rfl rfl rfl rfl (Eff.append (m := 1) (n0 := (([] : List UInt8) ++ [8] ++ vint (IntKind.wrap .u64 ty) : List UInt8).length) (news := [.int .u8 16]) rfl Ty.sl40 Ty.z5 rfl rfl rfl (.slice Ty.sl40 rfl rfl (fun w h => cells_range (h.range 1 rfl rfl))) (by omega) (by omega)) ?_
  rintro v6 _ ⟨onev6, rfl⟩
  refine ⟨(fun w h => (((h.perm pl5).perm pl4)).dropEnd (L := [_, _])), ?_⟩
  refine WPD.conv (fun w h => own_byt1 (l := ([] : List UInt8) ++ [8] ++ vint (IntKind.wrap .u64 ty)) (c := 16) h) ?_
  show WPD _ _ _ _ _ _ _ _ _ (Own 5 1 v6 ((([] : List UInt8) ++ [8] ++ vint (IntKind.wrap .u64 ty) ++ [16] : List UInt8).length) (byt (([] : List UInt8) ++ [8] ++ vint (IntKind.wrap .u64 ty) ++ [16])) :: Blk b5 [.int .u8 16] 5 :: Blk b1 [.int .u8 8] 5 :: Blk rb [.pointer (some ⟨tb, 0, none⟩), .pointer (some ⟨cc, 0, none⟩), .slice none 0 0] 59 :: Blk tb [.int .i64 (ty)] 2 :: Blk cc [.int .u32 (su)] 22 :: F)
  have hq7 : (([] : List UInt8) ++ [8] ++ vint (IntKind.wrap .u64 ty) ++ [16]).length = (([] : List UInt8) ++ [8] ++ vint (IntKind.wrap .u64 ty)).length + 1 := List.length_append
  have hl8 := vint_len (IntKind.wrap .u64 su)
  have hm8 : (([] : List UInt8) ++ [8] ++ vint (IntKind.wrap .u64 ty) ++ [16] ++ vint (IntKind.wrap .u64 su)).length = (([] : List UInt8) ++ [8] ++ vint (IntKind.wrap .u64 ty) ++ [16]).length + (vint (IntKind.wrap .u64 su)).length := List.length_append
  refine WPD.stepC 10 (by kernel_rfl) rfl rfl rfl rfl (by kernel_rfl) (Eff.call rfl rfl Tryd.call66 (varint_spec v6 (([] : List UInt8) ++ [8] ++ vint (IntKind.wrap .u64 ty) ++ [16]) (IntKind.wrap .u64 su) (u64_range _) (by first | omega | (simp <;> omega)))) ?_
  rintro pv8 _ ⟨_, rfl, rfl⟩
  refine ⟨(Sat W (Own 5 1 pv8 ((([] : List UInt8) ++ [8] ++ vint (IntKind.wrap .u64 ty) ++ [16] ++ vint (IntKind.wrap .u64 su) : List UInt8).length) (byt (([] : List UInt8) ++ [8] ++ vint (IntKind.wrap .u64 ty) ++ [16] ++ vint (IntKind.wrap .u64 su))) :: Blk b5 [.int .u8 16] 5 :: Blk b1 [.int .u8 8] 5 :: Blk rb [.pointer (some ⟨tb, 0, none⟩), .pointer (some ⟨cc, 0, none⟩), .slice none 0 0] 59 :: Blk tb [.int .i64 (ty)] 2 :: Blk cc [.int .u32 (su)] 22 :: F)), (fun _ h => h), ?_⟩
  show WPD _ _ _ _ _ _ _ _ _ (Own 5 1 pv8 ((([] : List UInt8) ++ [8] ++ vint (IntKind.wrap .u64 ty) ++ [16] ++ vint (IntKind.wrap .u64 su) : List UInt8).length) (byt (([] : List UInt8) ++ [8] ++ vint (IntKind.wrap .u64 ty) ++ [16] ++ vint (IntKind.wrap .u64 su))) :: Blk b5 [.int .u8 16] 5 :: Blk b1 [.int .u8 8] 5 :: Blk rb [.pointer (some ⟨tb, 0, none⟩), .pointer (some ⟨cc, 0, none⟩), .slice none 0 0] 59 :: Blk tb [.int .i64 (ty)] 2 :: Blk cc [.int .u32 (su)] 22 :: F)
  refine WPD.takeM 11 rfl rfl rfl rfl (by kernel_rfl) (by kernel_rfl) (by kernel_rfl) (by kernel_rfl) (fun _ _ _ h => h) (fun _ h => h) (Val.assign rfl rfl) ?_
  refine WPD.done (by kernel_rfl) ?_
  refine Out.next ?_
  refine WPc.seq ?_
  refine WPc.seq ?_
  refine WPc.region ?_
  refine WP.val rfl rfl rfl (Val.move rfl rfl) ?_
  refine WP.val rfl rfl rfl (Val.nilCheck rfl rfl) ?_
  refine WP.val rfl rfl rfl (Val.fieldAddr (j := 2) rfl Ty.fo59_2 rfl rfl) ?_
  refine WP.val rfl rfl rfl (Val.load rfl Ty.sc40 rfl (fun w h => h.cell 3 rfl rfl)) ?_
  refine WP.val rfl rfl rfl (Val.nilSn rfl Ty.is40 rfl rfl) ?_
  refine WP.nil ?_
  refine Out.next ?_
  refine WPc.condF rfl rfl ?_
  refine WPc.skip ?_
  refine Out.next ?_
  refine WPc.seq ?_
  refine WPc.region ?_
  refine WP.val rfl rfl rfl (Val.move rfl rfl) ?_
  refine WP.val rfl rfl rfl (Val.assign rfl rfl) ?_
  refine WP.nil ?_
  refine Out.next ?_
  refine WPc.ret ?_
  refine Out.perm pl1 ?_
  refine Out.drop ?_
  refine Out.perm pl1 ?_
  refine Out.drop ?_
  exact Out.ret1 (L' := _) Tryd.results64 rfl rfl (fun w h => by rw [show rbody ty su none = ([] : List UInt8) ++ [8] ++ vint (IntKind.wrap .u64 ty) ++ [16] ++ vint (IntKind.wrap .u64 su) from by unfold rbody; simp]; exact h)

set_option maxRecDepth 100000 in
set_option maxHeartbeats 1000000 in
theorem marshal_has (A : HProp) (l : List UInt8) (b0 o0 c0 : Nat) (hr : ∀ w, Holds A w → w.rangeAt b0 o0 (byt l)) (hl : l.length ≤ 1000000) (hlc : l.length ≤ c0) (rb tb cc : Nat) (ty su : Int) : Does Tryd.prog 41 [.iface 55 (.pointer (some ⟨rb, 0, none⟩))] [Blk rb [.pointer (some ⟨tb, 0, none⟩), .pointer (some ⟨cc, 0, none⟩), .slice (some ⟨b0, o0, none⟩) l.length c0] 59, Blk tb [.int .i64 (ty)] 2, Blk cc [.int .u32 (su)] 22, A] (fun v L => ∃ u, v = .tuple #[u, .nilIface] ∧ L = [Own 5 1 u ((rbody ty su (some l) : List UInt8).length) (byt (rbody ty su (some l))), Blk rb [.pointer (some ⟨tb, 0, none⟩), .pointer (some ⟨cc, 0, none⟩), .slice (some ⟨b0, o0, none⟩) l.length c0] 59, Blk tb [.int .i64 (ty)] 2, Blk cc [.int .u32 (su)] 22, A]) := by
  refine Does.enter 6 Tryd.func41 rfl rfl rfl fun W F => ?_
  show WPc _ _ _ _ _ [(0, .iface 55 (.pointer (some ⟨rb, 0, none⟩)))] (Blk rb [.pointer (some ⟨tb, 0, none⟩), .pointer (some ⟨cc, 0, none⟩), .slice (some ⟨b0, o0, none⟩) l.length c0] 59 :: Blk tb [.int .i64 (ty)] 2 :: Blk cc [.int .u32 (su)] 22 :: A :: F)
  refine WPc.seq ?_
  refine WPc.region ?_
  refine WP.val rfl rfl rfl (Val.assign rfl rfl) ?_
  refine WP.val rfl rfl rfl (Val.assign rfl rfl) ?_
  refine WP.nil ?_
  refine Out.next ?_
  refine WPc.seq ?_
  refine WPc.region ?_
  refine WP.val rfl rfl rfl (Val.move rfl rfl) ?_
  refine WP.perm pl3 ?_
  refine WP.perm pl3 ?_
  refine WP.perm pl3 ?_
  refine WP.perm pl3 ?_
  refine WP.eff rfl rfl rfl (Eff.invoke (f := 64) rfl rfl rfl (fun _ => by kernel_rfl) Tryd.call64 (fields_has A l b0 o0 c0 hr hl hlc rb tb cc ty su)) ?_
  rintro u _ ⟨_, rfl, rfl⟩
  show WP _ _ _ _ _ _ _ (Own 5 1 u ((rbody ty su (some l) : List UInt8).length) (byt (rbody ty su (some l))) :: Blk rb [.pointer (some ⟨tb, 0, none⟩), .pointer (some ⟨cc, 0, none⟩), .slice (some ⟨b0, o0, none⟩) l.length c0] 59 :: Blk tb [.int .i64 (ty)] 2 :: Blk cc [.int .u32 (su)] 22 :: A :: F)
  refine WP.val rfl rfl rfl (Val.assign rfl rfl) ?_
  refine WP.val rfl rfl rfl (Val.assign rfl rfl) ?_
  refine WP.nil ?_
  refine Out.next ?_
  refine WPc.ret ?_
  exact Out.ret2 (L' := _) Tryd.results41 rfl rfl ⟨u, rfl, rfl⟩ (fun _ h => h)

set_option maxRecDepth 100000 in
set_option maxHeartbeats 1000000 in
theorem marshal_none (rb tb cc : Nat) (ty su : Int) : Does Tryd.prog 41 [.iface 55 (.pointer (some ⟨rb, 0, none⟩))] [Blk rb [.pointer (some ⟨tb, 0, none⟩), .pointer (some ⟨cc, 0, none⟩), .slice none 0 0] 59, Blk tb [.int .i64 (ty)] 2, Blk cc [.int .u32 (su)] 22] (fun v L => ∃ u, v = .tuple #[u, .nilIface] ∧ L = [Own 5 1 u ((rbody ty su none : List UInt8).length) (byt (rbody ty su none)), Blk rb [.pointer (some ⟨tb, 0, none⟩), .pointer (some ⟨cc, 0, none⟩), .slice none 0 0] 59, Blk tb [.int .i64 (ty)] 2, Blk cc [.int .u32 (su)] 22]) := by
  refine Does.enter 6 Tryd.func41 rfl rfl rfl fun W F => ?_
  show WPc _ _ _ _ _ [(0, .iface 55 (.pointer (some ⟨rb, 0, none⟩)))] (Blk rb [.pointer (some ⟨tb, 0, none⟩), .pointer (some ⟨cc, 0, none⟩), .slice none 0 0] 59 :: Blk tb [.int .i64 (ty)] 2 :: Blk cc [.int .u32 (su)] 22 :: F)
  refine WPc.seq ?_
  refine WPc.region ?_
  refine WP.val rfl rfl rfl (Val.assign rfl rfl) ?_
  refine WP.val rfl rfl rfl (Val.assign rfl rfl) ?_
  refine WP.nil ?_
  refine Out.next ?_
  refine WPc.seq ?_
  refine WPc.region ?_
  refine WP.val rfl rfl rfl (Val.move rfl rfl) ?_
  refine WP.perm pl2 ?_
  refine WP.perm pl2 ?_
  refine WP.perm pl2 ?_
  refine WP.eff rfl rfl rfl (Eff.invoke (f := 64) rfl rfl rfl (fun _ => by kernel_rfl) Tryd.call64 (fields_none rb tb cc ty su)) ?_
  rintro u _ ⟨_, rfl, rfl⟩
  show WP _ _ _ _ _ _ _ (Own 5 1 u ((rbody ty su none : List UInt8).length) (byt (rbody ty su none)) :: Blk rb [.pointer (some ⟨tb, 0, none⟩), .pointer (some ⟨cc, 0, none⟩), .slice none 0 0] 59 :: Blk tb [.int .i64 (ty)] 2 :: Blk cc [.int .u32 (su)] 22 :: F)
  refine WP.val rfl rfl rfl (Val.assign rfl rfl) ?_
  refine WP.val rfl rfl rfl (Val.assign rfl rfl) ?_
  refine WP.nil ?_
  refine Out.next ?_
  refine WPc.ret ?_
  exact Out.ret2 (L' := _) Tryd.results41 rfl rfl ⟨u, rfl, rfl⟩ (fun _ h => h)


end Go.Proofs.YthicijpjpijdjaaDoor.We
