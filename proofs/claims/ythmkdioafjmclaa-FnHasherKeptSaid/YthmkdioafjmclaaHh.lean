import Derived.Test.YthmkdioafjmclaaHs
namespace Go.Proofs.Ythmkdioafjmclaa.Hh
open Go.RowKit Go.Proofs.Ythmkdioafjmclaa Go.Proofs.Ythmkdioafjmclaa.Sl Go.Proofs.Ythmkdioafjmclaa.Hc Go.Proofs.Ythmkdioafjmclaa.Hp Go.Proofs.Ythmkdioafjmclaa.Hm Go.Proofs.Ythmkdioafjmclaa.Hb Go.Proofs.Ythmkdioafjmclaa.Hk Go.Proofs.Ythmkdioafjmclaa.Hr Go.Proofs.Ythmkdioafjmclaa.Hy Go.Proofs.Ythmkdioafjmclaa.Hn Go.Proofs.Ythmkdioafjmclaa.Hw Go.Proofs.Ythmkdioafjmclaa.Hl Go.Proofs.Ythmkdioafjmclaa.Hz Go.Proofs.Ythmkdioafjmclaa.Ho Go.Proofs.Ythmkdioafjmclaa.Hx Go.Proofs.Ythmkdioafjmclaa.Hs
set_option linter.unusedVariables false
set_option linter.unusedSimpArgs false
set_option linter.unusedSectionVars false


theorem bv_at {bs : List BV} {zl : List ZR} {f : ZR → List UInt8} {j : Nat} {z : ZR} (h : bs.map BV.d = zl.map f) (hz : zl[j]? = some z) : ∃ y, bs[j]? = some y ∧ y.d = f z := by
  have h1 : (bs.map BV.d)[j]? = some (f z) := by rw [h, List.getElem?_map, hz]; rfl
  rw [List.getElem?_map] at h1
  cases hy : bs[j]? with
  | none => rw [hy] at h1; cases h1
  | some y => rw [hy] at h1; exact ⟨y, rfl, by simpa using h1⟩
theorem marsh_len {x : KVr} (h1 : x.k.length ≤ 100) (h2 : x.v.length ≤ 100) : (marsh x).length ≤ 100000 := by
  have a1 := pint_len 2 x.create; have a2 := pint_len 3 x.mod; have a3 := pint_len 4 x.ver; have a4 := pint_len 6 x.lease
  have b1 := pbytes_len 1 x.k; have b2 := pbytes_len 5 x.v
  unfold marsh
  split <;> split <;> simp <;> omega
theorem keep_snoc (l : List Rv) (x : Rv) : keepOf (l ++ [x]) = kput (keepOf l) (rk x.m x.s) := by simp [keepOf]
theorem sum_snoc (c r : Int) (S : List Value) : ∀ (l : List Rw) (x : Rw) (u : Int), sumOf c r S (l ++ [x]) u = wkv c r S (sumOf c r S l u) (bkey x.m x.s x.gone) x.m x.s x.gone (marsh x.kv)
  | [], x, u => rfl
  | y :: l, x, u => by
    simp only [List.cons_append, sumOf]
    exact sum_snoc c r S l x _
set_option maxRecDepth 100000 in
set_option maxHeartbeats 1000000 in
theorem zzhash_spec (A B : HProp) (c r : Int) (rl : List Rv) (va : Value) (hra : Rd A 2 Rv.cells va rl) (zl : List ZR) (vb : Value) (hrb : Rd B 4 ZR.cells vb zl) (hc1 : -1 ≤ c) (hc2 : c < 4611686018427387904) (hr1 : 0 ≤ r) (hr2 : r < 4611686018427387904) (hzw : ∀ z ∈ zl, 0 ≤ z.x.m ∧ z.x.m < 9223372036854775808 ∧ 0 ≤ z.x.s ∧ z.x.s < 9223372036854775808 ∧ (Lit.int .i64 z.x.m).wf = true ∧ (Lit.int .i64 z.x.s).wf = true) (hrl : rl.length ≤ 100000) (hzl : zl.length ≤ 100000) (hsz : ∀ z ∈ zl, z.x.kv.k.length ≤ 100 ∧ z.x.kv.v.length ≤ 100) (hwf : ∀ x ∈ rl, (Lit.int .i64 x.m).wf = true ∧ (Lit.int .i64 x.s).wf = true) : Does Try.prog 49 [.int .i64 (c), .int .i64 (r), va, vb] [A, B, AllP KvZ zl] (fun v L => v = .int .u32 (hashOf c r rl (zl.map ZR.x)) ∧ L = []) := by
  refine Does.enter 53 Try.func49 rfl rfl rfl fun W F => ?_
  show WPc _ _ _ _ _ [(0, .int .i64 (c)), (1, .int .i64 (r)), (2, va), (3, vb)] (A :: B :: AllP KvZ zl :: F)
  refine WPc.seq ?_
  refine WPc.region ?_
  refine WP.val rfl rfl rfl (Val.assign rfl rfl) ?_
  refine WP.nil ?_
  refine Out.next ?_
  refine WPc.seq ?_
  refine WPc.region ?_
  refine WP.eff rfl rfl rfl (Eff.ksMake 144 (.agg #[]) rfl) ?_
  rintro _ _ ⟨b1, rfl, rfl⟩
  refine WP.val rfl rfl rfl (Val.assign rfl rfl) ?_
  refine WP.nil ?_
  refine Out.next ?_
  refine WPc.seq ?_
  refine WPc.seq ?_
  rcases hra with ⟨b0, o0, c0, rfl, hr⟩ | ⟨hnil, a0, c0, rfl⟩
  · skip
    refine WPc.region ?_
    refine WP.val rfl rfl rfl (Val.move rfl rfl) ?_
    refine WP.val rfl rfl rfl (Val.len rfl Ty.sl111 rfl) ?_
    refine WP.val rfl rfl rfl (Val.move rfl rfl) ?_
    refine WP.nil ?_
    refine Out.next ?_
    refine WPc.block ?_
    refine WPc.loop (ι := Nat) (fun i => i ≤ rl.length) (fun i => [(0, .int .i64 (c)), (1, .int .i64 (r)), (3, vb), (9, .map (some b1)), (17, .slice (some ⟨b0, o0, none⟩) rl.length c0), (18, .int .i64 (((rl.length : Nat) : Int))), (19, .int .i64 (((i : Nat) : Int)))]) (fun i => KSet Try.prog b1 144 (.agg #[]) ((keepOf (rl.take i))) :: A :: B :: AllP KvZ zl :: F) (fun i => rl.length - i) 0 (Nat.zero_le _) ((Sub.cons rfl (Sub.cons rfl (Sub.cons rfl (Sub.cons rfl (Sub.cons rfl (Sub.cons rfl (Sub.cons rfl Sub.nil)))))))) (fun _ h => h) ?_
    rintro i hi
    show WPc _ _ _ _ _ [(0, .int .i64 (c)), (1, .int .i64 (r)), (3, vb), (9, .map (some b1)), (17, .slice (some ⟨b0, o0, none⟩) rl.length c0), (18, .int .i64 (((rl.length : Nat) : Int))), (19, .int .i64 (((i : Nat) : Int)))] (KSet Try.prog b1 144 (.agg #[]) ((keepOf (rl.take i))) :: A :: B :: AllP KvZ zl :: F)
    replace hi : i ≤ rl.length := hi
    refine WPc.seq ?_
    refine WPc.region ?_
    refine WP.val rfl rfl rfl (Val.lss rfl rfl rfl) ?_
    refine WP.nil ?_
    refine Out.next ?_
    refine WPc.seq ?_
    refine WPc.ifP rfl (fun h1 => ?_) (fun h1 => ?_)
    · skip
      have h1 : (((i : Nat) : Int) < ((rl.length : Nat) : Int)) := h1
      refine WPc.skip ?_
      refine Out.next ?_
      refine WPc.seq ?_
      refine WPc.block ?_
      refine WPc.seq ?_
      have hlt : i < rl.length := by omega
      obtain ⟨x, hx⟩ : ∃ x, rl[i]? = some x := ⟨_, List.getElem?_eq_getElem hlt⟩
      have hxw := hwf x (List.mem_of_getElem? hx)
      obtain ⟨lk, hkey⟩ := rev_key hxw.1 hxw.2
      refine WPc.region ?_
      refine WP.val rfl rfl rfl (Val.indexAddr (j := i) (q := o0 + i * 2) rfl Ty.sl111 rfl rfl (by omega) (by omega) (by omega)) ?_
      refine WP.val rfl rfl rfl (Val.loadAgg (cs := [.int .i64 (x.m), .int .i64 (x.s)]) rfl Ty.ag144 rfl (by rfl) (fun w h => hr w (h.at 1 rfl) i x hx)) ?_
      refine WP.eff rfl rfl rfl (Eff.alloc rfl Ty.z144) ?_
      rintro _ _ ⟨b2, rfl, rfl⟩
      refine WP.eff0 rfl rfl (Eff.storeAgg (cs := [.int .i64 (x.m), .int .i64 (x.s)]) (C' := [.int .i64 (x.m), .int .i64 (x.s)]) rfl Ty.ag144 rfl rfl rfl rfl (by simp) rfl) ?_
      rintro _ _ rfl
      refine WP.nil ?_
      refine Out.next ?_
      refine WPc.region ?_
      refine WP.val rfl rfl rfl (Val.move rfl rfl) ?_
      refine WP.val rfl rfl rfl (Val.loadAgg (cs := [.int .i64 (x.m), .int .i64 (x.s)]) rfl Ty.ag144 rfl rfl (fun w h => h.range 0 rfl rfl)) ?_
      refine WP.val rfl rfl rfl (Val.mk (cs := []) rfl rfl (fun _ => by kernel_rfl)) ?_
      refine WP.perm pl1 ?_
      refine WP.eff0 rfl rfl (Eff.ksPut Ty3.ky144 rfl Ty3.mk143 rfl rfl rfl hkey) ?_
      rintro _ _ rfl
      refine WP.nil ?_
      refine Out.block ?_
      refine Out.next ?_
      refine WPc.region ?_
      refine WP.val rfl rfl rfl (Val.add (z := ((i + 1 : Nat) : Int)) rfl rfl rfl ((w64 (by omega) (by omega)).trans (by omega))) ?_
      refine WP.val rfl rfl rfl (Val.move rfl rfl) ?_
      refine WP.nil ?_
      refine Out.perm pl1 ?_
      refine Out.drop ?_
      refine Out.again (i + 1) ?_ ?_ ?_ ?_
      · exact (by first | omega | (dsimp only; omega))
      · first | omega | (dsimp only; omega)
      · exact (Sub.cons rfl (Sub.cons rfl (Sub.cons rfl (Sub.cons rfl (Sub.cons rfl (Sub.cons rfl (Sub.cons rfl Sub.nil)))))))
      · exact (fun w h => by rw [take_more hx, keep_snoc]; exact h)
    · skip
      have h1 : ¬ (((i : Nat) : Int) < ((rl.length : Nat) : Int)) := h1
      refine WPc.exit ?_
      refine Out.then_exit ?_
      refine Out.then_exit ?_
      refine Out.block_exit ?_
      refine Out.next ?_
      refine WPc.seq ?_
      refine WPc.region ?_
      refine WP.val rfl rfl rfl (Val.move rfl rfl) ?_
      refine WP.val rfl rfl rfl (Val.move rfl rfl) ?_
      refine WP.val rfl rfl rfl (Val.move rfl rfl) ?_
      refine WP.eff rfl rfl rfl (Eff.call rfl rfl Try.call65 (newhasher_spec c r b1)) ?_
      rintro _ _ ⟨_, ⟨cb, rfl, rfl⟩, rfl⟩
      show WP _ _ _ _ _ _ _ (Blk cb [.int .u32 ((crcWrite 0 keyN))] 227 :: KSet Try.prog b1 144 (.agg #[]) ((keepOf (rl.take i))) :: A :: B :: AllP KvZ zl :: F)
      refine WP.eff rfl rfl rfl (Eff.alloc rfl Ty.z148) ?_
      rintro _ _ ⟨b3, rfl, rfl⟩
      refine WP.eff0 rfl rfl (Eff.storeAgg (cs := [.pointer (some ⟨cb, 0, none⟩), .int .i64 (c), .int .i64 (r), .map (some b1)]) (C' := [.pointer (some ⟨cb, 0, none⟩), .int .i64 (c), .int .i64 (r), .map (some b1)]) rfl Ty.ag148 rfl rfl rfl rfl (by simp) rfl) ?_
      rintro _ _ rfl
      refine WP.nil ?_
      refine Out.next ?_
      refine WPc.seq ?_
      refine WPc.region ?_
      refine WP.val rfl rfl rfl (Val.move rfl rfl) ?_
      refine WP.perm pl4 ?_
      refine WP.perm pl5 ?_
      refine WP.eff rfl rfl rfl (Eff.call rfl rfl Try.call66 (zz_spec B zl hzl hsz vb hrb)) ?_
      rintro _ _ ⟨_, ⟨bs1, bs2, v1, v2, hb1, hb2, rfl, rfl⟩, rfl⟩
      show WP _ _ _ _ _ _ _ (Own 86 1 v1 zl.length (flatOf BV.cells bs1) :: AllP BvZ bs1 :: Own 86 1 v2 zl.length (flatOf BV.cells bs2) :: AllP BvZ bs2 :: B :: Blk b3 [.pointer (some ⟨cb, 0, none⟩), .int .i64 (c), .int .i64 (r), .map (some b1)] 148 :: Blk cb [.int .u32 ((crcWrite 0 keyN))] 227 :: KSet Try.prog b1 144 (.agg #[]) ((keepOf (rl.take i))) :: A :: F)
      refine WP.val rfl rfl rfl (Val.move rfl rfl) ?_
      refine WP.val rfl rfl rfl (Val.extract rfl rfl rfl) ?_
      refine WP.val rfl rfl rfl (Val.extract rfl rfl rfl) ?_
      refine WP.val rfl rfl rfl (Val.assign rfl rfl) ?_
      refine WP.val rfl rfl rfl (Val.assign rfl rfl) ?_
      refine WP.nil ?_
      refine Out.next ?_
      refine WPc.seq ?_
      refine WPc.seq ?_
      refine WPc.conv (fun w h => h.seqMk) ?_
      show WPc _ _ _ _ _ _ (Seq v1 zl.length (flatOf BV.cells bs1) :: AllP BvZ bs1 :: Own 86 1 v2 zl.length (flatOf BV.cells bs2) :: AllP BvZ bs2 :: B :: Blk b3 [.pointer (some ⟨cb, 0, none⟩), .int .i64 (c), .int .i64 (r), .map (some b1)] 148 :: Blk cb [.int .u32 ((crcWrite 0 keyN))] 227 :: KSet Try.prog b1 144 (.agg #[]) ((keepOf (rl.take i))) :: A :: F)
      refine WPc.perm pl2 ?_
      refine WPc.conv (fun w h => h.seqMk) ?_
      show WPc _ _ _ _ _ _ (Seq v2 zl.length (flatOf BV.cells bs2) :: Seq v1 zl.length (flatOf BV.cells bs1) :: AllP BvZ bs1 :: AllP BvZ bs2 :: B :: Blk b3 [.pointer (some ⟨cb, 0, none⟩), .int .i64 (c), .int .i64 (r), .map (some b1)] 148 :: Blk cb [.int .u32 ((crcWrite 0 keyN))] 227 :: KSet Try.prog b1 144 (.agg #[]) ((keepOf (rl.take i))) :: A :: F)
      refine WPc.region ?_
      refine WP.val rfl rfl rfl (Val.move rfl rfl) ?_
      refine WP.val rfl rfl rfl (Val.lenSeq rfl Ty.sl150 rfl (fun w h => h.at 1 rfl)) ?_
      refine WP.val rfl rfl rfl (Val.move rfl rfl) ?_
      refine WP.nil ?_
      refine Out.next ?_
      refine WPc.block ?_
      refine WPc.perm pl4 ?_
      refine WPc.drop ?_
      refine WPc.perm pl7 ?_
      refine WPc.drop ?_
      refine WPc.perm pl3 ?_
      refine WPc.perm pl1 ?_
      refine WPc.perm pl3 ?_
      refine WPc.perm pl3 ?_
      refine WPc.perm pl6 ?_
      refine WPc.perm pl6 ?_
      refine WPc.perm pl6 ?_
      refine WPc.loop (ι := Nat) (fun j => j ≤ zl.length) (fun j => [(12, .pointer (some ⟨b3, 0, none⟩)), (13, v1), (14, v2), (36, v1), (37, .int .i64 (((zl.length : Nat) : Int))), (38, .int .i64 (((j : Nat) : Int)))]) (fun j => Blk b3 [.pointer (some ⟨cb, 0, none⟩), .int .i64 (c), .int .i64 (r), .map (some b1)] 148 :: Blk cb [.int .u32 ((sumOf c r (keepOf (rl)) ((zl.map ZR.x).take j) (crcWrite 0 keyN)))] 227 :: KSet Try.prog b1 144 (.agg #[]) ((keepOf (rl))) :: Seq v1 zl.length (flatOf BV.cells bs1) :: AllP BvZ bs1 :: Seq v2 zl.length (flatOf BV.cells bs2) :: AllP BvZ bs2 :: F) (fun j => zl.length - j) 0 (Nat.zero_le _) ((Sub.cons rfl (Sub.cons rfl (Sub.cons rfl (Sub.cons rfl (Sub.cons rfl (Sub.cons rfl Sub.nil))))))) (fun w h => by rw [show rl.take i = rl from List.take_of_length_le (by first | omega | (simp [hnil]))] at h; exact h) ?_
      rintro j hj
      show WPc _ _ _ _ _ [(12, .pointer (some ⟨b3, 0, none⟩)), (13, v1), (14, v2), (36, v1), (37, .int .i64 (((zl.length : Nat) : Int))), (38, .int .i64 (((j : Nat) : Int)))] (Blk b3 [.pointer (some ⟨cb, 0, none⟩), .int .i64 (c), .int .i64 (r), .map (some b1)] 148 :: Blk cb [.int .u32 ((sumOf c r (keepOf (rl)) ((zl.map ZR.x).take j) (crcWrite 0 keyN)))] 227 :: KSet Try.prog b1 144 (.agg #[]) ((keepOf (rl))) :: Seq v1 zl.length (flatOf BV.cells bs1) :: AllP BvZ bs1 :: Seq v2 zl.length (flatOf BV.cells bs2) :: AllP BvZ bs2 :: F)
      replace hj : j ≤ zl.length := hj
      refine WPc.seq ?_
      refine WPc.region ?_
      refine WP.val rfl rfl rfl (Val.lss rfl rfl rfl) ?_
      refine WP.nil ?_
      refine Out.next ?_
      refine WPc.seq ?_
      refine WPc.ifP rfl (fun h2 => ?_) (fun h2 => ?_)
      · skip
        have h2 : (((j : Nat) : Int) < ((zl.length : Nat) : Int)) := h2
        refine WPc.skip ?_
        refine Out.next ?_
        refine WPc.seq ?_
        refine WPc.block ?_
        refine WPc.seq ?_
        refine WPc.region ?_
        refine WP.val rfl rfl rfl (Val.move rfl rfl) ?_
        refine WP.val rfl rfl rfl (Val.assign rfl rfl) ?_
        refine WP.nil ?_
        refine Out.next ?_
        obtain ⟨z, hz⟩ : ∃ z, zl[j]? = some z := ⟨_, List.getElem?_eq_getElem (by omega)⟩
        have hzx : (zl.map ZR.x)[j]? = some z.x := by rw [List.getElem?_map, hz]; rfl
        obtain ⟨y1, hy1, hd1⟩ := bv_at (f := fun z : ZR => bkey z.x.m z.x.s z.x.gone) hb1 hz
        obtain ⟨y2, hy2, hd2⟩ := bv_at (f := fun z : ZR => marsh z.x.kv) hb2 hz
        have hzr := hzw z (List.mem_of_getElem? hz)
        have hzk := hsz z (List.mem_of_getElem? hz)
        have hk18 : y1.d.length ≤ 18 ∧ 17 ≤ y1.d.length := by rw [hd1, bkey_len]; split <;> omega
        have hv300 : y2.d.length ≤ 100000 := by rw [hd2]; exact marsh_len hzk.1 hzk.2
        refine WPc.perm pl3 ?_
        refine WPc.open (fun w h => h.seqOpen (by omega)) ?_
        rintro ⟨g4, cg4, spg4, Tg4⟩
        refine WPc.pure (fun hvg4 => ?_)
        refine WPc.know 13 (.slice (some ⟨g4, 0, none⟩) zl.length cg4) rfl hvg4.1 ?_
        refine WPc.know 36 (.slice (some ⟨g4, 0, none⟩) zl.length cg4) rfl hvg4.1 ?_
        show WPc _ _ _ _ _ _ (Ro (Blk g4 (flatOf BV.cells bs1 ++ spg4) Tg4) :: Seq v1 zl.length (flatOf BV.cells bs1) :: Blk b3 [.pointer (some ⟨cb, 0, none⟩), .int .i64 (c), .int .i64 (r), .map (some b1)] 148 :: Blk cb [.int .u32 ((sumOf c r (keepOf (rl)) ((zl.map ZR.x).take j) (crcWrite 0 keyN)))] 227 :: KSet Try.prog b1 144 (.agg #[]) ((keepOf (rl))) :: AllP BvZ bs1 :: Seq v2 zl.length (flatOf BV.cells bs2) :: AllP BvZ bs2 :: F)
        refine WPc.perm pl6 ?_
        refine WPc.open (fun w h => h.seqOpen (by omega)) ?_
        rintro ⟨g5, cg5, spg5, Tg5⟩
        refine WPc.pure (fun hvg5 => ?_)
        refine WPc.know 14 (.slice (some ⟨g5, 0, none⟩) zl.length cg5) rfl hvg5.1 ?_
        show WPc _ _ _ _ _ _ (Ro (Blk g5 (flatOf BV.cells bs2 ++ spg5) Tg5) :: Seq v2 zl.length (flatOf BV.cells bs2) :: Ro (Blk g4 (flatOf BV.cells bs1 ++ spg4) Tg4) :: Seq v1 zl.length (flatOf BV.cells bs1) :: Blk b3 [.pointer (some ⟨cb, 0, none⟩), .int .i64 (c), .int .i64 (r), .map (some b1)] 148 :: Blk cb [.int .u32 ((sumOf c r (keepOf (rl)) ((zl.map ZR.x).take j) (crcWrite 0 keyN)))] 227 :: KSet Try.prog b1 144 (.agg #[]) ((keepOf (rl))) :: AllP BvZ bs1 :: AllP BvZ bs2 :: F)
        refine WPc.perm pl7 ?_
        refine WPc.conv (fun w h => h.allGet (f := BvZ) (x := y1) (List.mem_of_getElem? hy1)) ?_
        show WPc _ _ _ _ _ _ (Seq y1.v y1.d.length (byt y1.d) :: AllP BvZ bs1 :: Ro (Blk g5 (flatOf BV.cells bs2 ++ spg5) Tg5) :: Seq v2 zl.length (flatOf BV.cells bs2) :: Ro (Blk g4 (flatOf BV.cells bs1 ++ spg4) Tg4) :: Seq v1 zl.length (flatOf BV.cells bs1) :: Blk b3 [.pointer (some ⟨cb, 0, none⟩), .int .i64 (c), .int .i64 (r), .map (some b1)] 148 :: Blk cb [.int .u32 ((sumOf c r (keepOf (rl)) ((zl.map ZR.x).take j) (crcWrite 0 keyN)))] 227 :: KSet Try.prog b1 144 (.agg #[]) ((keepOf (rl))) :: AllP BvZ bs2 :: F)
        refine WPc.perm pl9 ?_
        refine WPc.conv (fun w h => h.allGet (f := BvZ) (x := y2) (List.mem_of_getElem? hy2)) ?_
        show WPc _ _ _ _ _ _ (Seq y2.v y2.d.length (byt y2.d) :: AllP BvZ bs2 :: Seq y1.v y1.d.length (byt y1.d) :: AllP BvZ bs1 :: Ro (Blk g5 (flatOf BV.cells bs2 ++ spg5) Tg5) :: Seq v2 zl.length (flatOf BV.cells bs2) :: Ro (Blk g4 (flatOf BV.cells bs1 ++ spg4) Tg4) :: Seq v1 zl.length (flatOf BV.cells bs1) :: Blk b3 [.pointer (some ⟨cb, 0, none⟩), .int .i64 (c), .int .i64 (r), .map (some b1)] 148 :: Blk cb [.int .u32 ((sumOf c r (keepOf (rl)) ((zl.map ZR.x).take j) (crcWrite 0 keyN)))] 227 :: KSet Try.prog b1 144 (.agg #[]) ((keepOf (rl))) :: F)
        refine WPc.perm pl2 ?_
        refine WPc.open (fun w h => h.seqOpen (by omega)) ?_
        rintro ⟨g6, cg6, spg6, Tg6⟩
        refine WPc.pure (fun hvg6 => ?_)
        show WPc _ _ _ _ _ _ (Ro (Blk g6 (byt y1.d ++ spg6) Tg6) :: Seq y1.v y1.d.length (byt y1.d) :: Seq y2.v y2.d.length (byt y2.d) :: AllP BvZ bs2 :: AllP BvZ bs1 :: Ro (Blk g5 (flatOf BV.cells bs2 ++ spg5) Tg5) :: Seq v2 zl.length (flatOf BV.cells bs2) :: Ro (Blk g4 (flatOf BV.cells bs1 ++ spg4) Tg4) :: Seq v1 zl.length (flatOf BV.cells bs1) :: Blk b3 [.pointer (some ⟨cb, 0, none⟩), .int .i64 (c), .int .i64 (r), .map (some b1)] 148 :: Blk cb [.int .u32 ((sumOf c r (keepOf (rl)) ((zl.map ZR.x).take j) (crcWrite 0 keyN)))] 227 :: KSet Try.prog b1 144 (.agg #[]) ((keepOf (rl))) :: F)
        refine WPc.perm pl2 ?_
        refine WPc.open (fun w h => seq_rd h) ?_
        rintro B2
        refine WPc.pure (fun hvv => ?_)
        show WPc _ _ _ _ _ _ (B2 :: Ro (Blk g6 (byt y1.d ++ spg6) Tg6) :: Seq y1.v y1.d.length (byt y1.d) :: AllP BvZ bs2 :: AllP BvZ bs1 :: Ro (Blk g5 (flatOf BV.cells bs2 ++ spg5) Tg5) :: Seq v2 zl.length (flatOf BV.cells bs2) :: Ro (Blk g4 (flatOf BV.cells bs1 ++ spg4) Tg4) :: Seq v1 zl.length (flatOf BV.cells bs1) :: Blk b3 [.pointer (some ⟨cb, 0, none⟩), .int .i64 (c), .int .i64 (r), .map (some b1)] 148 :: Blk cb [.int .u32 ((sumOf c r (keepOf (rl)) ((zl.map ZR.x).take j) (crcWrite 0 keyN)))] 227 :: KSet Try.prog b1 144 (.agg #[]) ((keepOf (rl))) :: F)
        refine WPD.start (Sat W (B2 :: Ro (Blk g6 (byt y1.d ++ spg6) Tg6) :: Seq y1.v y1.d.length (byt y1.d) :: AllP BvZ bs2 :: AllP BvZ bs1 :: Ro (Blk g5 (flatOf BV.cells bs2 ++ spg5) Tg5) :: Seq v2 zl.length (flatOf BV.cells bs2) :: Ro (Blk g4 (flatOf BV.cells bs1 ++ spg4) Tg4) :: Seq v1 zl.length (flatOf BV.cells bs1) :: Blk b3 [.pointer (some ⟨cb, 0, none⟩), .int .i64 (c), .int .i64 (r), .map (some b1)] 148 :: Blk cb [.int .u32 ((sumOf c r (keepOf (rl)) ((zl.map ZR.x).take j) (crcWrite 0 keyN)))] 227 :: KSet Try.prog b1 144 (.agg #[]) ((keepOf (rl))) :: F)) Ty.mixed ?_
        refine WPD.takeM 0 rfl rfl rfl rfl (by kernel_rfl) (by kernel_rfl) (by kernel_rfl) (by kernel_rfl) (fun _ _ _ h => h) (fun _ h => h) (Val.move rfl rfl) ?_
        refine WPD.takeM 1 rfl rfl rfl rfl (by kernel_rfl) (by kernel_rfl) (by kernel_rfl) (by kernel_rfl) (fun _ _ _ h => h) (fun _ h => h) (Val.move rfl rfl) ?_
        refine WPD.takeM 2 rfl rfl rfl rfl (by kernel_rfl) (by kernel_rfl) (by kernel_rfl) (by kernel_rfl) (fun _ _ _ h => h) (fun _ h => h) (Val.indexAddr (j := j) (q := j) rfl Ty.sl150 rfl rfl (by omega) (by omega) (by omega)) ?_
        refine WPD.take 3 rfl rfl rfl rfl (by kernel_rfl) (by kernel_rfl) (by kernel_rfl) (by kernel_rfl) (fun _ _ _ h => h) (by kernel_rfl) (fun _ h => h) (Val.load (v := .slice (some ⟨g6, 0, none⟩) y1.d.length cg6) rfl Ty.sc86 rfl (fun w h => h.cellRo 7 rfl (by rw [List.getElem?_append_left (by have := (List.getElem?_eq_some_iff.1 hy1).1; simpa [flatOf_length BV.len] using this)]; have h2 := flatOf_at BV.len bs1 j 0 y1 hy1 (by omega); rw [Nat.mul_one, Nat.add_zero] at h2; rw [h2, ← hvg6.1]; rfl))) ?_
        refine WPD.takeM 4 rfl rfl rfl rfl (by kernel_rfl) (by kernel_rfl) (by kernel_rfl) (by kernel_rfl) (fun _ _ _ h => h) (fun _ h => h) (Val.move rfl rfl) ?_
        refine WPD.takeM 5 rfl rfl rfl rfl (by kernel_rfl) (by kernel_rfl) (by kernel_rfl) (by kernel_rfl) (fun _ _ _ h => h) (fun _ h => h) (Val.move rfl rfl) ?_
        refine WPD.takeM 6 rfl rfl rfl rfl (by kernel_rfl) (by kernel_rfl) (by kernel_rfl) (by kernel_rfl) (fun _ _ _ h => h) (fun _ h => h) (Val.indexAddr (j := j) (q := j) rfl Ty.sl150 rfl rfl (by omega) (by omega) (by omega)) ?_
        refine WPD.take 7 rfl rfl rfl rfl (by kernel_rfl) (by kernel_rfl) (by kernel_rfl) (by kernel_rfl) (fun _ _ _ h => h) (by kernel_rfl) (fun _ h => h) (Val.load (v := y2.v) rfl Ty.sc86 rfl (fun w h => h.cellRo 5 rfl (by rw [List.getElem?_append_left (by have := (List.getElem?_eq_some_iff.1 hy2).1; simpa [flatOf_length BV.len] using this)]; have h2 := flatOf_at BV.len bs2 j 0 y2 hy2 (by omega); rw [Nat.mul_one, Nat.add_zero] at h2; rw [h2]; rfl))) ?_
        refine WPD.perm pl1 ?_
        refine WPD.perm pl11 ?_
        refine WPD.perm pl11 ?_
        refine WPD.perm pl11 ?_
        refine WPD.stepC 8 (by kernel_rfl) rfl rfl rfl rfl (by kernel_rfl) (Eff.call rfl rfl Try.call67 (wkv_spec (Ro (Blk g6 (byt y1.d ++ spg6) Tg6)) g6 0 cg6 y1.d z.x.m z.x.s z.x.gone ro_pre (by have h9 := hvg6.2; first | exact h9 | exact h9.1) (by rw [hd1]; exact bkey_is hzr.1 hzr.2.1 hzr.2.2.1 hzr.2.2.2.1) b3 cb b1 c r (sumOf c r (keepOf (rl)) ((zl.map ZR.x).take j) (crcWrite 0 keyN)) (keepOf (rl)) B2 y2.v y2.d hvv (by omega) hv300 hc1 hc2 hr1 hr2 hzr.2.2.2.2.1 hzr.2.2.2.2.2)) ?_
        rintro _ _ ⟨_, ⟨rfl, rfl⟩, rfl⟩
        refine ⟨(Sat W (Blk b3 [.pointer (some ⟨cb, 0, none⟩), .int .i64 (c), .int .i64 (r), .map (some b1)] 148 :: Blk cb [.int .u32 ((wkv c r (keepOf (rl)) (sumOf c r (keepOf (rl)) ((zl.map ZR.x).take j) (crcWrite 0 keyN)) y1.d z.x.m z.x.s z.x.gone y2.d))] 227 :: KSet Try.prog b1 144 (.agg #[]) ((keepOf (rl))) :: Ro (Blk g6 (byt y1.d ++ spg6) Tg6) :: B2 :: Seq y1.v y1.d.length (byt y1.d) :: AllP BvZ bs2 :: AllP BvZ bs1 :: Ro (Blk g5 (flatOf BV.cells bs2 ++ spg5) Tg5) :: Seq v2 zl.length (flatOf BV.cells bs2) :: Ro (Blk g4 (flatOf BV.cells bs1 ++ spg4) Tg4) :: Seq v1 zl.length (flatOf BV.cells bs1) :: F)), (fun _ h => h), ?_⟩
        show WPD _ _ _ _ _ _ _ _ _ (Blk b3 [.pointer (some ⟨cb, 0, none⟩), .int .i64 (c), .int .i64 (r), .map (some b1)] 148 :: Blk cb [.int .u32 ((wkv c r (keepOf (rl)) (sumOf c r (keepOf (rl)) ((zl.map ZR.x).take j) (crcWrite 0 keyN)) y1.d z.x.m z.x.s z.x.gone y2.d))] 227 :: KSet Try.prog b1 144 (.agg #[]) ((keepOf (rl))) :: Ro (Blk g6 (byt y1.d ++ spg6) Tg6) :: B2 :: Seq y1.v y1.d.length (byt y1.d) :: AllP BvZ bs2 :: AllP BvZ bs1 :: Ro (Blk g5 (flatOf BV.cells bs2 ++ spg5) Tg5) :: Seq v2 zl.length (flatOf BV.cells bs2) :: Ro (Blk g4 (flatOf BV.cells bs1 ++ spg4) Tg4) :: Seq v1 zl.length (flatOf BV.cells bs1) :: F)
        refine WPD.done (by kernel_rfl) ?_
        refine Out.block ?_
        refine Out.next ?_
        refine WPc.region ?_
        refine WP.val rfl rfl rfl (Val.add (z := ((j + 1 : Nat) : Int)) rfl rfl rfl ((w64 (by omega) (by omega)).trans (by omega))) ?_
        refine WP.val rfl rfl rfl (Val.move rfl rfl) ?_
        refine WP.nil ?_
        refine Out.perm pl3 ?_
        refine Out.drop ?_
        refine Out.perm pl3 ?_
        refine Out.drop ?_
        refine Out.perm pl3 ?_
        refine Out.drop ?_
        refine Out.perm pl5 ?_
        refine Out.drop ?_
        refine Out.perm pl6 ?_
        refine Out.drop ?_
        refine Out.perm pl3 ?_
        refine Out.perm pl5 ?_
        refine Out.perm pl5 ?_
        refine Out.perm pl6 ?_
        refine Out.perm pl6 ?_
        refine Out.perm pl6 ?_
        refine Out.perm pl6 ?_
        refine Out.again (j + 1) ?_ ?_ ?_ ?_
        · exact (by first | omega | (dsimp only; omega))
        · first | omega | (dsimp only; omega)
        · exact (Sub.cons rfl (Sub.cons (congrArg some (hvg4.1).symm) (Sub.cons (congrArg some (hvg5.1).symm) (Sub.cons (congrArg some (hvg4.1).symm) (Sub.cons rfl (Sub.cons rfl Sub.nil))))))
        · exact (fun w h => by rw [take_more hzx, sum_snoc, ← hd1, ← hd2]; exact h)
      · skip
        have h2 : ¬ (((j : Nat) : Int) < ((zl.length : Nat) : Int)) := h2
        refine WPc.exit ?_
        refine Out.then_exit ?_
        refine Out.then_exit ?_
        refine Out.block_exit ?_
        refine Out.next ?_
        refine WPc.seq ?_
        refine WPc.region ?_
        refine WP.perm pl1 ?_
        refine WP.perm pl1 ?_
        refine WP.eff rfl rfl rfl (Eff.call rfl rfl Try.call68 (hash_spec b3 cb b1 c r (sumOf c r (keepOf (rl)) ((zl.map ZR.x).take j) (crcWrite 0 keyN)))) ?_
        rintro _ _ ⟨_, ⟨rfl, rfl⟩, rfl⟩
        show WP _ _ _ _ _ _ _ (KSet Try.prog b1 144 (.agg #[]) ((keepOf (rl))) :: Seq v1 zl.length (flatOf BV.cells bs1) :: AllP BvZ bs1 :: Seq v2 zl.length (flatOf BV.cells bs2) :: AllP BvZ bs2 :: F)
        refine WP.val rfl rfl rfl (Val.field rfl Ty.fs155_0 rfl rfl) ?_
        refine WP.val rfl rfl rfl (Val.assign rfl rfl) ?_
        refine WP.nil ?_
        refine Out.next ?_
        refine WPc.ret ?_
        have hall : (zl.map ZR.x).take j = zl.map ZR.x := List.take_of_length_le (by rw [List.length_map]; omega)
        refine Out.drop ?_
        refine Out.drop ?_
        refine Out.drop ?_
        refine Out.drop ?_
        refine Out.drop ?_
        exact Out.ret1 (L' := []) Try.results49 rfl ⟨by rw [hall]; rfl, rfl⟩ (fun _ h => h)
  · skip
    refine WPc.region ?_
    refine WP.val rfl rfl rfl (Val.move rfl rfl) ?_
    refine WP.val rfl rfl rfl (Val.len rfl Ty.sl111 rfl) ?_
    refine WP.val rfl rfl rfl (Val.move rfl rfl) ?_
    refine WP.nil ?_
    refine Out.next ?_
    refine WPc.block ?_
    refine WPc.loop (ι := Nat) (fun i => i ≤ rl.length) (fun i => [(0, .int .i64 (c)), (1, .int .i64 (r)), (3, vb), (9, .map (some b1)), (17, .slice a0 0 c0), (18, .int .i64 0), (19, .int .i64 (((i : Nat) : Int)))]) (fun i => KSet Try.prog b1 144 (.agg #[]) ((keepOf (rl.take i))) :: A :: B :: AllP KvZ zl :: F) (fun i => rl.length - i) 0 (Nat.zero_le _) ((Sub.cons rfl (Sub.cons rfl (Sub.cons rfl (Sub.cons rfl (Sub.cons rfl (Sub.cons rfl (Sub.cons rfl Sub.nil)))))))) (fun _ h => h) ?_
    rintro i hi
    show WPc _ _ _ _ _ [(0, .int .i64 (c)), (1, .int .i64 (r)), (3, vb), (9, .map (some b1)), (17, .slice a0 0 c0), (18, .int .i64 0), (19, .int .i64 (((i : Nat) : Int)))] (KSet Try.prog b1 144 (.agg #[]) ((keepOf (rl.take i))) :: A :: B :: AllP KvZ zl :: F)
    replace hi : i ≤ rl.length := hi
    refine WPc.seq ?_
    refine WPc.region ?_
    refine WP.val rfl rfl rfl (Val.lss rfl rfl rfl) ?_
    refine WP.nil ?_
    refine Out.next ?_
    refine WPc.seq ?_
    refine WPc.ifP rfl (fun h3 => ?_) (fun h3 => ?_)
    · skip
      have h3 : (((i : Nat) : Int) < (0 : Int)) := h3
      exfalso; omega
    · skip
      have h3 : ¬ (((i : Nat) : Int) < (0 : Int)) := h3
      refine WPc.exit ?_
      refine Out.then_exit ?_
      refine Out.then_exit ?_
      refine Out.block_exit ?_
      refine Out.next ?_
      refine WPc.seq ?_
      refine WPc.region ?_
      refine WP.val rfl rfl rfl (Val.move rfl rfl) ?_
      refine WP.val rfl rfl rfl (Val.move rfl rfl) ?_
      refine WP.val rfl rfl rfl (Val.move rfl rfl) ?_
      refine WP.eff rfl rfl rfl (Eff.call rfl rfl Try.call65 (newhasher_spec c r b1)) ?_
      rintro _ _ ⟨_, ⟨cb, rfl, rfl⟩, rfl⟩
      show WP _ _ _ _ _ _ _ (Blk cb [.int .u32 ((crcWrite 0 keyN))] 227 :: KSet Try.prog b1 144 (.agg #[]) ((keepOf (rl.take i))) :: A :: B :: AllP KvZ zl :: F)
      refine WP.eff rfl rfl rfl (Eff.alloc rfl Ty.z148) ?_
      rintro _ _ ⟨b7, rfl, rfl⟩
      refine WP.eff0 rfl rfl (Eff.storeAgg (cs := [.pointer (some ⟨cb, 0, none⟩), .int .i64 (c), .int .i64 (r), .map (some b1)]) (C' := [.pointer (some ⟨cb, 0, none⟩), .int .i64 (c), .int .i64 (r), .map (some b1)]) rfl Ty.ag148 rfl rfl rfl rfl (by simp) rfl) ?_
      rintro _ _ rfl
      refine WP.nil ?_
      refine Out.next ?_
      refine WPc.seq ?_
      refine WPc.region ?_
      refine WP.val rfl rfl rfl (Val.move rfl rfl) ?_
      refine WP.perm pl4 ?_
      refine WP.perm pl5 ?_
      refine WP.eff rfl rfl rfl (Eff.call rfl rfl Try.call66 (zz_spec B zl hzl hsz vb hrb)) ?_
      rintro _ _ ⟨_, ⟨bs1, bs2, v1, v2, hb1, hb2, rfl, rfl⟩, rfl⟩
      show WP _ _ _ _ _ _ _ (Own 86 1 v1 zl.length (flatOf BV.cells bs1) :: AllP BvZ bs1 :: Own 86 1 v2 zl.length (flatOf BV.cells bs2) :: AllP BvZ bs2 :: B :: Blk b7 [.pointer (some ⟨cb, 0, none⟩), .int .i64 (c), .int .i64 (r), .map (some b1)] 148 :: Blk cb [.int .u32 ((crcWrite 0 keyN))] 227 :: KSet Try.prog b1 144 (.agg #[]) ((keepOf (rl.take i))) :: A :: F)
      refine WP.val rfl rfl rfl (Val.move rfl rfl) ?_
      refine WP.val rfl rfl rfl (Val.extract rfl rfl rfl) ?_
      refine WP.val rfl rfl rfl (Val.extract rfl rfl rfl) ?_
      refine WP.val rfl rfl rfl (Val.assign rfl rfl) ?_
      refine WP.val rfl rfl rfl (Val.assign rfl rfl) ?_
      refine WP.nil ?_
      refine Out.next ?_
      refine WPc.seq ?_
      refine WPc.seq ?_
      refine WPc.conv (fun w h => h.seqMk) ?_
      show WPc _ _ _ _ _ _ (Seq v1 zl.length (flatOf BV.cells bs1) :: AllP BvZ bs1 :: Own 86 1 v2 zl.length (flatOf BV.cells bs2) :: AllP BvZ bs2 :: B :: Blk b7 [.pointer (some ⟨cb, 0, none⟩), .int .i64 (c), .int .i64 (r), .map (some b1)] 148 :: Blk cb [.int .u32 ((crcWrite 0 keyN))] 227 :: KSet Try.prog b1 144 (.agg #[]) ((keepOf (rl.take i))) :: A :: F)
      refine WPc.perm pl2 ?_
      refine WPc.conv (fun w h => h.seqMk) ?_
      show WPc _ _ _ _ _ _ (Seq v2 zl.length (flatOf BV.cells bs2) :: Seq v1 zl.length (flatOf BV.cells bs1) :: AllP BvZ bs1 :: AllP BvZ bs2 :: B :: Blk b7 [.pointer (some ⟨cb, 0, none⟩), .int .i64 (c), .int .i64 (r), .map (some b1)] 148 :: Blk cb [.int .u32 ((crcWrite 0 keyN))] 227 :: KSet Try.prog b1 144 (.agg #[]) ((keepOf (rl.take i))) :: A :: F)
      refine WPc.region ?_
      refine WP.val rfl rfl rfl (Val.move rfl rfl) ?_
      refine WP.val rfl rfl rfl (Val.lenSeq rfl Ty.sl150 rfl (fun w h => h.at 1 rfl)) ?_
      refine WP.val rfl rfl rfl (Val.move rfl rfl) ?_
      refine WP.nil ?_
      refine Out.next ?_
      refine WPc.block ?_
      refine WPc.perm pl4 ?_
      refine WPc.drop ?_
      refine WPc.perm pl7 ?_
      refine WPc.drop ?_
      refine WPc.perm pl3 ?_
      refine WPc.perm pl1 ?_
      refine WPc.perm pl3 ?_
      refine WPc.perm pl3 ?_
      refine WPc.perm pl6 ?_
      refine WPc.perm pl6 ?_
      refine WPc.perm pl6 ?_
      refine WPc.loop (ι := Nat) (fun j => j ≤ zl.length) (fun j => [(12, .pointer (some ⟨b7, 0, none⟩)), (13, v1), (14, v2), (36, v1), (37, .int .i64 (((zl.length : Nat) : Int))), (38, .int .i64 (((j : Nat) : Int)))]) (fun j => Blk b7 [.pointer (some ⟨cb, 0, none⟩), .int .i64 (c), .int .i64 (r), .map (some b1)] 148 :: Blk cb [.int .u32 ((sumOf c r (keepOf (rl)) ((zl.map ZR.x).take j) (crcWrite 0 keyN)))] 227 :: KSet Try.prog b1 144 (.agg #[]) ((keepOf (rl))) :: Seq v1 zl.length (flatOf BV.cells bs1) :: AllP BvZ bs1 :: Seq v2 zl.length (flatOf BV.cells bs2) :: AllP BvZ bs2 :: F) (fun j => zl.length - j) 0 (Nat.zero_le _) ((Sub.cons rfl (Sub.cons rfl (Sub.cons rfl (Sub.cons rfl (Sub.cons rfl (Sub.cons rfl Sub.nil))))))) (fun w h => by rw [show rl.take i = rl from List.take_of_length_le (by first | omega | (simp [hnil]))] at h; exact h) ?_
      rintro j hj
      show WPc _ _ _ _ _ [(12, .pointer (some ⟨b7, 0, none⟩)), (13, v1), (14, v2), (36, v1), (37, .int .i64 (((zl.length : Nat) : Int))), (38, .int .i64 (((j : Nat) : Int)))] (Blk b7 [.pointer (some ⟨cb, 0, none⟩), .int .i64 (c), .int .i64 (r), .map (some b1)] 148 :: Blk cb [.int .u32 ((sumOf c r (keepOf (rl)) ((zl.map ZR.x).take j) (crcWrite 0 keyN)))] 227 :: KSet Try.prog b1 144 (.agg #[]) ((keepOf (rl))) :: Seq v1 zl.length (flatOf BV.cells bs1) :: AllP BvZ bs1 :: Seq v2 zl.length (flatOf BV.cells bs2) :: AllP BvZ bs2 :: F)
      replace hj : j ≤ zl.length := hj
      refine WPc.seq ?_
      refine WPc.region ?_
      refine WP.val rfl rfl rfl (Val.lss rfl rfl rfl) ?_
      refine WP.nil ?_
      refine Out.next ?_
      refine WPc.seq ?_
      refine WPc.ifP rfl (fun h4 => ?_) (fun h4 => ?_)
      · skip
        have h4 : (((j : Nat) : Int) < ((zl.length : Nat) : Int)) := h4
        refine WPc.skip ?_
        refine Out.next ?_
        refine WPc.seq ?_
        refine WPc.block ?_
        refine WPc.seq ?_
        refine WPc.region ?_
        refine WP.val rfl rfl rfl (Val.move rfl rfl) ?_
        refine WP.val rfl rfl rfl (Val.assign rfl rfl) ?_
        refine WP.nil ?_
        refine Out.next ?_
        obtain ⟨z, hz⟩ : ∃ z, zl[j]? = some z := ⟨_, List.getElem?_eq_getElem (by omega)⟩
        have hzx : (zl.map ZR.x)[j]? = some z.x := by rw [List.getElem?_map, hz]; rfl
        obtain ⟨y1, hy1, hd1⟩ := bv_at (f := fun z : ZR => bkey z.x.m z.x.s z.x.gone) hb1 hz
        obtain ⟨y2, hy2, hd2⟩ := bv_at (f := fun z : ZR => marsh z.x.kv) hb2 hz
        have hzr := hzw z (List.mem_of_getElem? hz)
        have hzk := hsz z (List.mem_of_getElem? hz)
        have hk18 : y1.d.length ≤ 18 ∧ 17 ≤ y1.d.length := by rw [hd1, bkey_len]; split <;> omega
        have hv300 : y2.d.length ≤ 100000 := by rw [hd2]; exact marsh_len hzk.1 hzk.2
        refine WPc.perm pl3 ?_
        refine WPc.open (fun w h => h.seqOpen (by omega)) ?_
        rintro ⟨g8, cg8, spg8, Tg8⟩
        refine WPc.pure (fun hvg8 => ?_)
        refine WPc.know 13 (.slice (some ⟨g8, 0, none⟩) zl.length cg8) rfl hvg8.1 ?_
        refine WPc.know 36 (.slice (some ⟨g8, 0, none⟩) zl.length cg8) rfl hvg8.1 ?_
        show WPc _ _ _ _ _ _ (Ro (Blk g8 (flatOf BV.cells bs1 ++ spg8) Tg8) :: Seq v1 zl.length (flatOf BV.cells bs1) :: Blk b7 [.pointer (some ⟨cb, 0, none⟩), .int .i64 (c), .int .i64 (r), .map (some b1)] 148 :: Blk cb [.int .u32 ((sumOf c r (keepOf (rl)) ((zl.map ZR.x).take j) (crcWrite 0 keyN)))] 227 :: KSet Try.prog b1 144 (.agg #[]) ((keepOf (rl))) :: AllP BvZ bs1 :: Seq v2 zl.length (flatOf BV.cells bs2) :: AllP BvZ bs2 :: F)
        refine WPc.perm pl6 ?_
        refine WPc.open (fun w h => h.seqOpen (by omega)) ?_
        rintro ⟨g9, cg9, spg9, Tg9⟩
        refine WPc.pure (fun hvg9 => ?_)
        refine WPc.know 14 (.slice (some ⟨g9, 0, none⟩) zl.length cg9) rfl hvg9.1 ?_
        show WPc _ _ _ _ _ _ (Ro (Blk g9 (flatOf BV.cells bs2 ++ spg9) Tg9) :: Seq v2 zl.length (flatOf BV.cells bs2) :: Ro (Blk g8 (flatOf BV.cells bs1 ++ spg8) Tg8) :: Seq v1 zl.length (flatOf BV.cells bs1) :: Blk b7 [.pointer (some ⟨cb, 0, none⟩), .int .i64 (c), .int .i64 (r), .map (some b1)] 148 :: Blk cb [.int .u32 ((sumOf c r (keepOf (rl)) ((zl.map ZR.x).take j) (crcWrite 0 keyN)))] 227 :: KSet Try.prog b1 144 (.agg #[]) ((keepOf (rl))) :: AllP BvZ bs1 :: AllP BvZ bs2 :: F)
        refine WPc.perm pl7 ?_
        refine WPc.conv (fun w h => h.allGet (f := BvZ) (x := y1) (List.mem_of_getElem? hy1)) ?_
        show WPc _ _ _ _ _ _ (Seq y1.v y1.d.length (byt y1.d) :: AllP BvZ bs1 :: Ro (Blk g9 (flatOf BV.cells bs2 ++ spg9) Tg9) :: Seq v2 zl.length (flatOf BV.cells bs2) :: Ro (Blk g8 (flatOf BV.cells bs1 ++ spg8) Tg8) :: Seq v1 zl.length (flatOf BV.cells bs1) :: Blk b7 [.pointer (some ⟨cb, 0, none⟩), .int .i64 (c), .int .i64 (r), .map (some b1)] 148 :: Blk cb [.int .u32 ((sumOf c r (keepOf (rl)) ((zl.map ZR.x).take j) (crcWrite 0 keyN)))] 227 :: KSet Try.prog b1 144 (.agg #[]) ((keepOf (rl))) :: AllP BvZ bs2 :: F)
        refine WPc.perm pl9 ?_
        refine WPc.conv (fun w h => h.allGet (f := BvZ) (x := y2) (List.mem_of_getElem? hy2)) ?_
        show WPc _ _ _ _ _ _ (Seq y2.v y2.d.length (byt y2.d) :: AllP BvZ bs2 :: Seq y1.v y1.d.length (byt y1.d) :: AllP BvZ bs1 :: Ro (Blk g9 (flatOf BV.cells bs2 ++ spg9) Tg9) :: Seq v2 zl.length (flatOf BV.cells bs2) :: Ro (Blk g8 (flatOf BV.cells bs1 ++ spg8) Tg8) :: Seq v1 zl.length (flatOf BV.cells bs1) :: Blk b7 [.pointer (some ⟨cb, 0, none⟩), .int .i64 (c), .int .i64 (r), .map (some b1)] 148 :: Blk cb [.int .u32 ((sumOf c r (keepOf (rl)) ((zl.map ZR.x).take j) (crcWrite 0 keyN)))] 227 :: KSet Try.prog b1 144 (.agg #[]) ((keepOf (rl))) :: F)
        refine WPc.perm pl2 ?_
        refine WPc.open (fun w h => h.seqOpen (by omega)) ?_
        rintro ⟨g10, cg10, spg10, Tg10⟩
        refine WPc.pure (fun hvg10 => ?_)
        show WPc _ _ _ _ _ _ (Ro (Blk g10 (byt y1.d ++ spg10) Tg10) :: Seq y1.v y1.d.length (byt y1.d) :: Seq y2.v y2.d.length (byt y2.d) :: AllP BvZ bs2 :: AllP BvZ bs1 :: Ro (Blk g9 (flatOf BV.cells bs2 ++ spg9) Tg9) :: Seq v2 zl.length (flatOf BV.cells bs2) :: Ro (Blk g8 (flatOf BV.cells bs1 ++ spg8) Tg8) :: Seq v1 zl.length (flatOf BV.cells bs1) :: Blk b7 [.pointer (some ⟨cb, 0, none⟩), .int .i64 (c), .int .i64 (r), .map (some b1)] 148 :: Blk cb [.int .u32 ((sumOf c r (keepOf (rl)) ((zl.map ZR.x).take j) (crcWrite 0 keyN)))] 227 :: KSet Try.prog b1 144 (.agg #[]) ((keepOf (rl))) :: F)
        refine WPc.perm pl2 ?_
        refine WPc.open (fun w h => seq_rd h) ?_
        rintro B2
        refine WPc.pure (fun hvv => ?_)
        show WPc _ _ _ _ _ _ (B2 :: Ro (Blk g10 (byt y1.d ++ spg10) Tg10) :: Seq y1.v y1.d.length (byt y1.d) :: AllP BvZ bs2 :: AllP BvZ bs1 :: Ro (Blk g9 (flatOf BV.cells bs2 ++ spg9) Tg9) :: Seq v2 zl.length (flatOf BV.cells bs2) :: Ro (Blk g8 (flatOf BV.cells bs1 ++ spg8) Tg8) :: Seq v1 zl.length (flatOf BV.cells bs1) :: Blk b7 [.pointer (some ⟨cb, 0, none⟩), .int .i64 (c), .int .i64 (r), .map (some b1)] 148 :: Blk cb [.int .u32 ((sumOf c r (keepOf (rl)) ((zl.map ZR.x).take j) (crcWrite 0 keyN)))] 227 :: KSet Try.prog b1 144 (.agg #[]) ((keepOf (rl))) :: F)
        refine WPD.start (Sat W (B2 :: Ro (Blk g10 (byt y1.d ++ spg10) Tg10) :: Seq y1.v y1.d.length (byt y1.d) :: AllP BvZ bs2 :: AllP BvZ bs1 :: Ro (Blk g9 (flatOf BV.cells bs2 ++ spg9) Tg9) :: Seq v2 zl.length (flatOf BV.cells bs2) :: Ro (Blk g8 (flatOf BV.cells bs1 ++ spg8) Tg8) :: Seq v1 zl.length (flatOf BV.cells bs1) :: Blk b7 [.pointer (some ⟨cb, 0, none⟩), .int .i64 (c), .int .i64 (r), .map (some b1)] 148 :: Blk cb [.int .u32 ((sumOf c r (keepOf (rl)) ((zl.map ZR.x).take j) (crcWrite 0 keyN)))] 227 :: KSet Try.prog b1 144 (.agg #[]) ((keepOf (rl))) :: F)) Ty.mixed ?_
        refine WPD.takeM 0 rfl rfl rfl rfl (by kernel_rfl) (by kernel_rfl) (by kernel_rfl) (by kernel_rfl) (fun _ _ _ h => h) (fun _ h => h) (Val.move rfl rfl) ?_
        refine WPD.takeM 1 rfl rfl rfl rfl (by kernel_rfl) (by kernel_rfl) (by kernel_rfl) (by kernel_rfl) (fun _ _ _ h => h) (fun _ h => h) (Val.move rfl rfl) ?_
        refine WPD.takeM 2 rfl rfl rfl rfl (by kernel_rfl) (by kernel_rfl) (by kernel_rfl) (by kernel_rfl) (fun _ _ _ h => h) (fun _ h => h) (Val.indexAddr (j := j) (q := j) rfl Ty.sl150 rfl rfl (by omega) (by omega) (by omega)) ?_
        refine WPD.take 3 rfl rfl rfl rfl (by kernel_rfl) (by kernel_rfl) (by kernel_rfl) (by kernel_rfl) (fun _ _ _ h => h) (by kernel_rfl) (fun _ h => h) (Val.load (v := .slice (some ⟨g10, 0, none⟩) y1.d.length cg10) rfl Ty.sc86 rfl (fun w h => h.cellRo 7 rfl (by rw [List.getElem?_append_left (by have := (List.getElem?_eq_some_iff.1 hy1).1; simpa [flatOf_length BV.len] using this)]; have h2 := flatOf_at BV.len bs1 j 0 y1 hy1 (by omega); rw [Nat.mul_one, Nat.add_zero] at h2; rw [h2, ← hvg10.1]; rfl))) ?_
        refine WPD.takeM 4 rfl rfl rfl rfl (by kernel_rfl) (by kernel_rfl) (by kernel_rfl) (by kernel_rfl) (fun _ _ _ h => h) (fun _ h => h) (Val.move rfl rfl) ?_
        refine WPD.takeM 5 rfl rfl rfl rfl (by kernel_rfl) (by kernel_rfl) (by kernel_rfl) (by kernel_rfl) (fun _ _ _ h => h) (fun _ h => h) (Val.move rfl rfl) ?_
        refine WPD.takeM 6 rfl rfl rfl rfl (by kernel_rfl) (by kernel_rfl) (by kernel_rfl) (by kernel_rfl) (fun _ _ _ h => h) (fun _ h => h) (Val.indexAddr (j := j) (q := j) rfl Ty.sl150 rfl rfl (by omega) (by omega) (by omega)) ?_
        refine WPD.take 7 rfl rfl rfl rfl (by kernel_rfl) (by kernel_rfl) (by kernel_rfl) (by kernel_rfl) (fun _ _ _ h => h) (by kernel_rfl) (fun _ h => h) (Val.load (v := y2.v) rfl Ty.sc86 rfl (fun w h => h.cellRo 5 rfl (by rw [List.getElem?_append_left (by have := (List.getElem?_eq_some_iff.1 hy2).1; simpa [flatOf_length BV.len] using this)]; have h2 := flatOf_at BV.len bs2 j 0 y2 hy2 (by omega); rw [Nat.mul_one, Nat.add_zero] at h2; rw [h2]; rfl))) ?_
        refine WPD.perm pl1 ?_
        refine WPD.perm pl11 ?_
        refine WPD.perm pl11 ?_
        refine WPD.perm pl11 ?_
        refine WPD.stepC 8 (by kernel_rfl) rfl rfl rfl rfl (by kernel_rfl) (Eff.call rfl rfl Try.call67 (wkv_spec (Ro (Blk g10 (byt y1.d ++ spg10) Tg10)) g10 0 cg10 y1.d z.x.m z.x.s z.x.gone ro_pre (by have h9 := hvg10.2; first | exact h9 | exact h9.1) (by rw [hd1]; exact bkey_is hzr.1 hzr.2.1 hzr.2.2.1 hzr.2.2.2.1) b7 cb b1 c r (sumOf c r (keepOf (rl)) ((zl.map ZR.x).take j) (crcWrite 0 keyN)) (keepOf (rl)) B2 y2.v y2.d hvv (by omega) hv300 hc1 hc2 hr1 hr2 hzr.2.2.2.2.1 hzr.2.2.2.2.2)) ?_
        rintro _ _ ⟨_, ⟨rfl, rfl⟩, rfl⟩
        refine ⟨(Sat W (Blk b7 [.pointer (some ⟨cb, 0, none⟩), .int .i64 (c), .int .i64 (r), .map (some b1)] 148 :: Blk cb [.int .u32 ((wkv c r (keepOf (rl)) (sumOf c r (keepOf (rl)) ((zl.map ZR.x).take j) (crcWrite 0 keyN)) y1.d z.x.m z.x.s z.x.gone y2.d))] 227 :: KSet Try.prog b1 144 (.agg #[]) ((keepOf (rl))) :: Ro (Blk g10 (byt y1.d ++ spg10) Tg10) :: B2 :: Seq y1.v y1.d.length (byt y1.d) :: AllP BvZ bs2 :: AllP BvZ bs1 :: Ro (Blk g9 (flatOf BV.cells bs2 ++ spg9) Tg9) :: Seq v2 zl.length (flatOf BV.cells bs2) :: Ro (Blk g8 (flatOf BV.cells bs1 ++ spg8) Tg8) :: Seq v1 zl.length (flatOf BV.cells bs1) :: F)), (fun _ h => h), ?_⟩
        show WPD _ _ _ _ _ _ _ _ _ (Blk b7 [.pointer (some ⟨cb, 0, none⟩), .int .i64 (c), .int .i64 (r), .map (some b1)] 148 :: Blk cb [.int .u32 ((wkv c r (keepOf (rl)) (sumOf c r (keepOf (rl)) ((zl.map ZR.x).take j) (crcWrite 0 keyN)) y1.d z.x.m z.x.s z.x.gone y2.d))] 227 :: KSet Try.prog b1 144 (.agg #[]) ((keepOf (rl))) :: Ro (Blk g10 (byt y1.d ++ spg10) Tg10) :: B2 :: Seq y1.v y1.d.length (byt y1.d) :: AllP BvZ bs2 :: AllP BvZ bs1 :: Ro (Blk g9 (flatOf BV.cells bs2 ++ spg9) Tg9) :: Seq v2 zl.length (flatOf BV.cells bs2) :: Ro (Blk g8 (flatOf BV.cells bs1 ++ spg8) Tg8) :: Seq v1 zl.length (flatOf BV.cells bs1) :: F)
        refine WPD.done (by kernel_rfl) ?_
        refine Out.block ?_
        refine Out.next ?_
        refine WPc.region ?_
        refine WP.val rfl rfl rfl (Val.add (z := ((j + 1 : Nat) : Int)) rfl rfl rfl ((w64 (by omega) (by omega)).trans (by omega))) ?_
        refine WP.val rfl rfl rfl (Val.move rfl rfl) ?_
        refine WP.nil ?_
        refine Out.perm pl3 ?_
        refine Out.drop ?_
        refine Out.perm pl3 ?_
        refine Out.drop ?_
        refine Out.perm pl3 ?_
        refine Out.drop ?_
        refine Out.perm pl5 ?_
        refine Out.drop ?_
        refine Out.perm pl6 ?_
        refine Out.drop ?_
        refine Out.perm pl3 ?_
        refine Out.perm pl5 ?_
        refine Out.perm pl5 ?_
        refine Out.perm pl6 ?_
        refine Out.perm pl6 ?_
        refine Out.perm pl6 ?_
        refine Out.perm pl6 ?_
        refine Out.again (j + 1) ?_ ?_ ?_ ?_
        · exact (by first | omega | (dsimp only; omega))
        · first | omega | (dsimp only; omega)
        · exact (Sub.cons rfl (Sub.cons (congrArg some (hvg8.1).symm) (Sub.cons (congrArg some (hvg9.1).symm) (Sub.cons (congrArg some (hvg8.1).symm) (Sub.cons rfl (Sub.cons rfl Sub.nil))))))
        · exact (fun w h => by rw [take_more hzx, sum_snoc, ← hd1, ← hd2]; exact h)
      · skip
        have h4 : ¬ (((j : Nat) : Int) < ((zl.length : Nat) : Int)) := h4
        refine WPc.exit ?_
        refine Out.then_exit ?_
        refine Out.then_exit ?_
        refine Out.block_exit ?_
        refine Out.next ?_
        refine WPc.seq ?_
        refine WPc.region ?_
        refine WP.perm pl1 ?_
        refine WP.perm pl1 ?_
        refine WP.eff rfl rfl rfl (Eff.call rfl rfl Try.call68 (hash_spec b7 cb b1 c r (sumOf c r (keepOf (rl)) ((zl.map ZR.x).take j) (crcWrite 0 keyN)))) ?_
        rintro _ _ ⟨_, ⟨rfl, rfl⟩, rfl⟩
        show WP _ _ _ _ _ _ _ (KSet Try.prog b1 144 (.agg #[]) ((keepOf (rl))) :: Seq v1 zl.length (flatOf BV.cells bs1) :: AllP BvZ bs1 :: Seq v2 zl.length (flatOf BV.cells bs2) :: AllP BvZ bs2 :: F)
        refine WP.val rfl rfl rfl (Val.field rfl Ty.fs155_0 rfl rfl) ?_
        refine WP.val rfl rfl rfl (Val.assign rfl rfl) ?_
        refine WP.nil ?_
        refine Out.next ?_
        refine WPc.ret ?_
        have hall : (zl.map ZR.x).take j = zl.map ZR.x := List.take_of_length_le (by rw [List.length_map]; omega)
        refine Out.drop ?_
        refine Out.drop ?_
        refine Out.drop ?_
        refine Out.drop ?_
        refine Out.drop ?_
        exact Out.ret1 (L' := []) Try.results49 rfl ⟨by rw [hall]; rfl, rfl⟩ (fun _ h => h)

end Go.Proofs.Ythmkdioafjmclaa.Hh
