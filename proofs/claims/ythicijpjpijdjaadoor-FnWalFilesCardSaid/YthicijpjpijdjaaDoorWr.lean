import Derived.Test.YthicijpjpijdjaaDoorWq
namespace Go.Proofs.YthicijpjpijdjaaDoor.Wr
open Go.RowKit Go.Proofs.YthicijpjpijdjaaDoor Go.Proofs.YthicijpjpijdjaaDoor.Sl Go.Proofs.YthicijpjpijdjaaDoor.Wa Go.Proofs.YthicijpjpijdjaaDoor.Wb Go.Proofs.YthicijpjpijdjaaDoor.Wc Go.Proofs.YthicijpjpijdjaaDoor.Wd Go.Proofs.YthicijpjpijdjaaDoor.We Go.Proofs.YthicijpjpijdjaaDoor.Wf Go.Proofs.YthicijpjpijdjaaDoor.Wg Go.Proofs.YthicijpjpijdjaaDoor.Wh Go.Proofs.YthicijpjpijdjaaDoor.Wi Go.Proofs.YthicijpjpijdjaaDoor.Wj Go.Proofs.YthicijpjpijdjaaDoor.Wk Go.Proofs.YthicijpjpijdjaaDoor.Wl Go.Proofs.YthicijpjpijdjaaDoor.Wm Go.Proofs.YthicijpjpijdjaaDoor.Wn Go.Proofs.YthicijpjpijdjaaDoor.Wo Go.Proofs.YthicijpjpijdjaaDoor.Wp Go.Proofs.YthicijpjpijdjaaDoor.Wq
set_option linter.unusedVariables false
set_option linter.unusedSimpArgs false
set_option linter.unusedSectionVars false


theorem mu103_0 : mu0 Tryd.prog 103 0 = true := by kernel_rfl
theorem offs_le2 {page B off : Nat} {q : List UInt8} (hp : 0 < page) (hpb : page ≤ B) (hB : B ≤ 1048576) (h : off ≤ 4294967296) : offs page off q ≤ 4294967296 := offs_le hp hpb hB h
theorem rest_off {page B off : Nat} {q r : List UInt8} (hp : 0 < page) (hpb : page ≤ B) (hB : B ≤ 1048576) (h : off ≤ 4294967296) : (rest page off q r).2.1 ≤ 4294967296 := by
  unfold rest
  split <;> exact offs_le hp hpb hB h
theorem wr_off {page B off : Nat} {pend p : List UInt8} (hp : 0 < page) (hpb : page ≤ B) (hB : B ≤ 1048576) (h : off ≤ 4294967296) : (wr page B off pend p).2.1 ≤ 4294967296 := by
  unfold wr
  split
  · exact h
  · split
    · split
      · exact h
      · exact rest_off hp hpb hB h
    · exact rest_off hp hpb hB h
theorem rest_bytes {page off : Nat} {q r : List UInt8} : (rest page off q r).1.flatten ++ (rest page off q r).2.2 = q ++ r := by
  unfold rest
  split
  · simp [outs_flat]
  · simp [outs_flat]
theorem wr_bytes {page B off : Nat} {pend p : List UInt8} : (wr page B off pend p).1.flatten ++ (wr page B off pend p).2.2 = pend ++ p := by
  unfold wr
  split
  · simp
  · split
    · split
      · simp
      · rw [rest_bytes]; simp
    · exact rest_bytes
/-- a writer of pages over one that keeps what it is handed: all that was written -/
def Pw (pw bb : Nat) (tot : List UInt8) : HProp := Ex fun q : Nat × Nat × List UInt8 × List UInt8 × List UInt8 × Value => Sep [Pure (q.2.2.1.length + q.2.2.2.1.length = 131072 + 4096 ∧ q.2.2.2.2.1 ++ q.2.2.1 = tot ∧ Fit 4096 131072 q.2.1 q.2.2.1.length ∧ q.2.1 ≤ 4294967296),
  Blk pw [.iface 70 (.pointer (some ⟨bb, 0, none⟩)), .int .i64 ((q.2.1 : Nat) : Int), .int .i64 ((4096 : Nat) : Int), .int .i64 (((q.2.2.1).length : Nat) : Int), .slice (some ⟨q.1, 0, none⟩) (131072 + 4096) (131072 + 4096), .int .i64 ((131072 : Nat) : Int)] 114,
  Blk q.1 (byt q.2.2.1 ++ byt q.2.2.2.1) 5, Blk bb [q.2.2.2.2.2] 72, Own 5 1 q.2.2.2.2.2 (q.2.2.2.2.1 : List UInt8).length (byt q.2.2.2.2.1)]
theorem pw_mk {W w : World} {pw bb bf off : Nat} {pend junk ss tot : List UInt8} {wv : Value} {L : List HProp} (h1 : pend.length + junk.length = 131072 + 4096) (h2 : ss ++ pend = tot) (h3 : Fit 4096 131072 off pend.length) (h4 : off ≤ 4294967296)
    (h : Sat W (Blk pw [.iface 70 (.pointer (some ⟨bb, 0, none⟩)), .int .i64 ((off : Nat) : Int), .int .i64 ((4096 : Nat) : Int), .int .i64 ((pend.length : Nat) : Int), .slice (some ⟨bf, 0, none⟩) (131072 + 4096) (131072 + 4096), .int .i64 ((131072 : Nat) : Int)] 114 :: Blk bf (byt pend ++ byt junk) 5 :: Blk bb [wv] 72 :: Own 5 1 wv (ss : List UInt8).length (byt ss) :: L) w) : Sat W (Pw pw bb tot :: L) w :=
  Sat.ex_mk (bf, off, pend, junk, ss, wv) (Sat.sep_mk (Sat.pure_mk ⟨h1, h2, h3, h4⟩ h))
theorem pwrite_spec (A : HProp) (pw bb pb po pc : Nat) (tot p : List UInt8) (hA : ∀ w, Holds A w → w.rangeAt pb po (byt p)) (hpn : p.length ≤ 2097152) (hpc : p.length ≤ pc) (htot : tot.length ≤ 4000000000) :
    Does Tryd.prog 86 [.pointer (some ⟨pw, 0, none⟩), .slice (some ⟨pb, po, none⟩) p.length pc] [Pw pw bb tot, A] (fun v L => v = .tuple #[.int .i64 ((p.length : Nat) : Int), .nilIface] ∧ L = [Pw pw bb (tot ++ p), A]) := by
  refine Does.open (g := fun q : Nat × Nat × List UInt8 × List UInt8 × List UInt8 × Value => [Pure (q.2.2.1.length + q.2.2.2.1.length = 131072 + 4096 ∧ q.2.2.2.2.1 ++ q.2.2.1 = tot ∧ Fit 4096 131072 q.2.1 q.2.2.1.length ∧ q.2.1 ≤ 4294967296),
    Blk pw [.iface 70 (.pointer (some ⟨bb, 0, none⟩)), .int .i64 ((q.2.1 : Nat) : Int), .int .i64 ((4096 : Nat) : Int), .int .i64 (((q.2.2.1).length : Nat) : Int), .slice (some ⟨q.1, 0, none⟩) (131072 + 4096) (131072 + 4096), .int .i64 ((131072 : Nat) : Int)] 114,
    Blk q.1 (byt q.2.2.1 ++ byt q.2.2.2.1) 5, Blk bb [q.2.2.2.2.2] 72, Own 5 1 q.2.2.2.2.2 (q.2.2.2.2.1 : List UInt8).length (byt q.2.2.2.2.1), A]) (fun W w F h => ?_) ?_
  · obtain ⟨q, h⟩ := Sat.ex h
    exact ⟨q, h.sep⟩
  · rintro ⟨bf, off, pend, junk, ss, wv⟩
    refine Does.fact (fun W w F h => h.pure) fun ⟨h1, h2, h3, h4⟩ => ?_
    dsimp only at h1 h2 h3 h4
    have hsl : ss.length ≤ 4000000000 := by rw [← h2, List.length_append] at htot; omega
    refine Does.conv (fun W w F h => h.drop) ?_
    refine (write_spec pw bb bf 4096 131072 off pend junk ss wv (by decide) (by decide) (by decide) h4 h1 hsl A pb po pc p hA hpn hpc h3).mono ?_
    rintro v L' ⟨wv', junk', hj, rfl, rfl⟩
    refine ⟨_, ⟨rfl, rfl⟩, fun W w F h => ?_⟩
    exact pw_mk hj (by rw [List.append_assoc, wr_bytes, ← List.append_assoc, h2]) (wr_fit (by decide) (by decide) h3) (wr_off (by decide) (by decide) (by decide) h4) h
theorem pflush_spec (pw bb : Nat) (tot : List UInt8) (htot : tot.length ≤ 4000000000) :
    Does Tryd.prog 44 [.pointer (some ⟨pw, 0, none⟩)] [Pw pw bb tot] (fun v L => ∃ wv, v = .nilIface ∧ L = [Blk bb [wv] 72, Own 5 1 wv (tot : List UInt8).length (byt tot)]) := by
  refine Does.open (g := fun q : Nat × Nat × List UInt8 × List UInt8 × List UInt8 × Value => [Pure (q.2.2.1.length + q.2.2.2.1.length = 131072 + 4096 ∧ q.2.2.2.2.1 ++ q.2.2.1 = tot ∧ Fit 4096 131072 q.2.1 q.2.2.1.length ∧ q.2.1 ≤ 4294967296),
    Blk pw [.iface 70 (.pointer (some ⟨bb, 0, none⟩)), .int .i64 ((q.2.1 : Nat) : Int), .int .i64 ((4096 : Nat) : Int), .int .i64 (((q.2.2.1).length : Nat) : Int), .slice (some ⟨q.1, 0, none⟩) (131072 + 4096) (131072 + 4096), .int .i64 ((131072 : Nat) : Int)] 114,
    Blk q.1 (byt q.2.2.1 ++ byt q.2.2.2.1) 5, Blk bb [q.2.2.2.2.2] 72, Own 5 1 q.2.2.2.2.2 (q.2.2.2.2.1 : List UInt8).length (byt q.2.2.2.2.1)]) (fun W w F h => ?_) ?_
  · obtain ⟨q, h⟩ := Sat.ex h
    exact ⟨q, h.sep⟩
  · rintro ⟨bf, off, pend, junk, ss, wv⟩
    refine Does.fact (fun W w F h => h.pure) fun ⟨h1, h2, h3, h4⟩ => ?_
    dsimp only at h1 h2 h3 h4
    have hsl : ss.length ≤ 4000000000 := by rw [← h2, List.length_append] at htot; omega
    refine Does.conv (fun W w F h => h.drop) ?_
    refine (Flush_spec pw bb bf 4096 131072 off pend junk ss wv (by decide) (by decide) (by decide) h4 h1 (by omega)).mono ?_
    rintro v L' ⟨wv', junk', hj, rfl, rfl⟩
    refine ⟨_, ⟨wv', rfl, rfl⟩, fun W w F h => ?_⟩
    rw [outs_flat, h2] at h
    exact h.drop.drop
theorem putL_all {C : List Value} (n : Int) (h : C.length = 8) : putL C n 8 = byt (leN n 8) := by
  unfold putL
  rw [List.drop_eq_nil_of_le (by omega), List.append_nil]
theorem ends_own {W w : World} {v : Value} {l : List UInt8} {L : List HProp} (h : Sat W (Own 5 1 v l.length (byt l) :: L) w) (hp : 0 < l.length) : ∃ q : Nat × Nat × List Value, Sat W (Pure (v = .slice (some ⟨q.1, 0, none⟩) l.length q.2.1 ∧ l.length ≤ q.2.1) :: Blk q.1 (byt l ++ q.2.2) 5 :: L) w := by
  rcases h.own with ⟨rfl, h0, h1, h2⟩ | ⟨b, cap, sp, rfl, h1, h2, h3, h4, h5⟩
  · omega
  · exact ⟨(b, cap, sp), Sat.pure_mk ⟨rfl, h1⟩ h5⟩
set_option maxRecDepth 100000 in
set_option maxHeartbeats 2000000 in
theorem write43_spec (pw bb ub : Nat) (n : Int) (UB : List Value) (u : Value) (l tot : List UInt8) (hUB : UB.length = 8) (hp : 0 < l.length) (hl : l.length ≤ 2097152) (htot : tot.length ≤ 3000000000) : Does Tryd.prog 43 [.iface 100 (.pointer (some ⟨pw, 0, none⟩)), .slice (some ⟨ub, 0, none⟩) 8 8, u, .int .u64 (n)] [Pw pw bb tot, Blk ub UB 5, Own 5 1 u ((l : List UInt8).length) (byt (l))] (fun v L => v = .nilIface ∧ L = [Pw pw bb (tot ++ (leN n 8 ++ l)), Blk ub (byt (leN n 8)) 5]) := by
  refine Does.enter 30 Tryd.func43 rfl rfl rfl fun W F => ?_
  show WPc _ _ _ _ _ [(0, .iface 100 (.pointer (some ⟨pw, 0, none⟩))), (1, .slice (some ⟨ub, 0, none⟩) 8 8), (2, u), (3, .int .u64 (n))] (Pw pw bb tot :: Blk ub UB 5 :: Own 5 1 u ((l : List UInt8).length) (byt (l)) :: F)
  refine WPc.seq ?_
  refine WPc.region ?_
  refine WP.val rfl rfl rfl (Val.assign rfl rfl) ?_
  refine WP.nil ?_
  refine Out.next ?_
  refine WPc.seq ?_
  refine WPc.region ?_
  refine WP.val rfl rfl rfl (Val.move rfl rfl) ?_
  refine WP.val rfl rfl rfl (Val.move rfl rfl) ?_
  refine WP.perm pl1 ?_
  refine WP.eff rfl rfl rfl (Eff.call rfl rfl Tryd.call47 (putl_spec ub 8 8 n UB 5 (by omega) (by omega))) ?_
  rintro _ _ ⟨_, ⟨rfl, rfl⟩, rfl⟩
  show WP _ _ _ _ _ _ _ (Blk ub (putL UB n 8) 5 :: Pw pw bb tot :: Own 5 1 u ((l : List UInt8).length) (byt (l)) :: F)
  refine WP.nil ?_
  refine Out.next ?_
  refine WPc.seq ?_
  refine WPc.conv (fun w h => by rw [putL_all n hUB] at h; exact h) ?_
  show WPc _ _ _ _ _ _ (Blk ub (byt (leN n 8)) 5 :: Pw pw bb tot :: Own 5 1 u ((l : List UInt8).length) (byt (l)) :: F)
  have hl8 : (leN n 8).length = 8 := leN_len n 8
  refine WPc.know 1 (.slice (some ⟨ub, 0, none⟩) (leN n 8).length 8) rfl (by rw [hl8]) ?_
  refine WPc.region ?_
  refine WP.val rfl rfl rfl (Val.move rfl rfl) ?_
  refine WP.val rfl rfl rfl (Val.move rfl rfl) ?_
  refine WP.perm pl1 ?_
  refine WP.eff rfl rfl rfl (Eff.invoke (f := 86) rfl rfl rfl (fun _ => by kernel_rfl) Tryd.call86 (pwrite_spec (Blk ub (byt (leN n 8)) 5) pw bb ub 0 8 tot (leN n 8) (fun w h => h.cell_range (by rw [List.drop_zero, List.take_length])) (by omega) (by omega) (by omega))) ?_
  rintro _ _ ⟨_, ⟨rfl, rfl⟩, rfl⟩
  show WP _ _ _ _ _ _ _ (Pw pw bb (tot ++ leN n 8) :: Blk ub (byt (leN n 8)) 5 :: Own 5 1 u ((l : List UInt8).length) (byt (l)) :: F)
  refine WP.val rfl rfl rfl (Val.move rfl rfl) ?_
  refine WP.val rfl rfl rfl (Val.extract rfl rfl rfl) ?_
  refine WP.val rfl rfl rfl (Val.extract rfl rfl rfl) ?_
  refine WP.val rfl rfl rfl (Val.assign rfl rfl) ?_
  refine WP.val rfl rfl rfl (Val.assign rfl rfl) ?_
  refine WP.nil ?_
  refine Out.next ?_
  refine WPc.seq ?_
  refine WPc.seq ?_
  refine WPc.region ?_
  refine WP.val rfl rfl rfl (Val.move rfl rfl) ?_
  refine WP.val rfl rfl rfl (Val.nilIn rfl Ty.if61 rfl) ?_
  refine WP.nil ?_
  refine Out.next ?_
  refine WPc.condF rfl rfl ?_
  refine WPc.skip ?_
  refine Out.next ?_
  refine WPc.seq ?_
  refine WPc.perm pl2 ?_
  refine WPc.open (fun w h => ends_own h hp) ?_
  rintro ⟨gb, gc, gs⟩
  refine WPc.pure (fun hv => ?_)
  obtain ⟨rfl, hgc⟩ := hv
  dsimp only at hgc
  show WPc _ _ _ _ _ _ (Blk gb (byt l ++ gs) 5 :: Pw pw bb (tot ++ leN n 8) :: Blk ub (byt (leN n 8)) 5 :: F)
  refine WPc.region ?_
  refine WP.val rfl rfl rfl (Val.move rfl rfl) ?_
  refine WP.val rfl rfl rfl (Val.move rfl rfl) ?_
  refine WP.perm pl1 ?_
  refine WP.eff rfl rfl rfl (Eff.invoke (f := 86) rfl rfl rfl (fun _ => by kernel_rfl) Tryd.call86 (pwrite_spec (Blk gb (byt l ++ gs) 5) pw bb gb 0 gc (tot ++ leN n 8) l (fun w h => h.cell_range (by simp)) (by omega) hgc (by rw [List.length_append]; omega))) ?_
  rintro _ _ ⟨_, ⟨rfl, rfl⟩, rfl⟩
  show WP _ _ _ _ _ _ _ (Pw pw bb (tot ++ leN n 8 ++ l) :: Blk gb (byt l ++ gs) 5 :: Blk ub (byt (leN n 8)) 5 :: F)
  refine WP.val rfl rfl rfl (Val.move rfl rfl) ?_
  refine WP.val rfl rfl rfl (Val.extract rfl rfl rfl) ?_
  refine WP.val rfl rfl rfl (Val.extract rfl rfl rfl) ?_
  refine WP.val rfl rfl rfl (Val.assign rfl rfl) ?_
  refine WP.nil ?_
  refine Out.next ?_
  refine WPc.seq ?_
  refine WPc.region ?_
  refine WP.val rfl rfl rfl (Val.move rfl rfl) ?_
  refine WP.val rfl rfl rfl (Val.assign rfl rfl) ?_
  refine WP.nil ?_
  refine Out.next ?_
  refine WPc.ret ?_
  refine Out.perm pl1 ?_
  refine Out.drop ?_
  exact Out.ret1 (L' := [Pw pw bb (tot ++ (leN n 8 ++ l)), Blk ub (byt (leN n 8)) 5]) Tryd.results43 rfl ⟨rfl, rfl⟩ (fun w h => by rw [← List.append_assoc]; exact h)

/-- an encoder: all that it wrote, and its sum -/
def Enc (e bb : Nat) (tot : List UInt8) (c : Int) : HProp := Ex fun q : Nat × Nat × Nat × List Value => Sep [Pure (q.2.2.2.length = 8), Blk e [.pointer (some ⟨q.1, 0, none⟩), .pointer (some ⟨q.2.1, 0, none⟩), .slice (some ⟨q.2.2.1, 0, none⟩) 8 8] 103, Blk q.2.1 [.int .u32 c] 99, Blk q.2.2.1 q.2.2.2 5, Pw q.1 bb tot]
theorem enc_open {W w : World} {e bb : Nat} {tot : List UInt8} {c : Int} {L : List HProp} (h : Sat W (Enc e bb tot c :: L) w) : ∃ q : Nat × Nat × Nat × List Value, Sat W (Pure (q.2.2.2.length = 8) :: Blk e [.pointer (some ⟨q.1, 0, none⟩), .pointer (some ⟨q.2.1, 0, none⟩), .slice (some ⟨q.2.2.1, 0, none⟩) 8 8] 103 :: Blk q.2.1 [.int .u32 c] 99 :: Blk q.2.2.1 q.2.2.2 5 :: Pw q.1 bb tot :: L) w := by
  obtain ⟨q, h⟩ := h.ex
  exact ⟨q, h.sep⟩
theorem enc_mk {W w : World} {e bb pw cb ub : Nat} {UB : List Value} {tot : List UInt8} {c : Int} {L : List HProp} (hU : UB.length = 8) (h : Sat W (Blk e [.pointer (some ⟨pw, 0, none⟩), .pointer (some ⟨cb, 0, none⟩), .slice (some ⟨ub, 0, none⟩) 8 8] 103 :: Blk cb [.int .u32 c] 99 :: Blk ub UB 5 :: Pw pw bb tot :: L) w) : Sat W (Enc e bb tot c :: L) w :=
  Sat.ex_mk (pw, cb, ub, UB) (Sat.sep_mk (Sat.pure_mk hU h))
/-- a body with its length ahead, filled up -/
def fr8 (l : List UInt8) : List UInt8 := leN ((lfN l.length : Nat) : Int) 8 ++ (l ++ List.replicate (padn l.length) 0)
theorem fr8_len (l : List UInt8) : (fr8 l).length = 8 + l.length + padn l.length := by
  unfold fr8
  simp only [List.length_append, leN_len, List.length_replicate]; omega
theorem rbody_pos (ty su : Int) (d : Option (List UInt8)) : 0 < (rbody ty su d).length := by
  unfold rbody; simp

theorem rd_bcf {w : World} {b o : Nat} {l : List UInt8} (h : w.rangeAt b o (byt l)) : ∀ i x, l[i]? = some x → w.rangeAt b (o + i * 1) (bcf x) := fun i x hx j v hj => by
  have hj0 : j = 0 := by
    have := (List.getElem?_eq_some_iff.1 hj).1
    simp [bcf] at this; omega
  subst hj0
  have e1 : v = .int .u8 (x.toNat : Int) := by simpa [bcf] using hj.symm
  have := h (i * 1) v (by rw [Nat.mul_one, byt_at hx, e1])
  simpa using this
set_option maxRecDepth 100000 in
set_option maxHeartbeats 2000000 in
theorem encode_has (A : HProp) (l : List UInt8) (b0 o0 c0 : Nat) (hr : ∀ w, Holds A w → w.rangeAt b0 o0 (byt l)) (hl : l.length ≤ 1000000) (hlc : l.length ≤ c0) (e bb rb tb : Nat) (ty : Int) (tot : List UInt8) (c : Int) (htot : tot.length ≤ 2000000000) : Does Tryd.prog 33 [.pointer (some ⟨e, 0, none⟩), .pointer (some ⟨rb, 0, none⟩)] [Enc e bb tot c, Blk rb [.pointer (some ⟨tb, 0, none⟩), .pointer none, .slice (some ⟨b0, o0, none⟩) l.length c0] 59, Blk tb [.int .i64 (ty)] 2, A] (fun v L => v = .nilIface ∧ L = [Enc e bb (tot ++ fr8 (rbody ty (crcWrite c l) (some l))) (crcWrite c l)]) := by
  refine Does.enterN 65 Tryd.func33 rfl rfl rfl fun W F => ?_
  show WPc _ _ _ _ _ [(0, .pointer (some ⟨e, 0, none⟩)), (1, .pointer (some ⟨rb, 0, none⟩))] (Enc e bb tot c :: Blk rb [.pointer (some ⟨tb, 0, none⟩), .pointer none, .slice (some ⟨b0, o0, none⟩) l.length c0] 59 :: Blk tb [.int .i64 (ty)] 2 :: A :: F)
  refine WPc.seq ?_
  refine WPc.open (fun w h => enc_open h) ?_
  rintro ⟨pw, cb, ub, UB⟩
  refine WPc.pure (fun hUB => ?_)
  dsimp only at hUB
  show WPc _ _ _ _ _ _ (Blk e [.pointer (some ⟨pw, 0, none⟩), .pointer (some ⟨cb, 0, none⟩), .slice (some ⟨ub, 0, none⟩) 8 8] 103 :: Blk cb [.int .u32 (c)] 99 :: Blk ub UB 5 :: Pw pw bb tot :: Blk rb [.pointer (some ⟨tb, 0, none⟩), .pointer none, .slice (some ⟨b0, o0, none⟩) l.length c0] 59 :: Blk tb [.int .i64 (ty)] 2 :: A :: F)
  refine WPc.region ?_
  refine WP.val rfl rfl rfl (Val.assign rfl rfl) ?_
  refine WP.nil ?_
  refine Out.next ?_
  refine WPc.seq ?_
  refine WPc.seq ?_
  refine WPc.region ?_
  refine WP.val rfl rfl rfl (Val.move rfl rfl) ?_
  refine WP.val rfl rfl rfl (Val.nilCheck rfl rfl) ?_
  refine WP.val rfl rfl rfl (Val.fieldAddr (j := 0) rfl Ty.fo59_0 rfl rfl) ?_
  refine WP.val rfl rfl rfl (Val.load rfl Ty.sc56 rfl (fun w h => h.cell 4 rfl rfl)) ?_
  refine WP.val rfl rfl rfl (Val.nilP rfl Ty.ip56 rfl rfl) ?_
  refine WP.nil ?_
  refine Out.next ?_
  refine WPc.condF rfl rfl ?_
  refine WPc.skip ?_
  refine Out.next ?_
  refine WPc.seq ?_
  refine WPc.region ?_
  refine WP.val rfl rfl rfl (Val.move rfl rfl) ?_
  refine WP.val rfl rfl rfl (Val.nilCheck rfl rfl) ?_
  refine WP.val rfl rfl rfl (Val.mu rfl mu103_0 rfl (fun w h => h.at 0 rfl)) ?_
  refine WP.eff rfl rfl rfl (Eff.call rfl rfl Tryd.call37 (lock_spec (.pointer (some ⟨e, 0, none⟩)))) ?_
  rintro _ _ ⟨_, ⟨rfl, rfl⟩, rfl⟩
  show WP _ _ _ _ _ _ _ (Blk e [.pointer (some ⟨pw, 0, none⟩), .pointer (some ⟨cb, 0, none⟩), .slice (some ⟨ub, 0, none⟩) 8 8] 103 :: Blk cb [.int .u32 (c)] 99 :: Blk ub UB 5 :: Pw pw bb tot :: Blk rb [.pointer (some ⟨tb, 0, none⟩), .pointer none, .slice (some ⟨b0, o0, none⟩) l.length c0] 59 :: Blk tb [.int .i64 (ty)] 2 :: A :: F)
  refine WP.nil ?_
  refine Out.next ?_
  refine WPc.seq ?_
  refine WPc.region ?_
  refine WP.val rfl rfl rfl (Val.move rfl rfl) ?_
  refine WP.val rfl rfl rfl (Val.nilCheck rfl rfl) ?_
  refine WP.val rfl rfl rfl (Val.mu rfl mu103_0 rfl (fun w h => h.at 0 rfl)) ?_
  refine WP.defer rfl rfl rfl rfl (fun Dd hDd => ?_)
  show WP _ _ _ _ _ _ _ (Blk e [.pointer (some ⟨pw, 0, none⟩), .pointer (some ⟨cb, 0, none⟩), .slice (some ⟨ub, 0, none⟩) 8 8] 103 :: Blk cb [.int .u32 (c)] 99 :: Blk ub UB 5 :: Pw pw bb tot :: Blk rb [.pointer (some ⟨tb, 0, none⟩), .pointer none, .slice (some ⟨b0, o0, none⟩) l.length c0] 59 :: Blk tb [.int .i64 (ty)] 2 :: A :: F)
  refine WP.nil ?_
  refine Out.next ?_
  refine WPc.seq ?_
  refine WPD.start (Sat W (Blk e [.pointer (some ⟨pw, 0, none⟩), .pointer (some ⟨cb, 0, none⟩), .slice (some ⟨ub, 0, none⟩) 8 8] 103 :: Blk cb [.int .u32 (c)] 99 :: Blk ub UB 5 :: Pw pw bb tot :: Blk rb [.pointer (some ⟨tb, 0, none⟩), .pointer none, .slice (some ⟨b0, o0, none⟩) l.length c0] 59 :: Blk tb [.int .i64 (ty)] 2 :: A :: F)) Ty.mixed ?_
  refine WPD.takeM 0 rfl rfl rfl rfl (by kernel_rfl) (by kernel_rfl) (by kernel_rfl) (by kernel_rfl) (fun _ _ _ h => h) (fun _ h => h) (Val.move rfl rfl) ?_
  refine WPD.takeM 1 rfl rfl rfl rfl (by kernel_rfl) (by kernel_rfl) (by kernel_rfl) (by kernel_rfl) (fun _ _ _ h => h) (fun _ h => h) (Val.nilCheck rfl rfl) ?_
  refine WPD.takeM 2 rfl rfl rfl rfl (by kernel_rfl) (by kernel_rfl) (by kernel_rfl) (by kernel_rfl) (fun _ _ _ h => h) (fun _ h => h) (Val.fieldAddr (j := 1) rfl Ty.fo103_2 rfl rfl) ?_
  refine WPD.take 3 rfl rfl rfl rfl (by kernel_rfl) (by kernel_rfl) (by kernel_rfl) (by kernel_rfl) (fun _ _ _ h => h) (by kernel_rfl) (fun _ h => h) (Val.load rfl Ty.sc84 rfl (fun w h => h.cell 0 rfl rfl)) ?_
  refine WPD.takeM 4 rfl rfl rfl rfl (by kernel_rfl) (by kernel_rfl) (by kernel_rfl) (by kernel_rfl) (fun _ _ _ h => h) (fun _ h => h) (Val.move rfl rfl) ?_
  refine WPD.takeM 5 rfl rfl rfl rfl (by kernel_rfl) (by kernel_rfl) (by kernel_rfl) (by kernel_rfl) (fun _ _ _ h => h) (fun _ h => h) (Val.nilCheck rfl rfl) ?_
  refine WPD.takeM 6 rfl rfl rfl rfl (by kernel_rfl) (by kernel_rfl) (by kernel_rfl) (by kernel_rfl) (fun _ _ _ h => h) (fun _ h => h) (Val.fieldAddr (j := 2) rfl Ty.fo59_2 rfl rfl) ?_
  refine WPD.take 7 rfl rfl rfl rfl (by kernel_rfl) (by kernel_rfl) (by kernel_rfl) (by kernel_rfl) (fun _ _ _ h => h) (by kernel_rfl) (fun _ h => h) (Val.load rfl Ty.sc40 rfl (fun w h => h.cell 4 rfl rfl)) ?_
  refine WPD.perm pl6 ?_
  refine WPD.perm pl2 ?_
  refine WPD.stepC 8 (by kernel_rfl) rfl rfl rfl rfl (by kernel_rfl) (Eff.call rfl rfl Tryd.call39 (crc_row A cb c l (by omega) b0 o0 c0 (fun w h => (rd_bcf (hr w h))))) ?_
  rintro _ _ ⟨_, ⟨kk, rfl, rfl⟩, rfl⟩
  refine ⟨(Sat W (Blk cb [.int .u32 ((crcWrite c l))] 99 :: A :: Blk e [.pointer (some ⟨pw, 0, none⟩), .pointer (some ⟨cb, 0, none⟩), .slice (some ⟨ub, 0, none⟩) 8 8] 103 :: Blk ub UB 5 :: Pw pw bb tot :: Blk rb [.pointer (some ⟨tb, 0, none⟩), .pointer none, .slice (some ⟨b0, o0, none⟩) l.length c0] 59 :: Blk tb [.int .i64 (ty)] 2 :: F)), (fun _ h => h), ?_⟩
  show WPD _ _ _ _ _ _ _ _ _ (Blk cb [.int .u32 ((crcWrite c l))] 99 :: A :: Blk e [.pointer (some ⟨pw, 0, none⟩), .pointer (some ⟨cb, 0, none⟩), .slice (some ⟨ub, 0, none⟩) 8 8] 103 :: Blk ub UB 5 :: Pw pw bb tot :: Blk rb [.pointer (some ⟨tb, 0, none⟩), .pointer none, .slice (some ⟨b0, o0, none⟩) l.length c0] 59 :: Blk tb [.int .i64 (ty)] 2 :: F)
  refine WPD.done (by kernel_rfl) ?_
  refine Out.next ?_
  refine WPc.seq ?_
  refine WPc.region ?_
  refine WP.val rfl rfl rfl (Val.move rfl rfl) ?_
  refine WP.val rfl rfl rfl (Val.move rfl rfl) ?_
  refine WP.val rfl rfl rfl (Val.nilCheck rfl rfl) ?_
  refine WP.val rfl rfl rfl (Val.fieldAddr (j := 1) rfl Ty.fo103_2 rfl rfl) ?_
  refine WP.val rfl rfl rfl (Val.load rfl Ty.sc84 rfl (fun w h => h.cell 2 rfl rfl)) ?_
  refine WP.eff rfl rfl rfl (Eff.call rfl rfl Tryd.call40 (sum_spec cb (crcWrite c l))) ?_
  rintro _ _ ⟨_, ⟨rfl, rfl⟩, rfl⟩
  show WP _ _ _ _ _ _ _ (Blk cb [.int .u32 ((crcWrite c l))] 99 :: A :: Blk e [.pointer (some ⟨pw, 0, none⟩), .pointer (some ⟨cb, 0, none⟩), .slice (some ⟨ub, 0, none⟩) 8 8] 103 :: Blk ub UB 5 :: Pw pw bb tot :: Blk rb [.pointer (some ⟨tb, 0, none⟩), .pointer none, .slice (some ⟨b0, o0, none⟩) l.length c0] 59 :: Blk tb [.int .i64 (ty)] 2 :: F)
  refine WP.eff rfl rfl rfl (Eff.box (C := [.int .u32 ((crcWrite c l))]) rfl rfl rfl) ?_
  rintro _ _ ⟨b1, rfl, rfl⟩
  refine WP.val rfl rfl rfl (Val.nilCheck rfl rfl) ?_
  refine WP.val rfl rfl rfl (Val.fieldAddr (j := 1) rfl Ty.fo59_1 rfl rfl) ?_
  refine WP.perm pl6 ?_
  refine WP.eff0 rfl rfl (Eff.store rfl Ty.sc57 rfl rfl rfl (by simp) st1) ?_
  rintro _ _ rfl
  refine WP.nil ?_
  refine Out.next ?_
  refine WPc.seq ?_
  refine WPc.region ?_
  refine WP.val rfl rfl rfl (Val.assign rfl rfl) ?_
  refine WP.nil ?_
  refine Out.next ?_
  refine WPc.seq ?_
  refine WPc.region ?_
  refine WP.val rfl rfl rfl (Val.assign rfl rfl) ?_
  refine WP.nil ?_
  refine Out.next ?_
  refine WPc.seq ?_
  refine WPc.region ?_
  refine WP.val rfl rfl rfl (Val.move rfl rfl) ?_
  refine WP.val rfl rfl rfl (Val.iface rfl rfl Ty.ni55) ?_
  refine WP.perm pl3 ?_
  refine WP.perm pl2 ?_
  refine WP.perm pl7 ?_
  refine WP.perm pl3 ?_
  refine WP.eff rfl rfl rfl (Eff.call rfl rfl Tryd.call41 (marshal_has A l b0 o0 c0 hr hl hlc rb tb b1 ty (crcWrite c l))) ?_
  rintro _ _ ⟨_, ⟨mu, rfl, rfl⟩, rfl⟩
  show WP _ _ _ _ _ _ _ (Own 5 1 mu ((rbody ty (crcWrite c l) (some l) : List UInt8).length) (byt (rbody ty (crcWrite c l) (some l))) :: Blk rb [.pointer (some ⟨tb, 0, none⟩), .pointer (some ⟨b1, 0, none⟩), .slice (some ⟨b0, o0, none⟩) l.length c0] 59 :: Blk tb [.int .i64 (ty)] 2 :: Blk b1 [.int .u32 ((crcWrite c l))] 22 :: A :: Blk cb [.int .u32 ((crcWrite c l))] 99 :: Blk e [.pointer (some ⟨pw, 0, none⟩), .pointer (some ⟨cb, 0, none⟩), .slice (some ⟨ub, 0, none⟩) 8 8] 103 :: Blk ub UB 5 :: Pw pw bb tot :: F)
  refine WP.val rfl rfl rfl (Val.move rfl rfl) ?_
  refine WP.val rfl rfl rfl (Val.extract rfl rfl rfl) ?_
  refine WP.val rfl rfl rfl (Val.extract rfl rfl rfl) ?_
  refine WP.val rfl rfl rfl (Val.assign rfl rfl) ?_
  refine WP.val rfl rfl rfl (Val.assign rfl rfl) ?_
  refine WP.nil ?_
  refine Out.next ?_
  refine WPc.seq ?_
  refine WPc.seq ?_
  refine WPc.region ?_
  refine WP.val rfl rfl rfl (Val.move rfl rfl) ?_
  refine WP.val rfl rfl rfl (Val.nilIn rfl Ty.if61 rfl) ?_
  refine WP.nil ?_
  refine Out.next ?_
  refine WPc.condF rfl rfl ?_
  refine WPc.skip ?_
  refine Out.next ?_
  refine WPc.seq ?_
  refine WPc.region ?_
  refine WP.val rfl rfl rfl (Val.move rfl rfl) ?_
  have hbl := rbody_len ty (crcWrite c l) (some l)
  have hbp := rbody_pos ty (crcWrite c l) (some l)
  simp only [Option.getD] at hbl
  have hpl := padn_lt (rbody ty (crcWrite c l) (some l)).length
  have hll : (rbody ty (crcWrite c l) (some l) ++ List.replicate (padn (rbody ty (crcWrite c l) (some l)).length) 0).length = (rbody ty (crcWrite c l) (some l)).length + padn (rbody ty (crcWrite c l) (some l)).length := by rw [List.length_append, List.length_replicate]
  refine WP.eff rfl rfl rfl (Eff.call rfl rfl Tryd.call42 (prep_spec mu (rbody ty (crcWrite c l) (some l)) (by omega))) ?_
  rintro _ _ ⟨_, ⟨pu, rfl, rfl⟩, rfl⟩
  show WP _ _ _ _ _ _ _ (Own 5 1 pu ((rbody ty (crcWrite c l) (some l) ++ List.replicate (padn (rbody ty (crcWrite c l) (some l)).length) 0 : List UInt8).length) (byt (rbody ty (crcWrite c l) (some l) ++ List.replicate (padn (rbody ty (crcWrite c l) (some l)).length) 0)) :: Blk rb [.pointer (some ⟨tb, 0, none⟩), .pointer (some ⟨b1, 0, none⟩), .slice (some ⟨b0, o0, none⟩) l.length c0] 59 :: Blk tb [.int .i64 (ty)] 2 :: Blk b1 [.int .u32 ((crcWrite c l))] 22 :: A :: Blk cb [.int .u32 ((crcWrite c l))] 99 :: Blk e [.pointer (some ⟨pw, 0, none⟩), .pointer (some ⟨cb, 0, none⟩), .slice (some ⟨ub, 0, none⟩) 8 8] 103 :: Blk ub UB 5 :: Pw pw bb tot :: F)
  refine WP.val rfl rfl rfl (Val.move rfl rfl) ?_
  refine WP.val rfl rfl rfl (Val.extract rfl rfl rfl) ?_
  refine WP.val rfl rfl rfl (Val.extract rfl rfl rfl) ?_
  refine WP.val rfl rfl rfl (Val.assign rfl rfl) ?_
  refine WP.val rfl rfl rfl (Val.assign rfl rfl) ?_
  refine WP.nil ?_
  refine Out.next ?_
  refine WPc.seq ?_
  refine WPD.start (Sat W (Own 5 1 pu ((rbody ty (crcWrite c l) (some l) ++ List.replicate (padn (rbody ty (crcWrite c l) (some l)).length) 0 : List UInt8).length) (byt (rbody ty (crcWrite c l) (some l) ++ List.replicate (padn (rbody ty (crcWrite c l) (some l)).length) 0)) :: Blk rb [.pointer (some ⟨tb, 0, none⟩), .pointer (some ⟨b1, 0, none⟩), .slice (some ⟨b0, o0, none⟩) l.length c0] 59 :: Blk tb [.int .i64 (ty)] 2 :: Blk b1 [.int .u32 ((crcWrite c l))] 22 :: A :: Blk cb [.int .u32 ((crcWrite c l))] 99 :: Blk e [.pointer (some ⟨pw, 0, none⟩), .pointer (some ⟨cb, 0, none⟩), .slice (some ⟨ub, 0, none⟩) 8 8] 103 :: Blk ub UB 5 :: Pw pw bb tot :: F)) Ty.mixed ?_
  refine WPD.takeM 0 rfl rfl rfl rfl (by kernel_rfl) (by kernel_rfl) (by kernel_rfl) (by kernel_rfl) (fun _ _ _ h => h) (fun _ h => h) (Val.move rfl rfl) ?_
  refine WPD.takeM 1 rfl rfl rfl rfl (by kernel_rfl) (by kernel_rfl) (by kernel_rfl) (by kernel_rfl) (fun _ _ _ h => h) (fun _ h => h) (Val.nilCheck rfl rfl) ?_
  refine WPD.takeM 2 rfl rfl rfl rfl (by kernel_rfl) (by kernel_rfl) (by kernel_rfl) (by kernel_rfl) (fun _ _ _ h => h) (fun _ h => h) (Val.fieldAddr (j := 0) rfl Ty.fo103_1 rfl rfl) ?_
  refine WPD.take 3 rfl rfl rfl rfl (by kernel_rfl) (by kernel_rfl) (by kernel_rfl) (by kernel_rfl) (fun _ _ _ h => h) (by kernel_rfl) (fun _ h => h) (Val.load rfl Ty.sc100 rfl (fun w h => h.cell 6 rfl rfl)) ?_
  refine WPD.take 4 rfl rfl rfl rfl (by kernel_rfl) (by kernel_rfl) (by kernel_rfl) (by kernel_rfl) (fun _ _ _ h => h) (by kernel_rfl) (fun _ h => h) (Val.iface rfl rfl Ty.ni100) ?_
  refine WPD.takeM 5 rfl rfl rfl rfl (by kernel_rfl) (by kernel_rfl) (by kernel_rfl) (by kernel_rfl) (fun _ _ _ h => h) (fun _ h => h) (Val.move rfl rfl) ?_
  refine WPD.takeM 6 rfl rfl rfl rfl (by kernel_rfl) (by kernel_rfl) (by kernel_rfl) (by kernel_rfl) (fun _ _ _ h => h) (fun _ h => h) (Val.nilCheck rfl rfl) ?_
  refine WPD.takeM 7 rfl rfl rfl rfl (by kernel_rfl) (by kernel_rfl) (by kernel_rfl) (by kernel_rfl) (fun _ _ _ h => h) (fun _ h => h) (Val.fieldAddr (j := 2) rfl Ty.fo103_3 rfl rfl) ?_
  refine WPD.take 8 rfl rfl rfl rfl (by kernel_rfl) (by kernel_rfl) (by kernel_rfl) (by kernel_rfl) (fun _ _ _ h => h) (by kernel_rfl) (fun _ h => h) (Val.load rfl Ty.sc40 rfl (fun w h => h.cell 6 rfl rfl)) ?_
  refine WPD.takeM 9 rfl rfl rfl rfl (by kernel_rfl) (by kernel_rfl) (by kernel_rfl) (by kernel_rfl) (fun _ _ _ h => h) (fun _ h => h) (Val.move rfl rfl) ?_
  refine WPD.takeM 10 rfl rfl rfl rfl (by kernel_rfl) (by kernel_rfl) (by kernel_rfl) (by kernel_rfl) (fun _ _ _ h => h) (fun _ h => h) (Val.move rfl rfl) ?_
  refine WPD.perm pl7 ?_
  refine WPD.perm pl8 ?_
  refine WPD.stepC 11 (by kernel_rfl) rfl rfl rfl rfl (by kernel_rfl) (Eff.call rfl rfl Tryd.call43 (write43_spec pw bb ub ((lfN (rbody ty (crcWrite c l) (some l)).length : Nat) : Int) UB pu (rbody ty (crcWrite c l) (some l) ++ List.replicate (padn (rbody ty (crcWrite c l) (some l)).length) 0) tot hUB (by omega) (by omega) (by omega))) ?_
  rintro _ _ ⟨_, ⟨rfl, rfl⟩, rfl⟩
  refine ⟨(Sat W (Pw pw bb (tot ++ fr8 (rbody ty (crcWrite c l) (some l))) :: Blk ub (byt (leN ((lfN (rbody ty (crcWrite c l) (some l)).length : Nat) : Int) 8)) 5 :: Blk rb [.pointer (some ⟨tb, 0, none⟩), .pointer (some ⟨b1, 0, none⟩), .slice (some ⟨b0, o0, none⟩) l.length c0] 59 :: Blk tb [.int .i64 (ty)] 2 :: Blk b1 [.int .u32 ((crcWrite c l))] 22 :: A :: Blk cb [.int .u32 ((crcWrite c l))] 99 :: Blk e [.pointer (some ⟨pw, 0, none⟩), .pointer (some ⟨cb, 0, none⟩), .slice (some ⟨ub, 0, none⟩) 8 8] 103 :: F)), (fun _ h => h), ?_⟩
  show WPD _ _ _ _ _ _ _ _ _ (Pw pw bb (tot ++ fr8 (rbody ty (crcWrite c l) (some l))) :: Blk ub (byt (leN ((lfN (rbody ty (crcWrite c l) (some l)).length : Nat) : Int) 8)) 5 :: Blk rb [.pointer (some ⟨tb, 0, none⟩), .pointer (some ⟨b1, 0, none⟩), .slice (some ⟨b0, o0, none⟩) l.length c0] 59 :: Blk tb [.int .i64 (ty)] 2 :: Blk b1 [.int .u32 ((crcWrite c l))] 22 :: A :: Blk cb [.int .u32 ((crcWrite c l))] 99 :: Blk e [.pointer (some ⟨pw, 0, none⟩), .pointer (some ⟨cb, 0, none⟩), .slice (some ⟨ub, 0, none⟩) 8 8] 103 :: F)
  refine WPD.takeM 12 rfl rfl rfl rfl (by kernel_rfl) (by kernel_rfl) (by kernel_rfl) (by kernel_rfl) (fun _ _ _ h => h) (fun _ h => h) (Val.assign rfl rfl) ?_
  refine WPD.done (by kernel_rfl) ?_
  refine Out.next ?_
  refine WPc.ret ?_
  refine Out.perm pl2 ?_
  refine Out.drop ?_
  refine Out.perm pl2 ?_
  refine Out.drop ?_
  refine Out.perm pl2 ?_
  refine Out.drop ?_
  refine Out.perm pl2 ?_
  refine Out.drop ?_
  refine Out.perm pl1 ?_
  refine Out.perm pl2 ?_
  refine Out.perm pl3 ?_
  exact Out.retN1 (L' := [Enc e bb (tot ++ fr8 (rbody ty (crcWrite c l) (some l))) (crcWrite c l)]) hDd quiet38 Tryd.call38 Tryd.results33 rfl ⟨rfl, rfl⟩ (fun w h => enc_mk (by rw [byt_length, leN_len]) h)
set_option maxRecDepth 100000 in
set_option maxHeartbeats 2000000 in
theorem Encode_has (A : HProp) (l : List UInt8) (b0 o0 c0 : Nat) (hr : ∀ w, Holds A w → w.rangeAt b0 o0 (byt l)) (hl : l.length ≤ 1000000) (hlc : l.length ≤ c0) (e bb rb tb : Nat) (ty : Int) (tot : List UInt8) (c : Int) (htot : tot.length ≤ 2000000000) : Does Tryd.prog 26 [.agg #[.pointer (some ⟨e, 0, none⟩)], .pointer (some ⟨rb, 0, none⟩)] [Enc e bb tot c, Blk rb [.pointer (some ⟨tb, 0, none⟩), .pointer none, .slice (some ⟨b0, o0, none⟩) l.length c0] 59, Blk tb [.int .i64 (ty)] 2, A] (fun v L => v = .nilIface ∧ L = [Enc e bb (tot ++ fr8 (rbody ty (crcWrite c l) (some l))) (crcWrite c l)]) := by
  refine Does.enter 9 Tryd.func26 rfl rfl rfl fun W F => ?_
  show WPc _ _ _ _ _ [(0, .agg #[.pointer (some ⟨e, 0, none⟩)]), (1, .pointer (some ⟨rb, 0, none⟩))] (Enc e bb tot c :: Blk rb [.pointer (some ⟨tb, 0, none⟩), .pointer none, .slice (some ⟨b0, o0, none⟩) l.length c0] 59 :: Blk tb [.int .i64 (ty)] 2 :: A :: F)
  refine WPc.seq ?_
  refine WPc.region ?_
  refine WP.eff rfl rfl rfl (Eff.box (C := [.pointer (some ⟨e, 0, none⟩)]) rfl rfl rfl) ?_
  rintro _ _ ⟨b1, rfl, rfl⟩
  refine WP.val rfl rfl rfl (Val.assign rfl rfl) ?_
  refine WP.nil ?_
  refine Out.next ?_
  refine WPc.seq ?_
  refine WPc.region ?_
  refine WP.val rfl rfl rfl (Val.fieldAddr (j := 0) rfl Ty.fo75_0 rfl rfl) ?_
  refine WP.val rfl rfl rfl (Val.load rfl Ty.sc73 rfl (fun w h => h.cell 0 rfl rfl)) ?_
  refine WP.val rfl rfl rfl (Val.move rfl rfl) ?_
  refine WP.perm pl4 ?_
  refine WP.perm pl4 ?_
  refine WP.perm pl4 ?_
  refine WP.perm pl4 ?_
  refine WP.eff rfl rfl rfl (Eff.call rfl rfl Tryd.call33 (encode_has A l b0 o0 c0 hr hl hlc e bb rb tb ty tot c htot)) ?_
  rintro _ _ ⟨_, ⟨rfl, rfl⟩, rfl⟩
  show WP _ _ _ _ _ _ _ (Enc e bb (tot ++ fr8 (rbody ty (crcWrite c l) (some l))) ((crcWrite c l)) :: Blk b1 [.pointer (some ⟨e, 0, none⟩)] 75 :: F)
  refine WP.val rfl rfl rfl (Val.assign rfl rfl) ?_
  refine WP.nil ?_
  refine Out.next ?_
  refine WPc.ret ?_
  refine Out.perm pl1 ?_
  refine Out.drop ?_
  exact Out.ret1 (L' := _) Tryd.results26 rfl ⟨rfl, rfl⟩ (fun _ h => h)
set_option maxRecDepth 100000 in
set_option maxHeartbeats 2000000 in
theorem encode_none (e bb rb tb : Nat) (ty : Int) (tot : List UInt8) (c : Int) (htot : tot.length ≤ 2000000000) : Does Tryd.prog 33 [.pointer (some ⟨e, 0, none⟩), .pointer (some ⟨rb, 0, none⟩)] [Enc e bb tot c, Blk rb [.pointer (some ⟨tb, 0, none⟩), .pointer none, .slice none 0 0] 59, Blk tb [.int .i64 (ty)] 2] (fun v L => v = .nilIface ∧ L = [Enc e bb (tot ++ fr8 (rbody ty (crcWrite c []) none)) (crcWrite c [])]) := by
  refine Does.enterN 65 Tryd.func33 rfl rfl rfl fun W F => ?_
  show WPc _ _ _ _ _ [(0, .pointer (some ⟨e, 0, none⟩)), (1, .pointer (some ⟨rb, 0, none⟩))] (Enc e bb tot c :: Blk rb [.pointer (some ⟨tb, 0, none⟩), .pointer none, .slice none 0 0] 59 :: Blk tb [.int .i64 (ty)] 2 :: F)
  refine WPc.seq ?_
  refine WPc.open (fun w h => enc_open h) ?_
  rintro ⟨pw, cb, ub, UB⟩
  refine WPc.pure (fun hUB => ?_)
  dsimp only at hUB
  show WPc _ _ _ _ _ _ (Blk e [.pointer (some ⟨pw, 0, none⟩), .pointer (some ⟨cb, 0, none⟩), .slice (some ⟨ub, 0, none⟩) 8 8] 103 :: Blk cb [.int .u32 (c)] 99 :: Blk ub UB 5 :: Pw pw bb tot :: Blk rb [.pointer (some ⟨tb, 0, none⟩), .pointer none, .slice none 0 0] 59 :: Blk tb [.int .i64 (ty)] 2 :: F)
  refine WPc.region ?_
  refine WP.val rfl rfl rfl (Val.assign rfl rfl) ?_
  refine WP.nil ?_
  refine Out.next ?_
  refine WPc.seq ?_
  refine WPc.seq ?_
  refine WPc.region ?_
  refine WP.val rfl rfl rfl (Val.move rfl rfl) ?_
  refine WP.val rfl rfl rfl (Val.nilCheck rfl rfl) ?_
  refine WP.val rfl rfl rfl (Val.fieldAddr (j := 0) rfl Ty.fo59_0 rfl rfl) ?_
  refine WP.val rfl rfl rfl (Val.load rfl Ty.sc56 rfl (fun w h => h.cell 4 rfl rfl)) ?_
  refine WP.val rfl rfl rfl (Val.nilP rfl Ty.ip56 rfl rfl) ?_
  refine WP.nil ?_
  refine Out.next ?_
  refine WPc.condF rfl rfl ?_
  refine WPc.skip ?_
  refine Out.next ?_
  refine WPc.seq ?_
  refine WPc.region ?_
  refine WP.val rfl rfl rfl (Val.move rfl rfl) ?_
  refine WP.val rfl rfl rfl (Val.nilCheck rfl rfl) ?_
  refine WP.val rfl rfl rfl (Val.mu rfl mu103_0 rfl (fun w h => h.at 0 rfl)) ?_
  refine WP.eff rfl rfl rfl (Eff.call rfl rfl Tryd.call37 (lock_spec (.pointer (some ⟨e, 0, none⟩)))) ?_
  rintro _ _ ⟨_, ⟨rfl, rfl⟩, rfl⟩
  show WP _ _ _ _ _ _ _ (Blk e [.pointer (some ⟨pw, 0, none⟩), .pointer (some ⟨cb, 0, none⟩), .slice (some ⟨ub, 0, none⟩) 8 8] 103 :: Blk cb [.int .u32 (c)] 99 :: Blk ub UB 5 :: Pw pw bb tot :: Blk rb [.pointer (some ⟨tb, 0, none⟩), .pointer none, .slice none 0 0] 59 :: Blk tb [.int .i64 (ty)] 2 :: F)
  refine WP.nil ?_
  refine Out.next ?_
  refine WPc.seq ?_
  refine WPc.region ?_
  refine WP.val rfl rfl rfl (Val.move rfl rfl) ?_
  refine WP.val rfl rfl rfl (Val.nilCheck rfl rfl) ?_
  refine WP.val rfl rfl rfl (Val.mu rfl mu103_0 rfl (fun w h => h.at 0 rfl)) ?_
  refine WP.defer rfl rfl rfl rfl (fun Dd hDd => ?_)
  show WP _ _ _ _ _ _ _ (Blk e [.pointer (some ⟨pw, 0, none⟩), .pointer (some ⟨cb, 0, none⟩), .slice (some ⟨ub, 0, none⟩) 8 8] 103 :: Blk cb [.int .u32 (c)] 99 :: Blk ub UB 5 :: Pw pw bb tot :: Blk rb [.pointer (some ⟨tb, 0, none⟩), .pointer none, .slice none 0 0] 59 :: Blk tb [.int .i64 (ty)] 2 :: F)
  refine WP.nil ?_
  refine Out.next ?_
  refine WPc.seq ?_
  refine WPD.start (Sat W (Blk e [.pointer (some ⟨pw, 0, none⟩), .pointer (some ⟨cb, 0, none⟩), .slice (some ⟨ub, 0, none⟩) 8 8] 103 :: Blk cb [.int .u32 (c)] 99 :: Blk ub UB 5 :: Pw pw bb tot :: Blk rb [.pointer (some ⟨tb, 0, none⟩), .pointer none, .slice none 0 0] 59 :: Blk tb [.int .i64 (ty)] 2 :: F)) Ty.mixed ?_
  refine WPD.takeM 0 rfl rfl rfl rfl (by kernel_rfl) (by kernel_rfl) (by kernel_rfl) (by kernel_rfl) (fun _ _ _ h => h) (fun _ h => h) (Val.move rfl rfl) ?_
  refine WPD.takeM 1 rfl rfl rfl rfl (by kernel_rfl) (by kernel_rfl) (by kernel_rfl) (by kernel_rfl) (fun _ _ _ h => h) (fun _ h => h) (Val.nilCheck rfl rfl) ?_
  refine WPD.takeM 2 rfl rfl rfl rfl (by kernel_rfl) (by kernel_rfl) (by kernel_rfl) (by kernel_rfl) (fun _ _ _ h => h) (fun _ h => h) (Val.fieldAddr (j := 1) rfl Ty.fo103_2 rfl rfl) ?_
  refine WPD.take 3 rfl rfl rfl rfl (by kernel_rfl) (by kernel_rfl) (by kernel_rfl) (by kernel_rfl) (fun _ _ _ h => h) (by kernel_rfl) (fun _ h => h) (Val.load rfl Ty.sc84 rfl (fun w h => h.cell 0 rfl rfl)) ?_
  refine WPD.takeM 4 rfl rfl rfl rfl (by kernel_rfl) (by kernel_rfl) (by kernel_rfl) (by kernel_rfl) (fun _ _ _ h => h) (fun _ h => h) (Val.move rfl rfl) ?_
  refine WPD.takeM 5 rfl rfl rfl rfl (by kernel_rfl) (by kernel_rfl) (by kernel_rfl) (by kernel_rfl) (fun _ _ _ h => h) (fun _ h => h) (Val.nilCheck rfl rfl) ?_
  refine WPD.takeM 6 rfl rfl rfl rfl (by kernel_rfl) (by kernel_rfl) (by kernel_rfl) (by kernel_rfl) (fun _ _ _ h => h) (fun _ h => h) (Val.fieldAddr (j := 2) rfl Ty.fo59_2 rfl rfl) ?_
  refine WPD.take 7 rfl rfl rfl rfl (by kernel_rfl) (by kernel_rfl) (by kernel_rfl) (by kernel_rfl) (fun _ _ _ h => h) (by kernel_rfl) (fun _ h => h) (Val.load rfl Ty.sc40 rfl (fun w h => h.cell 4 rfl rfl)) ?_
  refine WPD.perm pl5 ?_
  refine WPD.perm pl2 ?_
  refine WPD.stepC 8 (by kernel_rfl) rfl rfl rfl rfl (by kernel_rfl) (Eff.call rfl rfl Tryd.call39 (crc_nil (Blk tb [.int .i64 ty] 2) cb c none 0)) ?_
  rintro _ _ ⟨_, ⟨kk, rfl, rfl⟩, rfl⟩
  refine ⟨(Sat W (Blk cb [.int .u32 ((crcWrite c []))] 99 :: Blk tb [.int .i64 (ty)] 2 :: Blk e [.pointer (some ⟨pw, 0, none⟩), .pointer (some ⟨cb, 0, none⟩), .slice (some ⟨ub, 0, none⟩) 8 8] 103 :: Blk ub UB 5 :: Pw pw bb tot :: Blk rb [.pointer (some ⟨tb, 0, none⟩), .pointer none, .slice none 0 0] 59 :: F)), (fun _ h => h), ?_⟩
  show WPD _ _ _ _ _ _ _ _ _ (Blk cb [.int .u32 ((crcWrite c []))] 99 :: Blk tb [.int .i64 (ty)] 2 :: Blk e [.pointer (some ⟨pw, 0, none⟩), .pointer (some ⟨cb, 0, none⟩), .slice (some ⟨ub, 0, none⟩) 8 8] 103 :: Blk ub UB 5 :: Pw pw bb tot :: Blk rb [.pointer (some ⟨tb, 0, none⟩), .pointer none, .slice none 0 0] 59 :: F)
  refine WPD.done (by kernel_rfl) ?_
  refine Out.next ?_
  refine WPc.seq ?_
  refine WPc.region ?_
  refine WP.val rfl rfl rfl (Val.move rfl rfl) ?_
  refine WP.val rfl rfl rfl (Val.move rfl rfl) ?_
  refine WP.val rfl rfl rfl (Val.nilCheck rfl rfl) ?_
  refine WP.val rfl rfl rfl (Val.fieldAddr (j := 1) rfl Ty.fo103_2 rfl rfl) ?_
  refine WP.val rfl rfl rfl (Val.load rfl Ty.sc84 rfl (fun w h => h.cell 2 rfl rfl)) ?_
  refine WP.eff rfl rfl rfl (Eff.call rfl rfl Tryd.call40 (sum_spec cb (crcWrite c []))) ?_
  rintro _ _ ⟨_, ⟨rfl, rfl⟩, rfl⟩
  show WP _ _ _ _ _ _ _ (Blk cb [.int .u32 ((crcWrite c []))] 99 :: Blk tb [.int .i64 (ty)] 2 :: Blk e [.pointer (some ⟨pw, 0, none⟩), .pointer (some ⟨cb, 0, none⟩), .slice (some ⟨ub, 0, none⟩) 8 8] 103 :: Blk ub UB 5 :: Pw pw bb tot :: Blk rb [.pointer (some ⟨tb, 0, none⟩), .pointer none, .slice none 0 0] 59 :: F)
  refine WP.eff rfl rfl rfl (Eff.box (C := [.int .u32 ((crcWrite c []))]) rfl rfl rfl) ?_
  rintro _ _ ⟨b1, rfl, rfl⟩
  refine WP.val rfl rfl rfl (Val.nilCheck rfl rfl) ?_
  refine WP.val rfl rfl rfl (Val.fieldAddr (j := 1) rfl Ty.fo59_1 rfl rfl) ?_
  refine WP.perm pl6 ?_
  refine WP.eff0 rfl rfl (Eff.store rfl Ty.sc57 rfl rfl rfl (by simp) st1) ?_
  rintro _ _ rfl
  refine WP.nil ?_
  refine Out.next ?_
  refine WPc.seq ?_
  refine WPc.region ?_
  refine WP.val rfl rfl rfl (Val.assign rfl rfl) ?_
  refine WP.nil ?_
  refine Out.next ?_
  refine WPc.seq ?_
  refine WPc.region ?_
  refine WP.val rfl rfl rfl (Val.assign rfl rfl) ?_
  refine WP.nil ?_
  refine Out.next ?_
  refine WPc.seq ?_
  refine WPc.region ?_
  refine WP.val rfl rfl rfl (Val.move rfl rfl) ?_
  refine WP.val rfl rfl rfl (Val.iface rfl rfl Ty.ni55) ?_
  refine WP.perm pl1 ?_
  refine WP.perm pl3 ?_
  refine WP.perm pl2 ?_
  refine WP.eff rfl rfl rfl (Eff.call rfl rfl Tryd.call41 (marshal_none rb tb b1 ty (crcWrite c []))) ?_
  rintro _ _ ⟨_, ⟨mu, rfl, rfl⟩, rfl⟩
  show WP _ _ _ _ _ _ _ (Own 5 1 mu ((rbody ty (crcWrite c []) none : List UInt8).length) (byt (rbody ty (crcWrite c []) none)) :: Blk rb [.pointer (some ⟨tb, 0, none⟩), .pointer (some ⟨b1, 0, none⟩), .slice none 0 0] 59 :: Blk tb [.int .i64 (ty)] 2 :: Blk b1 [.int .u32 ((crcWrite c []))] 22 :: Blk cb [.int .u32 ((crcWrite c []))] 99 :: Blk e [.pointer (some ⟨pw, 0, none⟩), .pointer (some ⟨cb, 0, none⟩), .slice (some ⟨ub, 0, none⟩) 8 8] 103 :: Blk ub UB 5 :: Pw pw bb tot :: F)
  refine WP.val rfl rfl rfl (Val.move rfl rfl) ?_
  refine WP.val rfl rfl rfl (Val.extract rfl rfl rfl) ?_
  refine WP.val rfl rfl rfl (Val.extract rfl rfl rfl) ?_
  refine WP.val rfl rfl rfl (Val.assign rfl rfl) ?_
  refine WP.val rfl rfl rfl (Val.assign rfl rfl) ?_
  refine WP.nil ?_
  refine Out.next ?_
  refine WPc.seq ?_
  refine WPc.seq ?_
  refine WPc.region ?_
  refine WP.val rfl rfl rfl (Val.move rfl rfl) ?_
  refine WP.val rfl rfl rfl (Val.nilIn rfl Ty.if61 rfl) ?_
  refine WP.nil ?_
  refine Out.next ?_
  refine WPc.condF rfl rfl ?_
  refine WPc.skip ?_
  refine Out.next ?_
  refine WPc.seq ?_
  refine WPc.region ?_
  refine WP.val rfl rfl rfl (Val.move rfl rfl) ?_
  have hbl := rbody_len ty (crcWrite c []) none
  have hbp := rbody_pos ty (crcWrite c []) none
  simp only [Option.getD, List.length_nil] at hbl
  have hpl := padn_lt (rbody ty (crcWrite c []) none).length
  have hll : (rbody ty (crcWrite c []) none ++ List.replicate (padn (rbody ty (crcWrite c []) none).length) 0).length = (rbody ty (crcWrite c []) none).length + padn (rbody ty (crcWrite c []) none).length := by rw [List.length_append, List.length_replicate]
  refine WP.eff rfl rfl rfl (Eff.call rfl rfl Tryd.call42 (prep_spec mu (rbody ty (crcWrite c []) none) (by omega))) ?_
  rintro _ _ ⟨_, ⟨pu, rfl, rfl⟩, rfl⟩
  show WP _ _ _ _ _ _ _ (Own 5 1 pu ((rbody ty (crcWrite c []) none ++ List.replicate (padn (rbody ty (crcWrite c []) none).length) 0 : List UInt8).length) (byt (rbody ty (crcWrite c []) none ++ List.replicate (padn (rbody ty (crcWrite c []) none).length) 0)) :: Blk rb [.pointer (some ⟨tb, 0, none⟩), .pointer (some ⟨b1, 0, none⟩), .slice none 0 0] 59 :: Blk tb [.int .i64 (ty)] 2 :: Blk b1 [.int .u32 ((crcWrite c []))] 22 :: Blk cb [.int .u32 ((crcWrite c []))] 99 :: Blk e [.pointer (some ⟨pw, 0, none⟩), .pointer (some ⟨cb, 0, none⟩), .slice (some ⟨ub, 0, none⟩) 8 8] 103 :: Blk ub UB 5 :: Pw pw bb tot :: F)
  refine WP.val rfl rfl rfl (Val.move rfl rfl) ?_
  refine WP.val rfl rfl rfl (Val.extract rfl rfl rfl) ?_
  refine WP.val rfl rfl rfl (Val.extract rfl rfl rfl) ?_
  refine WP.val rfl rfl rfl (Val.assign rfl rfl) ?_
  refine WP.val rfl rfl rfl (Val.assign rfl rfl) ?_
  refine WP.nil ?_
  refine Out.next ?_
  refine WPc.seq ?_
  refine WPD.start (Sat W (Own 5 1 pu ((rbody ty (crcWrite c []) none ++ List.replicate (padn (rbody ty (crcWrite c []) none).length) 0 : List UInt8).length) (byt (rbody ty (crcWrite c []) none ++ List.replicate (padn (rbody ty (crcWrite c []) none).length) 0)) :: Blk rb [.pointer (some ⟨tb, 0, none⟩), .pointer (some ⟨b1, 0, none⟩), .slice none 0 0] 59 :: Blk tb [.int .i64 (ty)] 2 :: Blk b1 [.int .u32 ((crcWrite c []))] 22 :: Blk cb [.int .u32 ((crcWrite c []))] 99 :: Blk e [.pointer (some ⟨pw, 0, none⟩), .pointer (some ⟨cb, 0, none⟩), .slice (some ⟨ub, 0, none⟩) 8 8] 103 :: Blk ub UB 5 :: Pw pw bb tot :: F)) Ty.mixed ?_
  refine WPD.takeM 0 rfl rfl rfl rfl (by kernel_rfl) (by kernel_rfl) (by kernel_rfl) (by kernel_rfl) (fun _ _ _ h => h) (fun _ h => h) (Val.move rfl rfl) ?_
  refine WPD.takeM 1 rfl rfl rfl rfl (by kernel_rfl) (by kernel_rfl) (by kernel_rfl) (by kernel_rfl) (fun _ _ _ h => h) (fun _ h => h) (Val.nilCheck rfl rfl) ?_
  refine WPD.takeM 2 rfl rfl rfl rfl (by kernel_rfl) (by kernel_rfl) (by kernel_rfl) (by kernel_rfl) (fun _ _ _ h => h) (fun _ h => h) (Val.fieldAddr (j := 0) rfl Ty.fo103_1 rfl rfl) ?_
  refine WPD.take 3 rfl rfl rfl rfl (by kernel_rfl) (by kernel_rfl) (by kernel_rfl) (by kernel_rfl) (fun _ _ _ h => h) (by kernel_rfl) (fun _ h => h) (Val.load rfl Ty.sc100 rfl (fun w h => h.cell 5 rfl rfl)) ?_
  refine WPD.take 4 rfl rfl rfl rfl (by kernel_rfl) (by kernel_rfl) (by kernel_rfl) (by kernel_rfl) (fun _ _ _ h => h) (by kernel_rfl) (fun _ h => h) (Val.iface rfl rfl Ty.ni100) ?_
  refine WPD.takeM 5 rfl rfl rfl rfl (by kernel_rfl) (by kernel_rfl) (by kernel_rfl) (by kernel_rfl) (fun _ _ _ h => h) (fun _ h => h) (Val.move rfl rfl) ?_
  refine WPD.takeM 6 rfl rfl rfl rfl (by kernel_rfl) (by kernel_rfl) (by kernel_rfl) (by kernel_rfl) (fun _ _ _ h => h) (fun _ h => h) (Val.nilCheck rfl rfl) ?_
  refine WPD.takeM 7 rfl rfl rfl rfl (by kernel_rfl) (by kernel_rfl) (by kernel_rfl) (by kernel_rfl) (fun _ _ _ h => h) (fun _ h => h) (Val.fieldAddr (j := 2) rfl Ty.fo103_3 rfl rfl) ?_
  refine WPD.take 8 rfl rfl rfl rfl (by kernel_rfl) (by kernel_rfl) (by kernel_rfl) (by kernel_rfl) (fun _ _ _ h => h) (by kernel_rfl) (fun _ h => h) (Val.load rfl Ty.sc40 rfl (fun w h => h.cell 5 rfl rfl)) ?_
  refine WPD.takeM 9 rfl rfl rfl rfl (by kernel_rfl) (by kernel_rfl) (by kernel_rfl) (by kernel_rfl) (fun _ _ _ h => h) (fun _ h => h) (Val.move rfl rfl) ?_
  refine WPD.takeM 10 rfl rfl rfl rfl (by kernel_rfl) (by kernel_rfl) (by kernel_rfl) (by kernel_rfl) (fun _ _ _ h => h) (fun _ h => h) (Val.move rfl rfl) ?_
  refine WPD.perm pl6 ?_
  refine WPD.perm pl7 ?_
  refine WPD.stepC 11 (by kernel_rfl) rfl rfl rfl rfl (by kernel_rfl) (Eff.call rfl rfl Tryd.call43 (write43_spec pw bb ub ((lfN (rbody ty (crcWrite c []) none).length : Nat) : Int) UB pu (rbody ty (crcWrite c []) none ++ List.replicate (padn (rbody ty (crcWrite c []) none).length) 0) tot hUB (by omega) (by omega) (by omega))) ?_
  rintro _ _ ⟨_, ⟨rfl, rfl⟩, rfl⟩
  refine ⟨(Sat W (Pw pw bb (tot ++ fr8 (rbody ty (crcWrite c []) none)) :: Blk ub (byt (leN ((lfN (rbody ty (crcWrite c []) none).length : Nat) : Int) 8)) 5 :: Blk rb [.pointer (some ⟨tb, 0, none⟩), .pointer (some ⟨b1, 0, none⟩), .slice none 0 0] 59 :: Blk tb [.int .i64 (ty)] 2 :: Blk b1 [.int .u32 ((crcWrite c []))] 22 :: Blk cb [.int .u32 ((crcWrite c []))] 99 :: Blk e [.pointer (some ⟨pw, 0, none⟩), .pointer (some ⟨cb, 0, none⟩), .slice (some ⟨ub, 0, none⟩) 8 8] 103 :: F)), (fun _ h => h), ?_⟩
  show WPD _ _ _ _ _ _ _ _ _ (Pw pw bb (tot ++ fr8 (rbody ty (crcWrite c []) none)) :: Blk ub (byt (leN ((lfN (rbody ty (crcWrite c []) none).length : Nat) : Int) 8)) 5 :: Blk rb [.pointer (some ⟨tb, 0, none⟩), .pointer (some ⟨b1, 0, none⟩), .slice none 0 0] 59 :: Blk tb [.int .i64 (ty)] 2 :: Blk b1 [.int .u32 ((crcWrite c []))] 22 :: Blk cb [.int .u32 ((crcWrite c []))] 99 :: Blk e [.pointer (some ⟨pw, 0, none⟩), .pointer (some ⟨cb, 0, none⟩), .slice (some ⟨ub, 0, none⟩) 8 8] 103 :: F)
  refine WPD.takeM 12 rfl rfl rfl rfl (by kernel_rfl) (by kernel_rfl) (by kernel_rfl) (by kernel_rfl) (fun _ _ _ h => h) (fun _ h => h) (Val.assign rfl rfl) ?_
  refine WPD.done (by kernel_rfl) ?_
  refine Out.next ?_
  refine WPc.ret ?_
  refine Out.perm pl2 ?_
  refine Out.drop ?_
  refine Out.perm pl2 ?_
  refine Out.drop ?_
  refine Out.perm pl2 ?_
  refine Out.drop ?_
  refine Out.perm pl1 ?_
  refine Out.perm pl2 ?_
  refine Out.perm pl3 ?_
  exact Out.retN1 (L' := [Enc e bb (tot ++ fr8 (rbody ty (crcWrite c []) none)) (crcWrite c [])]) hDd quiet38 Tryd.call38 Tryd.results33 rfl ⟨rfl, rfl⟩ (fun w h => enc_mk (by rw [byt_length, leN_len]) h)
set_option maxRecDepth 100000 in
set_option maxHeartbeats 2000000 in
theorem Encode_none (e bb rb tb : Nat) (ty : Int) (tot : List UInt8) (c : Int) (htot : tot.length ≤ 2000000000) : Does Tryd.prog 26 [.agg #[.pointer (some ⟨e, 0, none⟩)], .pointer (some ⟨rb, 0, none⟩)] [Enc e bb tot c, Blk rb [.pointer (some ⟨tb, 0, none⟩), .pointer none, .slice none 0 0] 59, Blk tb [.int .i64 (ty)] 2] (fun v L => v = .nilIface ∧ L = [Enc e bb (tot ++ fr8 (rbody ty (crcWrite c []) none)) (crcWrite c [])]) := by
  refine Does.enter 9 Tryd.func26 rfl rfl rfl fun W F => ?_
  show WPc _ _ _ _ _ [(0, .agg #[.pointer (some ⟨e, 0, none⟩)]), (1, .pointer (some ⟨rb, 0, none⟩))] (Enc e bb tot c :: Blk rb [.pointer (some ⟨tb, 0, none⟩), .pointer none, .slice none 0 0] 59 :: Blk tb [.int .i64 (ty)] 2 :: F)
  refine WPc.seq ?_
  refine WPc.region ?_
  refine WP.eff rfl rfl rfl (Eff.box (C := [.pointer (some ⟨e, 0, none⟩)]) rfl rfl rfl) ?_
  rintro _ _ ⟨b1, rfl, rfl⟩
  refine WP.val rfl rfl rfl (Val.assign rfl rfl) ?_
  refine WP.nil ?_
  refine Out.next ?_
  refine WPc.seq ?_
  refine WPc.region ?_
  refine WP.val rfl rfl rfl (Val.fieldAddr (j := 0) rfl Ty.fo75_0 rfl rfl) ?_
  refine WP.val rfl rfl rfl (Val.load rfl Ty.sc73 rfl (fun w h => h.cell 0 rfl rfl)) ?_
  refine WP.val rfl rfl rfl (Val.move rfl rfl) ?_
  refine WP.perm pl3 ?_
  refine WP.perm pl3 ?_
  refine WP.perm pl3 ?_
  refine WP.eff rfl rfl rfl (Eff.call rfl rfl Tryd.call33 (encode_none e bb rb tb ty tot c htot)) ?_
  rintro _ _ ⟨_, ⟨rfl, rfl⟩, rfl⟩
  show WP _ _ _ _ _ _ _ (Enc e bb (tot ++ fr8 (rbody ty (crcWrite c []) none)) ((crcWrite c [])) :: Blk b1 [.pointer (some ⟨e, 0, none⟩)] 75 :: F)
  refine WP.val rfl rfl rfl (Val.assign rfl rfl) ?_
  refine WP.nil ?_
  refine Out.next ?_
  refine WPc.ret ?_
  refine Out.perm pl1 ?_
  refine Out.drop ?_
  exact Out.ret1 (L' := _) Tryd.results26 rfl ⟨rfl, rfl⟩ (fun _ h => h)
set_option maxRecDepth 100000 in
set_option maxHeartbeats 2000000 in
theorem eflush_spec (e bb : Nat) (tot : List UInt8) (c : Int) (htot : tot.length ≤ 2000000000) : Does Tryd.prog 34 [.pointer (some ⟨e, 0, none⟩)] [Enc e bb tot c] (fun v L => ∃ wv, v = .nilIface ∧ L = [Blk bb [wv] 72, Own 5 1 wv (tot : List UInt8).length (byt (tot))]) := by
  refine Does.enterN 15 Tryd.func34 rfl rfl rfl fun W F => ?_
  show WPc _ _ _ _ _ [(0, .pointer (some ⟨e, 0, none⟩))] (Enc e bb tot c :: F)
  refine WPc.seq ?_
  refine WPc.open (fun w h => enc_open h) ?_
  rintro ⟨pw, cb, ub, UB⟩
  refine WPc.pure (fun hUB => ?_)
  dsimp only at hUB
  show WPc _ _ _ _ _ _ (Blk e [.pointer (some ⟨pw, 0, none⟩), .pointer (some ⟨cb, 0, none⟩), .slice (some ⟨ub, 0, none⟩) 8 8] 103 :: Blk cb [.int .u32 (c)] 99 :: Blk ub UB 5 :: Pw pw bb tot :: F)
  refine WPc.region ?_
  refine WP.val rfl rfl rfl (Val.assign rfl rfl) ?_
  refine WP.nil ?_
  refine Out.next ?_
  refine WPc.seq ?_
  refine WPc.region ?_
  refine WP.val rfl rfl rfl (Val.move rfl rfl) ?_
  refine WP.val rfl rfl rfl (Val.nilCheck rfl rfl) ?_
  refine WP.val rfl rfl rfl (Val.mu rfl mu103_0 rfl (fun w h => h.at 0 rfl)) ?_
  refine WP.eff rfl rfl rfl (Eff.call rfl rfl Tryd.call37 (lock_spec (.pointer (some ⟨e, 0, none⟩)))) ?_
  rintro _ _ ⟨_, ⟨rfl, rfl⟩, rfl⟩
  show WP _ _ _ _ _ _ _ (Blk e [.pointer (some ⟨pw, 0, none⟩), .pointer (some ⟨cb, 0, none⟩), .slice (some ⟨ub, 0, none⟩) 8 8] 103 :: Blk cb [.int .u32 (c)] 99 :: Blk ub UB 5 :: Pw pw bb tot :: F)
  refine WP.nil ?_
  refine Out.next ?_
  refine WPc.seq ?_
  refine WPc.region ?_
  refine WP.val rfl rfl rfl (Val.move rfl rfl) ?_
  refine WP.val rfl rfl rfl (Val.nilCheck rfl rfl) ?_
  refine WP.val rfl rfl rfl (Val.mu rfl mu103_0 rfl (fun w h => h.at 0 rfl)) ?_
  refine WP.defer rfl rfl rfl rfl (fun Dd hDd => ?_)
  show WP _ _ _ _ _ _ _ (Blk e [.pointer (some ⟨pw, 0, none⟩), .pointer (some ⟨cb, 0, none⟩), .slice (some ⟨ub, 0, none⟩) 8 8] 103 :: Blk cb [.int .u32 (c)] 99 :: Blk ub UB 5 :: Pw pw bb tot :: F)
  refine WP.nil ?_
  refine Out.next ?_
  refine WPc.seq ?_
  refine WPc.region ?_
  refine WP.val rfl rfl rfl (Val.move rfl rfl) ?_
  refine WP.val rfl rfl rfl (Val.nilCheck rfl rfl) ?_
  refine WP.val rfl rfl rfl (Val.fieldAddr (j := 0) rfl Ty.fo103_1 rfl rfl) ?_
  refine WP.val rfl rfl rfl (Val.load rfl Ty.sc100 rfl (fun w h => h.cell 0 rfl rfl)) ?_
  refine WP.perm pl3 ?_
  refine WP.eff rfl rfl rfl (Eff.call rfl rfl Tryd.call44 (pflush_spec pw bb tot (by omega))) ?_
  rintro _ _ ⟨_, ⟨wv, rfl, rfl⟩, rfl⟩
  show WP _ _ _ _ _ _ _ (Blk bb [wv] 72 :: Own 5 1 wv ((tot : List UInt8).length) (byt (tot)) :: Blk e [.pointer (some ⟨pw, 0, none⟩), .pointer (some ⟨cb, 0, none⟩), .slice (some ⟨ub, 0, none⟩) 8 8] 103 :: Blk cb [.int .u32 (c)] 99 :: Blk ub UB 5 :: F)
  refine WP.val rfl rfl rfl (Val.assign rfl rfl) ?_
  refine WP.nil ?_
  refine Out.next ?_
  refine WPc.ret ?_
  refine Out.perm pl2 ?_
  refine Out.drop ?_
  refine Out.perm pl2 ?_
  refine Out.drop ?_
  refine Out.perm pl2 ?_
  refine Out.drop ?_
  exact Out.retN1 (L' := _) hDd quiet38 Tryd.call38 Tryd.results34 rfl ⟨wv, rfl, rfl⟩ (fun _ h => h)
set_option maxRecDepth 100000 in
set_option maxHeartbeats 2000000 in
theorem Eflush_spec (e bb : Nat) (tot : List UInt8) (c : Int) (htot : tot.length ≤ 2000000000) : Does Tryd.prog 27 [.agg #[.pointer (some ⟨e, 0, none⟩)]] [Enc e bb tot c] (fun v L => ∃ wv, v = .nilIface ∧ L = [Blk bb [wv] 72, Own 5 1 wv (tot : List UInt8).length (byt (tot))]) := by
  refine Does.enter 6 Tryd.func27 rfl rfl rfl fun W F => ?_
  show WPc _ _ _ _ _ [(0, .agg #[.pointer (some ⟨e, 0, none⟩)])] (Enc e bb tot c :: F)
  refine WPc.seq ?_
  refine WPc.region ?_
  refine WP.eff rfl rfl rfl (Eff.box (C := [.pointer (some ⟨e, 0, none⟩)]) rfl rfl rfl) ?_
  rintro _ _ ⟨b1, rfl, rfl⟩
  refine WP.val rfl rfl rfl (Val.assign rfl rfl) ?_
  refine WP.nil ?_
  refine Out.next ?_
  refine WPc.seq ?_
  refine WPc.region ?_
  refine WP.val rfl rfl rfl (Val.fieldAddr (j := 0) rfl Ty.fo75_0 rfl rfl) ?_
  refine WP.val rfl rfl rfl (Val.load rfl Ty.sc73 rfl (fun w h => h.cell 0 rfl rfl)) ?_
  refine WP.perm pl1 ?_
  refine WP.eff rfl rfl rfl (Eff.call rfl rfl Tryd.call34 (eflush_spec e bb tot c htot)) ?_
  rintro _ _ ⟨_, ⟨wv, rfl, rfl⟩, rfl⟩
  show WP _ _ _ _ _ _ _ (Blk bb [wv] 72 :: Own 5 1 wv ((tot : List UInt8).length) (byt (tot)) :: Blk b1 [.pointer (some ⟨e, 0, none⟩)] 75 :: F)
  refine WP.val rfl rfl rfl (Val.assign rfl rfl) ?_
  refine WP.nil ?_
  refine Out.next ?_
  refine WPc.ret ?_
  refine Out.perm pl2 ?_
  refine Out.drop ?_
  exact Out.ret1 (L' := _) Tryd.results27 rfl ⟨wv, rfl, rfl⟩ (fun _ h => h)

end Go.Proofs.YthicijpjpijdjaaDoor.Wr
