import Derived.Test.YthmkdioafjmclaaHn
namespace Go.Proofs.Ythmkdioafjmclaa.Hw
open Go.RowKit Go.Proofs.Ythmkdioafjmclaa Go.Proofs.Ythmkdioafjmclaa.Sl Go.Proofs.Ythmkdioafjmclaa.Hc Go.Proofs.Ythmkdioafjmclaa.Hp Go.Proofs.Ythmkdioafjmclaa.Hm Go.Proofs.Ythmkdioafjmclaa.Hb Go.Proofs.Ythmkdioafjmclaa.Hk Go.Proofs.Ythmkdioafjmclaa.Hr Go.Proofs.Ythmkdioafjmclaa.Hy Go.Proofs.Ythmkdioafjmclaa.Hn
set_option linter.unusedVariables false
set_option linter.unusedSimpArgs false
set_option linter.unusedSectionVars false


def rk (m s : Int) : Value := .agg #[.int .i64 m, .int .i64 s]
theorem rd_row {A : HProp} {b0 o0 c0 : Nat} {l : List UInt8} (hr : ∀ w, Holds A w → w.rangeAt b0 o0 (byt l)) : Rd A 1 bcf (.slice (some ⟨b0, o0, none⟩) l.length c0) l := .inl ⟨b0, o0, c0, rfl, fun w h i x hx => by
  rw [Nat.mul_one]
  intro j v hj
  cases j with
  | zero =>
    have h2 := hr w h i _ (byt_at hx)
    have e : v = .int .u8 (x.toNat : Int) := by simpa [bcf] using hj.symm
    rw [e]; exact h2
  | succ j => simp [bcf] at hj⟩
/-- what a row does to the sum -/
noncomputable def wkv (c r : Int) (S : List Value) (u : Int) (l : List UInt8) (m s : Int) (t : Bool) (lv : List UInt8) : Int :=
  if rgt (r + 1) 0 m s = false then u else if rgt (c + 1) 0 m s = true ∧ 0 < S.length ∧ kin S (rk m s) = false then u else if m = c ∧ t = true then u else crcWrite (crcWrite u l) lv
set_option maxRecDepth 100000 in
set_option maxHeartbeats 1000000 in
theorem hash_spec (hb cb mb : Nat) (c r u : Int) : Does Try.prog 68 [.pointer (some ⟨hb, 0, none⟩)] [Blk hb [.pointer (some ⟨cb, 0, none⟩), .int .i64 (c), .int .i64 (r), .map (some mb)] 148, Blk cb [.int .u32 (u)] 227] (fun v L => v = .agg #[.int .u32 u, .int .i64 c, .int .i64 r] ∧ L = []) := by
  refine Does.enter 17 Try.func68 rfl rfl rfl fun W F => ?_
  show WPc _ _ _ _ _ [(0, .pointer (some ⟨hb, 0, none⟩))] (Blk hb [.pointer (some ⟨cb, 0, none⟩), .int .i64 (c), .int .i64 (r), .map (some mb)] 148 :: Blk cb [.int .u32 (u)] 227 :: F)
  refine WPc.seq ?_
  refine WPc.region ?_
  refine WP.eff rfl rfl rfl (Eff.alloc rfl Ty.z155) ?_
  rintro _ _ ⟨b1, rfl, rfl⟩
  refine WP.nil ?_
  refine Out.next ?_
  refine WPc.seq ?_
  refine WPD.start (Sat W [Blk hb [.pointer (some ⟨cb, 0, none⟩), .int .i64 (c), .int .i64 (r), .map (some mb)] 148]) Ty.mixed ?_
  refine WPD.takeM 0 rfl rfl rfl rfl (by kernel_rfl) (by kernel_rfl) (by kernel_rfl) (by kernel_rfl) (fun _ _ _ h => h) (fun w h => ((h.perm pl1)).dropEnd (L := [_])) (Val.move rfl rfl) ?_
  refine WPD.takeM 1 rfl rfl rfl rfl (by kernel_rfl) (by kernel_rfl) (by kernel_rfl) (by kernel_rfl) (fun _ _ _ h => h) (fun w h => ((h.perm pl1)).dropEnd (L := [_])) (Val.nilCheck rfl rfl) ?_
  refine WPD.takeM 2 rfl rfl rfl rfl (by kernel_rfl) (by kernel_rfl) (by kernel_rfl) (by kernel_rfl) (fun _ _ _ h => h) (fun w h => ((h.perm pl1)).dropEnd (L := [_])) (Val.fieldAddr (j := 0) rfl Ty.fo148_0 rfl rfl) ?_
  refine WPD.take 3 rfl rfl rfl rfl (by kernel_rfl) (by kernel_rfl) (by kernel_rfl) (by kernel_rfl) (fun _ _ _ h => h) (by kernel_rfl) (fun w h => ((h.perm pl1)).dropEnd (L := [_])) (Val.load rfl Ty.sc146 rfl (fun w h => h.cell 0 rfl rfl)) ?_
  refine WPD.takeM 5 rfl rfl rfl rfl (by kernel_rfl) (by kernel_rfl) (by kernel_rfl) (by kernel_rfl) (fun _ _ _ h => h) (fun w h => ((h.perm pl1)).dropEnd (L := [_])) (Val.move rfl rfl) ?_
  refine WPD.takeM 6 rfl rfl rfl rfl (by kernel_rfl) (by kernel_rfl) (by kernel_rfl) (by kernel_rfl) (fun _ _ _ h => h) (fun w h => ((h.perm pl1)).dropEnd (L := [_])) (Val.nilCheck rfl rfl) ?_
  refine WPD.takeM 7 rfl rfl rfl rfl (by kernel_rfl) (by kernel_rfl) (by kernel_rfl) (by kernel_rfl) (fun _ _ _ h => h) (fun w h => ((h.perm pl1)).dropEnd (L := [_])) (Val.fieldAddr (j := 1) rfl Ty.fo148_1 rfl rfl) ?_
  refine WPD.take 8 rfl rfl rfl rfl (by kernel_rfl) (by kernel_rfl) (by kernel_rfl) (by kernel_rfl) (fun _ _ _ h => h) (by kernel_rfl) (fun w h => ((h.perm pl1)).dropEnd (L := [_])) (Val.load rfl Ty.sc2 rfl (fun w h => h.cell 0 rfl rfl)) ?_
  refine WPD.takeM 9 rfl rfl rfl rfl (by kernel_rfl) (by kernel_rfl) (by kernel_rfl) (by kernel_rfl) (fun _ _ _ h => h) (fun w h => ((h.perm pl1)).dropEnd (L := [_])) (Val.move rfl rfl) ?_
  refine WPD.takeM 10 rfl rfl rfl rfl (by kernel_rfl) (by kernel_rfl) (by kernel_rfl) (by kernel_rfl) (fun _ _ _ h => h) (fun w h => ((h.perm pl1)).dropEnd (L := [_])) (Val.nilCheck rfl rfl) ?_
  refine WPD.takeM 11 rfl rfl rfl rfl (by kernel_rfl) (by kernel_rfl) (by kernel_rfl) (by kernel_rfl) (fun _ _ _ h => h) (fun w h => ((h.perm pl1)).dropEnd (L := [_])) (Val.fieldAddr (j := 2) rfl Ty.fo148_2 rfl rfl) ?_
  refine WPD.take 12 rfl rfl rfl rfl (by kernel_rfl) (by kernel_rfl) (by kernel_rfl) (by kernel_rfl) (fun _ _ _ h => h) (by kernel_rfl) (fun w h => ((h.perm pl1)).dropEnd (L := [_])) (Val.load rfl Ty.sc2 rfl (fun w h => h.cell 0 rfl rfl)) ?_
  refine WPD.perm pl2 ?_
  refine WPD.step 4 (by kernel_rfl) rfl rfl rfl rfl (Eff.call rfl rfl Try.call97 (sum_spec cb u)) ?_
  rintro _ _ ⟨_, ⟨rfl, rfl⟩, rfl⟩
  refine ⟨(fun w h => ((h.perm pl2)).dropEnd (L := [_])), ?_⟩
  show WPD _ _ _ _ _ _ _ _ _ (Blk cb [.int .u32 (u)] 227 :: Blk b1 [.int .u32 0, .int .i64 0, .int .i64 0] 155 :: Blk hb [.pointer (some ⟨cb, 0, none⟩), .int .i64 (c), .int .i64 (r), .map (some mb)] 148 :: F)
  refine WPD.take 13 rfl rfl rfl rfl (by kernel_rfl) (by kernel_rfl) (by kernel_rfl) (by kernel_rfl) (fun _ _ _ h => h) (by kernel_rfl) (fun w h => ((h.perm pl2)).dropEnd (L := [_])) (Val.mk (cs := [.int .u32 (u), .int .i64 (c), .int .i64 (r)]) rfl rfl (fun _ => by kernel_rfl)) ?_
  refine WPD.perm pl1 ?_
  refine WPD.stepC0 14 (by kernel_rfl) rfl rfl rfl (by kernel_rfl) (Eff.storeAgg (cs := [.int .u32 (u), .int .i64 (c), .int .i64 (r)]) (C' := [.int .u32 (u), .int .i64 (c), .int .i64 (r)]) rfl Ty.ag155 rfl rfl rfl rfl (by simp) rfl) ?_
  rintro _ _ rfl
  refine ⟨(Sat W (Blk b1 [.int .u32 (u), .int .i64 (c), .int .i64 (r)] 155 :: Blk cb [.int .u32 (u)] 227 :: Blk hb [.pointer (some ⟨cb, 0, none⟩), .int .i64 (c), .int .i64 (r), .map (some mb)] 148 :: F)), (fun _ h => h), ?_⟩
  refine WPD.done (by kernel_rfl) ?_
  refine Out.next ?_
  refine WPc.ret ?_
  refine Out.perm pl1 ?_
  refine Out.drop ?_
  refine Out.perm pl1 ?_
  refine Out.drop ?_
  exact Out.retRun (L' := []) (results_cell (cs := [.int .u32 (u), .int .i64 (c), .int .i64 (r)]) Try.results68 Ty.ag155 rfl rfl (fun w h => h.range 0 rfl rfl)) ⟨rfl, rfl⟩ (fun w h => h.drop)
set_option maxRecDepth 100000 in
set_option maxHeartbeats 1000000 in
theorem wkv_spec (A : HProp) (b0 o0 c0 : Nat) (l : List UInt8) (m s : Int) (t : Bool) (hr : ∀ w, Holds A w → w.rangeAt b0 o0 (byt l)) (hc : l.length ≤ c0) (hK : IsKeyB l m s t) (hb cb mb : Nat) (c r u : Int) (S : List Value) (B : HProp) (vv : Value) (lv : List UInt8) (hvv : Rd B 1 bcf vv lv) (hl : l.length ≤ 100) (hlv : lv.length ≤ 100000) (hc1 : -1 ≤ c) (hc2 : c < 4611686018427387904) (hr1 : 0 ≤ r) (hr2 : r < 4611686018427387904) (hmw : (Lit.int .i64 m).wf = true) (hsw : (Lit.int .i64 s).wf = true) : Does Try.prog 67 [.pointer (some ⟨hb, 0, none⟩), .slice (some ⟨b0, o0, none⟩) l.length c0, vv] [Blk hb [.pointer (some ⟨cb, 0, none⟩), .int .i64 (c), .int .i64 (r), .map (some mb)] 148, Blk cb [.int .u32 (u)] 227, KSet Try.prog mb 144 (.agg #[]) S, A, B] (fun v L => v = .tuple #[] ∧ L = [Blk hb [.pointer (some ⟨cb, 0, none⟩), .int .i64 (c), .int .i64 (r), .map (some mb)] 148, Blk cb [.int .u32 (wkv c r S u l m s t lv)] 227, KSet Try.prog mb 144 (.agg #[]) S, A, B]) := by
  obtain ⟨lk, hkey⟩ := rev_key hmw hsw
  refine Does.enter 77 Try.func67 rfl rfl rfl fun W F => ?_
  show WPc _ _ _ _ _ [(0, .pointer (some ⟨hb, 0, none⟩)), (1, .slice (some ⟨b0, o0, none⟩) l.length c0), (2, vv)] (Blk hb [.pointer (some ⟨cb, 0, none⟩), .int .i64 (c), .int .i64 (r), .map (some mb)] 148 :: Blk cb [.int .u32 (u)] 227 :: KSet Try.prog mb 144 (.agg #[]) S :: A :: B :: F)
  refine WPc.seq ?_
  refine WPc.region ?_
  refine WP.val rfl rfl rfl (Val.move rfl rfl) ?_
  refine WP.perm pl3 ?_
  refine WP.eff rfl rfl rfl (Eff.call rfl rfl Try.call94 (torev_spec A b0 o0 c0 l m s t hr hc hK)) ?_
  rintro _ _ ⟨_, ⟨rfl, rfl⟩, rfl⟩
  show WP _ _ _ _ _ _ _ (A :: Blk hb [.pointer (some ⟨cb, 0, none⟩), .int .i64 (c), .int .i64 (r), .map (some mb)] 148 :: Blk cb [.int .u32 (u)] 227 :: KSet Try.prog mb 144 (.agg #[]) S :: B :: F)
  refine WP.eff rfl rfl rfl (Eff.alloc rfl Ty.z144) ?_
  rintro _ _ ⟨b1, rfl, rfl⟩
  refine WP.eff0 rfl rfl (Eff.storeAgg (cs := [.int .i64 (m), .int .i64 (s)]) (C' := [.int .i64 (m), .int .i64 (s)]) rfl Ty.ag144 rfl rfl rfl rfl (by simp) rfl) ?_
  rintro _ _ rfl
  refine WP.nil ?_
  refine Out.next ?_
  refine WPc.seq ?_
  refine WPc.region ?_
  refine WP.val rfl rfl rfl (Val.move rfl rfl) ?_
  refine WP.val rfl rfl rfl (Val.nilCheck rfl rfl) ?_
  refine WP.val rfl rfl rfl (Val.fieldAddr (j := 2) rfl Ty.fo148_2 rfl rfl) ?_
  refine WP.val rfl rfl rfl (Val.load rfl Ty.sc2 rfl (fun w h => h.cell 2 rfl rfl)) ?_
  refine WP.val rfl rfl rfl (Val.add (z := r + (1 : Int)) rfl rfl rfl (w64 (by omega) (by omega))) ?_
  refine WP.val rfl rfl rfl (Val.mk (cs := [.int .i64 (r + (1 : Int)), .int .i64 0]) rfl rfl (fun _ => by kernel_rfl)) ?_
  refine WP.eff rfl rfl rfl (Eff.alloc rfl Ty.z144) ?_
  rintro _ _ ⟨b2, rfl, rfl⟩
  refine WP.eff0 rfl rfl (Eff.storeAgg (cs := [.int .i64 (r + (1 : Int)), .int .i64 0]) (C' := [.int .i64 (r + (1 : Int)), .int .i64 0]) rfl Ty.ag144 rfl rfl rfl rfl (by simp) rfl) ?_
  rintro _ _ rfl
  refine WP.nil ?_
  refine Out.next ?_
  refine WPc.seq ?_
  refine WPc.seq ?_
  refine WPc.region ?_
  refine WP.val rfl rfl rfl (Val.loadAgg (cs := [.int .i64 (r + (1 : Int)), .int .i64 0]) rfl Ty.ag144 rfl rfl (fun w h => h.range 0 rfl rfl)) ?_
  refine WP.val rfl rfl rfl (Val.loadAgg (cs := [.int .i64 (m), .int .i64 (s)]) rfl Ty.ag144 rfl rfl (fun w h => h.range 1 rfl rfl)) ?_
  refine WP.eff rfl rfl rfl (Eff.call rfl rfl Try.call95 (gt_spec (r + (1 : Int)) 0 m s)) ?_
  rintro _ _ ⟨_, ⟨rfl, rfl⟩, rfl⟩
  show WP _ _ _ _ _ _ _ (Blk b2 [.int .i64 (r + (1 : Int)), .int .i64 0] 144 :: Blk b1 [.int .i64 (m), .int .i64 (s)] 144 :: A :: Blk hb [.pointer (some ⟨cb, 0, none⟩), .int .i64 (c), .int .i64 (r), .map (some mb)] 148 :: Blk cb [.int .u32 (u)] 227 :: KSet Try.prog mb 144 (.agg #[]) S :: B :: F)
  refine WP.val rfl rfl rfl (Val.not rfl rfl) ?_
  refine WP.nil ?_
  refine Out.next ?_
  refine WPc.cond rfl (fun h1 => ?_) (fun h1 => ?_)
  · skip
    have h1 : (!(rgt (r + (1 : Int)) 0 m s)) = true := h1
    refine WPc.ret ?_
    refine Out.then_ret ?_
    have hw : wkv c r S u l m s t lv = u := by
      unfold wkv rk
      simp_all
    refine Out.drop ?_
    refine Out.drop ?_
    refine Out.perm pl4 ?_
    refine Out.perm pl1 ?_
    refine Out.perm pl4 ?_
    refine Out.perm pl4 ?_
    refine Out.perm pl4 ?_
    exact Out.ret0 (L' := _) Try.results67 ⟨rfl, rfl⟩ (fun w h => by rw [hw]; exact h)
  · skip
    have h1 : (!(rgt (r + (1 : Int)) 0 m s)) = false := h1
    refine WPc.skip ?_
    refine Out.next ?_
    refine WPc.seq ?_
    refine WPc.region ?_
    refine WP.val rfl rfl rfl (Val.move rfl rfl) ?_
    refine WP.perm pl2 ?_
    refine WP.eff rfl rfl rfl (Eff.call rfl rfl Try.call96 (tokey_spec A b0 o0 c0 l m s t hr hc hK)) ?_
    rintro _ _ ⟨_, ⟨rfl, rfl⟩, rfl⟩
    show WP _ _ _ _ _ _ _ (A :: Blk b2 [.int .i64 (r + (1 : Int)), .int .i64 0] 144 :: Blk b1 [.int .i64 (m), .int .i64 (s)] 144 :: Blk hb [.pointer (some ⟨cb, 0, none⟩), .int .i64 (c), .int .i64 (r), .map (some mb)] 148 :: Blk cb [.int .u32 (u)] 227 :: KSet Try.prog mb 144 (.agg #[]) S :: B :: F)
    refine WP.val rfl rfl rfl (Val.field rfl Ty.fs159_1 rfl rfl) ?_
    refine WP.val rfl rfl rfl (Val.assign rfl rfl) ?_
    refine WP.nil ?_
    refine Out.next ?_
    refine WPc.seq ?_
    refine WPc.region ?_
    refine WP.val rfl rfl rfl (Val.move rfl rfl) ?_
    refine WP.val rfl rfl rfl (Val.nilCheck rfl rfl) ?_
    refine WP.val rfl rfl rfl (Val.fieldAddr (j := 1) rfl Ty.fo148_1 rfl rfl) ?_
    refine WP.val rfl rfl rfl (Val.load rfl Ty.sc2 rfl (fun w h => h.cell 3 rfl rfl)) ?_
    refine WP.val rfl rfl rfl (Val.add (z := c + (1 : Int)) rfl rfl rfl (w64 (by omega) (by omega))) ?_
    refine WP.val rfl rfl rfl (Val.mk (cs := [.int .i64 (c + (1 : Int)), .int .i64 0]) rfl rfl (fun _ => by kernel_rfl)) ?_
    refine WP.eff rfl rfl rfl (Eff.alloc rfl Ty.z144) ?_
    rintro _ _ ⟨b3, rfl, rfl⟩
    refine WP.eff0 rfl rfl (Eff.storeAgg (cs := [.int .i64 (c + (1 : Int)), .int .i64 0]) (C' := [.int .i64 (c + (1 : Int)), .int .i64 0]) rfl Ty.ag144 rfl rfl rfl rfl (by simp) rfl) ?_
    rintro _ _ rfl
    refine WP.nil ?_
    refine Out.next ?_
    refine WPc.seq ?_
    refine WPc.seq ?_
    refine WPc.region ?_
    refine WP.val rfl rfl rfl (Val.loadAgg (cs := [.int .i64 (c + (1 : Int)), .int .i64 0]) rfl Ty.ag144 rfl rfl (fun w h => h.range 0 rfl rfl)) ?_
    refine WP.val rfl rfl rfl (Val.loadAgg (cs := [.int .i64 (m), .int .i64 (s)]) rfl Ty.ag144 rfl rfl (fun w h => h.range 3 rfl rfl)) ?_
    refine WP.eff rfl rfl rfl (Eff.call rfl rfl Try.call95 (gt_spec (c + (1 : Int)) 0 m s)) ?_
    rintro _ _ ⟨_, ⟨rfl, rfl⟩, rfl⟩
    show WP _ _ _ _ _ _ _ (Blk b3 [.int .i64 (c + (1 : Int)), .int .i64 0] 144 :: A :: Blk b2 [.int .i64 (r + (1 : Int)), .int .i64 0] 144 :: Blk b1 [.int .i64 (m), .int .i64 (s)] 144 :: Blk hb [.pointer (some ⟨cb, 0, none⟩), .int .i64 (c), .int .i64 (r), .map (some mb)] 148 :: Blk cb [.int .u32 (u)] 227 :: KSet Try.prog mb 144 (.agg #[]) S :: B :: F)
    refine WP.val rfl rfl rfl (Val.move rfl rfl) ?_
    refine WP.splitB 36 rfl (fun h2 => ?_) (fun h2 => ?_)
    · skip
      refine WP.valG rfl rfl rfl rfl rfl rfl rfl (Val.move rfl rfl) ?_
      refine WP.valG rfl rfl rfl rfl rfl rfl rfl (Val.nilCheck rfl rfl) ?_
      refine WP.valG rfl rfl rfl rfl rfl rfl rfl (Val.fieldAddr (j := 3) rfl Ty.fo148_3 rfl rfl) ?_
      refine WP.valG rfl rfl rfl rfl rfl rfl rfl (Val.load rfl Ty.sc143 rfl (fun w h => h.cell 4 rfl rfl)) ?_
      refine WP.valG rfl rfl rfl rfl rfl rfl rfl (Val.ksLen rfl Ty3.mk143 rfl (fun w h => h.at 6 rfl)) ?_
      refine WP.valG rfl rfl rfl rfl rfl rfl rfl (Val.gtr rfl rfl rfl) ?_
      refine WP.val rfl rfl rfl (Val.pickT rfl rfl rfl) ?_
      refine WP.nil ?_
      refine Out.next ?_
      refine WPc.ifP rfl (fun h3 => ?_) (fun h3 => ?_)
      · skip
        have h3 : ((0 : Int) < (((S).length : Nat) : Int)) := h3
        refine WPc.seq ?_
        refine WPD.start (Sat W [Blk hb [.pointer (some ⟨cb, 0, none⟩), .int .i64 (c), .int .i64 (r), .map (some mb)] 148, Blk b1 [.int .i64 (m), .int .i64 (s)] 144, KSet Try.prog mb 144 (.agg #[]) S]) Ty.mixed ?_
        refine WPD.takeM 0 rfl rfl rfl rfl (by kernel_rfl) (by kernel_rfl) (by kernel_rfl) (by kernel_rfl) (fun _ _ _ h => h) (fun w h => ((((h.perm pl6).perm pl4).perm pl5)).dropEnd (L := [_, _, _])) (Val.move rfl rfl) ?_
        refine WPD.takeM 1 rfl rfl rfl rfl (by kernel_rfl) (by kernel_rfl) (by kernel_rfl) (by kernel_rfl) (fun _ _ _ h => h) (fun w h => ((((h.perm pl6).perm pl4).perm pl5)).dropEnd (L := [_, _, _])) (Val.nilCheck rfl rfl) ?_
        refine WPD.takeM 2 rfl rfl rfl rfl (by kernel_rfl) (by kernel_rfl) (by kernel_rfl) (by kernel_rfl) (fun _ _ _ h => h) (fun w h => ((((h.perm pl6).perm pl4).perm pl5)).dropEnd (L := [_, _, _])) (Val.fieldAddr (j := 3) rfl Ty.fo148_3 rfl rfl) ?_
        refine WPD.take 3 rfl rfl rfl rfl (by kernel_rfl) (by kernel_rfl) (by kernel_rfl) (by kernel_rfl) (fun _ _ _ h => h) (by kernel_rfl) (fun w h => ((((h.perm pl6).perm pl4).perm pl5)).dropEnd (L := [_, _, _])) (Val.load rfl Ty.sc143 rfl (fun w h => h.cell 0 rfl rfl)) ?_
        refine WPD.take 4 rfl rfl rfl rfl (by kernel_rfl) (by kernel_rfl) (by kernel_rfl) (by kernel_rfl) (fun _ _ _ h => h) (by kernel_rfl) (fun w h => ((((h.perm pl6).perm pl4).perm pl5)).dropEnd (L := [_, _, _])) (Val.loadAgg (cs := [.int .i64 (m), .int .i64 (s)]) rfl Ty.ag144 rfl rfl (fun w h => h.range 1 rfl rfl)) ?_
        refine WPD.take 5 rfl rfl rfl rfl (by kernel_rfl) (by kernel_rfl) (by kernel_rfl) (by kernel_rfl) (fun _ _ _ h => h) (by kernel_rfl) (fun w h => ((((h.perm pl6).perm pl4).perm pl5)).dropEnd (L := [_, _, _])) (Val.ksLook Ty3.ky144 rfl Ty3.mk143 Ty3.zv145 rfl rfl hkey (fun w h => h.at 2 rfl)) ?_
        refine WPD.takeM 6 rfl rfl rfl rfl (by kernel_rfl) (by kernel_rfl) (by kernel_rfl) (by kernel_rfl) (fun _ _ _ h => h) (fun w h => ((((h.perm pl6).perm pl4).perm pl5)).dropEnd (L := [_, _, _])) (Val.move rfl rfl) ?_
        refine WPD.take 7 rfl rfl rfl rfl (by kernel_rfl) (by kernel_rfl) (by kernel_rfl) (by kernel_rfl) (fun _ _ _ h => h) (by kernel_rfl) (fun w h => ((((h.perm pl6).perm pl4).perm pl5)).dropEnd (L := [_, _, _])) (Val.extract rfl rfl rfl) ?_
        refine WPD.take 8 rfl rfl rfl rfl (by kernel_rfl) (by kernel_rfl) (by kernel_rfl) (by kernel_rfl) (fun _ _ _ h => h) (by kernel_rfl) (fun w h => ((((h.perm pl6).perm pl4).perm pl5)).dropEnd (L := [_, _, _])) (Val.extract rfl rfl rfl) ?_
        refine WPD.step 9 (by kernel_rfl) rfl rfl rfl rfl (Eff.alloc rfl Ty.z145) ?_
        rintro _ _ ⟨b4, rfl, rfl⟩
        refine ⟨(fun w h => ((((h.perm pl7).perm pl5).perm pl6)).dropEnd (L := [_, _, _])), ?_⟩
        refine WPD.step0 10 (by kernel_rfl) rfl rfl rfl (Eff.storeAgg (cs := []) (C' := []) rfl Ty.ag145 rfl rfl rfl rfl (by simp) rfl) ?_
        rintro _ _ rfl
        refine ⟨(fun w h => ((((h.perm pl7).perm pl5).perm pl6)).dropEnd (L := [_, _, _])), ?_⟩
        refine WPD.takeM 11 rfl rfl rfl rfl (by kernel_rfl) (by kernel_rfl) (by kernel_rfl) (by kernel_rfl) (fun _ _ _ h => h) (fun w h => ((((h.perm pl7).perm pl5).perm pl6)).dropEnd (L := [_, _, _])) (Val.assign rfl rfl) ?_
        refine WPD.done (by kernel_rfl) ?_
        refine Out.next ?_
        refine WPc.seq ?_
        refine WPc.region ?_
        refine WP.val rfl rfl rfl (Val.move rfl rfl) ?_
        refine WP.val rfl rfl rfl (Val.not rfl rfl) ?_
        refine WP.nil ?_
        refine Out.next ?_
        refine WPc.cond rfl (fun h4 => ?_) (fun h4 => ?_)
        · skip
          have h4 : (!(kin S (.agg #[.int .i64 (m), .int .i64 (s)]))) = true := h4
          refine WPc.ret ?_
          refine Out.then_ret ?_
          have hw : wkv c r S u l m s t lv = u := by
            unfold wkv rk
            simp_all
          refine Out.drop ?_
          refine Out.drop ?_
          refine Out.perm pl1 ?_
          refine Out.drop ?_
          refine Out.perm pl1 ?_
          refine Out.drop ?_
          refine Out.perm pl4 ?_
          refine Out.perm pl1 ?_
          refine Out.perm pl4 ?_
          refine Out.perm pl4 ?_
          refine Out.perm pl4 ?_
          exact Out.ret0 (L' := _) Try.results67 ⟨rfl, rfl⟩ (fun w h => by rw [hw]; exact h)
        · skip
          have h4 : (!(kin S (.agg #[.int .i64 (m), .int .i64 (s)]))) = false := h4
          refine WPc.skip ?_
          refine Out.next ?_
          refine WPc.seq ?_
          refine WPc.seq ?_
          refine WPD.start (Sat W (Blk b4 [] 145 :: Blk b3 [.int .i64 (c + (1 : Int)), .int .i64 0] 144 :: A :: Blk b2 [.int .i64 (r + (1 : Int)), .int .i64 0] 144 :: Blk b1 [.int .i64 (m), .int .i64 (s)] 144 :: Blk hb [.pointer (some ⟨cb, 0, none⟩), .int .i64 (c), .int .i64 (r), .map (some mb)] 148 :: Blk cb [.int .u32 (u)] 227 :: KSet Try.prog mb 144 (.agg #[]) S :: B :: F)) Ty.mixed ?_
          refine WPD.takeM 0 rfl rfl rfl rfl (by kernel_rfl) (by kernel_rfl) (by kernel_rfl) (by kernel_rfl) (fun _ _ _ h => h) (fun _ h => h) (Val.fieldAddr (j := 0) rfl Ty.fo144_0 rfl rfl) ?_
          refine WPD.take 1 rfl rfl rfl rfl (by kernel_rfl) (by kernel_rfl) (by kernel_rfl) (by kernel_rfl) (fun _ _ _ h => h) (by kernel_rfl) (fun _ h => h) (Val.load rfl Ty.sc2 rfl (fun w h => h.cell 4 rfl rfl)) ?_
          refine WPD.takeM 2 rfl rfl rfl rfl (by kernel_rfl) (by kernel_rfl) (by kernel_rfl) (by kernel_rfl) (fun _ _ _ h => h) (fun _ h => h) (Val.move rfl rfl) ?_
          refine WPD.takeM 3 rfl rfl rfl rfl (by kernel_rfl) (by kernel_rfl) (by kernel_rfl) (by kernel_rfl) (fun _ _ _ h => h) (fun _ h => h) (Val.nilCheck rfl rfl) ?_
          refine WPD.takeM 4 rfl rfl rfl rfl (by kernel_rfl) (by kernel_rfl) (by kernel_rfl) (by kernel_rfl) (fun _ _ _ h => h) (fun _ h => h) (Val.fieldAddr (j := 1) rfl Ty.fo148_1 rfl rfl) ?_
          refine WPD.take 5 rfl rfl rfl rfl (by kernel_rfl) (by kernel_rfl) (by kernel_rfl) (by kernel_rfl) (fun _ _ _ h => h) (by kernel_rfl) (fun _ h => h) (Val.load rfl Ty.sc2 rfl (fun w h => h.cell 5 rfl rfl)) ?_
          refine WPD.take 6 rfl rfl rfl rfl (by kernel_rfl) (by kernel_rfl) (by kernel_rfl) (by kernel_rfl) (fun _ _ _ h => h) (by kernel_rfl) (fun _ h => h) (Val.eql rfl rfl rfl) ?_
          refine WPD.takeM 7 rfl rfl rfl rfl (by kernel_rfl) (by kernel_rfl) (by kernel_rfl) (by kernel_rfl) (fun _ _ _ h => h) (fun _ h => h) (Val.move rfl rfl) ?_
          refine WPD.split 62 rfl (fun h5 => ?_) (fun h5 => ?_)
          · skip
            have h5 : (m = c) := h5
            refine WPD.takeGM 8 rfl rfl rfl rfl rfl rfl rfl rfl (by kernel_rfl) (by kernel_rfl) (by kernel_rfl) (by kernel_rfl) (fun _ _ _ h => h) (fun _ h => h) (Val.move rfl rfl) ?_
            refine WPD.takeM 9 rfl rfl rfl rfl (by kernel_rfl) (by kernel_rfl) (by kernel_rfl) (by kernel_rfl) (fun _ _ _ h => h) (fun _ h => h) (Val.pickT rfl rfl rfl) ?_
            refine WPD.done (by kernel_rfl) ?_
            refine Out.next ?_
            refine WPc.cond rfl (fun h6 => ?_) (fun h6 => ?_)
            · skip
              have h6 : (t) = true := h6
              refine WPc.ret ?_
              refine Out.then_ret ?_
              have hw : wkv c r S u l m s t lv = u := by
                unfold wkv rk
                simp_all
              refine Out.drop ?_
              refine Out.drop ?_
              refine Out.perm pl1 ?_
              refine Out.drop ?_
              refine Out.perm pl1 ?_
              refine Out.drop ?_
              refine Out.perm pl4 ?_
              refine Out.perm pl1 ?_
              refine Out.perm pl4 ?_
              refine Out.perm pl4 ?_
              refine Out.perm pl4 ?_
              exact Out.ret0 (L' := _) Try.results67 ⟨rfl, rfl⟩ (fun w h => by rw [hw]; exact h)
            · skip
              have h6 : (t) = false := h6
              refine WPc.skip ?_
              refine Out.next ?_
              refine WPc.seq ?_
              refine WPc.region ?_
              refine WP.val rfl rfl rfl (Val.move rfl rfl) ?_
              refine WP.val rfl rfl rfl (Val.nilCheck rfl rfl) ?_
              refine WP.val rfl rfl rfl (Val.fieldAddr (j := 0) rfl Ty.fo148_0 rfl rfl) ?_
              refine WP.val rfl rfl rfl (Val.load rfl Ty.sc146 rfl (fun w h => h.cell 5 rfl rfl)) ?_
              refine WP.val rfl rfl rfl (Val.move rfl rfl) ?_
              refine WP.perm pl2 ?_
              refine WP.perm pl6 ?_
              refine WP.eff rfl rfl rfl (Eff.call rfl rfl Try.call89 (crc_spec A cb u l (by omega) (.slice (some ⟨b0, o0, none⟩) l.length c0) (rd_row hr))) ?_
              rintro _ _ ⟨_, ⟨kk1, rfl, rfl⟩, rfl⟩
              show WP _ _ _ _ _ _ _ (Blk cb [.int .u32 ((crcWrite u l))] 227 :: A :: Blk b4 [] 145 :: Blk b3 [.int .i64 (c + (1 : Int)), .int .i64 0] 144 :: Blk b2 [.int .i64 (r + (1 : Int)), .int .i64 0] 144 :: Blk b1 [.int .i64 (m), .int .i64 (s)] 144 :: Blk hb [.pointer (some ⟨cb, 0, none⟩), .int .i64 (c), .int .i64 (r), .map (some mb)] 148 :: KSet Try.prog mb 144 (.agg #[]) S :: B :: F)
              refine WP.nil ?_
              refine Out.next ?_
              refine WPc.region ?_
              refine WP.val rfl rfl rfl (Val.move rfl rfl) ?_
              refine WP.val rfl rfl rfl (Val.nilCheck rfl rfl) ?_
              refine WP.val rfl rfl rfl (Val.fieldAddr (j := 0) rfl Ty.fo148_0 rfl rfl) ?_
              refine WP.val rfl rfl rfl (Val.load rfl Ty.sc146 rfl (fun w h => h.cell 6 rfl rfl)) ?_
              refine WP.val rfl rfl rfl (Val.move rfl rfl) ?_
              refine WP.perm pl8 ?_
              refine WP.perm pl1 ?_
              refine WP.eff rfl rfl rfl (Eff.call rfl rfl Try.call89 (crc_spec B cb (crcWrite u l) lv (by omega) vv hvv)) ?_
              rintro _ _ ⟨_, ⟨kk2, rfl, rfl⟩, rfl⟩
              show WP _ _ _ _ _ _ _ (Blk cb [.int .u32 ((crcWrite (crcWrite u l) lv))] 227 :: B :: A :: Blk b4 [] 145 :: Blk b3 [.int .i64 (c + (1 : Int)), .int .i64 0] 144 :: Blk b2 [.int .i64 (r + (1 : Int)), .int .i64 0] 144 :: Blk b1 [.int .i64 (m), .int .i64 (s)] 144 :: Blk hb [.pointer (some ⟨cb, 0, none⟩), .int .i64 (c), .int .i64 (r), .map (some mb)] 148 :: KSet Try.prog mb 144 (.agg #[]) S :: F)
              refine WP.nil ?_
              have hw : wkv c r S u l m s t lv = (crcWrite (crcWrite u l) lv) := by
                unfold wkv rk
                simp_all
              refine Out.perm pl3 ?_
              refine Out.drop ?_
              refine Out.perm pl3 ?_
              refine Out.drop ?_
              refine Out.perm pl3 ?_
              refine Out.drop ?_
              refine Out.perm pl3 ?_
              refine Out.drop ?_
              refine Out.perm pl1 ?_
              refine Out.perm pl2 ?_
              refine Out.perm pl4 ?_
              refine Out.perm pl3 ?_
              refine Out.perm pl4 ?_
              exact Out.end0 (L' := _) Try.results67 ⟨rfl, rfl⟩ (fun w h => by rw [hw]; exact h)
          · skip
            have h5 : ¬ (m = c) := h5
            refine WPD.skip 8 rfl rfl rfl rfl rfl rfl rfl rfl (by kernel_rfl) (by kernel_rfl) (by kernel_rfl) (by kernel_rfl) (fun _ _ _ h => h) (fun _ h => h) ?_
            refine WPD.takeM 9 rfl rfl rfl rfl (by kernel_rfl) (by kernel_rfl) (by kernel_rfl) (by kernel_rfl) (fun _ _ _ h => h) (fun _ h => h) (Val.pickF rfl rfl rfl) ?_
            refine WPD.done (by kernel_rfl) ?_
            refine Out.next ?_
            refine WPc.condF rfl rfl ?_
            refine WPc.skip ?_
            refine Out.next ?_
            refine WPc.seq ?_
            refine WPc.region ?_
            refine WP.val rfl rfl rfl (Val.move rfl rfl) ?_
            refine WP.val rfl rfl rfl (Val.nilCheck rfl rfl) ?_
            refine WP.val rfl rfl rfl (Val.fieldAddr (j := 0) rfl Ty.fo148_0 rfl rfl) ?_
            refine WP.val rfl rfl rfl (Val.load rfl Ty.sc146 rfl (fun w h => h.cell 5 rfl rfl)) ?_
            refine WP.val rfl rfl rfl (Val.move rfl rfl) ?_
            refine WP.perm pl2 ?_
            refine WP.perm pl6 ?_
            refine WP.eff rfl rfl rfl (Eff.call rfl rfl Try.call89 (crc_spec A cb u l (by omega) (.slice (some ⟨b0, o0, none⟩) l.length c0) (rd_row hr))) ?_
            rintro _ _ ⟨_, ⟨kk1, rfl, rfl⟩, rfl⟩
            show WP _ _ _ _ _ _ _ (Blk cb [.int .u32 ((crcWrite u l))] 227 :: A :: Blk b4 [] 145 :: Blk b3 [.int .i64 (c + (1 : Int)), .int .i64 0] 144 :: Blk b2 [.int .i64 (r + (1 : Int)), .int .i64 0] 144 :: Blk b1 [.int .i64 (m), .int .i64 (s)] 144 :: Blk hb [.pointer (some ⟨cb, 0, none⟩), .int .i64 (c), .int .i64 (r), .map (some mb)] 148 :: KSet Try.prog mb 144 (.agg #[]) S :: B :: F)
            refine WP.nil ?_
            refine Out.next ?_
            refine WPc.region ?_
            refine WP.val rfl rfl rfl (Val.move rfl rfl) ?_
            refine WP.val rfl rfl rfl (Val.nilCheck rfl rfl) ?_
            refine WP.val rfl rfl rfl (Val.fieldAddr (j := 0) rfl Ty.fo148_0 rfl rfl) ?_
            refine WP.val rfl rfl rfl (Val.load rfl Ty.sc146 rfl (fun w h => h.cell 6 rfl rfl)) ?_
            refine WP.val rfl rfl rfl (Val.move rfl rfl) ?_
            refine WP.perm pl8 ?_
            refine WP.perm pl1 ?_
            refine WP.eff rfl rfl rfl (Eff.call rfl rfl Try.call89 (crc_spec B cb (crcWrite u l) lv (by omega) vv hvv)) ?_
            rintro _ _ ⟨_, ⟨kk2, rfl, rfl⟩, rfl⟩
            show WP _ _ _ _ _ _ _ (Blk cb [.int .u32 ((crcWrite (crcWrite u l) lv))] 227 :: B :: A :: Blk b4 [] 145 :: Blk b3 [.int .i64 (c + (1 : Int)), .int .i64 0] 144 :: Blk b2 [.int .i64 (r + (1 : Int)), .int .i64 0] 144 :: Blk b1 [.int .i64 (m), .int .i64 (s)] 144 :: Blk hb [.pointer (some ⟨cb, 0, none⟩), .int .i64 (c), .int .i64 (r), .map (some mb)] 148 :: KSet Try.prog mb 144 (.agg #[]) S :: F)
            refine WP.nil ?_
            have hw : wkv c r S u l m s t lv = (crcWrite (crcWrite u l) lv) := by
              unfold wkv rk
              simp_all
            refine Out.perm pl3 ?_
            refine Out.drop ?_
            refine Out.perm pl3 ?_
            refine Out.drop ?_
            refine Out.perm pl3 ?_
            refine Out.drop ?_
            refine Out.perm pl3 ?_
            refine Out.drop ?_
            refine Out.perm pl1 ?_
            refine Out.perm pl2 ?_
            refine Out.perm pl4 ?_
            refine Out.perm pl3 ?_
            refine Out.perm pl4 ?_
            exact Out.end0 (L' := _) Try.results67 ⟨rfl, rfl⟩ (fun w h => by rw [hw]; exact h)
      · skip
        have h3 : ¬ ((0 : Int) < (((S).length : Nat) : Int)) := h3
        refine WPc.skip ?_
        refine Out.next ?_
        refine WPc.seq ?_
        refine WPc.seq ?_
        refine WPD.start (Sat W (Blk b3 [.int .i64 (c + (1 : Int)), .int .i64 0] 144 :: A :: Blk b2 [.int .i64 (r + (1 : Int)), .int .i64 0] 144 :: Blk b1 [.int .i64 (m), .int .i64 (s)] 144 :: Blk hb [.pointer (some ⟨cb, 0, none⟩), .int .i64 (c), .int .i64 (r), .map (some mb)] 148 :: Blk cb [.int .u32 (u)] 227 :: KSet Try.prog mb 144 (.agg #[]) S :: B :: F)) Ty.mixed ?_
        refine WPD.takeM 0 rfl rfl rfl rfl (by kernel_rfl) (by kernel_rfl) (by kernel_rfl) (by kernel_rfl) (fun _ _ _ h => h) (fun _ h => h) (Val.fieldAddr (j := 0) rfl Ty.fo144_0 rfl rfl) ?_
        refine WPD.take 1 rfl rfl rfl rfl (by kernel_rfl) (by kernel_rfl) (by kernel_rfl) (by kernel_rfl) (fun _ _ _ h => h) (by kernel_rfl) (fun _ h => h) (Val.load rfl Ty.sc2 rfl (fun w h => h.cell 3 rfl rfl)) ?_
        refine WPD.takeM 2 rfl rfl rfl rfl (by kernel_rfl) (by kernel_rfl) (by kernel_rfl) (by kernel_rfl) (fun _ _ _ h => h) (fun _ h => h) (Val.move rfl rfl) ?_
        refine WPD.takeM 3 rfl rfl rfl rfl (by kernel_rfl) (by kernel_rfl) (by kernel_rfl) (by kernel_rfl) (fun _ _ _ h => h) (fun _ h => h) (Val.nilCheck rfl rfl) ?_
        refine WPD.takeM 4 rfl rfl rfl rfl (by kernel_rfl) (by kernel_rfl) (by kernel_rfl) (by kernel_rfl) (fun _ _ _ h => h) (fun _ h => h) (Val.fieldAddr (j := 1) rfl Ty.fo148_1 rfl rfl) ?_
        refine WPD.take 5 rfl rfl rfl rfl (by kernel_rfl) (by kernel_rfl) (by kernel_rfl) (by kernel_rfl) (fun _ _ _ h => h) (by kernel_rfl) (fun _ h => h) (Val.load rfl Ty.sc2 rfl (fun w h => h.cell 4 rfl rfl)) ?_
        refine WPD.take 6 rfl rfl rfl rfl (by kernel_rfl) (by kernel_rfl) (by kernel_rfl) (by kernel_rfl) (fun _ _ _ h => h) (by kernel_rfl) (fun _ h => h) (Val.eql rfl rfl rfl) ?_
        refine WPD.takeM 7 rfl rfl rfl rfl (by kernel_rfl) (by kernel_rfl) (by kernel_rfl) (by kernel_rfl) (fun _ _ _ h => h) (fun _ h => h) (Val.move rfl rfl) ?_
        refine WPD.split 62 rfl (fun h7 => ?_) (fun h7 => ?_)
        · skip
          have h7 : (m = c) := h7
          refine WPD.takeGM 8 rfl rfl rfl rfl rfl rfl rfl rfl (by kernel_rfl) (by kernel_rfl) (by kernel_rfl) (by kernel_rfl) (fun _ _ _ h => h) (fun _ h => h) (Val.move rfl rfl) ?_
          refine WPD.takeM 9 rfl rfl rfl rfl (by kernel_rfl) (by kernel_rfl) (by kernel_rfl) (by kernel_rfl) (fun _ _ _ h => h) (fun _ h => h) (Val.pickT rfl rfl rfl) ?_
          refine WPD.done (by kernel_rfl) ?_
          refine Out.next ?_
          refine WPc.cond rfl (fun h8 => ?_) (fun h8 => ?_)
          · skip
            have h8 : (t) = true := h8
            refine WPc.ret ?_
            refine Out.then_ret ?_
            have hw : wkv c r S u l m s t lv = u := by
              unfold wkv rk
              simp_all
            refine Out.drop ?_
            refine Out.perm pl1 ?_
            refine Out.drop ?_
            refine Out.perm pl1 ?_
            refine Out.drop ?_
            refine Out.perm pl4 ?_
            refine Out.perm pl1 ?_
            refine Out.perm pl4 ?_
            refine Out.perm pl4 ?_
            refine Out.perm pl4 ?_
            exact Out.ret0 (L' := _) Try.results67 ⟨rfl, rfl⟩ (fun w h => by rw [hw]; exact h)
          · skip
            have h8 : (t) = false := h8
            refine WPc.skip ?_
            refine Out.next ?_
            refine WPc.seq ?_
            refine WPc.region ?_
            refine WP.val rfl rfl rfl (Val.move rfl rfl) ?_
            refine WP.val rfl rfl rfl (Val.nilCheck rfl rfl) ?_
            refine WP.val rfl rfl rfl (Val.fieldAddr (j := 0) rfl Ty.fo148_0 rfl rfl) ?_
            refine WP.val rfl rfl rfl (Val.load rfl Ty.sc146 rfl (fun w h => h.cell 4 rfl rfl)) ?_
            refine WP.val rfl rfl rfl (Val.move rfl rfl) ?_
            refine WP.perm pl1 ?_
            refine WP.perm pl5 ?_
            refine WP.eff rfl rfl rfl (Eff.call rfl rfl Try.call89 (crc_spec A cb u l (by omega) (.slice (some ⟨b0, o0, none⟩) l.length c0) (rd_row hr))) ?_
            rintro _ _ ⟨_, ⟨kk1, rfl, rfl⟩, rfl⟩
            show WP _ _ _ _ _ _ _ (Blk cb [.int .u32 ((crcWrite u l))] 227 :: A :: Blk b3 [.int .i64 (c + (1 : Int)), .int .i64 0] 144 :: Blk b2 [.int .i64 (r + (1 : Int)), .int .i64 0] 144 :: Blk b1 [.int .i64 (m), .int .i64 (s)] 144 :: Blk hb [.pointer (some ⟨cb, 0, none⟩), .int .i64 (c), .int .i64 (r), .map (some mb)] 148 :: KSet Try.prog mb 144 (.agg #[]) S :: B :: F)
            refine WP.nil ?_
            refine Out.next ?_
            refine WPc.region ?_
            refine WP.val rfl rfl rfl (Val.move rfl rfl) ?_
            refine WP.val rfl rfl rfl (Val.nilCheck rfl rfl) ?_
            refine WP.val rfl rfl rfl (Val.fieldAddr (j := 0) rfl Ty.fo148_0 rfl rfl) ?_
            refine WP.val rfl rfl rfl (Val.load rfl Ty.sc146 rfl (fun w h => h.cell 5 rfl rfl)) ?_
            refine WP.val rfl rfl rfl (Val.move rfl rfl) ?_
            refine WP.perm pl7 ?_
            refine WP.perm pl1 ?_
            refine WP.eff rfl rfl rfl (Eff.call rfl rfl Try.call89 (crc_spec B cb (crcWrite u l) lv (by omega) vv hvv)) ?_
            rintro _ _ ⟨_, ⟨kk2, rfl, rfl⟩, rfl⟩
            show WP _ _ _ _ _ _ _ (Blk cb [.int .u32 ((crcWrite (crcWrite u l) lv))] 227 :: B :: A :: Blk b3 [.int .i64 (c + (1 : Int)), .int .i64 0] 144 :: Blk b2 [.int .i64 (r + (1 : Int)), .int .i64 0] 144 :: Blk b1 [.int .i64 (m), .int .i64 (s)] 144 :: Blk hb [.pointer (some ⟨cb, 0, none⟩), .int .i64 (c), .int .i64 (r), .map (some mb)] 148 :: KSet Try.prog mb 144 (.agg #[]) S :: F)
            refine WP.nil ?_
            have hw : wkv c r S u l m s t lv = (crcWrite (crcWrite u l) lv) := by
              unfold wkv rk
              simp_all
            refine Out.perm pl3 ?_
            refine Out.drop ?_
            refine Out.perm pl3 ?_
            refine Out.drop ?_
            refine Out.perm pl3 ?_
            refine Out.drop ?_
            refine Out.perm pl1 ?_
            refine Out.perm pl2 ?_
            refine Out.perm pl4 ?_
            refine Out.perm pl3 ?_
            refine Out.perm pl4 ?_
            exact Out.end0 (L' := _) Try.results67 ⟨rfl, rfl⟩ (fun w h => by rw [hw]; exact h)
        · skip
          have h7 : ¬ (m = c) := h7
          refine WPD.skip 8 rfl rfl rfl rfl rfl rfl rfl rfl (by kernel_rfl) (by kernel_rfl) (by kernel_rfl) (by kernel_rfl) (fun _ _ _ h => h) (fun _ h => h) ?_
          refine WPD.takeM 9 rfl rfl rfl rfl (by kernel_rfl) (by kernel_rfl) (by kernel_rfl) (by kernel_rfl) (fun _ _ _ h => h) (fun _ h => h) (Val.pickF rfl rfl rfl) ?_
          refine WPD.done (by kernel_rfl) ?_
          refine Out.next ?_
          refine WPc.condF rfl rfl ?_
          refine WPc.skip ?_
          refine Out.next ?_
          refine WPc.seq ?_
          refine WPc.region ?_
          refine WP.val rfl rfl rfl (Val.move rfl rfl) ?_
          refine WP.val rfl rfl rfl (Val.nilCheck rfl rfl) ?_
          refine WP.val rfl rfl rfl (Val.fieldAddr (j := 0) rfl Ty.fo148_0 rfl rfl) ?_
          refine WP.val rfl rfl rfl (Val.load rfl Ty.sc146 rfl (fun w h => h.cell 4 rfl rfl)) ?_
          refine WP.val rfl rfl rfl (Val.move rfl rfl) ?_
          refine WP.perm pl1 ?_
          refine WP.perm pl5 ?_
          refine WP.eff rfl rfl rfl (Eff.call rfl rfl Try.call89 (crc_spec A cb u l (by omega) (.slice (some ⟨b0, o0, none⟩) l.length c0) (rd_row hr))) ?_
          rintro _ _ ⟨_, ⟨kk1, rfl, rfl⟩, rfl⟩
          show WP _ _ _ _ _ _ _ (Blk cb [.int .u32 ((crcWrite u l))] 227 :: A :: Blk b3 [.int .i64 (c + (1 : Int)), .int .i64 0] 144 :: Blk b2 [.int .i64 (r + (1 : Int)), .int .i64 0] 144 :: Blk b1 [.int .i64 (m), .int .i64 (s)] 144 :: Blk hb [.pointer (some ⟨cb, 0, none⟩), .int .i64 (c), .int .i64 (r), .map (some mb)] 148 :: KSet Try.prog mb 144 (.agg #[]) S :: B :: F)
          refine WP.nil ?_
          refine Out.next ?_
          refine WPc.region ?_
          refine WP.val rfl rfl rfl (Val.move rfl rfl) ?_
          refine WP.val rfl rfl rfl (Val.nilCheck rfl rfl) ?_
          refine WP.val rfl rfl rfl (Val.fieldAddr (j := 0) rfl Ty.fo148_0 rfl rfl) ?_
          refine WP.val rfl rfl rfl (Val.load rfl Ty.sc146 rfl (fun w h => h.cell 5 rfl rfl)) ?_
          refine WP.val rfl rfl rfl (Val.move rfl rfl) ?_
          refine WP.perm pl7 ?_
          refine WP.perm pl1 ?_
          refine WP.eff rfl rfl rfl (Eff.call rfl rfl Try.call89 (crc_spec B cb (crcWrite u l) lv (by omega) vv hvv)) ?_
          rintro _ _ ⟨_, ⟨kk2, rfl, rfl⟩, rfl⟩
          show WP _ _ _ _ _ _ _ (Blk cb [.int .u32 ((crcWrite (crcWrite u l) lv))] 227 :: B :: A :: Blk b3 [.int .i64 (c + (1 : Int)), .int .i64 0] 144 :: Blk b2 [.int .i64 (r + (1 : Int)), .int .i64 0] 144 :: Blk b1 [.int .i64 (m), .int .i64 (s)] 144 :: Blk hb [.pointer (some ⟨cb, 0, none⟩), .int .i64 (c), .int .i64 (r), .map (some mb)] 148 :: KSet Try.prog mb 144 (.agg #[]) S :: F)
          refine WP.nil ?_
          have hw : wkv c r S u l m s t lv = (crcWrite (crcWrite u l) lv) := by
            unfold wkv rk
            simp_all
          refine Out.perm pl3 ?_
          refine Out.drop ?_
          refine Out.perm pl3 ?_
          refine Out.drop ?_
          refine Out.perm pl3 ?_
          refine Out.drop ?_
          refine Out.perm pl1 ?_
          refine Out.perm pl2 ?_
          refine Out.perm pl4 ?_
          refine Out.perm pl3 ?_
          refine Out.perm pl4 ?_
          exact Out.end0 (L' := _) Try.results67 ⟨rfl, rfl⟩ (fun w h => by rw [hw]; exact h)
    · skip
      refine WP.skip rfl rfl rfl rfl rfl rfl rfl ?_
      refine WP.skip rfl rfl rfl rfl rfl rfl rfl ?_
      refine WP.skip rfl rfl rfl rfl rfl rfl rfl ?_
      refine WP.skip rfl rfl rfl rfl rfl rfl rfl ?_
      refine WP.skip rfl rfl rfl rfl rfl rfl rfl ?_
      refine WP.skip rfl rfl rfl rfl rfl rfl rfl ?_
      refine WP.val rfl rfl rfl (Val.pickF rfl rfl rfl) ?_
      refine WP.nil ?_
      refine Out.next ?_
      refine WPc.condF rfl rfl ?_
      refine WPc.skip ?_
      refine Out.next ?_
      refine WPc.seq ?_
      refine WPc.seq ?_
      refine WPD.start (Sat W (Blk b3 [.int .i64 (c + (1 : Int)), .int .i64 0] 144 :: A :: Blk b2 [.int .i64 (r + (1 : Int)), .int .i64 0] 144 :: Blk b1 [.int .i64 (m), .int .i64 (s)] 144 :: Blk hb [.pointer (some ⟨cb, 0, none⟩), .int .i64 (c), .int .i64 (r), .map (some mb)] 148 :: Blk cb [.int .u32 (u)] 227 :: KSet Try.prog mb 144 (.agg #[]) S :: B :: F)) Ty.mixed ?_
      refine WPD.takeM 0 rfl rfl rfl rfl (by kernel_rfl) (by kernel_rfl) (by kernel_rfl) (by kernel_rfl) (fun _ _ _ h => h) (fun _ h => h) (Val.fieldAddr (j := 0) rfl Ty.fo144_0 rfl rfl) ?_
      refine WPD.take 1 rfl rfl rfl rfl (by kernel_rfl) (by kernel_rfl) (by kernel_rfl) (by kernel_rfl) (fun _ _ _ h => h) (by kernel_rfl) (fun _ h => h) (Val.load rfl Ty.sc2 rfl (fun w h => h.cell 3 rfl rfl)) ?_
      refine WPD.takeM 2 rfl rfl rfl rfl (by kernel_rfl) (by kernel_rfl) (by kernel_rfl) (by kernel_rfl) (fun _ _ _ h => h) (fun _ h => h) (Val.move rfl rfl) ?_
      refine WPD.takeM 3 rfl rfl rfl rfl (by kernel_rfl) (by kernel_rfl) (by kernel_rfl) (by kernel_rfl) (fun _ _ _ h => h) (fun _ h => h) (Val.nilCheck rfl rfl) ?_
      refine WPD.takeM 4 rfl rfl rfl rfl (by kernel_rfl) (by kernel_rfl) (by kernel_rfl) (by kernel_rfl) (fun _ _ _ h => h) (fun _ h => h) (Val.fieldAddr (j := 1) rfl Ty.fo148_1 rfl rfl) ?_
      refine WPD.take 5 rfl rfl rfl rfl (by kernel_rfl) (by kernel_rfl) (by kernel_rfl) (by kernel_rfl) (fun _ _ _ h => h) (by kernel_rfl) (fun _ h => h) (Val.load rfl Ty.sc2 rfl (fun w h => h.cell 4 rfl rfl)) ?_
      refine WPD.take 6 rfl rfl rfl rfl (by kernel_rfl) (by kernel_rfl) (by kernel_rfl) (by kernel_rfl) (fun _ _ _ h => h) (by kernel_rfl) (fun _ h => h) (Val.eql rfl rfl rfl) ?_
      refine WPD.takeM 7 rfl rfl rfl rfl (by kernel_rfl) (by kernel_rfl) (by kernel_rfl) (by kernel_rfl) (fun _ _ _ h => h) (fun _ h => h) (Val.move rfl rfl) ?_
      refine WPD.split 62 rfl (fun h9 => ?_) (fun h9 => ?_)
      · skip
        have h9 : (m = c) := h9
        refine WPD.takeGM 8 rfl rfl rfl rfl rfl rfl rfl rfl (by kernel_rfl) (by kernel_rfl) (by kernel_rfl) (by kernel_rfl) (fun _ _ _ h => h) (fun _ h => h) (Val.move rfl rfl) ?_
        refine WPD.takeM 9 rfl rfl rfl rfl (by kernel_rfl) (by kernel_rfl) (by kernel_rfl) (by kernel_rfl) (fun _ _ _ h => h) (fun _ h => h) (Val.pickT rfl rfl rfl) ?_
        refine WPD.done (by kernel_rfl) ?_
        refine Out.next ?_
        refine WPc.cond rfl (fun h10 => ?_) (fun h10 => ?_)
        · skip
          have h10 : (t) = true := h10
          refine WPc.ret ?_
          refine Out.then_ret ?_
          have hw : wkv c r S u l m s t lv = u := by
            unfold wkv rk
            simp_all
          refine Out.drop ?_
          refine Out.perm pl1 ?_
          refine Out.drop ?_
          refine Out.perm pl1 ?_
          refine Out.drop ?_
          refine Out.perm pl4 ?_
          refine Out.perm pl1 ?_
          refine Out.perm pl4 ?_
          refine Out.perm pl4 ?_
          refine Out.perm pl4 ?_
          exact Out.ret0 (L' := _) Try.results67 ⟨rfl, rfl⟩ (fun w h => by rw [hw]; exact h)
        · skip
          have h10 : (t) = false := h10
          refine WPc.skip ?_
          refine Out.next ?_
          refine WPc.seq ?_
          refine WPc.region ?_
          refine WP.val rfl rfl rfl (Val.move rfl rfl) ?_
          refine WP.val rfl rfl rfl (Val.nilCheck rfl rfl) ?_
          refine WP.val rfl rfl rfl (Val.fieldAddr (j := 0) rfl Ty.fo148_0 rfl rfl) ?_
          refine WP.val rfl rfl rfl (Val.load rfl Ty.sc146 rfl (fun w h => h.cell 4 rfl rfl)) ?_
          refine WP.val rfl rfl rfl (Val.move rfl rfl) ?_
          refine WP.perm pl1 ?_
          refine WP.perm pl5 ?_
          refine WP.eff rfl rfl rfl (Eff.call rfl rfl Try.call89 (crc_spec A cb u l (by omega) (.slice (some ⟨b0, o0, none⟩) l.length c0) (rd_row hr))) ?_
          rintro _ _ ⟨_, ⟨kk1, rfl, rfl⟩, rfl⟩
          show WP _ _ _ _ _ _ _ (Blk cb [.int .u32 ((crcWrite u l))] 227 :: A :: Blk b3 [.int .i64 (c + (1 : Int)), .int .i64 0] 144 :: Blk b2 [.int .i64 (r + (1 : Int)), .int .i64 0] 144 :: Blk b1 [.int .i64 (m), .int .i64 (s)] 144 :: Blk hb [.pointer (some ⟨cb, 0, none⟩), .int .i64 (c), .int .i64 (r), .map (some mb)] 148 :: KSet Try.prog mb 144 (.agg #[]) S :: B :: F)
          refine WP.nil ?_
          refine Out.next ?_
          refine WPc.region ?_
          refine WP.val rfl rfl rfl (Val.move rfl rfl) ?_
          refine WP.val rfl rfl rfl (Val.nilCheck rfl rfl) ?_
          refine WP.val rfl rfl rfl (Val.fieldAddr (j := 0) rfl Ty.fo148_0 rfl rfl) ?_
          refine WP.val rfl rfl rfl (Val.load rfl Ty.sc146 rfl (fun w h => h.cell 5 rfl rfl)) ?_
          refine WP.val rfl rfl rfl (Val.move rfl rfl) ?_
          refine WP.perm pl7 ?_
          refine WP.perm pl1 ?_
          refine WP.eff rfl rfl rfl (Eff.call rfl rfl Try.call89 (crc_spec B cb (crcWrite u l) lv (by omega) vv hvv)) ?_
          rintro _ _ ⟨_, ⟨kk2, rfl, rfl⟩, rfl⟩
          show WP _ _ _ _ _ _ _ (Blk cb [.int .u32 ((crcWrite (crcWrite u l) lv))] 227 :: B :: A :: Blk b3 [.int .i64 (c + (1 : Int)), .int .i64 0] 144 :: Blk b2 [.int .i64 (r + (1 : Int)), .int .i64 0] 144 :: Blk b1 [.int .i64 (m), .int .i64 (s)] 144 :: Blk hb [.pointer (some ⟨cb, 0, none⟩), .int .i64 (c), .int .i64 (r), .map (some mb)] 148 :: KSet Try.prog mb 144 (.agg #[]) S :: F)
          refine WP.nil ?_
          have hw : wkv c r S u l m s t lv = (crcWrite (crcWrite u l) lv) := by
            unfold wkv rk
            simp_all
          refine Out.perm pl3 ?_
          refine Out.drop ?_
          refine Out.perm pl3 ?_
          refine Out.drop ?_
          refine Out.perm pl3 ?_
          refine Out.drop ?_
          refine Out.perm pl1 ?_
          refine Out.perm pl2 ?_
          refine Out.perm pl4 ?_
          refine Out.perm pl3 ?_
          refine Out.perm pl4 ?_
          exact Out.end0 (L' := _) Try.results67 ⟨rfl, rfl⟩ (fun w h => by rw [hw]; exact h)
      · skip
        have h9 : ¬ (m = c) := h9
        refine WPD.skip 8 rfl rfl rfl rfl rfl rfl rfl rfl (by kernel_rfl) (by kernel_rfl) (by kernel_rfl) (by kernel_rfl) (fun _ _ _ h => h) (fun _ h => h) ?_
        refine WPD.takeM 9 rfl rfl rfl rfl (by kernel_rfl) (by kernel_rfl) (by kernel_rfl) (by kernel_rfl) (fun _ _ _ h => h) (fun _ h => h) (Val.pickF rfl rfl rfl) ?_
        refine WPD.done (by kernel_rfl) ?_
        refine Out.next ?_
        refine WPc.condF rfl rfl ?_
        refine WPc.skip ?_
        refine Out.next ?_
        refine WPc.seq ?_
        refine WPc.region ?_
        refine WP.val rfl rfl rfl (Val.move rfl rfl) ?_
        refine WP.val rfl rfl rfl (Val.nilCheck rfl rfl) ?_
        refine WP.val rfl rfl rfl (Val.fieldAddr (j := 0) rfl Ty.fo148_0 rfl rfl) ?_
        refine WP.val rfl rfl rfl (Val.load rfl Ty.sc146 rfl (fun w h => h.cell 4 rfl rfl)) ?_
        refine WP.val rfl rfl rfl (Val.move rfl rfl) ?_
        refine WP.perm pl1 ?_
        refine WP.perm pl5 ?_
        refine WP.eff rfl rfl rfl (Eff.call rfl rfl Try.call89 (crc_spec A cb u l (by omega) (.slice (some ⟨b0, o0, none⟩) l.length c0) (rd_row hr))) ?_
        rintro _ _ ⟨_, ⟨kk1, rfl, rfl⟩, rfl⟩
        show WP _ _ _ _ _ _ _ (Blk cb [.int .u32 ((crcWrite u l))] 227 :: A :: Blk b3 [.int .i64 (c + (1 : Int)), .int .i64 0] 144 :: Blk b2 [.int .i64 (r + (1 : Int)), .int .i64 0] 144 :: Blk b1 [.int .i64 (m), .int .i64 (s)] 144 :: Blk hb [.pointer (some ⟨cb, 0, none⟩), .int .i64 (c), .int .i64 (r), .map (some mb)] 148 :: KSet Try.prog mb 144 (.agg #[]) S :: B :: F)
        refine WP.nil ?_
        refine Out.next ?_
        refine WPc.region ?_
        refine WP.val rfl rfl rfl (Val.move rfl rfl) ?_
        refine WP.val rfl rfl rfl (Val.nilCheck rfl rfl) ?_
        refine WP.val rfl rfl rfl (Val.fieldAddr (j := 0) rfl Ty.fo148_0 rfl rfl) ?_
        refine WP.val rfl rfl rfl (Val.load rfl Ty.sc146 rfl (fun w h => h.cell 5 rfl rfl)) ?_
        refine WP.val rfl rfl rfl (Val.move rfl rfl) ?_
        refine WP.perm pl7 ?_
        refine WP.perm pl1 ?_
        refine WP.eff rfl rfl rfl (Eff.call rfl rfl Try.call89 (crc_spec B cb (crcWrite u l) lv (by omega) vv hvv)) ?_
        rintro _ _ ⟨_, ⟨kk2, rfl, rfl⟩, rfl⟩
        show WP _ _ _ _ _ _ _ (Blk cb [.int .u32 ((crcWrite (crcWrite u l) lv))] 227 :: B :: A :: Blk b3 [.int .i64 (c + (1 : Int)), .int .i64 0] 144 :: Blk b2 [.int .i64 (r + (1 : Int)), .int .i64 0] 144 :: Blk b1 [.int .i64 (m), .int .i64 (s)] 144 :: Blk hb [.pointer (some ⟨cb, 0, none⟩), .int .i64 (c), .int .i64 (r), .map (some mb)] 148 :: KSet Try.prog mb 144 (.agg #[]) S :: F)
        refine WP.nil ?_
        have hw : wkv c r S u l m s t lv = (crcWrite (crcWrite u l) lv) := by
          unfold wkv rk
          simp_all
        refine Out.perm pl3 ?_
        refine Out.drop ?_
        refine Out.perm pl3 ?_
        refine Out.drop ?_
        refine Out.perm pl3 ?_
        refine Out.drop ?_
        refine Out.perm pl1 ?_
        refine Out.perm pl2 ?_
        refine Out.perm pl4 ?_
        refine Out.perm pl3 ?_
        refine Out.perm pl4 ?_
        exact Out.end0 (L' := _) Try.results67 ⟨rfl, rfl⟩ (fun w h => by rw [hw]; exact h)

end Go.Proofs.Ythmkdioafjmclaa.Hw
