import Derived.Test.YthmkdioafjmclaaHh
namespace Go.Proofs.Ythmkdioafjmclaa.Hi
open Go.RowKit Go.Proofs.Ythmkdioafjmclaa Go.Proofs.Ythmkdioafjmclaa.Sl Go.Proofs.Ythmkdioafjmclaa.Hc Go.Proofs.Ythmkdioafjmclaa.Hp Go.Proofs.Ythmkdioafjmclaa.Hm Go.Proofs.Ythmkdioafjmclaa.Hb Go.Proofs.Ythmkdioafjmclaa.Hk Go.Proofs.Ythmkdioafjmclaa.Hr Go.Proofs.Ythmkdioafjmclaa.Hy Go.Proofs.Ythmkdioafjmclaa.Hn Go.Proofs.Ythmkdioafjmclaa.Hw Go.Proofs.Ythmkdioafjmclaa.Hl Go.Proofs.Ythmkdioafjmclaa.Hz Go.Proofs.Ythmkdioafjmclaa.Ho Go.Proofs.Ythmkdioafjmclaa.Hx Go.Proofs.Ythmkdioafjmclaa.Hs Go.Proofs.Ythmkdioafjmclaa.Hh
set_option linter.unusedVariables false
set_option linter.unusedSimpArgs false
set_option linter.unusedSectionVars false


theorem own_rd {α : Type} {W w : World} {e : TypeId} {k : Nat} {v : Value} {cf : α → List Value} {l : List α} {L : List HProp} (hk : ∀ x, (cf x).length = k) (h : Sat W (Own e k v l.length (flatOf cf l) :: L) w) : ∃ A : HProp, Sat W (Pure (Rd A k cf v l) :: A :: L) w := by
  rcases h.own with ⟨rfl, h0, h1, h2⟩ | ⟨b, cap, sp, rfl, h1, h2, h3, h4, h5⟩
  · exact ⟨Pure True, Sat.pure_mk (.inr ⟨List.eq_nil_of_length_eq_zero h0, none, 0, rfl⟩) (Sat.pure_mk trivial h2)⟩
  · refine ⟨Blk b (flatOf cf l ++ sp) e, Sat.pure_mk (.inl ⟨b, 0, cap, rfl, fun w hw i x hx => ?_⟩) h5⟩
    rw [Nat.zero_add]
    exact hw.cell_range (flatOf_range hk hx)
/-- rows that are fit to be read -/
structure RwOk (x : Rw) : Prop where
  k : x.kv.k.length ≤ 100
  v : x.kv.v.length ≤ 100
  m0 : 0 ≤ x.m
  m1 : x.m < 9223372036854775808
  s0 : 0 ≤ x.s
  s1 : x.s < 9223372036854775808
  mw : (Lit.int .i64 x.m).wf = true
  sw : (Lit.int .i64 x.s).wf = true
theorem zs_ok {zs : List ZR} {rows : List Rw} (h : zs.map ZR.x = rows) (hr : ∀ x ∈ rows, RwOk x) : ∀ z ∈ zs, RwOk z.x := fun z hz => hr z.x (by rw [← h]; exact List.mem_map.2 ⟨z, hz, rfl⟩)
set_option maxRecDepth 100000 in
set_option maxHeartbeats 1000000 in
theorem hasher_spec (A : HProp) (c r : Int) (rl : List Rv) (va : Value) (hra : Rd A 2 Rv.cells va rl) (rows : List Rw) (vb : Value) (hrb : Rd A 9 Rw.cells vb rows) (hc1 : -1 ≤ c) (hc2 : c < 4611686018427387904) (hr1 : 0 ≤ r) (hr2 : r < 4611686018427387904) (hrl : rl.length ≤ 100000) (hrw : rows.length ≤ 100000) (hok : ∀ x ∈ rows, RwOk x) (hwf : ∀ x ∈ rl, (Lit.int .i64 x.m).wf = true ∧ (Lit.int .i64 x.s).wf = true) : Does Try.prog 22 [.int .i64 (c), .int .i64 (r), va, vb] [A] (fun v L => v = .int .u32 (hashOf c r rl rows) ∧ L = [A]) := by
  refine Does.enter 16 Try.func22 rfl rfl rfl fun W F => ?_
  show WPc _ _ _ _ _ [(0, .int .i64 (c)), (1, .int .i64 (r)), (2, va), (3, vb)] (A :: F)
  refine WPc.seq ?_
  refine WPc.region ?_
  refine WP.val rfl rfl rfl (Val.assign rfl rfl) ?_
  refine WP.nil ?_
  refine Out.next ?_
  refine WPc.seq ?_
  refine WPc.region ?_
  refine WP.val rfl rfl rfl (Val.move rfl rfl) ?_
  refine WP.val rfl rfl rfl (Val.move rfl rfl) ?_
  refine WP.val rfl rfl rfl (Val.move rfl rfl) ?_
  refine WP.eff rfl rfl rfl (Eff.call rfl rfl Try.call50 (revs_spec A rl hrl va hra)) ?_
  rintro ua _ ⟨_, rfl, rfl⟩
  show WP _ _ _ _ _ _ _ (Own 144 2 ua rl.length (flatOf Rv.cells rl) :: A :: F)
  refine WP.open (fun w h => own_rd (l := rl) Rv.len h) ?_
  rintro RA
  refine WP.pure (fun hua => ?_)
  show WP _ _ _ _ _ _ _ (RA :: A :: F)
  refine WP.val rfl rfl rfl (Val.move rfl rfl) ?_
  refine WP.perm pl1 ?_
  refine WP.eff rfl rfl rfl (Eff.call rfl rfl Try.call51 (rows_spec A rows hrw vb hrb)) ?_
  rintro ub _ ⟨_, ⟨zs, hzs, rfl⟩, rfl⟩
  show WP _ _ _ _ _ _ _ (Own 164 4 ub zs.length (flatOf ZR.cells zs) :: AllP KvZ zs :: A :: RA :: F)
  refine WP.open (fun w h => own_rd (l := zs) ZR.len h) ?_
  rintro RB
  refine WP.pure (fun hub => ?_)
  show WP _ _ _ _ _ _ _ (RB :: AllP KvZ zs :: A :: RA :: F)
  refine WP.perm pl1 ?_
  refine WP.perm pl1 ?_
  refine WP.perm pl3 ?_
  refine WP.eff rfl rfl rfl (Eff.call rfl rfl Try.call49 (zzhash_spec RA RB c r rl ua hua zs ub hub hc1 hc2 hr1 hr2 (fun z hz => let o := zs_ok hzs hok z hz; ⟨o.m0, o.m1, o.s0, o.s1, o.mw, o.sw⟩) hrl (by have := congrArg List.length hzs; rw [List.length_map] at this; omega) (fun z hz => let o := zs_ok hzs hok z hz; ⟨o.k, o.v⟩) hwf)) ?_
  rintro _ _ ⟨_, ⟨rfl, rfl⟩, rfl⟩
  show WP _ _ _ _ _ _ _ (A :: F)
  refine WP.val rfl rfl rfl (Val.assign rfl rfl) ?_
  refine WP.nil ?_
  refine Out.next ?_
  refine WPc.ret ?_
  exact Out.ret1 (L' := _) Try.results22 rfl ⟨by rw [hzs], rfl⟩ (fun _ h => h)

end Go.Proofs.Ythmkdioafjmclaa.Hi
