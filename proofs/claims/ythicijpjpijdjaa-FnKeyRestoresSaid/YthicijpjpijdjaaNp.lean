import Derived.Test.YthicijpjpijdjaaNo
namespace Go.Proofs.Ythicijpjpijdjaa.Ln
open Go.RowKit Go.Proofs.Ythicijpjpijdjaa Go.Proofs.Ythicijpjpijdjaa.Sl Go.Proofs.Ythicijpjpijdjaa.KyP Go.Proofs.Ythicijpjpijdjaa.Ka Go.Proofs.Ythicijpjpijdjaa.Kb Go.Proofs.Ythicijpjpijdjaa.Kc Go.Proofs.Ythicijpjpijdjaa.Kd Go.Proofs.Ythicijpjpijdjaa.Ke Go.Proofs.Ythicijpjpijdjaa.Kf Go.Proofs.Ythicijpjpijdjaa.Kg Go.Proofs.Ythicijpjpijdjaa.Kh Go.Proofs.Ythicijpjpijdjaa.Ki Go.Proofs.Ythicijpjpijdjaa.Kj Go.Proofs.Ythicijpjpijdjaa.Kk Go.Proofs.Ythicijpjpijdjaa.Kl Go.Proofs.Ythicijpjpijdjaa.Km Go.Proofs.Ythicijpjpijdjaa.Kn Go.Proofs.Ythicijpjpijdjaa.Ko Go.Proofs.Ythicijpjpijdjaa.Kp Go.Proofs.Ythicijpjpijdjaa.Kq Go.Proofs.Ythicijpjpijdjaa.Kr Go.Proofs.Ythicijpjpijdjaa.Ks Go.Proofs.Ythicijpjpijdjaa.Kt Go.Proofs.Ythicijpjpijdjaa.Ku Go.Proofs.Ythicijpjpijdjaa.Kv Go.Proofs.Ythicijpjpijdjaa.Kw Go.Proofs.Ythicijpjpijdjaa.Kx Go.Proofs.Ythicijpjpijdjaa.Ky Go.Proofs.Ythicijpjpijdjaa.Kz Go.Proofs.Ythicijpjpijdjaa.La Go.Proofs.Ythicijpjpijdjaa.Lb Go.Proofs.Ythicijpjpijdjaa.Lc Go.Proofs.Ythicijpjpijdjaa.Ld Go.Proofs.Ythicijpjpijdjaa.Le Go.Proofs.Ythicijpjpijdjaa.Lf Go.Proofs.Ythicijpjpijdjaa.Lg Go.Proofs.Ythicijpjpijdjaa.Lh Go.Proofs.Ythicijpjpijdjaa.KyQ Go.Proofs.Ythicijpjpijdjaa.KyR Go.Proofs.Ythicijpjpijdjaa.Li Go.Proofs.Ythicijpjpijdjaa.Lj Go.Proofs.Ythicijpjpijdjaa.Lk Go.Proofs.Ythicijpjpijdjaa.Ll Go.Proofs.Ythicijpjpijdjaa.KyS Go.Proofs.Ythicijpjpijdjaa.KyT Go.Proofs.Ythicijpjpijdjaa.KyU Go.Proofs.Ythicijpjpijdjaa.Lm
set_option linter.unusedVariables false
set_option linter.unusedSimpArgs false
set_option linter.unusedSectionVars false


theorem kop_one (l : List KOp) : (flatOf KOp.cells l).all (·.oneCell') = true := by
  rw [List.all_eq_true]; intro v hv
  obtain ⟨x, -, hx⟩ := List.mem_flatMap.1 hv
  simp only [KOp.cells, List.mem_cons, List.not_mem_nil, or_false] at hx
  rcases hx with rfl | rfl | rfl | rfl | rfl | rfl | rfl <;> rfl
theorem wf_one {rv cr : Rv} {ver : Int} (hv : 1 ≤ ver) (hr : 1 ≤ rv.m ∧ 0 ≤ rv.s) : Wf ver [⟨rv, cr, ver, false⟩] where
  rise := List.pairwise_singleton _ _
  links := fun i a b ha hb => by simp at hb
  pos := fun x hx => by rw [List.mem_singleton.1 hx]; exact hr
  ver := fun x hx => by rw [List.mem_singleton.1 hx]; exact ⟨hv, Int.le_refl _⟩
  nxt := fun i a b ha hb => by simp at hb
theorem rest_runs {rv cr : Rv} {ver : Int} (hv : 1 ≤ ver) (hv2 : ver ≤ 4611686018427387904) (hr : 1 ≤ rv.m ∧ 0 ≤ rv.s) {l : List KOp} {vs : List Vn} {aa : List (KA × List Vn)} (h : lifeR [⟨rv, cr, ver, false⟩] l = some (vs, aa)) :
    Runs StAll ⟨⟨0, 0⟩, []⟩ (⟨3, rv, cr, ver, 0⟩ :: l) (({ KA0 with ok := true }, krest cr rv ver) :: aa.map toK) ∧ l.length ≤ 300 ∧ aa.length = l.length := by
  have hl : l.length ≤ 300 := by
    rcases Nat.lt_or_ge 300 l.length with h2 | h2
    · unfold lifeR at h; rw [if_pos h2] at h; cases h
    · exact h2
  have hlf : life [⟨rv, cr, ver, false⟩] l = some (vs, aa) := by unfold lifeR at h; rwa [if_neg (by omega)] at h
  obtain ⟨h1, -, -, -, -, h6⟩ := runs_law (wf_one hv hr) (by omega) (by show 0 < 1; omega) (by show 1 ≤ 1000; omega) l.length l rfl (by omega) (by omega) hlf
  exact ⟨runs_cons (.inr (.inr (.inr (.inr (.inl ⟨rfl, rfl, rfl, rfl⟩))))) h1, hl, h6⟩
/-- the answers of both, beside one another -/
theorem keys_same {wt : List WK} {was : List WA} (h : wt.map WK.pr = (was.map WA.pr).map toK) (hk : ∀ x ∈ wt, x.gl.map (·.1) = x.s.gs) (hw : ∀ x ∈ was, x.gl.map (·.1) = dgens x.lb) : (wt.map WK.ar).map AR.key = (was.map WA.ar).map AR.key := by
  induction wt generalizing was with
  | nil => cases was with
    | nil => rfl
    | cons y was => cases h
  | cons x wt ih =>
    cases was with
    | nil => cases h
    | cons y was =>
      simp only [List.map_cons, List.cons.injEq] at h ⊢
      refine ⟨?_, ih h.2 (fun z hz => hk z (by simp [hz])) (fun z hz => hw z (by simp [hz]))⟩
      obtain ⟨a, s, vr, vg, gl⟩ := x
      obtain ⟨b, lb, vr2, vg2, gl2⟩ := y
      have h1 := h.1
      simp only [WK.pr, WA.pr, toK, Prod.mk.injEq] at h1
      obtain ⟨rfl, rfl⟩ := h1
      have e1 := hk ⟨a, ⟨modi lb, dgens lb⟩, vr, vg, gl⟩ (by simp)
      have e2 := hw ⟨a, lb, vr2, vg2, gl2⟩ (by simp)
      simp only [AR.key, WK.ar, WA.ar, Prod.mk.injEq, true_and]
      exact e1.trans e2.symm
theorem cons_was {was : List WK} {x : KA × KI} {r : List (KA × KI)} (h : was.map WK.pr = x :: r) : ∃ u v g wt, was = ⟨x.1, x.2, u, v, g⟩ :: wt ∧ wt.map WK.pr = r := by
  cases was with
  | nil => cases h
  | cons y wt =>
    obtain ⟨a, s, u, v, g⟩ := y
    simp only [List.map_cons, WK.pr, List.cons.injEq] at h
    obtain ⟨rfl, h2⟩ := h
    exact ⟨u, v, g, wt, rfl, h2⟩
theorem kdo_bound (l : List Vn) (o : KOp) : (kdo l o).2.1.revs.length ≤ l.length := by
  have h1 := since_len l o.at_ l.length
  have h2 := kept_len l o.at_ true l.length
  have h3 := kept_len l o.at_ false l.length
  unfold kdo
  split
  · split <;> exact Nat.zero_le _
  split
  · split
    · split <;> exact Nat.zero_le _
    · exact Nat.zero_le _
  split
  · exact Nat.zero_le _
  split
  · exact h1
  split
  · exact h2
  split
  · exact h3
  · exact Nat.zero_le _
/-- answers are not long -/
theorem life_bound {l0 : List Vn} : ∀ (n : Nat) (ops : List KOp), ops.length = n → ∀ {l : List Vn} {aa : List (KA × List Vn)}, life l0 ops = some (l, aa) → l.length ≤ l0.length + n ∧ ∀ p ∈ aa, p.1.revs.length ≤ l0.length + n ∧ p.2.length ≤ l0.length + n
  | 0, ops, hn, l, aa, h => by
    rw [List.eq_nil_of_length_eq_zero hn] at h
    cases h
    exact ⟨Nat.le_refl _, fun p hp => by cases hp⟩
  | n + 1, ops, hn, l, aa, h => by
    obtain ⟨m, o, rfl⟩ := snoc_of (l := ops) (fun e => by rw [e] at hn; cases hn)
    have hmn : m.length = n := by simpa using hn
    rw [life_snoc] at h
    cases hm : life l0 m with
    | none => rw [hm] at h; cases h
    | some q =>
      obtain ⟨l1, a1⟩ := q
      rw [hm] at h
      unfold lstep at h
      dsimp only at h
      split at h
      · cases h
      · cases h
        obtain ⟨i1, i2⟩ := life_bound n m hmn hm
        have h1 := kdo_len l1 o
        have h2 := kdo_bound l1 o
        refine ⟨by omega, fun p hp => ?_⟩
        rcases List.mem_append.1 hp with hp | hp
        · have := i2 p hp
          omega
        · rw [List.mem_singleton.1 hp]
          dsimp only
          omega
theorem was_ok {l0 : List Vn} (hl0 : l0.length ≤ 1) {l : List KOp} {vs : List Vn} {was : List WA} (h : lifeR l0 l = some (vs, was.map WA.pr)) (hg : ∀ x ∈ was, x.gl.map (·.1) = dgens x.lb) : ∀ x ∈ was.map WA.ar, ARok x := by
  have hl : l.length ≤ 300 := by
    rcases Nat.lt_or_ge 300 l.length with h2 | h2
    · unfold lifeR at h; rw [if_pos h2] at h; cases h
    · exact h2
  have hlf : life l0 l = some (vs, was.map WA.pr) := by unfold lifeR at h; rwa [if_neg (by omega)] at h
  obtain ⟨-, hb⟩ := life_bound l.length l rfl hlf
  intro x hx
  obtain ⟨y, hy, rfl⟩ := List.mem_map.1 hx
  have h1 := hb y.pr (List.mem_map_of_mem hy)
  have h2 := hg y hy
  refine ⟨?_, ?_⟩
  · show y.a.revs.length ≤ 200000
    have := h1.1; show y.a.revs.length ≤ _; have e : y.pr.1.revs.length = y.a.revs.length := rfl; omega
  · show Small (y.gl.map (·.1))
    rw [h2]; refine small_dgens ?_
    have e : y.pr.2.length = y.lb.length := rfl
    omega
theorem key_ok {x y : AR} (h : x.key = y.key) (hy : ARok y) : ARok x := by
  obtain ⟨a, md, vr, vg, gl⟩ := x
  obtain ⟨a2, md2, vr2, vg2, gl2⟩ := y
  simp only [AR.key, Prod.mk.injEq] at h
  obtain ⟨rfl, rfl, h3⟩ := h
  refine ⟨hy.1, ?_⟩
  show Small (gl.map (·.1))
  rw [h3]; exact hy.2
theorem keys_ok {l m : List AR} (h : l.map AR.key = m.map AR.key) (hm : ∀ x ∈ m, ARok x) : ∀ x ∈ l, ARok x := by
  intro x hx
  obtain ⟨i, hi⟩ := List.mem_iff_getElem?.1 hx
  have h9 := congrArg (fun q => q[i]?) h
  simp only [List.getElem?_map, hi, Option.map_some] at h9
  cases hy : m[i]? with
  | none => rw [hy] at h9; cases h9
  | some y =>
    rw [hy] at h9
    exact key_ok (Option.some.inj h9) (hm y (List.mem_iff_getElem?.2 ⟨_, hy⟩))
theorem rd_tail {b c : Nat} {x : WK} {wt : List WK} {sp : List Value} {T : TypeId} {n : Nat} (hn : n = wt.length) (hc0 : n + 1 ≤ c) : Rd (Blk b (flatOf WK.cells (x :: wt) ++ sp) T) 10 AR.cells (.slice (some ⟨b, if c = 1 then 0 else 0 + 1 * 10, none⟩) n (c - 1)) (wt.map WK.ar) := by
  subst hn
  by_cases hc : c = 1
  · rw [if_pos hc]
    cases wt with
    | nil => exact .inr ⟨rfl, _, _, rfl⟩
    | cons y wt =>
      simp at hc0; omega
  · rw [if_neg hc]
    refine .inl ⟨b, 0 + 1 * 10, c - 1, by simp, fun w hw i z hz => ?_⟩
    rw [flat_wk] at hw
    rw [show 0 + 1 * 10 + i * 10 = (i + 1) * 10 from by omega]
    exact hw.cell_range (flatOf_range AR.len (by simpa using hz))
set_option maxRecDepth 100000 in
set_option maxHeartbeats 2000000 in
theorem law_spec (W0 : World) (key : ByteArray) (hkey : key.size ≤ 9223372036854775807) (cr rv : Rv) (ver : Int) (l : List KOp) (hl : l.length ≤ 9223372036854775807) (vo : Value) (hvo : Rd (Old W0) 7 KOp.cells vo l) : Does Try.prog 4 [.string key, .agg #[.int .i64 (cr.m), .int .i64 (cr.s)], .agg #[.int .i64 (rv.m), .int .i64 (rv.s)], .int .i64 (ver), vo] [Old W0] (fun v L => v = .bool true ∧ L = [Old W0]) := by
  refine Does.enter 103 Try.func4 rfl rfl rfl fun W F => ?_
  show WPc _ _ _ _ _ [(0, .string key), (1, .agg #[.int .i64 (cr.m), .int .i64 (cr.s)]), (2, .agg #[.int .i64 (rv.m), .int .i64 (rv.s)]), (3, .int .i64 (ver)), (4, vo)] (Old W0 :: F)
  refine WPc.seq ?_
  refine WPc.region ?_
  refine WP.eff rfl rfl rfl (Eff.box (C := [.int .i64 (cr.m), .int .i64 (cr.s)]) rfl rfl rfl) ?_
  rintro _ _ ⟨b1, rfl, rfl⟩
  refine WP.eff rfl rfl rfl (Eff.box (C := [.int .i64 (rv.m), .int .i64 (rv.s)]) rfl rfl rfl) ?_
  rintro _ _ ⟨b2, rfl, rfl⟩
  refine WP.val rfl rfl rfl (Val.assign rfl rfl) ?_
  refine WP.nil ?_
  refine Out.next ?_
  refine WPc.seq ?_
  refine WPc.seq ?_
  refine WPc.region ?_
  refine WP.val rfl rfl rfl (Val.move rfl rfl) ?_
  refine WP.val rfl rfl rfl (Val.lenS rfl Ty.st9 rfl) ?_
  refine WP.val rfl rfl rfl (Val.gtr rfl rfl rfl) ?_
  refine WP.val rfl rfl rfl (Val.move rfl rfl) ?_
  refine WP.split 20 rfl (fun h1 => ?_) (fun h1 => ?_)
  · skip
    have h1 : ((2147483647 : Int) < (((key).size : Nat) : Int)) := h1
    refine WP.skip rfl rfl rfl rfl rfl rfl rfl ?_
    refine WP.skip rfl rfl rfl rfl rfl rfl rfl ?_
    refine WP.skip rfl rfl rfl rfl rfl rfl rfl ?_
    refine WP.val rfl rfl rfl (Val.pickT rfl rfl rfl) ?_
    refine WP.nil ?_
    refine Out.next ?_
    refine WPc.condT rfl rfl ?_
    refine WPc.seq ?_
    refine WPc.region ?_
    refine WP.val rfl rfl rfl (Val.assign rfl rfl) ?_
    refine WP.nil ?_
    refine Out.next ?_
    refine WPc.ret ?_
    refine Out.then_ret ?_
    refine Out.drop ?_
    refine Out.drop ?_
    exact Out.ret1 (L' := _) Try.results4 rfl ⟨rfl, rfl⟩ (fun _ h => h)
  · skip
    have h1 : ¬ ((2147483647 : Int) < (((key).size : Nat) : Int)) := h1
    refine WP.valG rfl rfl rfl rfl rfl rfl rfl (Val.move rfl rfl) ?_
    refine WP.valG rfl rfl rfl rfl rfl rfl rfl (Rd.len hvo rfl Ty.sl22 rfl) ?_
    refine WP.valG rfl rfl rfl rfl rfl rfl rfl (Val.gtr rfl rfl rfl) ?_
    refine WP.val rfl rfl rfl (Val.pickF rfl rfl rfl) ?_
    refine WP.nil ?_
    refine Out.next ?_
    refine WPc.ifP rfl (fun h2 => ?_) (fun h2 => ?_)
    · skip
      have h2 : ((2147483647 : Int) < ((l.length : Nat) : Int)) := h2
      refine WPc.seq ?_
      refine WPc.region ?_
      refine WP.val rfl rfl rfl (Val.assign rfl rfl) ?_
      refine WP.nil ?_
      refine Out.next ?_
      refine WPc.ret ?_
      refine Out.then_ret ?_
      refine Out.drop ?_
      refine Out.drop ?_
      exact Out.ret1 (L' := _) Try.results4 rfl ⟨rfl, rfl⟩ (fun _ h => h)
    · skip
      have h2 : ¬ ((2147483647 : Int) < ((l.length : Nat) : Int)) := h2
      refine WPc.skip ?_
      refine Out.next ?_
      refine WPc.seq ?_
      refine WPc.region ?_
      refine WP.val rfl rfl rfl (Val.loadAgg (cs := [.int .i64 (rv.m), .int .i64 (rv.s)]) rfl Ty.ag32 rfl rfl (fun w h => h.range 0 rfl rfl)) ?_
      refine WP.val rfl rfl rfl (Val.loadAgg (cs := [.int .i64 (cr.m), .int .i64 (cr.s)]) rfl Ty.ag32 rfl rfl (fun w h => h.range 1 rfl rfl)) ?_
      refine WP.val rfl rfl rfl (Val.move rfl rfl) ?_
      refine WP.val rfl rfl rfl (Val.mk (cs := [.int .i64 (rv.m), .int .i64 (rv.s), .int .i64 (cr.m), .int .i64 (cr.s), .int .i64 (ver), .bool false]) rfl rfl (fun _ => by kernel_rfl)) ?_
      refine WP.eff rfl rfl rfl (Eff.mkSlice (C := [.int .i64 (rv.m), .int .i64 (rv.s), .int .i64 (cr.m), .int .i64 (cr.s), .int .i64 (ver), .bool false]) rfl Ty.sl23 rfl (fun _ => by kernel_rfl)) ?_
      rintro _ _ ⟨b3, rfl, rfl⟩
      refine WP.val rfl rfl rfl (Val.assign rfl rfl) ?_
      refine WP.nil ?_
      refine Out.next ?_
      refine WPc.seq ?_
      refine WPc.region ?_
      refine WP.val rfl rfl rfl (Val.move rfl rfl) ?_
      refine WP.val rfl rfl rfl (Val.move rfl rfl) ?_
      refine WP.perm pl3 ?_
      refine WP.perm pl1 ?_
      refine WP.eff rfl rfl rfl (Eff.call rfl rfl Try.call7 (life_all (Blk b3 (flatOf Vn.cells [(⟨rv, cr, ver, false⟩ : Vn)]) 47) (Old W0) [(⟨rv, cr, ver, false⟩ : Vn)] (by show 1 ≤ 1000; omega) (.slice (some ⟨b3, 0, none⟩) 1 1) (rd_blk (cf := Vn.cells) (k := 6) Vn.len b3 1 47 [(⟨rv, cr, ver, false⟩ : Vn)]) l (by omega) vo hvo)) ?_
      rintro _ _ ⟨_, ⟨X, va2, w5, vs, was, ok, rfl, hlife, hvs0, hgs, hX, hvn, hXE, rfl⟩, rfl⟩
      show WP _ _ _ _ _ _ _ (Own 42 10 w5 was.length (flatOf WA.cells was) :: Kds WAP was :: X :: Old W0 :: Blk b2 [.int .i64 (rv.m), .int .i64 (rv.s)] 32 :: Blk b1 [.int .i64 (cr.m), .int .i64 (cr.s)] 32 :: F)
      refine WP.val rfl rfl rfl (Val.move rfl rfl) ?_
      refine WP.val rfl rfl rfl (Val.extract rfl rfl rfl) ?_
      refine WP.val rfl rfl rfl (Val.extract rfl rfl rfl) ?_
      refine WP.val rfl rfl rfl (Val.extract rfl rfl rfl) ?_
      refine WP.val rfl rfl rfl (Val.assign rfl rfl) ?_
      refine WP.val rfl rfl rfl (Val.assign rfl rfl) ?_
      refine WP.val rfl rfl rfl (Val.assign rfl rfl) ?_
      refine WP.nil ?_
      refine Out.next ?_
      refine WPc.seq ?_
      refine WPc.seq ?_
      refine WPc.region ?_
      refine WP.val rfl rfl rfl (Val.move rfl rfl) ?_
      refine WP.val rfl rfl rfl (Val.not rfl rfl) ?_
      refine WP.val rfl rfl rfl (Val.move rfl rfl) ?_
      refine WP.splitB 39 rfl (fun h3 => ?_) (fun h3 => ?_)
      · skip
        refine WP.skip rfl rfl rfl rfl rfl rfl rfl ?_
        refine WP.skip rfl rfl rfl rfl rfl rfl rfl ?_
        refine WP.val rfl rfl rfl (Val.pickT rfl rfl rfl) ?_
        refine WP.val rfl rfl rfl (Val.move rfl rfl) ?_
        refine WP.skip rfl rfl rfl rfl rfl rfl rfl ?_
        refine WP.skip rfl rfl rfl rfl rfl rfl rfl ?_
        refine WP.val rfl rfl rfl (Val.pickT rfl rfl rfl) ?_
        refine WP.val rfl rfl rfl (Val.move rfl rfl) ?_
        refine WP.skip rfl rfl rfl rfl rfl rfl rfl ?_
        refine WP.skip rfl rfl rfl rfl rfl rfl rfl ?_
        refine WP.skip rfl rfl rfl rfl rfl rfl rfl ?_
        refine WP.val rfl rfl rfl (Val.pickT rfl rfl rfl) ?_
        refine WP.val rfl rfl rfl (Val.move rfl rfl) ?_
        refine WP.skip rfl rfl rfl rfl rfl rfl rfl ?_
        refine WP.skip rfl rfl rfl rfl rfl rfl rfl ?_
        refine WP.skip rfl rfl rfl rfl rfl rfl rfl ?_
        refine WP.val rfl rfl rfl (Val.pickT rfl rfl rfl) ?_
        refine WP.val rfl rfl rfl (Val.move rfl rfl) ?_
        refine WP.skip rfl rfl rfl rfl rfl rfl rfl ?_
        refine WP.skip rfl rfl rfl rfl rfl rfl rfl ?_
        refine WP.skip rfl rfl rfl rfl rfl rfl rfl ?_
        refine WP.val rfl rfl rfl (Val.pickT rfl rfl rfl) ?_
        refine WP.nil ?_
        refine Out.next ?_
        refine WPc.condT rfl rfl ?_
        refine WPc.seq ?_
        refine WPc.region ?_
        refine WP.eff rfl rfl rfl (Eff.call rfl rfl Try.call9 (Lb.live_spec 0)) ?_
        rintro _ _ ⟨_, ⟨rfl, rfl⟩, rfl⟩
        show WP _ _ _ _ _ _ _ (Own 42 10 w5 was.length (flatOf WA.cells was) :: Kds WAP was :: X :: Old W0 :: Blk b2 [.int .i64 (rv.m), .int .i64 (rv.s)] 32 :: Blk b1 [.int .i64 (cr.m), .int .i64 (cr.s)] 32 :: F)
        refine WP.val rfl rfl rfl (Val.assign rfl rfl) ?_
        refine WP.nil ?_
        refine Out.next ?_
        refine WPc.ret ?_
        refine Out.then_ret ?_
        refine Out.drop ?_
        refine Out.drop ?_
        refine Out.drop ?_
        refine Out.perm pl1 ?_
        refine Out.drop ?_
        refine Out.perm pl1 ?_
        refine Out.drop ?_
        exact Out.ret1 (L' := _) Try.results4 rfl ⟨rfl, rfl⟩ (fun _ h => h)
      · skip
        refine WP.valG rfl rfl rfl rfl rfl rfl rfl (Val.move rfl rfl) ?_
        refine WP.valG rfl rfl rfl rfl rfl rfl rfl (Val.lss rfl rfl rfl) ?_
        refine WP.val rfl rfl rfl (Val.pickF rfl rfl rfl) ?_
        refine WP.val rfl rfl rfl (Val.move rfl rfl) ?_
        refine WP.split 43 rfl (fun h4 => ?_) (fun h4 => ?_)
        · skip
          have h4 : (ver < (1 : Int)) := h4
          refine WP.skip rfl rfl rfl rfl rfl rfl rfl ?_
          refine WP.skip rfl rfl rfl rfl rfl rfl rfl ?_
          refine WP.val rfl rfl rfl (Val.pickT rfl rfl rfl) ?_
          refine WP.val rfl rfl rfl (Val.move rfl rfl) ?_
          refine WP.skip rfl rfl rfl rfl rfl rfl rfl ?_
          refine WP.skip rfl rfl rfl rfl rfl rfl rfl ?_
          refine WP.skip rfl rfl rfl rfl rfl rfl rfl ?_
          refine WP.val rfl rfl rfl (Val.pickT rfl rfl rfl) ?_
          refine WP.val rfl rfl rfl (Val.move rfl rfl) ?_
          refine WP.skip rfl rfl rfl rfl rfl rfl rfl ?_
          refine WP.skip rfl rfl rfl rfl rfl rfl rfl ?_
          refine WP.skip rfl rfl rfl rfl rfl rfl rfl ?_
          refine WP.val rfl rfl rfl (Val.pickT rfl rfl rfl) ?_
          refine WP.val rfl rfl rfl (Val.move rfl rfl) ?_
          refine WP.skip rfl rfl rfl rfl rfl rfl rfl ?_
          refine WP.skip rfl rfl rfl rfl rfl rfl rfl ?_
          refine WP.skip rfl rfl rfl rfl rfl rfl rfl ?_
          refine WP.val rfl rfl rfl (Val.pickT rfl rfl rfl) ?_
          refine WP.nil ?_
          refine Out.next ?_
          refine WPc.condT rfl rfl ?_
          refine WPc.seq ?_
          refine WPc.region ?_
          refine WP.eff rfl rfl rfl (Eff.call rfl rfl Try.call9 (Lb.live_spec 0)) ?_
          rintro _ _ ⟨_, ⟨rfl, rfl⟩, rfl⟩
          show WP _ _ _ _ _ _ _ (Own 42 10 w5 was.length (flatOf WA.cells was) :: Kds WAP was :: X :: Old W0 :: Blk b2 [.int .i64 (rv.m), .int .i64 (rv.s)] 32 :: Blk b1 [.int .i64 (cr.m), .int .i64 (cr.s)] 32 :: F)
          refine WP.val rfl rfl rfl (Val.assign rfl rfl) ?_
          refine WP.nil ?_
          refine Out.next ?_
          refine WPc.ret ?_
          refine Out.then_ret ?_
          refine Out.drop ?_
          refine Out.drop ?_
          refine Out.drop ?_
          refine Out.perm pl1 ?_
          refine Out.drop ?_
          refine Out.perm pl1 ?_
          refine Out.drop ?_
          exact Out.ret1 (L' := _) Try.results4 rfl ⟨rfl, rfl⟩ (fun _ h => h)
        · skip
          have h4 : ¬ (ver < (1 : Int)) := h4
          refine WP.valG rfl rfl rfl rfl rfl rfl rfl (Val.move rfl rfl) ?_
          refine WP.valG rfl rfl rfl rfl rfl rfl rfl (Val.gtr rfl rfl rfl) ?_
          refine WP.val rfl rfl rfl (Val.pickF rfl rfl rfl) ?_
          refine WP.val rfl rfl rfl (Val.move rfl rfl) ?_
          refine WP.split 47 rfl (fun h5 => ?_) (fun h5 => ?_)
          · skip
            have h5 : ((4611686018427387904 : Int) < ver) := h5
            refine WP.skip rfl rfl rfl rfl rfl rfl rfl ?_
            refine WP.skip rfl rfl rfl rfl rfl rfl rfl ?_
            refine WP.skip rfl rfl rfl rfl rfl rfl rfl ?_
            refine WP.val rfl rfl rfl (Val.pickT rfl rfl rfl) ?_
            refine WP.val rfl rfl rfl (Val.move rfl rfl) ?_
            refine WP.skip rfl rfl rfl rfl rfl rfl rfl ?_
            refine WP.skip rfl rfl rfl rfl rfl rfl rfl ?_
            refine WP.skip rfl rfl rfl rfl rfl rfl rfl ?_
            refine WP.val rfl rfl rfl (Val.pickT rfl rfl rfl) ?_
            refine WP.val rfl rfl rfl (Val.move rfl rfl) ?_
            refine WP.skip rfl rfl rfl rfl rfl rfl rfl ?_
            refine WP.skip rfl rfl rfl rfl rfl rfl rfl ?_
            refine WP.skip rfl rfl rfl rfl rfl rfl rfl ?_
            refine WP.val rfl rfl rfl (Val.pickT rfl rfl rfl) ?_
            refine WP.nil ?_
            refine Out.next ?_
            refine WPc.condT rfl rfl ?_
            refine WPc.seq ?_
            refine WPc.region ?_
            refine WP.eff rfl rfl rfl (Eff.call rfl rfl Try.call9 (Lb.live_spec 0)) ?_
            rintro _ _ ⟨_, ⟨rfl, rfl⟩, rfl⟩
            show WP _ _ _ _ _ _ _ (Own 42 10 w5 was.length (flatOf WA.cells was) :: Kds WAP was :: X :: Old W0 :: Blk b2 [.int .i64 (rv.m), .int .i64 (rv.s)] 32 :: Blk b1 [.int .i64 (cr.m), .int .i64 (cr.s)] 32 :: F)
            refine WP.val rfl rfl rfl (Val.assign rfl rfl) ?_
            refine WP.nil ?_
            refine Out.next ?_
            refine WPc.ret ?_
            refine Out.then_ret ?_
            refine Out.drop ?_
            refine Out.drop ?_
            refine Out.drop ?_
            refine Out.perm pl1 ?_
            refine Out.drop ?_
            refine Out.perm pl1 ?_
            refine Out.drop ?_
            exact Out.ret1 (L' := _) Try.results4 rfl ⟨rfl, rfl⟩ (fun _ h => h)
          · skip
            have h5 : ¬ ((4611686018427387904 : Int) < ver) := h5
            refine WP.valG rfl rfl rfl rfl rfl rfl rfl (Val.loadAgg (cs := [.int .i64 (rv.m), .int .i64 (rv.s)]) rfl Ty.ag32 rfl rfl (fun w h => h.range 4 rfl rfl)) ?_
            refine WP.effG rfl rfl rfl rfl rfl rfl rfl (Eff.call rfl rfl Try.call15 (ixrev_spec rv)) ?_
            rintro _ _ ⟨_, ⟨rfl, rfl⟩, rfl⟩
            show WP _ _ _ _ _ _ _ (Own 42 10 w5 was.length (flatOf WA.cells was) :: Kds WAP was :: X :: Old W0 :: Blk b2 [.int .i64 (rv.m), .int .i64 (rv.s)] 32 :: Blk b1 [.int .i64 (cr.m), .int .i64 (cr.s)] 32 :: F)
            refine WP.valG rfl rfl rfl rfl rfl rfl rfl (Val.notP rfl rfl) ?_
            refine WP.val rfl rfl rfl (Val.pickF rfl rfl rfl) ?_
            refine WP.val rfl rfl rfl (Val.move rfl rfl) ?_
            refine WP.split 52 rfl (fun h6 => ?_) (fun h6 => ?_)
            · skip
              have h6 : (¬ (1 ≤ rv.m ∧ 0 ≤ rv.s)) := h6
              refine WP.skip rfl rfl rfl rfl rfl rfl rfl ?_
              refine WP.skip rfl rfl rfl rfl rfl rfl rfl ?_
              refine WP.skip rfl rfl rfl rfl rfl rfl rfl ?_
              refine WP.val rfl rfl rfl (Val.pickT rfl rfl rfl) ?_
              refine WP.val rfl rfl rfl (Val.move rfl rfl) ?_
              refine WP.skip rfl rfl rfl rfl rfl rfl rfl ?_
              refine WP.skip rfl rfl rfl rfl rfl rfl rfl ?_
              refine WP.skip rfl rfl rfl rfl rfl rfl rfl ?_
              refine WP.val rfl rfl rfl (Val.pickT rfl rfl rfl) ?_
              refine WP.nil ?_
              refine Out.next ?_
              refine WPc.condT rfl rfl ?_
              refine WPc.seq ?_
              refine WPc.region ?_
              refine WP.eff rfl rfl rfl (Eff.call rfl rfl Try.call9 (Lb.live_spec 0)) ?_
              rintro _ _ ⟨_, ⟨rfl, rfl⟩, rfl⟩
              show WP _ _ _ _ _ _ _ (Own 42 10 w5 was.length (flatOf WA.cells was) :: Kds WAP was :: X :: Old W0 :: Blk b2 [.int .i64 (rv.m), .int .i64 (rv.s)] 32 :: Blk b1 [.int .i64 (cr.m), .int .i64 (cr.s)] 32 :: F)
              refine WP.val rfl rfl rfl (Val.assign rfl rfl) ?_
              refine WP.nil ?_
              refine Out.next ?_
              refine WPc.ret ?_
              refine Out.then_ret ?_
              refine Out.drop ?_
              refine Out.drop ?_
              refine Out.drop ?_
              refine Out.perm pl1 ?_
              refine Out.drop ?_
              refine Out.perm pl1 ?_
              refine Out.drop ?_
              exact Out.ret1 (L' := _) Try.results4 rfl ⟨rfl, rfl⟩ (fun _ h => h)
            · skip
              have h6 : ¬ (¬ (1 ≤ rv.m ∧ 0 ≤ rv.s)) := h6
              refine WP.valG rfl rfl rfl rfl rfl rfl rfl (Val.loadAgg (cs := [.int .i64 (cr.m), .int .i64 (cr.s)]) rfl Ty.ag32 rfl rfl (fun w h => h.range 5 rfl rfl)) ?_
              refine WP.effG rfl rfl rfl rfl rfl rfl rfl (Eff.call rfl rfl Try.call15 (ixrev_spec cr)) ?_
              rintro _ _ ⟨_, ⟨rfl, rfl⟩, rfl⟩
              show WP _ _ _ _ _ _ _ (Own 42 10 w5 was.length (flatOf WA.cells was) :: Kds WAP was :: X :: Old W0 :: Blk b2 [.int .i64 (rv.m), .int .i64 (rv.s)] 32 :: Blk b1 [.int .i64 (cr.m), .int .i64 (cr.s)] 32 :: F)
              refine WP.valG rfl rfl rfl rfl rfl rfl rfl (Val.notP rfl rfl) ?_
              refine WP.val rfl rfl rfl (Val.pickF rfl rfl rfl) ?_
              refine WP.val rfl rfl rfl (Val.move rfl rfl) ?_
              refine WP.split 57 rfl (fun h7 => ?_) (fun h7 => ?_)
              · skip
                have h7 : (¬ (1 ≤ cr.m ∧ 0 ≤ cr.s)) := h7
                refine WP.skip rfl rfl rfl rfl rfl rfl rfl ?_
                refine WP.skip rfl rfl rfl rfl rfl rfl rfl ?_
                refine WP.skip rfl rfl rfl rfl rfl rfl rfl ?_
                refine WP.val rfl rfl rfl (Val.pickT rfl rfl rfl) ?_
                refine WP.nil ?_
                refine Out.next ?_
                refine WPc.condT rfl rfl ?_
                refine WPc.seq ?_
                refine WPc.region ?_
                refine WP.eff rfl rfl rfl (Eff.call rfl rfl Try.call9 (Lb.live_spec 0)) ?_
                rintro _ _ ⟨_, ⟨rfl, rfl⟩, rfl⟩
                show WP _ _ _ _ _ _ _ (Own 42 10 w5 was.length (flatOf WA.cells was) :: Kds WAP was :: X :: Old W0 :: Blk b2 [.int .i64 (rv.m), .int .i64 (rv.s)] 32 :: Blk b1 [.int .i64 (cr.m), .int .i64 (cr.s)] 32 :: F)
                refine WP.val rfl rfl rfl (Val.assign rfl rfl) ?_
                refine WP.nil ?_
                refine Out.next ?_
                refine WPc.ret ?_
                refine Out.then_ret ?_
                refine Out.drop ?_
                refine Out.drop ?_
                refine Out.drop ?_
                refine Out.perm pl1 ?_
                refine Out.drop ?_
                refine Out.perm pl1 ?_
                refine Out.drop ?_
                exact Out.ret1 (L' := _) Try.results4 rfl ⟨rfl, rfl⟩ (fun _ h => h)
              · skip
                have h7 : ¬ (¬ (1 ≤ cr.m ∧ 0 ≤ cr.s)) := h7
                refine WP.valG rfl rfl rfl rfl rfl rfl rfl (Val.loadAgg (cs := [.int .i64 (rv.m), .int .i64 (rv.s)]) rfl Ty.ag32 rfl rfl (fun w h => h.range 4 rfl rfl)) ?_
                refine WP.valG rfl rfl rfl rfl rfl rfl rfl (Val.loadAgg (cs := [.int .i64 (cr.m), .int .i64 (cr.s)]) rfl Ty.ag32 rfl rfl (fun w h => h.range 5 rfl rfl)) ?_
                refine WP.effG rfl rfl rfl rfl rfl rfl rfl (Eff.call rfl rfl Try.call16 (less_spec rv cr)) ?_
                rintro _ _ ⟨_, ⟨rfl, rfl⟩, rfl⟩
                show WP _ _ _ _ _ _ _ (Own 42 10 w5 was.length (flatOf WA.cells was) :: Kds WAP was :: X :: Old W0 :: Blk b2 [.int .i64 (rv.m), .int .i64 (rv.s)] 32 :: Blk b1 [.int .i64 (cr.m), .int .i64 (cr.s)] 32 :: F)
                refine WP.val rfl rfl rfl (Val.pickF rfl rfl rfl) ?_
                refine WP.nil ?_
                refine Out.next ?_
                refine WPc.ifP rfl (fun h8 => ?_) (fun h8 => ?_)
                · skip
                  have h8 : (less rv cr) := h8
                  refine WPc.seq ?_
                  refine WPc.region ?_
                  refine WP.eff rfl rfl rfl (Eff.call rfl rfl Try.call9 (Lb.live_spec 0)) ?_
                  rintro _ _ ⟨_, ⟨rfl, rfl⟩, rfl⟩
                  show WP _ _ _ _ _ _ _ (Own 42 10 w5 was.length (flatOf WA.cells was) :: Kds WAP was :: X :: Old W0 :: Blk b2 [.int .i64 (rv.m), .int .i64 (rv.s)] 32 :: Blk b1 [.int .i64 (cr.m), .int .i64 (cr.s)] 32 :: F)
                  refine WP.val rfl rfl rfl (Val.assign rfl rfl) ?_
                  refine WP.nil ?_
                  refine Out.next ?_
                  refine WPc.ret ?_
                  refine Out.then_ret ?_
                  refine Out.drop ?_
                  refine Out.drop ?_
                  refine Out.drop ?_
                  refine Out.perm pl1 ?_
                  refine Out.drop ?_
                  refine Out.perm pl1 ?_
                  refine Out.drop ?_
                  exact Out.ret1 (L' := _) Try.results4 rfl ⟨rfl, rfl⟩ (fun _ h => h)
                · skip
                  have h8 : ¬ (less rv cr) := h8
                  refine WPc.skip ?_
                  refine Out.next ?_
                  refine WPc.seq ?_
                  have hok : ok = true := by cases ok <;> simp_all
                  have hv1 : 1 ≤ ver := by omega
                  have hv2 : ver ≤ 4611686018427387904 := by omega
                  have hrp : 1 ≤ rv.m ∧ 0 ≤ rv.s := by omega
                  rw [hok, if_pos rfl] at hlife
                  obtain ⟨hruns, hl300, hwl⟩ := rest_runs hv1 hv2 hrp hlife
                  rw [List.length_map] at hwl
                  refine WPc.region ?_
                  refine WP.val rfl rfl rfl (Val.move rfl rfl) ?_
                  refine WP.val rfl rfl rfl (Val.mk (cs := [.int .i64 0, .int .i64 0, .slice none 0 0]) rfl rfl (fun _ => by kernel_rfl)) ?_
                  refine WP.val rfl rfl rfl (Val.loadAgg (cs := [.int .i64 (rv.m), .int .i64 (rv.s)]) rfl Ty.ag32 rfl rfl (fun w h => h.range 4 rfl rfl)) ?_
                  refine WP.val rfl rfl rfl (Val.loadAgg (cs := [.int .i64 (cr.m), .int .i64 (cr.s)]) rfl Ty.ag32 rfl rfl (fun w h => h.range 5 rfl rfl)) ?_
                  refine WP.val rfl rfl rfl (Val.move rfl rfl) ?_
                  refine WP.val rfl rfl rfl (Val.mk (cs := [.int .i64 3, .int .i64 (rv.m), .int .i64 (rv.s), .int .i64 (cr.m), .int .i64 (cr.s), .int .i64 (ver), .int .i64 0]) rfl rfl (fun _ => by kernel_rfl)) ?_
                  refine WP.eff rfl rfl rfl (Eff.mkSlice (C := [.int .i64 3, .int .i64 (rv.m), .int .i64 (rv.s), .int .i64 (cr.m), .int .i64 (cr.s), .int .i64 (ver), .int .i64 0]) rfl Ty.sl22 rfl (fun _ => by kernel_rfl)) ?_
                  rintro _ _ ⟨b4, rfl, rfl⟩
                  refine WP.val rfl rfl rfl (Val.move rfl rfl) ?_
                  refine WP.conv (fun w h => Sat.ownMk (e := 38) (k := 7) (b := b4) (m := 1) (cap := 1) (xs := KOp.cells (⟨3, rv, cr, ver, 0⟩ : KOp)) (sp := []) (by exact h) (Nat.le_refl _) rfl rfl (by decide)) ?_
                  show WP _ _ _ _ _ _ _ (Own 38 7 (.slice (some ⟨b4, 0, none⟩) 1 1) 1 (KOp.cells (⟨3, rv, cr, ver, 0⟩ : KOp)) :: Own 42 10 w5 was.length (flatOf WA.cells was) :: Kds WAP was :: X :: Old W0 :: Blk b2 [.int .i64 (rv.m), .int .i64 (rv.s)] 32 :: Blk b1 [.int .i64 (cr.m), .int .i64 (cr.s)] 32 :: F)
                  refine WP.eff rfl rfl rfl (Eff.append (m := l.length) (n0 := 1) (news := flatOf KOp.cells l) rfl Ty.sl22 Ty.z38 rfl rfl rfl (Srcs.rdR Ty.sl22 KOp.len (kop_one l) hvo 4 rfl) (by omega) (by omega)) ?_
                  rintro v5 _ ⟨onev5, rfl⟩
                  refine WP.conv (M := Own 38 7 v5 (((⟨3, rv, cr, ver, 0⟩ : KOp) :: l).length) (flatOf KOp.cells ((⟨3, rv, cr, ver, 0⟩ : KOp) :: l)) :: Own 42 10 w5 was.length (flatOf WA.cells was) :: Kds WAP was :: X :: Old W0 :: Blk b2 [.int .i64 (rv.m), .int .i64 (rv.s)] 32 :: Blk b1 [.int .i64 (cr.m), .int .i64 (cr.s)] 32 :: F) (fun w h => by rw [show ((⟨3, rv, cr, ver, 0⟩ : KOp) :: l).length = 1 + l.length from by simp; omega]; exact h) ?_
                  refine WP.open (fun w h => own_rdG (l := ((⟨3, rv, cr, ver, 0⟩ : KOp) :: l)) KOp.len h) ?_
                  rintro EO
                  refine WP.pure (fun hEO => ?_)
                  show WP _ _ _ _ _ _ _ (EO :: Own 42 10 w5 was.length (flatOf WA.cells was) :: Kds WAP was :: X :: Old W0 :: Blk b2 [.int .i64 (rv.m), .int .i64 (rv.s)] 32 :: Blk b1 [.int .i64 (cr.m), .int .i64 (cr.s)] 32 :: F)
                  refine WP.conv (fun w h => Sat.pure_mk (φ := True) trivial h) ?_
                  show WP _ _ _ _ _ _ _ (Pure True :: EO :: Own 42 10 w5 was.length (flatOf WA.cells was) :: Kds WAP was :: X :: Old W0 :: Blk b2 [.int .i64 (rv.m), .int .i64 (rv.s)] 32 :: Blk b1 [.int .i64 (cr.m), .int .i64 (cr.s)] 32 :: F)
                  refine WP.eff rfl rfl rfl (Eff.call rfl rfl Try.call10 (key_spec (Pure True) EO key ⟨0, 0⟩ StAll stAll_ok (({ KA0 with ok := true }, krest cr rv ver) :: (was.map WA.pr).map toK) [] small_nil ((⟨3, rv, cr, ver, 0⟩ : KOp) :: l) (by simp; omega) hruns (.slice none 0 0) v5 ⟨.inr ⟨rfl, none, 0, rfl⟩, fun p hp => by cases hp⟩ hEO)) ?_
                  rintro _ _ ⟨_, ⟨v6, was2, hwas2, hgs2, rfl, rfl⟩, rfl⟩
                  show WP _ _ _ _ _ _ _ (Own 42 10 v6 was2.length (flatOf WK.cells was2) :: Kds WKP was2 :: Pure True :: EO :: Own 42 10 w5 was.length (flatOf WA.cells was) :: Kds WAP was :: X :: Old W0 :: Blk b2 [.int .i64 (rv.m), .int .i64 (rv.s)] 32 :: Blk b1 [.int .i64 (cr.m), .int .i64 (cr.s)] 32 :: F)
                  refine WP.val rfl rfl rfl (Val.move rfl rfl) ?_
                  refine WP.val rfl rfl rfl (Val.extract rfl rfl rfl) ?_
                  refine WP.val rfl rfl rfl (Val.extract rfl rfl rfl) ?_
                  refine WP.val rfl rfl rfl (Val.assign rfl rfl) ?_
                  refine WP.val rfl rfl rfl (Val.assign rfl rfl) ?_
                  refine WP.nil ?_
                  refine Out.next ?_
                  refine WPc.seq ?_
                  obtain ⟨u0, vv0, g0, wt, rfl, hwt⟩ := cons_was hwas2
                  have hwtl : wt.length = l.length := by have h9 := congrArg List.length hwt; simp at h9; omega
                  show WPc _ _ _ _ _ _ (Own 42 10 v6 (((⟨{ KA0 with ok := true }, krest cr rv ver, u0, vv0, g0⟩ : WK) :: wt).length) (flatOf WK.cells ((⟨{ KA0 with ok := true }, krest cr rv ver, u0, vv0, g0⟩ : WK) :: wt)) :: Kds WKP ((⟨{ KA0 with ok := true }, krest cr rv ver, u0, vv0, g0⟩ : WK) :: wt) :: Pure True :: EO :: Own 42 10 w5 was.length (flatOf WA.cells was) :: Kds WAP was :: X :: Old W0 :: Blk b2 [.int .i64 (rv.m), .int .i64 (rv.s)] 32 :: Blk b1 [.int .i64 (cr.m), .int .i64 (cr.s)] 32 :: F)
                  refine WPc.conv (M := Own 42 10 v6 (l.length + 1) (flatOf WK.cells ((⟨{ KA0 with ok := true }, krest cr rv ver, u0, vv0, g0⟩ : WK) :: wt)) :: Kds WKP ((⟨{ KA0 with ok := true }, krest cr rv ver, u0, vv0, g0⟩ : WK) :: wt) :: Pure True :: EO :: Own 42 10 w5 was.length (flatOf WA.cells was) :: Kds WAP was :: X :: Old W0 :: Blk b2 [.int .i64 (rv.m), .int .i64 (rv.s)] 32 :: Blk b1 [.int .i64 (cr.m), .int .i64 (cr.s)] 32 :: F) (fun w h => by rw [show ((⟨{ KA0 with ok := true }, krest cr rv ver, u0, vv0, g0⟩ : WK) :: wt).length = l.length + 1 from by simp; omega] at h; exact h) ?_
                  have hgK := fun x hx => hgs2 x (List.mem_cons_of_mem _ hx)
                  have hg0 : g0.map (·.1) = (krest cr rv ver).gs := hgs2 (⟨{ KA0 with ok := true }, krest cr rv ver, u0, vv0, g0⟩ : WK) (List.mem_cons_self ..)
                  refine WPc.perm pl1 ?_
                  refine WPc.open (fun w h => ars_rd _ w _ (by rw [kds_wk] at h; exact h)) ?_
                  rintro EK2
                  refine WPc.pure (fun hK2 => ?_)
                  show WPc _ _ _ _ _ _ (EK2 :: Own 42 10 v6 (l.length + 1) (flatOf WK.cells ((⟨{ KA0 with ok := true }, krest cr rv ver, u0, vv0, g0⟩ : WK) :: wt)) :: Pure True :: EO :: Own 42 10 w5 was.length (flatOf WA.cells was) :: Kds WAP was :: X :: Old W0 :: Blk b2 [.int .i64 (rv.m), .int .i64 (rv.s)] 32 :: Blk b1 [.int .i64 (cr.m), .int .i64 (cr.s)] 32 :: F)
                  refine WPc.perm pl5 ?_
                  refine WPc.open (fun w h => ars_rd _ w _ (by rw [kds_wa] at h; exact h)) ?_
                  rintro EK1
                  refine WPc.pure (fun hK1 => ?_)
                  show WPc _ _ _ _ _ _ (EK1 :: EK2 :: Own 42 10 v6 (l.length + 1) (flatOf WK.cells ((⟨{ KA0 with ok := true }, krest cr rv ver, u0, vv0, g0⟩ : WK) :: wt)) :: Pure True :: EO :: Own 42 10 w5 was.length (flatOf WA.cells was) :: X :: Old W0 :: Blk b2 [.int .i64 (rv.m), .int .i64 (rv.s)] 32 :: Blk b1 [.int .i64 (cr.m), .int .i64 (cr.s)] 32 :: F)
                  refine WPc.perm pl5 ?_
                  refine WPc.conv (M := Own 42 10 w5 ((was.map WA.ar).length) (flatOf AR.cells (was.map WA.ar)) :: EK1 :: EK2 :: Own 42 10 v6 (l.length + 1) (flatOf WK.cells ((⟨{ KA0 with ok := true }, krest cr rv ver, u0, vv0, g0⟩ : WK) :: wt)) :: Pure True :: EO :: X :: Old W0 :: Blk b2 [.int .i64 (rv.m), .int .i64 (rv.s)] 32 :: Blk b1 [.int .i64 (cr.m), .int .i64 (cr.s)] 32 :: F) (fun w h => by rw [flat_wa] at h; rw [List.length_map]; exact h) ?_
                  refine WPc.open (fun w h => own_rdG (l := (was.map WA.ar)) AR.len h) ?_
                  rintro EV5
                  refine WPc.pure (fun hEV5 => ?_)
                  show WPc _ _ _ _ _ _ (EV5 :: EK1 :: EK2 :: Own 42 10 v6 (l.length + 1) (flatOf WK.cells ((⟨{ KA0 with ok := true }, krest cr rv ver, u0, vv0, g0⟩ : WK) :: wt)) :: Pure True :: EO :: X :: Old W0 :: Blk b2 [.int .i64 (rv.m), .int .i64 (rv.s)] 32 :: Blk b1 [.int .i64 (cr.m), .int .i64 (cr.s)] 32 :: F)
                  obtain ⟨E, rfl⟩ := hXE hok
                  show WPc _ _ _ _ _ _ (EV5 :: EK1 :: EK2 :: Own 42 10 v6 (l.length + 1) (flatOf WK.cells ((⟨{ KA0 with ok := true }, krest cr rv ver, u0, vv0, g0⟩ : WK) :: wt)) :: Pure True :: EO :: Sep [E, Blk b3 (flatOf Vn.cells [(⟨rv, cr, ver, false⟩ : Vn)]) 47] :: Old W0 :: Blk b2 [.int .i64 (rv.m), .int .i64 (rv.s)] 32 :: Blk b1 [.int .i64 (cr.m), .int .i64 (cr.s)] 32 :: F)
                  refine WPc.perm pl3 ?_
                  refine WPc.open (fun w h => h.ownPos (by omega)) ?_
                  rintro ⟨g6, cg6, spg6⟩
                  refine WPc.pure (fun hvg6 => ?_)
                  obtain ⟨rfl, hng6, hlg6, hsg6, hcg6⟩ := hvg6
                  dsimp only at hng6 hlg6 hsg6 hcg6
                  show WPc _ _ _ _ _ _ (Blk g6 (flatOf WK.cells ((⟨{ KA0 with ok := true }, krest cr rv ver, u0, vv0, g0⟩ : WK) :: wt) ++ spg6) 42 :: EV5 :: EK1 :: EK2 :: Pure True :: EO :: Sep [E, Blk b3 (flatOf Vn.cells [(⟨rv, cr, ver, false⟩ : Vn)]) 47] :: Old W0 :: Blk b2 [.int .i64 (rv.m), .int .i64 (rv.s)] 32 :: Blk b1 [.int .i64 (cr.m), .int .i64 (cr.s)] 32 :: F)
                  have hK20 := hK2 (WK.ar (⟨{ KA0 with ok := true }, krest cr rv ver, u0, vv0, g0⟩ : WK)) (by simp)
                  refine WPD.start (Sat W [Blk g6 (flatOf WK.cells ((⟨{ KA0 with ok := true }, krest cr rv ver, u0, vv0, g0⟩ : WK) :: wt) ++ spg6) 42]) Ty.mixed ?_
                  refine WPD.takeM 0 rfl rfl rfl rfl (by kernel_rfl) (by kernel_rfl) (by kernel_rfl) (by kernel_rfl) (fun _ _ _ h => h) (fun w h => (h).dropEnd (L := [_])) (Val.move rfl rfl) ?_
                  refine WPD.takeM 1 rfl rfl rfl rfl (by kernel_rfl) (by kernel_rfl) (by kernel_rfl) (by kernel_rfl) (fun _ _ _ h => h) (fun w h => (h).dropEnd (L := [_])) (Val.move rfl rfl) ?_
                  refine WPD.takeGM 2 rfl rfl rfl rfl rfl rfl rfl rfl (by kernel_rfl) (by kernel_rfl) (by kernel_rfl) (by kernel_rfl) (fun _ _ _ h => h) (fun w h => (h).dropEnd (L := [_])) (Val.move rfl rfl) ?_
                  refine WPD.takeG 3 rfl rfl rfl rfl rfl rfl rfl rfl (by kernel_rfl) (by kernel_rfl) (by kernel_rfl) (by kernel_rfl) (fun _ _ _ h => h) (by kernel_rfl) (fun w h => (h).dropEnd (L := [_])) (Val.len rfl Ty.sl24 rfl) ?_
                  refine WPD.takeGM 4 rfl rfl rfl rfl rfl rfl rfl rfl (by kernel_rfl) (by kernel_rfl) (by kernel_rfl) (by kernel_rfl) (fun _ _ _ h => h) (fun w h => (h).dropEnd (L := [_])) (Val.move rfl rfl) ?_
                  refine WPD.takeG 5 rfl rfl rfl rfl rfl rfl rfl rfl (by kernel_rfl) (by kernel_rfl) (by kernel_rfl) (by kernel_rfl) (fun _ _ _ h => h) (by kernel_rfl) (fun w h => (h).dropEnd (L := [_])) (Rd.len hvo rfl Ty.sl22 rfl) ?_
                  refine WPD.takeGM 6 rfl rfl rfl rfl rfl rfl rfl rfl (by kernel_rfl) (by kernel_rfl) (by kernel_rfl) (by kernel_rfl) (fun _ _ _ h => h) (fun w h => (h).dropEnd (L := [_])) (Val.add (z := ((l.length + 1 : Nat) : Int)) rfl rfl rfl ((w64 (by omega) (by omega)).trans (by omega))) ?_
                  refine WPD.takeGM 7 rfl rfl rfl rfl rfl rfl rfl rfl (by kernel_rfl) (by kernel_rfl) (by kernel_rfl) (by kernel_rfl) (fun _ _ _ h => h) (fun w h => (h).dropEnd (L := [_])) (Val.eql rfl rfl rfl) ?_
                  refine WPD.takeM 8 rfl rfl rfl rfl (by kernel_rfl) (by kernel_rfl) (by kernel_rfl) (by kernel_rfl) (fun _ _ _ h => h) (fun w h => (h).dropEnd (L := [_])) (Val.pickT rfl rfl rfl) ?_
                  refine WPD.takeM 9 rfl rfl rfl rfl (by kernel_rfl) (by kernel_rfl) (by kernel_rfl) (by kernel_rfl) (fun _ _ _ h => h) (fun w h => (h).dropEnd (L := [_])) (Val.move rfl rfl) ?_
                  refine WPD.split 85 rfl (fun h9 => ?_) (fun h9 => ?_)
                  · skip
                    have h9 : (((l.length + 1 : Nat) : Int) = ((l.length + 1 : Nat) : Int)) := h9
                    refine WPD.takeGM 10 rfl rfl rfl rfl rfl rfl rfl rfl (by kernel_rfl) (by kernel_rfl) (by kernel_rfl) (by kernel_rfl) (fun _ _ _ h => h) (fun w h => (h).dropEnd (L := [_])) (Val.move rfl rfl) ?_
                    refine WPD.takeGM 11 rfl rfl rfl rfl rfl rfl rfl rfl (by kernel_rfl) (by kernel_rfl) (by kernel_rfl) (by kernel_rfl) (fun _ _ _ h => h) (fun w h => (h).dropEnd (L := [_])) (Val.indexAddr (j := 0) (q := 0) rfl Ty.sl24 rfl rfl (by omega) (by omega) (by omega)) ?_
                    refine WPD.takeGM 12 rfl rfl rfl rfl rfl rfl rfl rfl (by kernel_rfl) (by kernel_rfl) (by kernel_rfl) (by kernel_rfl) (fun _ _ _ h => h) (fun w h => (h).dropEnd (L := [_])) (Val.fieldAddr (j := 7) rfl Ty.fo42_5 rfl rfl) ?_
                    refine WPD.takeG 13 rfl rfl rfl rfl rfl rfl rfl rfl (by kernel_rfl) (by kernel_rfl) (by kernel_rfl) (by kernel_rfl) (fun _ _ _ h => h) (by kernel_rfl) (fun w h => (h).dropEnd (L := [_])) (Val.loadAgg (cs := [.int .i64 rv.m, .int .i64 rv.s, vv0]) rfl Ty.ag35 rfl (by rfl) (fun w h => (h.at 0 rfl).cell_range rfl)) ?_
                    refine WPD.takeGM 14 rfl rfl rfl rfl rfl rfl rfl rfl (by kernel_rfl) (by kernel_rfl) (by kernel_rfl) (by kernel_rfl) (fun _ _ _ h => h) (fun w h => (h).dropEnd (L := [_])) (Val.move rfl rfl) ?_
                    refine WPD.perm pl6 ?_
                    refine WPD.stepG 15 (by kernel_rfl) rfl rfl rfl rfl rfl rfl rfl rfl (Eff.call rfl rfl Try.call11 (dump_spec (Sep [E, Blk b3 (flatOf Vn.cells [(⟨rv, cr, ver, false⟩ : Vn)]) 47]) [(⟨rv, cr, ver, false⟩ : Vn)] (by show 1 ≤ 100000; omega) (.slice (some ⟨b3, 0, none⟩) 1 1) ((rd_blk (cf := Vn.cells) (k := 6) Vn.len b3 1 47 [(⟨rv, cr, ver, false⟩ : Vn)]).mono (fun w hw => Holds.sep2b hw)))) ?_
                    rintro _ _ ⟨_, ⟨vg, gl, rfl, hgl, rfl⟩, rfl⟩
                    refine ⟨(fun w h => ((h.perm pl3)).dropEnd (L := [_])), ?_⟩
                    show WPD _ _ _ _ _ _ _ _ _ (Own 53 4 vg gl.length (flatOf GV.cells gl) :: Kds (GVPe 32) gl :: Sep [E, Blk b3 (flatOf Vn.cells [(⟨rv, cr, ver, false⟩ : Vn)]) 47] :: Blk g6 (flatOf WK.cells ((⟨{ KA0 with ok := true }, krest cr rv ver, u0, vv0, g0⟩ : WK) :: wt) ++ spg6) 42 :: EV5 :: EK1 :: EK2 :: Pure True :: EO :: Old W0 :: Blk b2 [.int .i64 (rv.m), .int .i64 (rv.s)] 32 :: Blk b1 [.int .i64 (cr.m), .int .i64 (cr.s)] 32 :: F)
                    refine WPD.perm pl1 ?_
                    refine WPD.perm pl1 ?_
                    refine WPD.open (fun w h => gens_open (e2 := 32) h) ?_
                    rintro EH
                    refine WPD.pure (fun hEH => ?_)
                    obtain ⟨rEH, backEH⟩ := hEH
                    show WPD _ _ _ _ _ _ _ _ _ (EH :: Sep [E, Blk b3 (flatOf Vn.cells [(⟨rv, cr, ver, false⟩ : Vn)]) 47] :: Blk g6 (flatOf WK.cells ((⟨{ KA0 with ok := true }, krest cr rv ver, u0, vv0, g0⟩ : WK) :: wt) ++ spg6) 42 :: EV5 :: EK1 :: EK2 :: Pure True :: EO :: Old W0 :: Blk b2 [.int .i64 (rv.m), .int .i64 (rv.s)] 32 :: Blk b1 [.int .i64 (cr.m), .int .i64 (cr.s)] 32 :: F)
                    refine WPD.perm pl5 ?_
                    refine WPD.conv (fun w h => Sat.sep_mk (M := [EK2, EH]) h) ?_
                    show WPD _ _ _ _ _ _ _ _ _ (Sep [EK2, EH] :: Sep [E, Blk b3 (flatOf Vn.cells [(⟨rv, cr, ver, false⟩ : Vn)]) 47] :: Blk g6 (flatOf WK.cells ((⟨{ KA0 with ok := true }, krest cr rv ver, u0, vv0, g0⟩ : WK) :: wt) ++ spg6) 42 :: EV5 :: EK1 :: Pure True :: EO :: Old W0 :: Blk b2 [.int .i64 (rv.m), .int .i64 (rv.s)] 32 :: Blk b1 [.int .i64 (cr.m), .int .i64 (cr.s)] 32 :: F)
                    refine WPD.stepGC 16 (by kernel_rfl) rfl rfl rfl rfl rfl rfl rfl rfl (by kernel_rfl) (Eff.call rfl rfl Try.call12 (sameDump_spec (Sep [EK2, EH]) rv g0 gl (hg0.trans hgl.symm) (by rw [hg0]; exact small_rest _ _ _) vv0 vg (RdG.mono (fun w hw => Holds.sep2a hw) hK20.2) (RdG.mono (fun w hw => Holds.sep2b hw) rEH))) ?_
                    rintro _ _ ⟨_, ⟨rfl, rfl⟩, rfl⟩
                    refine ⟨(Sat W (Sep [EK2, EH] :: Sep [E, Blk b3 (flatOf Vn.cells [(⟨rv, cr, ver, false⟩ : Vn)]) 47] :: Blk g6 (flatOf WK.cells ((⟨{ KA0 with ok := true }, krest cr rv ver, u0, vv0, g0⟩ : WK) :: wt) ++ spg6) 42 :: EV5 :: EK1 :: Pure True :: EO :: Old W0 :: Blk b2 [.int .i64 (rv.m), .int .i64 (rv.s)] 32 :: Blk b1 [.int .i64 (cr.m), .int .i64 (cr.s)] 32 :: F)), (fun _ h => h), ?_⟩
                    show WPD _ _ _ _ _ _ _ _ _ (Sep [EK2, EH] :: Sep [E, Blk b3 (flatOf Vn.cells [(⟨rv, cr, ver, false⟩ : Vn)]) 47] :: Blk g6 (flatOf WK.cells ((⟨{ KA0 with ok := true }, krest cr rv ver, u0, vv0, g0⟩ : WK) :: wt) ++ spg6) 42 :: EV5 :: EK1 :: Pure True :: EO :: Old W0 :: Blk b2 [.int .i64 (rv.m), .int .i64 (rv.s)] 32 :: Blk b1 [.int .i64 (cr.m), .int .i64 (cr.s)] 32 :: F)
                    refine WPD.takeM 17 rfl rfl rfl rfl (by kernel_rfl) (by kernel_rfl) (by kernel_rfl) (by kernel_rfl) (fun _ _ _ h => h) (fun _ h => h) (Val.pickT rfl rfl rfl) ?_
                    refine WPD.takeM 18 rfl rfl rfl rfl (by kernel_rfl) (by kernel_rfl) (by kernel_rfl) (by kernel_rfl) (fun _ _ _ h => h) (fun _ h => h) (Val.move rfl rfl) ?_
                    refine WPD.takeGM 19 rfl rfl rfl rfl rfl rfl rfl rfl (by kernel_rfl) (by kernel_rfl) (by kernel_rfl) (by kernel_rfl) (fun _ _ _ h => h) (fun _ h => h) (Val.move rfl rfl) ?_
                    refine WPD.takeGM 20 rfl rfl rfl rfl rfl rfl rfl rfl (by kernel_rfl) (by kernel_rfl) (by kernel_rfl) (by kernel_rfl) (fun _ _ _ h => h) (fun _ h => h) (Val.slice (lo := 1) (hi := l.length + 1) (j := (if cg6 = 1 then 0 else 0 + 1 * 10)) (vlo := some (.i64, (1 : Int))) (vhi := none) rfl Ty.sl24 rfl rfl rfl (by simp [bnd]; try omega) (by simp [bnd]; try omega) (by omega) (by omega) (by omega) rfl) ?_
                    refine WPD.takeGM 21 rfl rfl rfl rfl rfl rfl rfl rfl (by kernel_rfl) (by kernel_rfl) (by kernel_rfl) (by kernel_rfl) (fun _ _ _ h => h) (fun _ h => h) (Val.move rfl rfl) ?_
                    refine WPD.perm pl2 ?_
                    refine WPD.conv (fun w h => Sat.sep_mk (M := [Blk g6 (flatOf WK.cells ((⟨{ KA0 with ok := true }, krest cr rv ver, u0, vv0, g0⟩ : WK) :: wt) ++ spg6) 42, Sep [EK2, EH]]) h) ?_
                    show WPD _ _ _ _ _ _ _ _ _ (Sep [Blk g6 (flatOf WK.cells ((⟨{ KA0 with ok := true }, krest cr rv ver, u0, vv0, g0⟩ : WK) :: wt) ++ spg6) 42, Sep [EK2, EH]] :: Sep [E, Blk b3 (flatOf Vn.cells [(⟨rv, cr, ver, false⟩ : Vn)]) 47] :: EV5 :: EK1 :: Pure True :: EO :: Old W0 :: Blk b2 [.int .i64 (rv.m), .int .i64 (rv.s)] 32 :: Blk b1 [.int .i64 (cr.m), .int .i64 (cr.s)] 32 :: F)
                    refine WPD.perm pl3 ?_
                    refine WPD.perm pl3 ?_
                    refine WPD.conv (fun w h => Sat.sep_mk (M := [EV5, EK1]) h) ?_
                    show WPD _ _ _ _ _ _ _ _ _ (Sep [EV5, EK1] :: Sep [Blk g6 (flatOf WK.cells ((⟨{ KA0 with ok := true }, krest cr rv ver, u0, vv0, g0⟩ : WK) :: wt) ++ spg6) 42, Sep [EK2, EH]] :: Sep [E, Blk b3 (flatOf Vn.cells [(⟨rv, cr, ver, false⟩ : Vn)]) 47] :: Pure True :: EO :: Old W0 :: Blk b2 [.int .i64 (rv.m), .int .i64 (rv.s)] 32 :: Blk b1 [.int .i64 (cr.m), .int .i64 (cr.s)] 32 :: F)
                    refine WPD.perm pl1 ?_
                    refine WPD.conv (fun w h => Sat.sep_mk (M := [Sep [Blk g6 (flatOf WK.cells ((⟨{ KA0 with ok := true }, krest cr rv ver, u0, vv0, g0⟩ : WK) :: wt) ++ spg6) 42, Sep [EK2, EH]], Sep [EV5, EK1]]) h) ?_
                    show WPD _ _ _ _ _ _ _ _ _ (Sep [Sep [Blk g6 (flatOf WK.cells ((⟨{ KA0 with ok := true }, krest cr rv ver, u0, vv0, g0⟩ : WK) :: wt) ++ spg6) 42, Sep [EK2, EH]], Sep [EV5, EK1]] :: Sep [E, Blk b3 (flatOf Vn.cells [(⟨rv, cr, ver, false⟩ : Vn)]) 47] :: Pure True :: EO :: Old W0 :: Blk b2 [.int .i64 (rv.m), .int .i64 (rv.s)] 32 :: Blk b1 [.int .i64 (cr.m), .int .i64 (cr.s)] 32 :: F)
                    refine WPD.stepGC 22 (by kernel_rfl) rfl rfl rfl rfl rfl rfl rfl rfl (by kernel_rfl) (Eff.call rfl rfl Try.call17 (alike_spec (Sep [Sep [Blk g6 (flatOf WK.cells ((⟨{ KA0 with ok := true }, krest cr rv ver, u0, vv0, g0⟩ : WK) :: wt) ++ spg6) 42, Sep [EK2, EH]], Sep [EV5, EK1]]) (wt.map WK.ar) (was.map WA.ar) (keys_same hwt hgK hgs) (by rw [List.length_map]; omega) (keys_ok (keys_same hwt hgK hgs) (was_ok (Nat.le_refl _) hlife hgs)) (RdI.mono (fun w hw => Holds.sep2a (Holds.sep2b (Holds.sep2a hw))) (fun x hx => hK2 x (List.mem_cons_of_mem _ hx))) (RdI.mono (fun w hw => Holds.sep2b (Holds.sep2b hw)) hK1) (.slice (some ⟨g6, (if cg6 = 1 then 0 else 0 + 1 * 10), none⟩) ((l.length + 1) - 1) (cg6 - 1)) w5 ((rd_tail (n := (l.length + 1) - 1) (by omega) (by omega)).mono (fun w hw => Holds.sep2a (Holds.sep2a hw))) (hEV5.mono (fun w hw => Holds.sep2a (Holds.sep2b hw))))) ?_
                    rintro _ _ ⟨_, ⟨rfl, rfl⟩, rfl⟩
                    refine ⟨(Sat W (Sep [Sep [Blk g6 (flatOf WK.cells ((⟨{ KA0 with ok := true }, krest cr rv ver, u0, vv0, g0⟩ : WK) :: wt) ++ spg6) 42, Sep [EK2, EH]], Sep [EV5, EK1]] :: Sep [E, Blk b3 (flatOf Vn.cells [(⟨rv, cr, ver, false⟩ : Vn)]) 47] :: Pure True :: EO :: Old W0 :: Blk b2 [.int .i64 (rv.m), .int .i64 (rv.s)] 32 :: Blk b1 [.int .i64 (cr.m), .int .i64 (cr.s)] 32 :: F)), (fun _ h => h), ?_⟩
                    show WPD _ _ _ _ _ _ _ _ _ (Sep [Sep [Blk g6 (flatOf WK.cells ((⟨{ KA0 with ok := true }, krest cr rv ver, u0, vv0, g0⟩ : WK) :: wt) ++ spg6) 42, Sep [EK2, EH]], Sep [EV5, EK1]] :: Sep [E, Blk b3 (flatOf Vn.cells [(⟨rv, cr, ver, false⟩ : Vn)]) 47] :: Pure True :: EO :: Old W0 :: Blk b2 [.int .i64 (rv.m), .int .i64 (rv.s)] 32 :: Blk b1 [.int .i64 (cr.m), .int .i64 (cr.s)] 32 :: F)
                    refine WPD.takeM 23 rfl rfl rfl rfl (by kernel_rfl) (by kernel_rfl) (by kernel_rfl) (by kernel_rfl) (fun _ _ _ h => h) (fun _ h => h) (Val.pickT rfl rfl rfl) ?_
                    refine WPD.takeM 24 rfl rfl rfl rfl (by kernel_rfl) (by kernel_rfl) (by kernel_rfl) (by kernel_rfl) (fun _ _ _ h => h) (fun _ h => h) (Val.move rfl rfl) ?_
                    refine WPD.stepGC 25 (by kernel_rfl) rfl rfl rfl rfl rfl rfl rfl rfl (by kernel_rfl) (Eff.call rfl rfl Try.call9 (Lb.live_spec 0)) ?_
                    rintro _ _ ⟨_, ⟨rfl, rfl⟩, rfl⟩
                    refine ⟨(Sat W (Sep [Sep [Blk g6 (flatOf WK.cells ((⟨{ KA0 with ok := true }, krest cr rv ver, u0, vv0, g0⟩ : WK) :: wt) ++ spg6) 42, Sep [EK2, EH]], Sep [EV5, EK1]] :: Sep [E, Blk b3 (flatOf Vn.cells [(⟨rv, cr, ver, false⟩ : Vn)]) 47] :: Pure True :: EO :: Old W0 :: Blk b2 [.int .i64 (rv.m), .int .i64 (rv.s)] 32 :: Blk b1 [.int .i64 (cr.m), .int .i64 (cr.s)] 32 :: F)), (fun _ h => h), ?_⟩
                    show WPD _ _ _ _ _ _ _ _ _ (Sep [Sep [Blk g6 (flatOf WK.cells ((⟨{ KA0 with ok := true }, krest cr rv ver, u0, vv0, g0⟩ : WK) :: wt) ++ spg6) 42, Sep [EK2, EH]], Sep [EV5, EK1]] :: Sep [E, Blk b3 (flatOf Vn.cells [(⟨rv, cr, ver, false⟩ : Vn)]) 47] :: Pure True :: EO :: Old W0 :: Blk b2 [.int .i64 (rv.m), .int .i64 (rv.s)] 32 :: Blk b1 [.int .i64 (cr.m), .int .i64 (cr.s)] 32 :: F)
                    refine WPD.takeM 26 rfl rfl rfl rfl (by kernel_rfl) (by kernel_rfl) (by kernel_rfl) (by kernel_rfl) (fun _ _ _ h => h) (fun _ h => h) (Val.pickT rfl rfl rfl) ?_
                    refine WPD.takeM 27 rfl rfl rfl rfl (by kernel_rfl) (by kernel_rfl) (by kernel_rfl) (by kernel_rfl) (fun _ _ _ h => h) (fun _ h => h) (Val.assign rfl rfl) ?_
                    refine WPD.done (by kernel_rfl) ?_
                    refine Out.next ?_
                    refine WPc.ret ?_
                    refine Out.drop ?_
                    refine Out.drop ?_
                    refine Out.drop ?_
                    refine Out.drop ?_
                    refine Out.perm pl1 ?_
                    refine Out.drop ?_
                    refine Out.perm pl1 ?_
                    refine Out.drop ?_
                    exact Out.ret1 (L' := _) Try.results4 rfl ⟨rfl, rfl⟩ (fun _ h => h)
                  · skip
                    have h9 : ¬ (((l.length + 1 : Nat) : Int) = ((l.length + 1 : Nat) : Int)) := h9
                    exfalso; omega

end Go.Proofs.Ythicijpjpijdjaa.Ln

