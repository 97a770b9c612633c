import Derived.Test.YthmkdioafjmclaaHv
namespace Go.Proofs.Ythmkdioafjmclaa.Hq
open Go.RowKit Go.Proofs.Ythmkdioafjmclaa Go.Proofs.Ythmkdioafjmclaa.Sl Go.Proofs.Ythmkdioafjmclaa.Hc Go.Proofs.Ythmkdioafjmclaa.Hp Go.Proofs.Ythmkdioafjmclaa.Hm Go.Proofs.Ythmkdioafjmclaa.Hb Go.Proofs.Ythmkdioafjmclaa.Hk Go.Proofs.Ythmkdioafjmclaa.Hr Go.Proofs.Ythmkdioafjmclaa.Hy Go.Proofs.Ythmkdioafjmclaa.Hn Go.Proofs.Ythmkdioafjmclaa.Hw Go.Proofs.Ythmkdioafjmclaa.Hl Go.Proofs.Ythmkdioafjmclaa.Hz Go.Proofs.Ythmkdioafjmclaa.Ho Go.Proofs.Ythmkdioafjmclaa.Hx Go.Proofs.Ythmkdioafjmclaa.Hs Go.Proofs.Ythmkdioafjmclaa.Hh Go.Proofs.Ythmkdioafjmclaa.Hi Go.Proofs.Ythmkdioafjmclaa.Hj Go.Proofs.Ythmkdioafjmclaa.Ht Go.Proofs.Ythmkdioafjmclaa.Hu Go.Proofs.Ythmkdioafjmclaa.Hv
set_option linter.unusedVariables false
set_option linter.unusedSimpArgs false
set_option linter.unusedSectionVars false


theorem rk_inj {m s m' s' : Int} (h : rk m s = rk m' s') : m = m' ∧ s = s' := by
  unfold rk at h
  simpa using h
theorem in_keep {l : List Rv} {m s : Int} : rk m s ∈ keepOf l ↔ ∃ x ∈ l, x.m = m ∧ x.s = s := by
  unfold keepOf
  rw [mem_keep]
  constructor
  · rintro (h | ⟨x, hx, e⟩)
    · cases h
    · exact ⟨x, hx, (rk_inj e).1.symm, (rk_inj e).2.symm⟩
  · rintro ⟨x, hx, rfl, rfl⟩
    exact .inr ⟨x, hx, rfl⟩
theorem keep_pos {l : List Rv} (h : 0 < l.length) : 0 < (keepOf l).length := by
  have h1 : l[0]? = some l[0] := List.getElem?_eq_getElem h
  have h2 : rk l[0].m l[0].s ∈ keepOf l := in_keep.2 ⟨_, List.mem_of_getElem? h1, rfl, rfl⟩
  exact List.length_pos_of_mem h2
theorem hash_same {c r : Int} {rl zs : List Rv} {rows : List Rw} (h0 : 0 < rl.length) (h1 : ∀ x ∈ zs, x ∈ rl ∨ c < x.m) (h2 : ∀ x ∈ rl, x ∈ zs) (hok : ∀ x ∈ rows, RwOk x) : hashOf c r rl rows = hashOf c r zs rows := by
  have hz : 0 < zs.length := List.length_pos_of_mem (h2 rl[0] (List.getElem_mem h0))
  refine sum_same (by simp only [keep_pos h0, keep_pos hz]) rows _ fun x hx hg => ?_
  rw [in_keep, in_keep]
  constructor
  · rintro ⟨y, hy, e⟩; exact ⟨y, h2 y hy, e⟩
  · rintro ⟨y, hy, e⟩
    rcases h1 y hy with h | h
    · exact ⟨y, h, e⟩
    · have := (hok x hx).s0
      have hxm := e.1
      unfold rgt at hg
      simp only [decide_eq_true_eq] at hg
      omega
theorem kk_mem {l : List Rv} {x : Rv} : x ∈ kk l 2 ↔ x ∈ l := by simp [kk]
def RoHash (c r : Int) (rl : List Rv) (rows : List Rw) : Prop := -1 ≤ c ∧ c < 4611686018427387904 ∧ 0 ≤ r ∧ r < 4611686018427387904 ∧ rl.length ≤ 200 ∧ rows.length ≤ 200 ∧ ∀ x ∈ rows, RoOk x
set_option maxRecDepth 100000 in
set_option maxHeartbeats 1000000 in
theorem rohash_spec (A : HProp) (c r : Int) (rl : List Rv) (va : Value) (hra : Rd A 2 Rv.cells va rl) (hrl : rl.length ≤ 9223372036854775807) (rows : List Rw) (vb : Value) (hrb : Rd A 9 Rw.cells vb rows) (hrw : rows.length ≤ 9223372036854775807) : Does Try.prog 18 [.int .i64 (c), .int .i64 (r), va, vb] [A] (fun v L => ∃ b, v = .bool b ∧ (b = true → RoHash c r rl rows) ∧ L = [A]) := by
  refine Does.enter 32 Try.func18 rfl rfl rfl fun W F => ?_
  show WPc _ _ _ _ _ [(0, .int .i64 (c)), (1, .int .i64 (r)), (2, va), (3, vb)] (A :: F)
  refine WPc.seq ?_
  refine WPc.region ?_
  refine WP.val rfl rfl rfl (Val.assign rfl rfl) ?_
  refine WP.nil ?_
  refine Out.next ?_
  refine WPc.seq ?_
  refine WPc.region ?_
  refine WP.val rfl rfl rfl (Val.move rfl rfl) ?_
  refine WP.eff rfl rfl rfl (Eff.call rfl rfl Try.call47 (good_spec A rows hrw vb hrb)) ?_
  rintro _ _ ⟨_, ⟨b47, rfl, hb47, rfl⟩, rfl⟩
  show WP _ _ _ _ _ _ _ (A :: F)
  refine WP.val rfl rfl rfl (Val.move rfl rfl) ?_
  refine WP.splitB 11 rfl (fun h1 => ?_) (fun h1 => ?_)
  · skip
    refine WP.valG rfl rfl rfl rfl rfl rfl rfl (Val.move rfl rfl) ?_
    refine WP.valG rfl rfl rfl rfl rfl rfl rfl (Val.geq rfl rfl rfl) ?_
    refine WP.val rfl rfl rfl (Val.pickT rfl rfl rfl) ?_
    refine WP.val rfl rfl rfl (Val.move rfl rfl) ?_
    refine WP.split 15 rfl (fun h2 => ?_) (fun h2 => ?_)
    · skip
      have h2 : ((-1 : Int) ≤ c) := h2
      refine WP.valG rfl rfl rfl rfl rfl rfl rfl (Val.move rfl rfl) ?_
      refine WP.valG rfl rfl rfl rfl rfl rfl rfl (Val.geq rfl rfl rfl) ?_
      refine WP.val rfl rfl rfl (Val.pickT rfl rfl rfl) ?_
      refine WP.val rfl rfl rfl (Val.move rfl rfl) ?_
      refine WP.split 19 rfl (fun h3 => ?_) (fun h3 => ?_)
      · skip
        have h3 : ((0 : Int) ≤ r) := h3
        refine WP.valG rfl rfl rfl rfl rfl rfl rfl (Val.move rfl rfl) ?_
        refine WP.valG rfl rfl rfl rfl rfl rfl rfl (Val.lss rfl rfl rfl) ?_
        refine WP.val rfl rfl rfl (Val.pickT rfl rfl rfl) ?_
        refine WP.val rfl rfl rfl (Val.move rfl rfl) ?_
        refine WP.split 23 rfl (fun h4 => ?_) (fun h4 => ?_)
        · skip
          have h4 : (r < (4611686018427387904 : Int)) := h4
          refine WP.valG rfl rfl rfl rfl rfl rfl rfl (Val.move rfl rfl) ?_
          refine WP.valG rfl rfl rfl rfl rfl rfl rfl (Val.lss rfl rfl rfl) ?_
          refine WP.val rfl rfl rfl (Val.pickT rfl rfl rfl) ?_
          refine WP.val rfl rfl rfl (Val.move rfl rfl) ?_
          refine WP.split 27 rfl (fun h5 => ?_) (fun h5 => ?_)
          · skip
            have h5 : (c < (4611686018427387904 : Int)) := h5
            refine WP.valG rfl rfl rfl rfl rfl rfl rfl (Val.move rfl rfl) ?_
            refine WP.valG rfl rfl rfl rfl rfl rfl rfl (Rd.len hra rfl Ty.sl41 rfl) ?_
            refine WP.valG rfl rfl rfl rfl rfl rfl rfl (Val.leq rfl rfl rfl) ?_
            refine WP.val rfl rfl rfl (Val.pickT rfl rfl rfl) ?_
            refine WP.val rfl rfl rfl (Val.assign rfl rfl) ?_
            refine WP.nil ?_
            refine Out.next ?_
            refine WPc.ret ?_
            exact Out.ret1 (L' := [A]) Try.results18 rfl ⟨_, rfl, (fun h => by have h' := of_decide_eq_true h; have hb := hb47 (by assumption); exact ⟨by omega, by omega, by omega, by omega, by omega, hb.1, hb.2⟩), rfl⟩ (fun _ h => h)
          · skip
            have h5 : ¬ (c < (4611686018427387904 : Int)) := h5
            refine WP.skip rfl rfl rfl rfl rfl rfl rfl ?_
            refine WP.skip rfl rfl rfl rfl rfl rfl rfl ?_
            refine WP.skip rfl rfl rfl rfl rfl rfl rfl ?_
            refine WP.val rfl rfl rfl (Val.pickF rfl rfl rfl) ?_
            refine WP.val rfl rfl rfl (Val.assign rfl rfl) ?_
            refine WP.nil ?_
            refine Out.next ?_
            refine WPc.ret ?_
            exact Out.ret1 (L' := [A]) Try.results18 rfl ⟨false, rfl, (fun h => by cases h), rfl⟩ (fun _ h => h)
        · skip
          have h4 : ¬ (r < (4611686018427387904 : Int)) := h4
          refine WP.skip rfl rfl rfl rfl rfl rfl rfl ?_
          refine WP.skip rfl rfl rfl rfl rfl rfl rfl ?_
          refine WP.val rfl rfl rfl (Val.pickF rfl rfl rfl) ?_
          refine WP.val rfl rfl rfl (Val.move rfl rfl) ?_
          refine WP.skip rfl rfl rfl rfl rfl rfl rfl ?_
          refine WP.skip rfl rfl rfl rfl rfl rfl rfl ?_
          refine WP.skip rfl rfl rfl rfl rfl rfl rfl ?_
          refine WP.val rfl rfl rfl (Val.pickF rfl rfl rfl) ?_
          refine WP.val rfl rfl rfl (Val.assign rfl rfl) ?_
          refine WP.nil ?_
          refine Out.next ?_
          refine WPc.ret ?_
          exact Out.ret1 (L' := [A]) Try.results18 rfl ⟨false, rfl, (fun h => by cases h), rfl⟩ (fun _ h => h)
      · skip
        have h3 : ¬ ((0 : Int) ≤ r) := h3
        refine WP.skip rfl rfl rfl rfl rfl rfl rfl ?_
        refine WP.skip rfl rfl rfl rfl rfl rfl rfl ?_
        refine WP.val rfl rfl rfl (Val.pickF rfl rfl rfl) ?_
        refine WP.val rfl rfl rfl (Val.move rfl rfl) ?_
        refine WP.skip rfl rfl rfl rfl rfl rfl rfl ?_
        refine WP.skip rfl rfl rfl rfl rfl rfl rfl ?_
        refine WP.val rfl rfl rfl (Val.pickF rfl rfl rfl) ?_
        refine WP.val rfl rfl rfl (Val.move rfl rfl) ?_
        refine WP.skip rfl rfl rfl rfl rfl rfl rfl ?_
        refine WP.skip rfl rfl rfl rfl rfl rfl rfl ?_
        refine WP.skip rfl rfl rfl rfl rfl rfl rfl ?_
        refine WP.val rfl rfl rfl (Val.pickF rfl rfl rfl) ?_
        refine WP.val rfl rfl rfl (Val.assign rfl rfl) ?_
        refine WP.nil ?_
        refine Out.next ?_
        refine WPc.ret ?_
        exact Out.ret1 (L' := [A]) Try.results18 rfl ⟨false, rfl, (fun h => by cases h), rfl⟩ (fun _ h => h)
    · skip
      have h2 : ¬ ((-1 : Int) ≤ c) := h2
      refine WP.skip rfl rfl rfl rfl rfl rfl rfl ?_
      refine WP.skip rfl rfl rfl rfl rfl rfl rfl ?_
      refine WP.val rfl rfl rfl (Val.pickF rfl rfl rfl) ?_
      refine WP.val rfl rfl rfl (Val.move rfl rfl) ?_
      refine WP.skip rfl rfl rfl rfl rfl rfl rfl ?_
      refine WP.skip rfl rfl rfl rfl rfl rfl rfl ?_
      refine WP.val rfl rfl rfl (Val.pickF rfl rfl rfl) ?_
      refine WP.val rfl rfl rfl (Val.move rfl rfl) ?_
      refine WP.skip rfl rfl rfl rfl rfl rfl rfl ?_
      refine WP.skip rfl rfl rfl rfl rfl rfl rfl ?_
      refine WP.val rfl rfl rfl (Val.pickF rfl rfl rfl) ?_
      refine WP.val rfl rfl rfl (Val.move rfl rfl) ?_
      refine WP.skip rfl rfl rfl rfl rfl rfl rfl ?_
      refine WP.skip rfl rfl rfl rfl rfl rfl rfl ?_
      refine WP.skip rfl rfl rfl rfl rfl rfl rfl ?_
      refine WP.val rfl rfl rfl (Val.pickF rfl rfl rfl) ?_
      refine WP.val rfl rfl rfl (Val.assign rfl rfl) ?_
      refine WP.nil ?_
      refine Out.next ?_
      refine WPc.ret ?_
      exact Out.ret1 (L' := [A]) Try.results18 rfl ⟨false, rfl, (fun h => by cases h), rfl⟩ (fun _ h => h)
  · skip
    refine WP.skip rfl rfl rfl rfl rfl rfl rfl ?_
    refine WP.skip rfl rfl rfl rfl rfl rfl rfl ?_
    refine WP.val rfl rfl rfl (Val.pickF rfl rfl rfl) ?_
    refine WP.val rfl rfl rfl (Val.move rfl rfl) ?_
    refine WP.skip rfl rfl rfl rfl rfl rfl rfl ?_
    refine WP.skip rfl rfl rfl rfl rfl rfl rfl ?_
    refine WP.val rfl rfl rfl (Val.pickF rfl rfl rfl) ?_
    refine WP.val rfl rfl rfl (Val.move rfl rfl) ?_
    refine WP.skip rfl rfl rfl rfl rfl rfl rfl ?_
    refine WP.skip rfl rfl rfl rfl rfl rfl rfl ?_
    refine WP.val rfl rfl rfl (Val.pickF rfl rfl rfl) ?_
    refine WP.val rfl rfl rfl (Val.move rfl rfl) ?_
    refine WP.skip rfl rfl rfl rfl rfl rfl rfl ?_
    refine WP.skip rfl rfl rfl rfl rfl rfl rfl ?_
    refine WP.val rfl rfl rfl (Val.pickF rfl rfl rfl) ?_
    refine WP.val rfl rfl rfl (Val.move rfl rfl) ?_
    refine WP.skip rfl rfl rfl rfl rfl rfl rfl ?_
    refine WP.skip rfl rfl rfl rfl rfl rfl rfl ?_
    refine WP.skip rfl rfl rfl rfl rfl rfl rfl ?_
    refine WP.val rfl rfl rfl (Val.pickF rfl rfl rfl) ?_
    refine WP.val rfl rfl rfl (Val.assign rfl rfl) ?_
    refine WP.nil ?_
    refine Out.next ?_
    refine WPc.ret ?_
    exact Out.ret1 (L' := [A]) Try.results18 rfl ⟨false, rfl, (fun h => by cases h), rfl⟩ (fun _ h => h)

theorem rok {c r : Int} {rl : List Rv} {rows : List Rw} (h : RoHash c r rl rows) (hw : ∀ x ∈ rows, (Lit.int .i64 x.m).wf = true ∧ (Lit.int .i64 x.s).wf = true) : ∀ x ∈ rows, RwOk x := fun x hx => by
  have h1 := h.2.2.2.2.2.2 x hx
  obtain ⟨w1, w2⟩ := hw x hx
  have k1 : x.kv.k.length ≤ 100 := by have := h1.k; unfold KVr.k; rw [Array.length_toList]; show x.kv.key.size ≤ 100; omega
  have k2 : x.kv.v.length ≤ 100 := by have := h1.v; unfold KVr.v; rw [Array.length_toList]; show x.kv.val.size ≤ 100; omega
  have b1 : x.m < 9223372036854775808 := by simp [Lit.wf] at w1; omega
  have b2 : x.s < 9223372036854775808 := by simp [Lit.wf] at w2; omega
  exact ⟨k1, k2, by have := h1.m; omega, b1, h1.s, b2, w1, w2⟩
set_option maxRecDepth 100000 in
set_option maxHeartbeats 1000000 in
theorem law_spec (W0 : World) (c r : Int) (rl : List Rv) (va : Value) (hra : Rd (Old W0) 2 Rv.cells va rl) (hrl : rl.length ≤ 9223372036854775807) (rows : List Rw) (vb : Value) (hrb : Rd (Old W0) 9 Rw.cells vb rows) (hrw : rows.length ≤ 9223372036854775807) (zl : List Rv) (vz : Value) (hrz : Rd (Old W0) 2 Rv.cells vz zl) (hzl : zl.length ≤ 9223372036854775807) (hrlf : ∀ x ∈ rl, (Lit.int .i64 x.m).wf = true ∧ (Lit.int .i64 x.s).wf = true) (hrwf : ∀ x ∈ rows, (Lit.int .i64 x.m).wf = true ∧ (Lit.int .i64 x.s).wf = true) (hzlf : ∀ x ∈ zl, (Lit.int .i64 x.m).wf = true ∧ (Lit.int .i64 x.s).wf = true) : Does Try.prog 5 [.int .i64 (c), .int .i64 (r), va, vb, vz] [Old W0] (fun v L => v = .bool true ∧ L = [Old W0]) := by
  refine Does.enter 79 Try.func5 rfl rfl rfl fun W F => ?_
  show WPc _ _ _ _ _ [(0, .int .i64 (c)), (1, .int .i64 (r)), (2, va), (3, vb), (4, vz)] (Old W0 :: F)
  refine WPc.seq ?_
  refine WPc.region ?_
  refine WP.val rfl rfl rfl (Val.assign rfl rfl) ?_
  refine WP.nil ?_
  refine Out.next ?_
  refine WPc.seq ?_
  refine WPc.seq ?_
  refine WPc.region ?_
  refine WP.val rfl rfl rfl (Val.move rfl rfl) ?_
  refine WP.val rfl rfl rfl (Rd.len hra rfl Ty.sl41 rfl) ?_
  refine WP.val rfl rfl rfl (Val.gtr rfl rfl rfl) ?_
  refine WP.val rfl rfl rfl (Val.move rfl rfl) ?_
  refine WP.split 17 rfl (fun h1 => ?_) (fun h1 => ?_)
  · skip
    have h1 : ((2147483647 : Int) < ((rl.length : Nat) : Int)) := h1
    refine WP.skip rfl rfl rfl rfl rfl rfl rfl ?_
    refine WP.skip rfl rfl rfl rfl rfl rfl rfl ?_
    refine WP.skip rfl rfl rfl rfl rfl rfl rfl ?_
    refine WP.val rfl rfl rfl (Val.pickT rfl rfl rfl) ?_
    refine WP.val rfl rfl rfl (Val.move rfl rfl) ?_
    refine WP.skip rfl rfl rfl rfl rfl rfl rfl ?_
    refine WP.skip rfl rfl rfl rfl rfl rfl rfl ?_
    refine WP.skip rfl rfl rfl rfl rfl rfl rfl ?_
    refine WP.val rfl rfl rfl (Val.pickT rfl rfl rfl) ?_
    refine WP.nil ?_
    refine Out.next ?_
    refine WPc.condT rfl rfl ?_
    refine WPc.seq ?_
    refine WPc.region ?_
    refine WP.val rfl rfl rfl (Val.assign rfl rfl) ?_
    refine WP.nil ?_
    refine Out.next ?_
    refine WPc.ret ?_
    refine Out.then_ret ?_
    exact Out.ret1 (L' := _) Try.results5 rfl ⟨rfl, rfl⟩ (fun _ h => h)
  · skip
    have h1 : ¬ ((2147483647 : Int) < ((rl.length : Nat) : Int)) := h1
    refine WP.valG rfl rfl rfl rfl rfl rfl rfl (Val.move rfl rfl) ?_
    refine WP.effG rfl rfl rfl rfl rfl rfl rfl (Eff.call rfl rfl Try.call17 (fits31_spec (Old W0) rows hrw vb hrb)) ?_
    rintro _ _ ⟨_, ⟨b17, rfl, rfl⟩, rfl⟩
    show WP _ _ _ _ _ _ _ (Old W0 :: F)
    refine WP.valG rfl rfl rfl rfl rfl rfl rfl (Val.not rfl rfl) ?_
    refine WP.val rfl rfl rfl (Val.pickF rfl rfl rfl) ?_
    refine WP.val rfl rfl rfl (Val.move rfl rfl) ?_
    refine WP.splitB 22 rfl (fun h2 => ?_) (fun h2 => ?_)
    · skip
      refine WP.skip rfl rfl rfl rfl rfl rfl rfl ?_
      refine WP.skip rfl rfl rfl rfl rfl rfl rfl ?_
      refine WP.skip rfl rfl rfl rfl rfl rfl rfl ?_
      refine WP.val rfl rfl rfl (Val.pickT rfl rfl rfl) ?_
      refine WP.nil ?_
      refine Out.next ?_
      refine WPc.condT rfl rfl ?_
      refine WPc.seq ?_
      refine WPc.region ?_
      refine WP.val rfl rfl rfl (Val.assign rfl rfl) ?_
      refine WP.nil ?_
      refine Out.next ?_
      refine WPc.ret ?_
      refine Out.then_ret ?_
      exact Out.ret1 (L' := _) Try.results5 rfl ⟨rfl, rfl⟩ (fun _ h => h)
    · skip
      refine WP.valG rfl rfl rfl rfl rfl rfl rfl (Val.move rfl rfl) ?_
      refine WP.valG rfl rfl rfl rfl rfl rfl rfl (Rd.len hrz rfl Ty.sl41 rfl) ?_
      refine WP.valG rfl rfl rfl rfl rfl rfl rfl (Val.gtr rfl rfl rfl) ?_
      refine WP.val rfl rfl rfl (Val.pickF rfl rfl rfl) ?_
      refine WP.nil ?_
      refine Out.next ?_
      refine WPc.ifP rfl (fun h3 => ?_) (fun h3 => ?_)
      · skip
        have h3 : ((2147483647 : Int) < ((zl.length : Nat) : Int)) := h3
        refine WPc.seq ?_
        refine WPc.region ?_
        refine WP.val rfl rfl rfl (Val.assign rfl rfl) ?_
        refine WP.nil ?_
        refine Out.next ?_
        refine WPc.ret ?_
        refine Out.then_ret ?_
        exact Out.ret1 (L' := _) Try.results5 rfl ⟨rfl, rfl⟩ (fun _ h => h)
      · skip
        have h3 : ¬ ((2147483647 : Int) < ((zl.length : Nat) : Int)) := h3
        refine WPc.skip ?_
        refine Out.next ?_
        refine WPc.seq ?_
        refine WPc.seq ?_
        refine WPc.region ?_
        refine WP.val rfl rfl rfl (Val.move rfl rfl) ?_
        refine WP.val rfl rfl rfl (Val.move rfl rfl) ?_
        refine WP.val rfl rfl rfl (Val.move rfl rfl) ?_
        refine WP.val rfl rfl rfl (Val.move rfl rfl) ?_
        refine WP.eff rfl rfl rfl (Eff.call rfl rfl Try.call18 (rohash_spec (Old W0) c r rl va hra hrl rows vb hrb hrw)) ?_
        rintro _ _ ⟨_, ⟨b18, rfl, hb18, rfl⟩, rfl⟩
        show WP _ _ _ _ _ _ _ (Old W0 :: F)
        refine WP.val rfl rfl rfl (Val.not rfl rfl) ?_
        refine WP.val rfl rfl rfl (Val.move rfl rfl) ?_
        refine WP.splitB 33 rfl (fun h4 => ?_) (fun h4 => ?_)
        · skip
          refine WP.skip rfl rfl rfl rfl rfl rfl rfl ?_
          refine WP.skip rfl rfl rfl rfl rfl rfl rfl ?_
          refine WP.skip rfl rfl rfl rfl rfl rfl rfl ?_
          refine WP.val rfl rfl rfl (Val.pickT rfl rfl rfl) ?_
          refine WP.val rfl rfl rfl (Val.move rfl rfl) ?_
          refine WP.skip rfl rfl rfl rfl rfl rfl rfl ?_
          refine WP.skip rfl rfl rfl rfl rfl rfl rfl ?_
          refine WP.skip rfl rfl rfl rfl rfl rfl rfl ?_
          refine WP.val rfl rfl rfl (Val.pickT rfl rfl rfl) ?_
          refine WP.nil ?_
          refine Out.next ?_
          refine WPc.condT rfl rfl ?_
          refine WPc.seq ?_
          refine WPc.region ?_
          refine WP.eff rfl rfl rfl (Eff.call rfl rfl Try.call19 (two_spec)) ?_
          rintro _ _ ⟨_, ⟨rfl, rfl⟩, rfl⟩
          show WP _ _ _ _ _ _ _ (Old W0 :: F)
          refine WP.val rfl rfl rfl (Val.assign rfl rfl) ?_
          refine WP.nil ?_
          refine Out.next ?_
          refine WPc.ret ?_
          refine Out.then_ret ?_
          exact Out.ret1 (L' := _) Try.results5 rfl ⟨rfl, rfl⟩ (fun _ h => h)
        · skip
          refine WP.valG rfl rfl rfl rfl rfl rfl rfl (Val.move rfl rfl) ?_
          refine WP.valG rfl rfl rfl rfl rfl rfl rfl (Rd.len hrz rfl Ty.sl41 rfl) ?_
          refine WP.valG rfl rfl rfl rfl rfl rfl rfl (Val.gtr rfl rfl rfl) ?_
          refine WP.val rfl rfl rfl (Val.pickF rfl rfl rfl) ?_
          refine WP.val rfl rfl rfl (Val.move rfl rfl) ?_
          refine WP.split 38 rfl (fun h5 => ?_) (fun h5 => ?_)
          · skip
            have h5 : ((200 : Int) < ((zl.length : Nat) : Int)) := h5
            refine WP.skip rfl rfl rfl rfl rfl rfl rfl ?_
            refine WP.skip rfl rfl rfl rfl rfl rfl rfl ?_
            refine WP.skip rfl rfl rfl rfl rfl rfl rfl ?_
            refine WP.val rfl rfl rfl (Val.pickT rfl rfl rfl) ?_
            refine WP.nil ?_
            refine Out.next ?_
            refine WPc.condT rfl rfl ?_
            refine WPc.seq ?_
            refine WPc.region ?_
            refine WP.eff rfl rfl rfl (Eff.call rfl rfl Try.call19 (two_spec)) ?_
            rintro _ _ ⟨_, ⟨rfl, rfl⟩, rfl⟩
            show WP _ _ _ _ _ _ _ (Old W0 :: F)
            refine WP.val rfl rfl rfl (Val.assign rfl rfl) ?_
            refine WP.nil ?_
            refine Out.next ?_
            refine WPc.ret ?_
            refine Out.then_ret ?_
            exact Out.ret1 (L' := _) Try.results5 rfl ⟨rfl, rfl⟩ (fun _ h => h)
          · skip
            have h5 : ¬ ((200 : Int) < ((zl.length : Nat) : Int)) := h5
            refine WP.valG rfl rfl rfl rfl rfl rfl rfl (Val.move rfl rfl) ?_
            refine WP.valG rfl rfl rfl rfl rfl rfl rfl (Rd.len hra rfl Ty.sl41 rfl) ?_
            refine WP.valG rfl rfl rfl rfl rfl rfl rfl (Val.eql rfl rfl rfl) ?_
            refine WP.val rfl rfl rfl (Val.pickF rfl rfl rfl) ?_
            refine WP.nil ?_
            refine Out.next ?_
            refine WPc.ifP rfl (fun h6 => ?_) (fun h6 => ?_)
            · skip
              have h6 : (((rl.length : Nat) : Int) = (0 : Int)) := h6
              refine WPc.seq ?_
              refine WPc.region ?_
              refine WP.eff rfl rfl rfl (Eff.call rfl rfl Try.call19 (two_spec)) ?_
              rintro _ _ ⟨_, ⟨rfl, rfl⟩, rfl⟩
              show WP _ _ _ _ _ _ _ (Old W0 :: F)
              refine WP.val rfl rfl rfl (Val.assign rfl rfl) ?_
              refine WP.nil ?_
              refine Out.next ?_
              refine WPc.ret ?_
              refine Out.then_ret ?_
              exact Out.ret1 (L' := _) Try.results5 rfl ⟨rfl, rfl⟩ (fun _ h => h)
            · skip
              have h6 : ¬ (((rl.length : Nat) : Int) = (0 : Int)) := h6
              refine WPc.skip ?_
              refine Out.next ?_
              refine WPc.seq ?_
              rcases hra with ⟨b0, o0, c0, rfl, hr⟩ | ⟨hnil, a0, c0, rfl⟩
              · skip
                have hro := hb18 (by cases b18 with | true => rfl | false => (exact absurd ‹(!false) = false› (by decide)))
                have hkeep := hro.2.2.2.2.1
                refine WPc.region ?_
                refine WP.val rfl rfl rfl (Val.move rfl rfl) ?_
                refine WP.val rfl rfl rfl (Val.move rfl rfl) ?_
                refine WP.eff rfl rfl rfl (Eff.mkSlice (C := [.slice (some ⟨b0, o0, none⟩) rl.length c0, .slice (some ⟨b0, o0, none⟩) rl.length c0]) rfl Ty.sl108 rfl (fun _ => by kernel_rfl)) ?_
                rintro _ _ ⟨b1, rfl, rfl⟩
                refine WP.perm pl1 ?_
                refine WP.perm pl1 ?_
                refine WP.eff rfl rfl rfl (Eff.call rfl rfl Try.call20 (concat_spec (Old W0) rl (by omega) (by omega) b0 o0 c0 hr b1)) ?_
                rintro vc _ ⟨_, ⟨-, rfl⟩, rfl⟩
                show WP _ _ _ _ _ _ _ (Own 47 2 vc ((kk rl 2).length) (flatOf Rv.cells (kk rl 2)) :: Old W0 :: F)
                refine WP.val rfl rfl rfl (Val.assign rfl rfl) ?_
                refine WP.nil ?_
                refine Out.next ?_
                refine WPc.seq ?_
                refine WPc.seq ?_
                rcases hrz with ⟨b1z, o1z, c1z, rfl, hz⟩ | ⟨hznil, a1z, c1z, rfl⟩
                · skip
                  refine WPc.region ?_
                  refine WP.val rfl rfl rfl (Val.move rfl rfl) ?_
                  refine WP.val rfl rfl rfl (Val.len rfl Ty.sl41 rfl) ?_
                  refine WP.val rfl rfl rfl (Val.move rfl rfl) ?_
                  refine WP.nil ?_
                  refine Out.next ?_
                  refine WPc.block ?_
                  refine WPc.loop (ι := Nat × List Rv × Value) (fun ⟨i, zs, v⟩ => i ≤ zl.length ∧ zs.length ≤ 2 * rl.length + i ∧ (∀ y ∈ zs, y ∈ rl ∨ (c < y.m ∧ y ∈ zl)) ∧ ∀ y ∈ rl, y ∈ zs) (fun ⟨i, zs, v⟩ => [(0, .int .i64 (c)), (1, .int .i64 (r)), (2, .slice (some ⟨b0, o0, none⟩) rl.length c0), (3, vb), (48, .slice (some ⟨b1z, o1z, none⟩) zl.length c1z), (11, v), (49, .int .i64 (((zl.length : Nat) : Int))), (50, .int .i64 (((i : Nat) : Int)))]) (fun ⟨i, zs, v⟩ => Own 47 2 v zs.length (flatOf Rv.cells zs) :: Old W0 :: F) (fun ⟨i, zs, v⟩ => zl.length - i) (0, kk rl 2, vc) ⟨Nat.zero_le _, by rw [kk_len]; omega, fun y hy => .inl (kk_mem.1 hy), fun y hy => kk_mem.2 hy⟩ ((Sub.cons rfl (Sub.cons rfl (Sub.cons rfl (Sub.cons rfl (Sub.cons rfl (Sub.cons rfl (Sub.cons rfl (Sub.cons rfl Sub.nil))))))))) (fun _ h => h) ?_
                  rintro ⟨i, zs, v⟩ ⟨hi, hzl2, hz1, hz2⟩
                  show WPc _ _ _ _ _ [(0, .int .i64 (c)), (1, .int .i64 (r)), (2, .slice (some ⟨b0, o0, none⟩) rl.length c0), (3, vb), (48, .slice (some ⟨b1z, o1z, none⟩) zl.length c1z), (11, v), (49, .int .i64 (((zl.length : Nat) : Int))), (50, .int .i64 (((i : Nat) : Int)))] (Own 47 2 v zs.length (flatOf Rv.cells zs) :: Old W0 :: F)
                  refine WPc.seq ?_
                  refine WPc.region ?_
                  refine WP.val rfl rfl rfl (Val.lss rfl rfl rfl) ?_
                  refine WP.nil ?_
                  refine Out.next ?_
                  refine WPc.seq ?_
                  refine WPc.ifP rfl (fun h7 => ?_) (fun h7 => ?_)
                  · skip
                    have h7 : (((i : Nat) : Int) < ((zl.length : Nat) : Int)) := h7
                    refine WPc.skip ?_
                    refine Out.next ?_
                    refine WPc.seq ?_
                    refine WPc.block ?_
                    refine WPc.seq ?_
                    have hlt : i < zl.length := by omega
                    obtain ⟨x, hx⟩ : ∃ x, zl[i]? = some x := ⟨_, List.getElem?_eq_getElem hlt⟩
                    refine WPc.region ?_
                    refine WP.val rfl rfl rfl (Val.indexAddr (j := i) (q := o1z + i * 2) rfl Ty.sl41 rfl rfl (by omega) (by omega) (by omega)) ?_
                    refine WP.val rfl rfl rfl (Val.loadAgg (cs := [.int .i64 (x.m), .int .i64 (x.s)]) rfl Ty.ag47 rfl (by rfl) (fun w h => hz w (h.at 1 rfl) i x hx)) ?_
                    refine WP.eff rfl rfl rfl (Eff.alloc rfl Ty.z47) ?_
                    rintro _ _ ⟨b2, rfl, rfl⟩
                    refine WP.eff0 rfl rfl (Eff.storeAgg (cs := [.int .i64 (x.m), .int .i64 (x.s)]) (C' := [.int .i64 (x.m), .int .i64 (x.s)]) rfl Ty.ag47 rfl rfl rfl rfl (by simp) rfl) ?_
                    rintro _ _ rfl
                    refine WP.nil ?_
                    refine Out.next ?_
                    refine WPc.seq ?_
                    refine WPc.region ?_
                    refine WP.val rfl rfl rfl (Val.fieldAddr (j := 0) rfl Ty.fo47_0 rfl rfl) ?_
                    refine WP.val rfl rfl rfl (Val.load rfl Ty.sc2 rfl (fun w h => h.cell 0 rfl rfl)) ?_
                    refine WP.val rfl rfl rfl (Val.move rfl rfl) ?_
                    refine WP.val rfl rfl rfl (Val.gtr rfl rfl rfl) ?_
                    refine WP.nil ?_
                    refine Out.next ?_
                    refine WPc.ifP rfl (fun h8 => ?_) (fun h8 => ?_)
                    · skip
                      have h8 : (c < x.m) := h8
                      refine WPc.region ?_
                      refine WP.val rfl rfl rfl (Val.move rfl rfl) ?_
                      refine WP.val rfl rfl rfl (Val.loadAgg (cs := [.int .i64 (x.m), .int .i64 (x.s)]) rfl Ty.ag47 rfl rfl (fun w h => h.range 0 rfl rfl)) ?_
                      refine WP.eff rfl rfl rfl (Eff.mkSlice (C := [.int .i64 (x.m), .int .i64 (x.s)]) rfl Ty.sl41 rfl (fun _ => by kernel_rfl)) ?_
                      rintro _ _ ⟨b3, rfl, rfl⟩
                      refine WP.perm pl2 ?_
                      refine WP.eff rfl rfl rfl (Eff.append (m := 1) (n0 := zs.length) (news := [.int .i64 (x.m), .int .i64 (x.s)]) rfl Ty.sl41 Ty.z47 rfl rfl rfl (.slice Ty.sl41 rfl rfl (fun w h => cells_range (h.range 1 rfl rfl))) (by omega) (by omega)) ?_
                      rintro v4 _ ⟨onev4, rfl⟩
                      refine WP.val rfl rfl rfl (Val.assign rfl rfl) ?_
                      refine WP.nil ?_
                      refine Out.block ?_
                      refine Out.next ?_
                      refine WPc.region ?_
                      refine WP.val rfl rfl rfl (Val.add (z := ((i + 1 : Nat) : Int)) rfl rfl rfl ((w64 (by omega) (by omega)).trans (by omega))) ?_
                      refine WP.val rfl rfl rfl (Val.move rfl rfl) ?_
                      refine WP.nil ?_
                      refine Out.perm pl1 ?_
                      refine Out.drop ?_
                      refine Out.perm pl1 ?_
                      refine Out.drop ?_
                      refine Out.again (i + 1, zs ++ [x], v4) ?_ ?_ ?_ ?_
                      · exact ⟨by omega, by rw [List.length_append]; simp; omega, fun y hy => by rcases List.mem_append.1 hy with h | h; exact hz1 y h; (have e : y = x := by simpa using h); subst e; exact .inr ⟨by omega, List.mem_of_getElem? hx⟩, fun y hy => List.mem_append_left _ (hz2 y hy)⟩
                      · (dsimp only; omega)
                      · exact (Sub.cons rfl (Sub.cons rfl (Sub.cons rfl (Sub.cons rfl (Sub.cons rfl (Sub.cons rfl (Sub.cons rfl (Sub.cons rfl Sub.nil))))))))
                      · exact (fun w h => by dsimp only; rw [flatOf_snoc, List.length_append]; exact h)
                    · skip
                      have h8 : ¬ (c < x.m) := h8
                      refine WPc.skip ?_
                      refine Out.block ?_
                      refine Out.next ?_
                      refine WPc.region ?_
                      refine WP.val rfl rfl rfl (Val.add (z := ((i + 1 : Nat) : Int)) rfl rfl rfl ((w64 (by omega) (by omega)).trans (by omega))) ?_
                      refine WP.val rfl rfl rfl (Val.move rfl rfl) ?_
                      refine WP.nil ?_
                      refine Out.drop ?_
                      refine Out.again (i + 1, zs, v) ?_ ?_ ?_ ?_
                      · exact ⟨by omega, by omega, hz1, hz2⟩
                      · (dsimp only; omega)
                      · exact (Sub.cons rfl (Sub.cons rfl (Sub.cons rfl (Sub.cons rfl (Sub.cons rfl (Sub.cons rfl (Sub.cons rfl (Sub.cons rfl Sub.nil))))))))
                      · exact (fun _ h => h)
                  · skip
                    have h7 : ¬ (((i : Nat) : Int) < ((zl.length : Nat) : Int)) := h7
                    refine WPc.exit ?_
                    refine Out.then_exit ?_
                    refine Out.then_exit ?_
                    refine Out.block_exit ?_
                    refine Out.next ?_
                    refine WPc.seq ?_
                    have hz0 : 0 < zs.length := List.length_pos_of_mem (hz2 rl[0] (List.getElem_mem (by omega)))
                    refine WPc.open (fun w h => h.ownPos hz0) ?_
                    rintro ⟨g, cg, sg⟩
                    refine WPc.pure (fun hg => ?_)
                    refine WPc.know 11 (.slice (some ⟨g, 0, none⟩) zs.length cg) rfl hg.1 ?_
                    show WPc _ _ _ _ _ _ (Blk g (flatOf Rv.cells zs ++ sg) 47 :: Old W0 :: F)
                    refine WPc.region ?_
                    refine WP.val rfl rfl rfl (Val.move rfl rfl) ?_
                    refine WP.eff rfl rfl rfl (Eff.call rfl rfl Try.call21 (reverse_spec zs g cg sg hz0 hg.2.1 (by omega))) ?_
                    rintro _ _ ⟨_, ⟨zs2, hs2, rfl⟩, rfl⟩
                    show WP _ _ _ _ _ _ _ (Blk g (flatOf Rv.cells zs2 ++ sg) 47 :: Old W0 :: F)
                    refine WP.nil ?_
                    refine Out.next ?_
                    refine WPc.seq ?_
                    refine WPc.region ?_
                    refine WP.val rfl rfl rfl (Val.move rfl rfl) ?_
                    refine WP.val rfl rfl rfl (Val.move rfl rfl) ?_
                    refine WP.val rfl rfl rfl (Val.move rfl rfl) ?_
                    refine WP.val rfl rfl rfl (Val.move rfl rfl) ?_
                    refine WP.perm pl1 ?_
                    refine WP.eff rfl rfl rfl (Eff.call rfl rfl Try.call22 (hasher_spec (Old W0) c r rl (.slice (some ⟨b0, o0, none⟩) rl.length c0) (.inl ⟨b0, o0, c0, rfl, hr⟩) rows vb hrb hro.1 hro.2.1 hro.2.2.1 hro.2.2.2.1 (by omega) (by have := hro.2.2.2.2.2.1; omega) (rok hro hrwf) hrlf)) ?_
                    rintro _ _ ⟨_, ⟨rfl, rfl⟩, rfl⟩
                    show WP _ _ _ _ _ _ _ (Old W0 :: Blk g (flatOf Rv.cells zs2 ++ sg) 47 :: F)
                    refine WP.val rfl rfl rfl (Val.move rfl rfl) ?_
                    refine WP.val rfl rfl rfl (Val.move rfl rfl) ?_
                    refine WP.val rfl rfl rfl (Val.move rfl rfl) ?_
                    refine WP.val rfl rfl rfl (Val.move rfl rfl) ?_
                    refine WP.conv (fun w h => h.old_dup) ?_
                    refine WP.perm pl2 ?_
                    refine WP.perm pl1 ?_
                    refine WP.perm pl1 ?_
                    refine WP.conv (fun w h => Sat.sep_mk (M := [Blk g (flatOf Rv.cells zs2 ++ sg) 47, Old W0]) h) ?_
                    show WP _ _ _ _ _ _ _ (Sep [Blk g (flatOf Rv.cells zs2 ++ sg) 47, Old W0] :: Old W0 :: F)
                    refine WP.eff rfl rfl rfl (Eff.call rfl rfl Try.call22 (hasher_spec (Sep [Blk g (flatOf Rv.cells zs2 ++ sg) 47, Old W0]) c r zs2 (.slice (some ⟨g, 0, none⟩) zs.length cg) (by rw [← hs2.1]; exact .inl ⟨g, 0, cg, rfl, fun w hw i x hx => by rw [Nat.zero_add]; exact hw.sep2a.cell_range (flatOf_range Rv.len hx)⟩) rows vb (hrb.mono fun w hw => hw.sep2b) hro.1 hro.2.1 hro.2.2.1 hro.2.2.2.1 (by have := hs2.1; omega) (by have := hro.2.2.2.2.2.1; omega) (rok hro hrwf) (fun y hy => (hz1 y ((hs2.2 y).1 hy)).elim (hrlf y) (fun q => hzlf y q.2)))) ?_
                    rintro _ _ ⟨_, ⟨rfl, rfl⟩, rfl⟩
                    show WP _ _ _ _ _ _ _ (Sep [Blk g (flatOf Rv.cells zs2 ++ sg) 47, Old W0] :: Old W0 :: F)
                    refine WP.val rfl rfl rfl (Val.eql rfl rfl rfl) ?_
                    refine WP.val rfl rfl rfl (Val.move rfl rfl) ?_
                    refine WP.split 76 rfl (fun h9 => ?_) (fun h9 => ?_)
                    · skip
                      have h9 : ((hashOf c r rl rows) = (hashOf c r zs2 rows)) := h9
                      refine WP.effG rfl rfl rfl rfl rfl rfl rfl (Eff.call rfl rfl Try.call19 (two_spec)) ?_
                      rintro _ _ ⟨_, ⟨rfl, rfl⟩, rfl⟩
                      show WP _ _ _ _ _ _ _ (Sep [Blk g (flatOf Rv.cells zs2 ++ sg) 47, Old W0] :: Old W0 :: F)
                      refine WP.val rfl rfl rfl (Val.pickT rfl rfl rfl) ?_
                      refine WP.val rfl rfl rfl (Val.assign rfl rfl) ?_
                      refine WP.nil ?_
                      refine Out.next ?_
                      refine WPc.ret ?_
                      refine Out.drop ?_
                      exact Out.ret1 (L' := _) Try.results5 rfl ⟨rfl, rfl⟩ (fun _ h => h)
                    · skip
                      have h9 : ¬ ((hashOf c r rl rows) = (hashOf c r zs2 rows)) := h9
                      exact absurd (hash_same (by omega) (fun y hy => (hz1 y ((hs2.2 y).1 hy)).imp id And.left) (fun y hy => (hs2.2 y).2 (hz2 y hy)) (rok hro hrwf)) h9
                · skip
                  refine WPc.region ?_
                  refine WP.val rfl rfl rfl (Val.move rfl rfl) ?_
                  refine WP.val rfl rfl rfl (Val.len rfl Ty.sl41 rfl) ?_
                  refine WP.val rfl rfl rfl (Val.move rfl rfl) ?_
                  refine WP.nil ?_
                  refine Out.next ?_
                  refine WPc.block ?_
                  refine WPc.loop (ι := Nat × List Rv × Value) (fun ⟨i, zs, v⟩ => i ≤ 0 ∧ zs.length ≤ 2 * rl.length + i ∧ (∀ y ∈ zs, y ∈ rl ∨ (c < y.m ∧ y ∈ zl)) ∧ ∀ y ∈ rl, y ∈ zs) (fun ⟨i, zs, v⟩ => [(0, .int .i64 (c)), (1, .int .i64 (r)), (2, .slice (some ⟨b0, o0, none⟩) rl.length c0), (3, vb), (48, .slice a1z 0 c1z), (11, v), (49, .int .i64 0), (50, .int .i64 (((i : Nat) : Int)))]) (fun ⟨i, zs, v⟩ => Own 47 2 v zs.length (flatOf Rv.cells zs) :: Old W0 :: F) (fun ⟨i, zs, v⟩ => 0 - i) (0, kk rl 2, vc) ⟨Nat.zero_le _, by rw [kk_len]; omega, fun y hy => .inl (kk_mem.1 hy), fun y hy => kk_mem.2 hy⟩ ((Sub.cons rfl (Sub.cons rfl (Sub.cons rfl (Sub.cons rfl (Sub.cons rfl (Sub.cons rfl (Sub.cons rfl (Sub.cons rfl Sub.nil))))))))) (fun _ h => h) ?_
                  rintro ⟨i, zs, v⟩ ⟨hi, hzl2, hz1, hz2⟩
                  show WPc _ _ _ _ _ [(0, .int .i64 (c)), (1, .int .i64 (r)), (2, .slice (some ⟨b0, o0, none⟩) rl.length c0), (3, vb), (48, .slice a1z 0 c1z), (11, v), (49, .int .i64 0), (50, .int .i64 (((i : Nat) : Int)))] (Own 47 2 v zs.length (flatOf Rv.cells zs) :: Old W0 :: F)
                  refine WPc.seq ?_
                  refine WPc.region ?_
                  refine WP.val rfl rfl rfl (Val.lss rfl rfl rfl) ?_
                  refine WP.nil ?_
                  refine Out.next ?_
                  refine WPc.seq ?_
                  refine WPc.ifP rfl (fun h10 => ?_) (fun h10 => ?_)
                  · skip
                    have h10 : (((i : Nat) : Int) < (0 : Int)) := h10
                    exfalso; omega
                  · skip
                    have h10 : ¬ (((i : Nat) : Int) < (0 : Int)) := h10
                    refine WPc.exit ?_
                    refine Out.then_exit ?_
                    refine Out.then_exit ?_
                    refine Out.block_exit ?_
                    refine Out.next ?_
                    refine WPc.seq ?_
                    have hz0 : 0 < zs.length := List.length_pos_of_mem (hz2 rl[0] (List.getElem_mem (by omega)))
                    refine WPc.open (fun w h => h.ownPos hz0) ?_
                    rintro ⟨g, cg, sg⟩
                    refine WPc.pure (fun hg => ?_)
                    refine WPc.know 11 (.slice (some ⟨g, 0, none⟩) zs.length cg) rfl hg.1 ?_
                    show WPc _ _ _ _ _ _ (Blk g (flatOf Rv.cells zs ++ sg) 47 :: Old W0 :: F)
                    refine WPc.region ?_
                    refine WP.val rfl rfl rfl (Val.move rfl rfl) ?_
                    refine WP.eff rfl rfl rfl (Eff.call rfl rfl Try.call21 (reverse_spec zs g cg sg hz0 hg.2.1 (by omega))) ?_
                    rintro _ _ ⟨_, ⟨zs2, hs2, rfl⟩, rfl⟩
                    show WP _ _ _ _ _ _ _ (Blk g (flatOf Rv.cells zs2 ++ sg) 47 :: Old W0 :: F)
                    refine WP.nil ?_
                    refine Out.next ?_
                    refine WPc.seq ?_
                    refine WPc.region ?_
                    refine WP.val rfl rfl rfl (Val.move rfl rfl) ?_
                    refine WP.val rfl rfl rfl (Val.move rfl rfl) ?_
                    refine WP.val rfl rfl rfl (Val.move rfl rfl) ?_
                    refine WP.val rfl rfl rfl (Val.move rfl rfl) ?_
                    refine WP.perm pl1 ?_
                    refine WP.eff rfl rfl rfl (Eff.call rfl rfl Try.call22 (hasher_spec (Old W0) c r rl (.slice (some ⟨b0, o0, none⟩) rl.length c0) (.inl ⟨b0, o0, c0, rfl, hr⟩) rows vb hrb hro.1 hro.2.1 hro.2.2.1 hro.2.2.2.1 (by omega) (by have := hro.2.2.2.2.2.1; omega) (rok hro hrwf) hrlf)) ?_
                    rintro _ _ ⟨_, ⟨rfl, rfl⟩, rfl⟩
                    show WP _ _ _ _ _ _ _ (Old W0 :: Blk g (flatOf Rv.cells zs2 ++ sg) 47 :: F)
                    refine WP.val rfl rfl rfl (Val.move rfl rfl) ?_
                    refine WP.val rfl rfl rfl (Val.move rfl rfl) ?_
                    refine WP.val rfl rfl rfl (Val.move rfl rfl) ?_
                    refine WP.val rfl rfl rfl (Val.move rfl rfl) ?_
                    refine WP.conv (fun w h => h.old_dup) ?_
                    refine WP.perm pl2 ?_
                    refine WP.perm pl1 ?_
                    refine WP.perm pl1 ?_
                    refine WP.conv (fun w h => Sat.sep_mk (M := [Blk g (flatOf Rv.cells zs2 ++ sg) 47, Old W0]) h) ?_
                    show WP _ _ _ _ _ _ _ (Sep [Blk g (flatOf Rv.cells zs2 ++ sg) 47, Old W0] :: Old W0 :: F)
                    refine WP.eff rfl rfl rfl (Eff.call rfl rfl Try.call22 (hasher_spec (Sep [Blk g (flatOf Rv.cells zs2 ++ sg) 47, Old W0]) c r zs2 (.slice (some ⟨g, 0, none⟩) zs.length cg) (by rw [← hs2.1]; exact .inl ⟨g, 0, cg, rfl, fun w hw i x hx => by rw [Nat.zero_add]; exact hw.sep2a.cell_range (flatOf_range Rv.len hx)⟩) rows vb (hrb.mono fun w hw => hw.sep2b) hro.1 hro.2.1 hro.2.2.1 hro.2.2.2.1 (by have := hs2.1; omega) (by have := hro.2.2.2.2.2.1; omega) (rok hro hrwf) (fun y hy => (hz1 y ((hs2.2 y).1 hy)).elim (hrlf y) (fun q => hzlf y q.2)))) ?_
                    rintro _ _ ⟨_, ⟨rfl, rfl⟩, rfl⟩
                    show WP _ _ _ _ _ _ _ (Sep [Blk g (flatOf Rv.cells zs2 ++ sg) 47, Old W0] :: Old W0 :: F)
                    refine WP.val rfl rfl rfl (Val.eql rfl rfl rfl) ?_
                    refine WP.val rfl rfl rfl (Val.move rfl rfl) ?_
                    refine WP.split 76 rfl (fun h11 => ?_) (fun h11 => ?_)
                    · skip
                      have h11 : ((hashOf c r rl rows) = (hashOf c r zs2 rows)) := h11
                      refine WP.effG rfl rfl rfl rfl rfl rfl rfl (Eff.call rfl rfl Try.call19 (two_spec)) ?_
                      rintro _ _ ⟨_, ⟨rfl, rfl⟩, rfl⟩
                      show WP _ _ _ _ _ _ _ (Sep [Blk g (flatOf Rv.cells zs2 ++ sg) 47, Old W0] :: Old W0 :: F)
                      refine WP.val rfl rfl rfl (Val.pickT rfl rfl rfl) ?_
                      refine WP.val rfl rfl rfl (Val.assign rfl rfl) ?_
                      refine WP.nil ?_
                      refine Out.next ?_
                      refine WPc.ret ?_
                      refine Out.drop ?_
                      exact Out.ret1 (L' := _) Try.results5 rfl ⟨rfl, rfl⟩ (fun _ h => h)
                    · skip
                      have h11 : ¬ ((hashOf c r rl rows) = (hashOf c r zs2 rows)) := h11
                      exact absurd (hash_same (by omega) (fun y hy => (hz1 y ((hs2.2 y).1 hy)).imp id And.left) (fun y hy => (hs2.2 y).2 (hz2 y hy)) (rok hro hrwf)) h11
              · skip
                exfalso; simp [hnil] at *

end Go.Proofs.Ythmkdioafjmclaa.Hq
