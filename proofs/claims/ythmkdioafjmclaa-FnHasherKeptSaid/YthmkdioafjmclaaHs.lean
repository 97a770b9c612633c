import Derived.Test.YthmkdioafjmclaaHx
namespace Go.Proofs.Ythmkdioafjmclaa.Hs
open Go.RowKit Go.Proofs.Ythmkdioafjmclaa Go.Proofs.Ythmkdioafjmclaa.Sl Go.Proofs.Ythmkdioafjmclaa.Hc Go.Proofs.Ythmkdioafjmclaa.Hp Go.Proofs.Ythmkdioafjmclaa.Hm Go.Proofs.Ythmkdioafjmclaa.Hb Go.Proofs.Ythmkdioafjmclaa.Hk Go.Proofs.Ythmkdioafjmclaa.Hr Go.Proofs.Ythmkdioafjmclaa.Hy Go.Proofs.Ythmkdioafjmclaa.Hn Go.Proofs.Ythmkdioafjmclaa.Hw Go.Proofs.Ythmkdioafjmclaa.Hl Go.Proofs.Ythmkdioafjmclaa.Hz Go.Proofs.Ythmkdioafjmclaa.Ho Go.Proofs.Ythmkdioafjmclaa.Hx
set_option linter.unusedVariables false
set_option linter.unusedSimpArgs false
set_option linter.unusedSectionVars false


theorem seq_rd {W w : World} {v : Value} {l : List UInt8} {L : List HProp} (h : Sat W (Seq v l.length (byt l) :: L) w) : ∃ B : HProp, Sat W (Pure (Rd B 1 bcf v l) :: B :: L) w := by
  by_cases h0 : 0 < l.length
  · obtain ⟨⟨b, c, sp, T⟩, h2⟩ := h.seqOpen h0
    have hp := h2.pure
    refine ⟨Ro (Blk b (byt l ++ sp) T), Sat.pure_mk (.inl ⟨b, 0, c, hp.1, fun w hw i x hx => ?_⟩) (h2.drop.perm (List.Perm.swap _ _ _)).drop⟩
    rw [Nat.mul_one, Nat.zero_add]
    intro j u hj
    cases j with
    | zero =>
      have h1 := (List.getElem?_eq_some_iff.1 hx).1
      have e : u = .int .u8 (x.toNat : Int) := by simpa [bcf] using hj.symm
      rw [e, Nat.add_zero, hw.ro.cell, List.getElem?_append_left (by simpa [byt] using h1), byt_at hx]
    | succ j => simp [bcf] at hj
  · have e : l = [] := List.eq_nil_of_length_eq_zero (by omega)
    subst e
    obtain ⟨q, h2⟩ := h.ex
    cases q with
    | none =>
      have h3 := h2.pure
      exact ⟨Pure True, Sat.pure_mk (.inr ⟨rfl, none, 0, h3.1⟩) (Sat.pure_mk trivial h2.drop)⟩
    | some q =>
      obtain ⟨b, c, sp, T⟩ := q
      have h3 := h2.sep.pure
      exact ⟨Pure True, Sat.pure_mk (.inr ⟨rfl, _, c, h3.1⟩) (Sat.pure_mk trivial (h2.sep.drop.drop))⟩
noncomputable def keepOf (l : List Rv) : List Value := l.foldl (fun S x => kput S (rk x.m x.s)) []
theorem mem_keep : ∀ (l : List Rv) (S : List Value) (k : Value), k ∈ l.foldl (fun S x => kput S (rk x.m x.s)) S ↔ k ∈ S ∨ ∃ x ∈ l, k = rk x.m x.s
  | [], S, k => by simp
  | x :: l, S, k => by
    rw [List.foldl_cons, mem_keep l _ k, mem_kput]
    simp only [List.mem_cons, exists_eq_or_imp]
    constructor
    · rintro ((h | h) | h)
      · exact .inr (.inl h)
      · exact .inl h
      · exact .inr (.inr h)
    · rintro (h | h | h)
      · exact .inl (.inr h)
      · exact .inl (.inl h)
      · exact .inr h
/-- the sum of all rows -/
noncomputable def sumOf (c r : Int) (S : List Value) : List Rw → Int → Int
  | [], u => u
  | x :: l, u => sumOf c r S l (wkv c r S u (bkey x.m x.s x.gone) x.m x.s x.gone (marsh x.kv))
noncomputable def hashOf (c r : Int) (keep : List Rv) (rows : List Rw) : Int := sumOf c r (keepOf keep) rows (crcWrite 0 keyN)
theorem sum_same {c r : Int} {S S' : List Value} (he : 0 < S.length ↔ 0 < S'.length) : ∀ (l : List Rw) (u : Int), (∀ x ∈ l, rgt (c + 1) 0 x.m x.s = true → (rk x.m x.s ∈ S ↔ rk x.m x.s ∈ S')) → sumOf c r S l u = sumOf c r S' l u
  | [], u, _ => rfl
  | x :: l, u, h => by
    have e : wkv c r S u (bkey x.m x.s x.gone) x.m x.s x.gone (marsh x.kv) = wkv c r S' u (bkey x.m x.s x.gone) x.m x.s x.gone (marsh x.kv) := by
      unfold wkv
      by_cases hg : rgt (c + 1) 0 x.m x.s = true
      · rw [kin_eq (h x (by simp) hg)]
        simp only [he]
      · simp only [hg, Bool.false_eq_true, false_and, if_false]
    unfold sumOf
    rw [e]
    exact sum_same he l _ fun y hy => h y (by simp [hy])

end Go.Proofs.Ythmkdioafjmclaa.Hs
