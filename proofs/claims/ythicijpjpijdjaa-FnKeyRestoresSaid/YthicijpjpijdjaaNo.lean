import Derived.Test.YthicijpjpijdjaaNn
namespace Go.Proofs.Ythicijpjpijdjaa.KyT
open Go.RowKit Go.Proofs.Ythicijpjpijdjaa Go.Proofs.Ythicijpjpijdjaa.Sl Go.Proofs.Ythicijpjpijdjaa.KyP Go.Proofs.Ythicijpjpijdjaa.KyQ Go.Proofs.Ythicijpjpijdjaa.KyR Go.Proofs.Ythicijpjpijdjaa.KyS Go.Proofs.Ythicijpjpijdjaa.Ka Go.Proofs.Ythicijpjpijdjaa.Kc Go.Proofs.Ythicijpjpijdjaa.Ke Go.Proofs.Ythicijpjpijdjaa.Kg Go.Proofs.Ythicijpjpijdjaa.Kh Go.Proofs.Ythicijpjpijdjaa.Ki Go.Proofs.Ythicijpjpijdjaa.Kl Go.Proofs.Ythicijpjpijdjaa.Km Go.Proofs.Ythicijpjpijdjaa.Kn Go.Proofs.Ythicijpjpijdjaa.Kp Go.Proofs.Ythicijpjpijdjaa.Ku Go.Proofs.Ythicijpjpijdjaa.Kv Go.Proofs.Ythicijpjpijdjaa.Kx Go.Proofs.Ythicijpjpijdjaa.Ky Go.Proofs.Ythicijpjpijdjaa.Lc Go.Proofs.Ythicijpjpijdjaa.Le Go.Proofs.Ythicijpjpijdjaa.Lf Go.Proofs.Ythicijpjpijdjaa.Lj Go.Proofs.Ythicijpjpijdjaa.Lk Go.Proofs.Ythicijpjpijdjaa.Ll
set_option linter.unusedVariables false
set_option linter.unusedSimpArgs false
theorem dstep_last (p : List Gn × Bool) (x : Vn) : ∃ P g, (dstep p x).1 = P ++ [g] ∧ g.v = x.v ∧ 0 < g.revs.length := by
  unfold dstep
  dsimp only
  split
  · exact ⟨_, _, rfl, rfl, by simp⟩
  · exact ⟨_, _, rfl, rfl, by simp⟩
theorem modi_snoc (l : List Vn) (x : Vn) : modi (l ++ [x]) = x.r := by unfold modi; simp
theorem lives_snoc (l : List Vn) (x : Vn) : lives (l ++ [x]) = !x.g := by unfold lives; simp
theorem dgens_on {l : List Vn} {x : Vn} (hx : x.g = false) : dgens (l ++ [x]) = (dstep (dgo l) x).1 := by
  unfold dgens; rw [lives_snoc, hx, dgo_snoc]; simp
theorem dgens_off {l : List Vn} {x : Vn} (hx : x.g = true) : dgens (l ++ [x]) = (dstep (dgo l) x).1 ++ [⟨0, Rv0, []⟩] := by
  unfold dgens; rw [lives_snoc, hx, dgo_snoc]; simp
/-- behind a change that lives, the last life goes on -/
theorem go_law (a : List Vn) {x : Vn} (hx : x.g = false) (y : Vn) (r : Rv) (hy : y.v = nx x.v) (hr : y.r = r) : (dstep (dgo (a ++ [x])) y).1 = (kput ⟨modi (a ++ [x]), dgens (a ++ [x])⟩ r).gs ∧ (kput ⟨modi (a ++ [x]), dgens (a ++ [x])⟩ r).md = r := by
  obtain ⟨P, g0, h1, h2, h3⟩ := dstep_last (dgo a) x
  have hd : dgens (a ++ [x]) = P ++ [g0] := by rw [dgens_on hx, h1]
  have hb : P ++ [g0] = kbase ⟨modi (a ++ [x]), dgens (a ++ [x])⟩ := by
    unfold kbase
    rw [if_neg (by show ¬ (dgens (a ++ [x])).length = 0; rw [hd]; simp)]
    exact hd.symm
  rw [kput_of hb, if_neg (by omega), h2]
  have hdg : dgo (a ++ [x]) = (P ++ [g0], true) := by
    have e := dgo_flag a x
    rw [hx] at e
    rw [← h1, ← dgo_snoc]
    exact Prod.ext rfl e
  rw [hdg]
  refine ⟨?_, rfl⟩
  unfold dstep
  simp [hy, hr]
theorem put_law (l : List Vn) (r : Rv) : kput ⟨modi l, dgens l⟩ r = ⟨modi (l ++ [putV l r]), dgens (l ++ [putV l r])⟩ := by
  rw [modi_snoc]
  rcases List.eq_nil_or_concat l with rfl | ⟨a, x, rfl⟩
  · have hb : ([] : List Gn) ++ [⟨0, Rv0, []⟩] = kbase ⟨modi [], dgens []⟩ := rfl
    rw [kput_of hb]
    rfl
  rw [List.concat_eq_append]
  have hlast : (a ++ [x])[(a ++ [x]).length - 1]? = some x := by simp
  cases hg : x.g with
  | false =>
    have hp := putV_go r hlast hg
    obtain ⟨h1, h2⟩ := go_law a hg (putV (a ++ [x]) r) r (by rw [hp]) (by rw [hp])
    have h3 : dgens (a ++ [x] ++ [putV (a ++ [x]) r]) = (dstep (dgo (a ++ [x])) (putV (a ++ [x]) r)).1 := dgens_on (by rw [hp])
    rw [h3, h1]
    have : (putV (a ++ [x]) r).r = r := by rw [hp]
    rw [this]
    generalize hq : kput ⟨modi (a ++ [x]), dgens (a ++ [x])⟩ r = q at h2 ⊢
    rw [← h2]
  | true =>
    have hlv : lives (a ++ [x]) = false := by rw [lives_snoc, hg]; rfl
    have hp := putV_new r hlv
    have hd := dgens_off (l := a) hg
    have hb : (dgo (a ++ [x])).1 ++ [⟨0, Rv0, []⟩] = kbase ⟨modi (a ++ [x]), dgens (a ++ [x])⟩ := by
      unfold kbase
      rw [if_neg (by show ¬ (dgens (a ++ [x])).length = 0; rw [hd]; simp), dgo_snoc]
      exact hd.symm
    rw [kput_of hb, hp, dgens_on rfl]
    have hdg : dgo (a ++ [x]) = ((dgo (a ++ [x])).1, false) := by
      have e := dgo_flag a x
      rw [hg] at e
      exact Prod.ext rfl e
    rw [hdg]
    rfl
theorem tomb_law {l : List Vn} {x : Vn} (hx : l[l.length - 1]? = some x) (hg : x.g = false) (r : Rv) : ktomb ⟨modi l, dgens l⟩ r = ⟨modi (l ++ [endV x r]), dgens (l ++ [endV x r])⟩ := by
  rw [modi_snoc]
  rcases List.eq_nil_or_concat l with rfl | ⟨a, y, rfl⟩
  · cases hx
  rw [List.concat_eq_append] at hx ⊢
  obtain rfl : y = x := by simpa using hx
  obtain ⟨h1, h2⟩ := go_law a hg (endV y r) r rfl rfl
  rw [dgens_off (l := a ++ [y]) (x := endV y r) rfl, h1]
  unfold ktomb
  rw [h2]
  rfl
/-! since -/
theorem nless {r : Rv} {at_ : Int} (hs : 0 ≤ r.s) : ¬ less r ⟨at_, 0⟩ ↔ at_ ≤ r.m := by unfold less; dsimp only; omega
theorem sfold_snoc (at_ : Int) (rs : List Rv) (r : Rv) (q : List Rv × Int) : sfold at_ (rs ++ [r]) q = sstep at_ (sfold at_ rs q) r := by unfold sfold; rw [List.foldl_append]; rfl
theorem sfold_app (at_ : Int) (a b : List Rv) (q : List Rv × Int) : sfold at_ (a ++ b) q = sfold at_ b (sfold at_ a q) := by unfold sfold; rw [List.foldl_append]
theorem sfold_skip {at_ : Int} : ∀ (rs : List Rv) (q : List Rv × Int), (∀ r ∈ rs, less r ⟨at_, 0⟩) → sfold at_ rs q = q
  | [], q, h => rfl
  | r :: rs, q, h => by
    show sfold at_ rs (sstep at_ q r) = q
    rw [sstep_skip (h r (by simp))]
    exact sfold_skip rs q (fun x hx => h x (by simp [hx]))
theorem since_take {N : Int} {l : List Vn} (h : Wf N l) (at_ : Int) : ∀ i, i < l.length → ∀ x, l[i]? = some x → sfold at_ ((l.take (i + 1)).map (·.r)) ([], 0) = (if at_ ≤ x.r.m then (sinceV l at_ i ++ [x.r], x.r.m) else ([], 0)) ∧ (x.r.m < at_ → sinceV l at_ (i + 1) = [])
  | 0, hi, x, hx => by
    have hp := h.pos x (List.mem_iff_getElem?.2 ⟨_, hx⟩)
    have e : l.take 1 = [x] := by have := take_more hx; simpa using this
    rw [e]
    constructor
    · show sstep at_ ([], 0) x.r = _
      by_cases hc : at_ ≤ x.r.m
      · rw [if_pos hc, sstep_new ((nless hp.2).2 hc) (by omega)]; rfl
      · rw [if_neg hc, sstep_skip (Classical.byContradiction fun hh => hc ((nless hp.2).1 hh))]
    · intro hlt
      rw [since_no hx (by unfold spc; rw [decide_eq_false (by omega)]; rfl)]; rfl
  | i + 1, hi, y, hy => by
    obtain ⟨x, hx⟩ : ∃ x, l[i]? = some x := ⟨_, List.getElem?_eq_getElem (by omega)⟩
    obtain ⟨ih1, ih2⟩ := since_take h at_ i (by omega) x hx
    have hp := h.pos y (List.mem_iff_getElem?.2 ⟨_, hy⟩)
    have hle := rise_le h.rise hx hy (by omega)
    rw [take_more hy, List.map_append, List.map_singleton, sfold_snoc, ih1]
    have hne : decide (i + 1 = l.length) = false := decide_eq_false (by omega)
    constructor
    · by_cases hc : at_ ≤ y.r.m
      · rw [if_pos hc]
        by_cases hcx : at_ ≤ x.r.m
        · rw [if_pos hcx]
          by_cases he : y.r.m = x.r.m
          · rw [sstep_same ((nless hp.2).2 hc) he, since_no hx (by unfold spc; rw [hne, hy]; simp [he]), he]
          · rw [sstep_new ((nless hp.2).2 hc) he, since_yes hx (by unfold spc; rw [hne, hy]; simp [he, hcx])]
        · rw [if_neg hcx, sstep_new ((nless hp.2).2 hc) (by omega), ih2 (by omega)]
      · rw [if_neg hc, if_neg (by omega), sstep_skip (Classical.byContradiction fun hh => hc ((nless hp.2).1 hh))]
    · intro hlt
      rw [since_no hy (by unfold spc; rw [decide_eq_false (by omega)]; rfl)]
      exact ih2 (by omega)
theorem since_all {N : Int} {l : List Vn} (h : Wf N l) (at_ : Int) : (sfold at_ (l.map (·.r)) ([], 0)).1 = sinceV l at_ l.length := by
  rcases Nat.eq_zero_or_pos l.length with h0 | h0
  · rw [List.eq_nil_of_length_eq_zero h0]; rfl
  · obtain ⟨x, hx⟩ : ∃ x, l[l.length - 1]? = some x := ⟨_, List.getElem?_eq_getElem (by omega)⟩
    obtain ⟨h1, h2⟩ := since_take h at_ (l.length - 1) (by omega) x hx
    rw [show l.length - 1 + 1 = l.length from by omega, List.take_length] at h1
    rw [h1]
    by_cases hc : at_ ≤ x.r.m
    · rw [if_pos hc]
      have := since_yes (at_ := at_) hx (by unfold spc; rw [decide_eq_true (show l.length - 1 + 1 = l.length by omega)]; simp [hc])
      rw [show l.length - 1 + 1 = l.length from by omega] at this
      exact this.symm
    · rw [if_neg hc]
      have := h2 (by omega)
      rw [show l.length - 1 + 1 = l.length from by omega] at this
      exact this.symm
/-- a life but the first one begins with its first revision -/
theorem begins : ∀ (n : Nat) (m : List Vn), m.length = n → (∀ i a b, m[i]? = some a → m[i + 1]? = some b → a.g = true → b.c = b.r) → ∀ i g, 1 ≤ i → (dgo m).1[i]? = some g → 0 < g.revs.length ∧ g.revs[0]? = some g.c
  | 0, m, hn, h, i, g, hi, hg => by rw [List.eq_nil_of_length_eq_zero hn] at hg; cases hg
  | n + 1, m, hn, h, i, g, hi, hg => by
    obtain ⟨a, x, rfl⟩ := snoc_of (l := m) (fun h => by rw [h] at hn; cases hn)
    have han : a.length = n := by simpa using hn
    have ih := begins n a han (fun i p q hp hq hpg => by
      have h1 := (List.getElem?_eq_some_iff.1 hp).1
      have h2 := (List.getElem?_eq_some_iff.1 hq).1
      exact h i p q (by rw [List.getElem?_append_left h1]; exact hp) (by rw [List.getElem?_append_left h2]; exact hq) hpg)
    rw [dgo_snoc] at hg
    have hd : dgo a = ((dgo a).1, (dgo a).2) := rfl
    cases hb : (dgo a).2 with
    | false =>
      have e : (dstep (dgo a) x).1 = (dgo a).1 ++ [⟨x.v, x.c, [x.r]⟩] := by rw [hd, hb]; unfold dstep; simp
      rw [e] at hg
      rcases Nat.lt_or_ge i (dgo a).1.length with h1 | h1
      · rw [List.getElem?_append_left h1] at hg; exact ih i g hi hg
      · rw [List.getElem?_append_right h1] at hg
        have h2 : i - (dgo a).1.length = 0 := by
          have := (List.getElem?_eq_some_iff.1 hg).1; simp at this; omega
        rw [h2] at hg
        obtain rfl : (⟨x.v, x.c, [x.r]⟩ : Gn) = g := by simpa using hg
        have hapos : 0 < a.length := by
          rcases Nat.eq_zero_or_pos a.length with h0 | h0
          · rw [List.eq_nil_of_length_eq_zero h0] at h2
            have e0 : (dgo []).1.length = 0 := rfl
            rw [e0] at h2; omega
          · exact h0
        obtain ⟨y, hy⟩ : ∃ y, a[a.length - 1]? = some y := ⟨_, List.getElem?_eq_getElem (by omega)⟩
        have hyg : y.g = true := by
          have h5 := lives_flag hapos
          rw [hb, lives_at hy] at h5
          simpa using h5
        have h6 := h (a.length - 1) y x (by rw [List.getElem?_append_left (by omega)]; exact hy) (by rw [show a.length - 1 + 1 = a.length from by omega]; simp) hyg
        exact ⟨by simp, by simp [h6]⟩
    | true =>
      obtain ⟨q, g0, hq⟩ := snoc_of (dgo_ne hb)
      have e : (dstep (dgo a) x).1 = q ++ [⟨x.v, g0.c, g0.revs ++ [x.r]⟩] := by rw [hd, hb, hq]; unfold dstep; simp
      rw [e] at hg
      rcases Nat.lt_or_ge i q.length with h1 | h1
      · rw [List.getElem?_append_left h1] at hg
        exact ih i g hi (by rw [hq, List.getElem?_append_left h1]; exact hg)
      · rw [List.getElem?_append_right h1] at hg
        have h2 : i - q.length = 0 := by
          have := (List.getElem?_eq_some_iff.1 hg).1; simp at this; omega
        rw [h2] at hg
        obtain rfl : (⟨x.v, g0.c, g0.revs ++ [x.r]⟩ : Gn) = g := by simpa using hg
        obtain ⟨h3, h4⟩ := ih i g0 hi (by rw [hq, List.getElem?_append_right h1, h2]; rfl)
        refine ⟨by simp, ?_⟩
        show (g0.revs ++ [x.r])[0]? = some g0.c
        rw [List.getElem?_append_left h3]; exact h4
theorem si_pos {gs : List Gn} {at_ : Int} : ∀ n k, si gs at_ n = k + 1 → ∃ g, gs[k + 1]? = some g ∧ 0 < g.revs.length ∧ less g.c ⟨at_, 0⟩
  | 0, k, h => by unfold si at h; omega
  | n + 1, k, h => by
    cases hg : gs[n + 1]? with
    | none => unfold si at h; rw [hg] at h; exact si_pos n k h
    | some g =>
      rw [si_step hg] at h
      split at h
      · exact si_pos n k h
      split at h
      · obtain rfl : n = k := by omega
        exact ⟨g, hg, by omega, by assumption⟩
      · exact si_pos n k h
theorem since_law {N : Int} {l : List Vn} (h : Wf N l) (at_ : Int) : ksince (dgens l) at_ = sinceV l at_ l.length := by
  rw [← since_all h at_]
  unfold ksince
  cases hs : si (dgens l) at_ ((dgens l).length - 1) with
  | zero => rw [List.drop_zero, dgens_revs]
  | succ k =>
    obtain ⟨g, hg, hp, hc⟩ := si_pos _ _ hs
    have hg2 : (dgo l).1[k + 1]? = some g := by
      unfold dgens at hg
      rcases Nat.lt_or_ge (k + 1) (dgo l).1.length with h1 | h1
      · rwa [List.getElem?_append_left h1] at hg
      · rw [List.getElem?_append_right h1] at hg
        have hm := List.mem_iff_getElem?.2 ⟨_, hg⟩
        split at hm
        · rw [List.mem_singleton.1 hm] at hp; simp at hp
        · cases hm
    obtain ⟨-, hb⟩ := begins _ l rfl (fun i a b ha hb hag => (h.nxt i a b ha hb).2 hag) (k + 1) g (by omega) hg2
    obtain ⟨h1, h2⟩ := List.getElem?_eq_some_iff.1 hg
    have hsplit : dgens l = (dgens l).take (k + 1) ++ (dgens l).drop (k + 1) := (List.take_append_drop _ _).symm
    have hrv : l.map (·.r) = revsOf ((dgens l).take (k + 1)) ++ revsOf ((dgens l).drop (k + 1)) := by
      rw [← dgens_revs]
      conv => lhs; rw [hsplit]
      unfold revsOf; rw [List.flatMap_append]
    have hpw : (l.map (·.r)).Pairwise less := by rw [List.pairwise_map]; exact h.rise
    rw [hrv] at hpw ⊢
    have hgm : g.c ∈ revsOf ((dgens l).drop (k + 1)) := by
      refine List.mem_flatMap.2 ⟨g, ?_, List.mem_iff_getElem?.2 ⟨_, hb⟩⟩
      rw [List.drop_eq_getElem_cons h1, h2]; simp
    have hsk := sfold_skip (at_ := at_) (revsOf ((dgens l).take (k + 1))) ([], 0) (fun r hr => by
      have := (List.pairwise_append.1 hpw).2.2 r hr g.c hgm
      unfold less at this hc ⊢
      dsimp only at hc ⊢
      omega)
    rw [sfold_app, hsk]
end Go.Proofs.Ythicijpjpijdjaa.KyT

namespace Go.Proofs.Ythicijpjpijdjaa.KyU
open Go.RowKit Go.Proofs.Ythicijpjpijdjaa Go.Proofs.Ythicijpjpijdjaa.Sl Go.Proofs.Ythicijpjpijdjaa.KyP Go.Proofs.Ythicijpjpijdjaa.KyQ Go.Proofs.Ythicijpjpijdjaa.KyR Go.Proofs.Ythicijpjpijdjaa.KyS Go.Proofs.Ythicijpjpijdjaa.KyT Go.Proofs.Ythicijpjpijdjaa.Ka Go.Proofs.Ythicijpjpijdjaa.Kc Go.Proofs.Ythicijpjpijdjaa.Ke Go.Proofs.Ythicijpjpijdjaa.Kg Go.Proofs.Ythicijpjpijdjaa.Kh Go.Proofs.Ythicijpjpijdjaa.Ki Go.Proofs.Ythicijpjpijdjaa.Kl Go.Proofs.Ythicijpjpijdjaa.Km Go.Proofs.Ythicijpjpijdjaa.Kn Go.Proofs.Ythicijpjpijdjaa.Kp Go.Proofs.Ythicijpjpijdjaa.Ku Go.Proofs.Ythicijpjpijdjaa.Kv Go.Proofs.Ythicijpjpijdjaa.Kx Go.Proofs.Ythicijpjpijdjaa.Ky Go.Proofs.Ythicijpjpijdjaa.Kz Go.Proofs.Ythicijpjpijdjaa.Lb Go.Proofs.Ythicijpjpijdjaa.Lc Go.Proofs.Ythicijpjpijdjaa.Le Go.Proofs.Ythicijpjpijdjaa.Lf Go.Proofs.Ythicijpjpijdjaa.Li Go.Proofs.Ythicijpjpijdjaa.Lj Go.Proofs.Ythicijpjpijdjaa.Lk Go.Proofs.Ythicijpjpijdjaa.Ll
set_option linter.unusedVariables false
set_option linter.unusedSimpArgs false
/-- lives, at a change -/
theorem cutA {l : List Vn} (hl : Links l) {k : Nat} {x : Vn} (hx : l[k]? = some x) : ∃ (P : List Gn) (R : List Rv) (t0 : Gn) (t' : List Gn) (hs : List Rv), dgens l = P ++ (⟨t0.v, t0.c, R ++ t0.revs⟩ : Gn) :: t' ∧ t0.revs = x.r :: hs ∧ (∀ g ∈ P, ∃ a ∈ l.take k, a.g = true ∧ lstM g = a.r.m) ∧ (∀ r ∈ hs, ∃ a ∈ l.drop (k + 1), r = a.r) ∧ (x.g = true → hs = [] ∧ t' ≠ []) ∧ (x.g = false → hs = [] → t' = []) := by
  obtain ⟨hkl, hke⟩ := List.getElem?_eq_some_iff.1 hx
  obtain ⟨P, R, hG, hP, hR, -⟩ := dgens_cut hl hkl
  have hm : l.drop k = x :: l.drop (k + 1) := by rw [List.drop_eq_getElem_cons hkl, hke]
  have hpos : 0 < (l.drop k).length := by rw [List.length_drop]; omega
  obtain ⟨t0, t, z, y, h1, h2, h3, h4, h5, h6, h7, h8, h9⟩ := head _ (l.drop k) rfl hpos
  obtain rfl : x = z := by rw [hm] at h2; simpa using h2
  have hlf := lives_flag hpos
  have hdg : ∃ t', dgens (l.drop k) = t0 :: t' ∧ (t' = [] → t = [] ∧ (dgo (l.drop k)).2 = true) ∧ ((dgo (l.drop k)).2 = true → t = [] → t' = []) := by
    refine ⟨t ++ (if 0 < (l.drop k).length ∧ lives (l.drop k) = false then [⟨0, Rv0, []⟩] else []), by unfold dgens; rw [h1]; rfl, fun ht => ?_, fun hf ht => ?_⟩
    · obtain ⟨ht1, ht2⟩ := List.append_eq_nil_iff.1 ht
      refine ⟨ht1, ?_⟩
      rw [← hlf]
      cases hlv : lives (l.drop k) with
      | true => rfl
      | false => rw [if_pos ⟨hpos, hlv⟩] at ht2; cases ht2
    · rw [ht, hlf, hf]; simp
  obtain ⟨t', ht', htn1, htn2⟩ := hdg
  have hrest : ∃ rest, (l.drop k).map (·.r) = t0.revs ++ rest := ⟨revsOf t', by rw [← dgens_revs, ht']; unfold revsOf; simp⟩
  obtain ⟨rest, hrest⟩ := hrest
  obtain ⟨y0, hs, hts⟩ : ∃ y0 hs, t0.revs = y0 :: hs := by
    cases h : t0.revs with
    | nil => rw [h] at h4; cases h4
    | cons a b => exact ⟨a, b, rfl⟩
  rw [hm, hts] at hrest
  simp only [List.map_cons, List.cons_append, List.cons.injEq] at hrest
  obtain ⟨hy0, hrest⟩ := hrest
  refine ⟨P, R, t0, t', hs, by rw [hG, ht']; rfl, by rw [hts, hy0], fun g hg => (hP g hg).2, fun r hr => ?_, fun hg => ?_, fun hg he => ?_⟩
  · have : r ∈ (l.drop (k + 1)).map (·.r) := by rw [hrest]; exact List.mem_append_left _ hr
    obtain ⟨a, ha, rfl⟩ := List.mem_map.1 this
    exact ⟨a, ha, rfl⟩
  · have hl1 : t0.revs.length = 1 := by
      rcases Nat.lt_or_ge 1 t0.revs.length with h10 | h10
      · have := h7 0 x (by omega) h2
        rw [hg] at this; cases this
      · omega
    refine ⟨?_, fun e => ?_⟩
    · rw [hts] at hl1
      exact List.eq_nil_of_length_eq_zero (by simpa using hl1)
    · obtain ⟨e1, e2⟩ := htn1 e
      have := h8 e2 e1
      rw [hl1] at this
      have hmx : l.drop k = [x] := by
        rw [hm] at this ⊢
        have : (l.drop (k + 1)).length = 0 := by simpa using this.symm
        rw [List.eq_nil_of_length_eq_zero this]
      rw [hmx, dgo_one, hg] at e2
      cases e2
  · have hl1 : t0.revs.length = 1 := by rw [hts, he]; rfl
    rw [hl1] at h5
    obtain rfl : x = y := by rw [h2] at h5; exact Option.some.inj h5
    have hq : ¬ ((dgo (l.drop k)).2 = false ∨ t ≠ []) := fun e => by rw [h9 e] at hg; cases hg
    have hq1 : (dgo (l.drop k)).2 = true := by
      cases hf : (dgo (l.drop k)).2 with
      | true => rfl
      | false => exact absurd (.inl hf) hq
    have hq2 : t = [] := by
      cases ht : t with
      | nil => rfl
      | cons a b => exact absurd (.inr (by rw [ht]; simp)) hq
    exact htn2 hq1 hq2
theorem keptF (l : List Vn) (at_ : Int) : keptV l at_ false l.length = (match lastN l at_ l.length with
  | 0 => []
  | k + 1 => match l[k]? with
    | some x => if x.g then [] else [x.r]
    | none => []) := by
  have hgo : ∀ i, i ≤ l.length → keptV l at_ false i = (match lastN l at_ l.length with
    | 0 => []
    | k + 1 => if k < i then (match l[k]? with
      | some x => if x.g then [] else [x.r]
      | none => []) else []) := by
    intro i
    induction i with
    | zero => intro _; cases hn : lastN l at_ l.length <;> simp [keptV]
    | succ i ih =>
      intro hi
      have ih := ih (by omega)
      have hx : l[i]? = some l[i] := List.getElem?_eq_getElem (by omega)
      generalize l[i] = x at hx
      cases hn : lastN l at_ l.length with
      | zero =>
        rw [hn] at ih
        dsimp only at ih ⊢
        have hm := lastN_gt (at_ := at_) l.length i x (by omega) (by omega) hx
        rw [kept_no hx (by unfold kpc; simp; omega), ih]
      | succ k =>
        rw [hn] at ih
        dsimp only at ih ⊢
        obtain ⟨h1, y, hy, hy2⟩ := lastN_at _ _ hn
        rw [hy] at ih ⊢
        dsimp only at ih ⊢
        rcases Nat.lt_trichotomy i k with h2 | rfl | h2
        · have hc : kpc l at_ false i x = false := by
            unfold kpc stays
            rw [hn]
            have : decide (i + 1 = k + 1) = false := decide_eq_false (by omega)
            rw [this]
            simp; omega
          rw [kept_no hx hc, ih, if_neg (by omega), if_neg (by omega)]
        · rw [hx] at hy
          obtain rfl := Option.some.inj hy
          rw [if_neg (by omega)] at ih
          rw [if_pos (by omega)]
          cases hg : x.g with
          | false =>
            have hc : kpc l at_ false i x = true := by
              unfold kpc stays
              rw [hn]; simp [hg, hy2]
            rw [kept_yes hx hc, ih]; rfl
          | true =>
            have hc : kpc l at_ false i x = false := by
              unfold kpc; simp [hg]
            rw [kept_no hx hc, ih]; rfl
        · have hm := lastN_gt (at_ := at_) l.length i x (by omega) (by omega) hx
          rw [kept_no hx (by unfold kpc; simp; omega), ih, if_pos h2, if_pos (show k < i + 1 by omega)]
  rw [hgo l.length (Nat.le_refl _)]
  cases hn : lastN l at_ l.length with
  | zero => rfl
  | succ k =>
    obtain ⟨h1, -⟩ := lastN_at _ _ hn
    dsimp only
    rw [if_pos h1]
theorem keep_law {l : List Vn} (hr : Rise l) (hl : Links l) (at_ : Int) (hp : 0 < l.length) : kkeep ⟨modi l, dgens l⟩ at_ = keptV l at_ false l.length := by
  obtain ⟨g1, g2, g3⟩ := ck_gone hr hl at_
  have hgt : ∀ i a, lastN l at_ l.length ≤ i → l[i]? = some a → at_ < a.r.m := fun i a hi ha => lastN_gt (at_ := at_) l.length i a hi (List.getElem?_eq_some_iff.1 ha).1 ha
  have hle := lastN_le l at_ l.length
  rw [keptF]
  have hnone : ∀ (i : Nat) (g : Gn), (dgens l)[i]? = some g → gx (dgens l) at_ ((dgens l).length - 1) 0 = i → wk g.revs at_ g.revs.length = 0 → kkeep ⟨modi l, dgens l⟩ at_ = [] := fun i g hg hi hw => by
    unfold kkeep
    rw [kav_at (s := ⟨modi l, dgens l⟩) hg hi, wkr_none hw]
    split <;> rfl
  -- nothing is kept ahead of the first life that stays
  have hB : ck l at_ = lastN l at_ l.length → (∀ a, l[ck l at_ - 1]? = some a → 0 < ck l at_ → a.g = true) → kkeep ⟨modi l, dgens l⟩ at_ = [] := by
    intro hc hlast
    rcases Nat.lt_or_ge (ck l at_) l.length with hk | hk
    · obtain ⟨x, hx⟩ : ∃ x, l[ck l at_]? = some x := ⟨_, List.getElem?_eq_getElem hk⟩
      obtain ⟨P, R, hG, hP, hR, hR0⟩ := dgens_cut hl hk
      have hf : (dgo (l.take (ck l at_))).2 = false := by
        rcases Nat.eq_zero_or_pos (ck l at_) with h0 | h0
        · rw [h0]; rfl
        · obtain ⟨a, ha⟩ : ∃ a, l[ck l at_ - 1]? = some a := ⟨_, List.getElem?_eq_getElem (by omega)⟩
          have hag := hlast a ha h0
          have e := take_more ha
          rw [show ck l at_ - 1 + 1 = ck l at_ from by omega] at e
          rw [e, dgo_flag, hag]; rfl
      obtain rfl := hR0 hf
      have hdp : 0 < (l.drop (ck l at_)).length := by rw [List.length_drop]; omega
      obtain ⟨t0, t, ht, htp, htg, rest, hrest⟩ := dgens_head (links_drop hl (ck l at_)) hdp
      rw [addR_nil, ht] at hG
      have hPlt : ∀ g ∈ P, lstM g < at_ := fun g hg => by
        obtain ⟨-, a, ha, hag, hal⟩ := hP g hg
        have := g1 a ha hag
        omega
      have hgx : gx (dgens l) at_ ((dgens l).length - 1) 0 = P.length := by
        rw [hG, gx_skip hPlt (by simp)]
        cases t with
        | nil => rfl
        | cons t1 t =>
          obtain ⟨a, ha, hag, hal⟩ := htg (by simp)
          have := g2 a ha hag
          exact gx_stop (g := t0) (by simp) (by omega)
      have hall : ∀ y ∈ t0.revs, at_ < y.m := fun y hy => by
        have : y ∈ (l.drop (ck l at_)).map (·.r) := by rw [hrest]; exact List.mem_append_left _ hy
        obtain ⟨a, ha, rfl⟩ := List.mem_map.1 this
        obtain ⟨i, hi⟩ := List.mem_iff_getElem?.1 ha
        rw [List.getElem?_drop] at hi
        exact hgt _ a (by omega) hi
      have hw := wk_split (A := []) hall (.inl rfl)
      simp only [List.nil_append, List.length_nil] at hw
      exact hnone P.length t0 (by rw [hG]; simp) hgx hw
    · -- all is gone
      have hke : ck l at_ = l.length := by omega
      obtain ⟨a, ha⟩ : ∃ a, l[ck l at_ - 1]? = some a := ⟨_, List.getElem?_eq_getElem (by omega)⟩
      have hag := hlast a ha (by omega)
      obtain ⟨b, z, rfl⟩ := snoc_of (l := l) (fun e => by rw [e] at hp; cases hp)
      have hz : z = a := by rw [hke] at ha; simpa using ha
      subst hz
      have hG := dgens_off (l := b) hag
      rw [← dgo_snoc] at hG
      obtain ⟨P, Q, h1, h2, h3⟩ := KyQ.shape _ (b ++ [z]) rfl hl
      have hQ : Q = [] := by
        rcases h3 with ⟨-, h⟩ | ⟨h, -⟩
        · exact h
        · rw [dgo_flag, hag] at h; cases h
      rw [hQ, List.append_nil] at h1
      rw [h1] at hG
      have hPlt : ∀ g ∈ P, lstM g < at_ := fun g hg => by
        obtain ⟨-, c, hc1, hc2, hc3⟩ := h2 g hg
        have := g1 c (by rw [hke, List.take_length]; exact hc1) hc2
        omega
      have hgx : gx (dgens (b ++ [z])) at_ ((dgens (b ++ [z])).length - 1) 0 = P.length := by
        rw [hG, gx_skip hPlt (by simp)]; rfl
      exact hnone P.length ⟨0, Rv0, []⟩ (by rw [hG]; simp) hgx rfl
  cases hn : lastN l at_ l.length with
  | zero =>
    have hck : ck l at_ = 0 := by unfold ck; rw [hn]
    exact hB (by rw [hck, hn]) (fun a _ h => by omega)
  | succ k =>
    obtain ⟨h1, x, hx, hxm⟩ := lastN_at _ _ hn
    dsimp only
    rw [hx]
    dsimp only
    have hck : ck l at_ = if x.g = false ∨ x.r.m = at_ then k else k + 1 := by unfold ck; rw [hn]; dsimp only; rw [hx]
    by_cases hg : x.g = false ∨ x.r.m = at_
    · rw [if_pos hg] at hck
      obtain ⟨P, R, t0, t', hs, hG, hts, hP, hhs, c1, c2⟩ := cutA hl hx
      have hPlt : ∀ g ∈ P, lstM g < at_ := fun g hg => by
        obtain ⟨a, ha, hag, hal⟩ := hP g hg
        have := g1 a (by rw [hck]; exact ha) hag
        omega
      have hhs2 : ∀ r ∈ hs, at_ < r.m := fun r hr => by
        obtain ⟨a, ha, rfl⟩ := hhs r hr
        obtain ⟨i, hi⟩ := List.mem_iff_getElem?.1 ha
        rw [List.getElem?_drop] at hi
        exact hgt _ a (by omega) hi
      have htp : 0 < t0.revs.length := by rw [hts]; simp
      have hlst : lstM (⟨t0.v, t0.c, R ++ t0.revs⟩ : Gn) = lstM t0 := lst_addR R t0 htp
      have hgx : gx (dgens l) at_ ((dgens l).length - 1) 0 = P.length := by
        rw [hG, gx_skip hPlt (by simp)]
        rcases List.eq_nil_or_concat hs with he | ⟨q, r, he⟩
        · cases hxg : x.g with
          | false => rw [c2 hxg he]; rfl
          | true =>
            have hm : x.r.m = at_ := by
              rcases hg with h | h
              · rw [hxg] at h; cases h
              · exact h
            refine gx_stop (g := ⟨t0.v, t0.c, R ++ t0.revs⟩) (by simp) ?_
            rw [hlst, lst_at (x := x.r) (by rw [hts, he]; rfl)]; omega
        · refine gx_stop (g := ⟨t0.v, t0.c, R ++ t0.revs⟩) (by simp) ?_
          have hr := hhs2 r (by rw [he, List.concat_eq_append]; simp)
          rw [hlst, lst_at (x := r) (by rw [hts, he, List.concat_eq_append]; simp)]; omega
      have hgj : (KI.mk (modi l) (dgens l)).gs[P.length]? = some ⟨t0.v, t0.c, R ++ t0.revs⟩ := by show (dgens l)[P.length]? = _; rw [hG]; simp
      have hw := wk_split (A := R ++ [x.r]) (B := hs) (at_ := at_) hhs2 (.inr ⟨x.r, by simp, hxm⟩)
      have e : R ++ [x.r] ++ hs = R ++ t0.revs := by rw [hts]; simp
      rw [e] at hw
      have hw2 : wk (R ++ t0.revs) at_ (R ++ t0.revs).length = R.length + 1 := by rw [hw]; simp
      have hglen : (dgens l).length = P.length + 1 + t'.length := by rw [hG]; simp; omega
      have htl : (R ++ t0.revs).length = R.length + 1 + hs.length := by rw [hts]; simp; omega
      unfold kkeep
      rw [kdel_of hgj hgx, kav_at hgj hgx, wkr_some hw2 (by rw [List.getElem?_append_right (Nat.le_refl _), Nat.sub_self, hts]; rfl)]
      dsimp only
      rw [hw2, htl, hglen]
      cases hxg : x.g with
      | true =>
        obtain ⟨e1, e2⟩ := c1 hxg
        have hpos : 0 < t'.length := Nat.pos_of_ne_zero (fun e => e2 (List.eq_nil_of_length_eq_zero e))
        rw [if_pos (decide_eq_true (by rw [e1]; simp; omega)), if_pos rfl]
      | false =>
        rw [decide_eq_false (show ¬ (0 < R.length + 1 + hs.length ∧ R.length + 1 = R.length + 1 + hs.length ∧ P.length + 1 ≠ P.length + 1 + t'.length) from fun hd => by
          have he : hs = [] := List.eq_nil_of_length_eq_zero (by omega)
          rw [c2 hxg he] at hd
          simp at hd)]
        rfl
    · rw [if_neg hg] at hck
      have hxg : x.g = true := by cases hq : x.g <;> simp_all
      rw [if_pos hxg]
      exact hB (by rw [hck, hn]) (fun a ha _ => by rw [hck, Nat.add_sub_cancel, hx] at ha; rw [← Option.some.inj ha]; exact hxg)
/-! one operation -/
def StAll (s : KI) (o : KOp) (s' : KI) (a : KA) : Prop := StBase s o s' a ∨ StComp s o s' a ∨
  (o.k = 2 ∧ emp s.gs = false ∧ 0 < s.gs.length ∧ (∀ g, s.gs[s.gs.length - 1]? = some g → 0 < g.revs.length) ∧ less s.md o.r ∧ Small s.gs ∧ Small (ktomb s o.r).gs ∧ s' = ktomb s o.r ∧ a = { KA0 with ok := true }) ∨
  (o.k = 2 ∧ emp s.gs = false ∧ 0 < s.gs.length ∧ (∀ g, s.gs[s.gs.length - 1]? = some g → g.revs.length = 0) ∧ Small s.gs ∧ s' = s ∧ a = KA0) ∨
  (o.k = 3 ∧ s.gs = [] ∧ s' = krest o.c o.r o.v ∧ a = { KA0 with ok := true }) ∨
  (o.k = 6 ∧ emp s.gs = false ∧ 0 < s.gs.length ∧ (∀ g ∈ s.gs, ∀ r ∈ g.revs, 1 ≤ r.m) ∧ (ksince s.gs o.at_).length ≤ 200000 ∧ Small s.gs ∧ s' = s ∧ a = { KA0 with revs := ksince s.gs o.at_ }) ∨
  (o.k = 8 ∧ emp s.gs = false ∧ 0 < s.gs.length ∧ Full s.gs ∧ Small s.gs ∧ s' = s ∧ a = { KA0 with revs := kkeep s o.at_ })
theorem small_nil : Small [] := ⟨Nat.zero_le _, fun g hg => by cases hg⟩
theorem small_rest (c r : Rv) (v : Int) : Small (krest c r v).gs := ⟨by show 1 ≤ 200000; omega, fun g hg => by rw [List.mem_singleton.1 hg]; show 1 ≤ 200000; omega⟩
theorem stAll_ok : StOk StAll := by
  intro b ka kn kc s o s' a h
  rcases h with h | h | ⟨h1, h2, h3, h4, h5, h6, h7, rfl, rfl⟩ | ⟨h1, h2, h3, h4, h5, rfl, rfl⟩ | ⟨h1, h2, rfl, rfl⟩ | ⟨h1, h2, h3, h4, h5, h6, rfl, rfl⟩ | ⟨h1, h2, h3, h4, h5, rfl, rfl⟩
  · exact stBase_ok b ka kn kc s o s' a h
  · exact stComp_ok b ka kn kc s o s' a h
  · exact keyed_tomb_yes b ka kn kc s h6 o h1 h2 h3 h4 h5 h7
  · exact keyed_tomb_no b ka kn kc s' h5 o h1 h2 h3 h4 h5
  · exact keyed_rest b ka kn kc s (by rw [h2]; exact small_nil) o h1 h2 (small_rest _ _ _)
  · exact keyed_since b ka kn kc s' h6 o h1 h2 h3 h4 h5 h6
  · exact keyed_keep b ka kn kc s' h5 o h1 h2 h3 h4 h5
theorem step_law {N : Int} {l : List Vn} (h : Wf N l) (hN : N ≤ 4611686018427388999) (hp : 0 < l.length) (hlen : l.length ≤ 50000) {i : Nat} {o : KOp} (hrf : ¬ refuse i l o) :
    StAll ⟨modi l, dgens l⟩ o ⟨modi (kdo l o).1, dgens (kdo l o).1⟩ (kdo l o).2.1 := by
  have hb1 : ¬ bad1 o := fun e => hrf (.inl e)
  have hb4 : ¬ bad4 l o := fun e => hrf (.inr (.inr (.inr e)))
  have he := emp_dgens h.links hp
  have hgp := dgens_pos hp
  have hfull := full_dgens h.links
  have hsm := small_dgens (l := l) (by omega)
  have hkl := kdo_len l o
  have hsm2 := small_dgens (l := (kdo l o).1) (by omega)
  unfold bad1 at hb1
  unfold bad4 at hb4
  by_cases k1 : o.k = 1
  · have hk : kdo l o = if less (modi l) o.r then (l ++ [putV l o.r], { KA0 with ok := true }, true) else (l, KA0, false) := by unfold kdo; rw [if_pos k1]
    by_cases hless : less (modi l) o.r
    · rw [if_pos hless] at hk
      rw [hk] at hsm2 ⊢
      dsimp only at hsm2 ⊢
      refine .inl (.inl ⟨k1, hless, hsm, ?_, (put_law l o.r).symm, rfl⟩)
      rw [put_law]; exact hsm2
    · rw [if_neg hless] at hk
      rw [hk] at hb4; simp at hb4
  by_cases k2 : o.k = 2
  · obtain ⟨x, hx⟩ : ∃ x, l[l.length - 1]? = some x := ⟨_, List.getElem?_eq_getElem (by omega)⟩
    have hlv := lives_at hx
    cases hg : x.g with
    | false =>
      rw [hg] at hlv
      have hk : kdo l o = if less (modi l) o.r then (l ++ [endV x o.r], { KA0 with ok := true }, true) else (l, KA0, false) := by unfold kdo; rw [if_neg k1, if_pos k2, hlv, hx]; rfl
      by_cases hless : less (modi l) o.r
      · rw [if_pos hless] at hk
        rw [hk] at hsm2 ⊢
        dsimp only at hsm2 ⊢
        refine .inr (.inr (.inl ⟨k2, he, hgp, fun g hgl => ?_, hless, hsm, ?_, (tomb_law hx hg o.r).symm, rfl⟩))
        · obtain ⟨a, z, rfl⟩ := snoc_of (l := l) (fun e => by rw [e] at hp; cases hp)
          obtain rfl : z = x := by simpa using hx
          obtain ⟨P, g0, e1, e2, e3⟩ := dstep_last (dgo a) z
          change (dgens (a ++ [z]))[(dgens (a ++ [z])).length - 1]? = some g at hgl
          rw [dgens_on hg, e1] at hgl
          obtain rfl : g0 = g := by simpa using hgl
          exact e3
        · rw [tomb_law hx hg]; exact hsm2
      · rw [if_neg hless] at hk
        rw [hk] at hb4; simp at hb4
    | true =>
      rw [hg] at hlv
      have hk : kdo l o = (l, KA0, true) := by unfold kdo; rw [if_neg k1, if_pos k2, hlv]; rfl
      rw [hk]
      refine .inr (.inr (.inr (.inl ⟨k2, he, hgp, fun g hgl => ?_, hsm, rfl, rfl⟩)))
      obtain ⟨a, z, rfl⟩ := snoc_of (l := l) (fun e => by rw [e] at hp; cases hp)
      obtain rfl : z = x := by simpa using hx
      change (dgens (a ++ [z]))[(dgens (a ++ [z])).length - 1]? = some g at hgl
      rw [dgens_off hg] at hgl
      obtain rfl : (⟨0, Rv0, []⟩ : Gn) = g := by simpa using hgl
      rfl
  by_cases k5 : o.k = 5
  · have hk : kdo l o = (l, ⟨(holdsV l o.at_).isSome, ((holdsV l o.at_).getD Vn0).r, ((holdsV l o.at_).getD Vn0).c, ((holdsV l o.at_).getD Vn0).v, []⟩, true) := by unfold kdo; rw [if_neg k1, if_neg k2, if_pos k5]
    rw [hk]
    refine .inl (.inr ⟨k5, he, hsm, rfl, ?_⟩)
    unfold kgetA
    rw [get_law h hN]
    cases holdsV l o.at_ <;> rfl
  by_cases k6 : o.k = 6
  · have hk : kdo l o = (l, { KA0 with revs := sinceV l o.at_ l.length }, true) := by unfold kdo; rw [if_neg k1, if_neg k2, if_neg k5, if_pos k6]
    rw [hk]
    have hs := since_law h o.at_
    refine .inr (.inr (.inr (.inr (.inr (.inl ⟨k6, he, hgp, fun g hg r hr => ?_, ?_, hsm, rfl, ?_⟩)))))
    · obtain ⟨a, ha, rfl⟩ := revs_mem hg hr
      exact (h.pos a ha).1
    · show (ksince (dgens l) o.at_).length ≤ _
      rw [hs]; have := since_len l o.at_ l.length; omega
    · show _ = ({ KA0 with revs := ksince (dgens l) o.at_ } : KA)
      rw [hs]
  by_cases k7 : o.k = 7
  · have hk : kdo l o = (comp l o.at_ l.length, { KA0 with revs := keptV l o.at_ true l.length }, true) := by unfold kdo; rw [if_neg k1, if_neg k2, if_neg k5, if_neg k6, if_pos k7]
    have hne : 0 < (comp l o.at_ l.length).length := by rw [hk] at hb4; dsimp only at hb4; omega
    rw [hk] at hsm2 ⊢
    dsimp only at hsm2 ⊢
    obtain ⟨c1, c2⟩ := comp_law h.rise h.links o.at_ hne
    refine .inr (.inl ⟨k7, he, hgp, hfull, hsm, ?_, c1.symm, ?_⟩)
    · rw [c1]; exact hsm2
    · rw [c2]
  · have k8 : o.k = 8 := by omega
    have hk : kdo l o = (l, { KA0 with revs := keptV l o.at_ false l.length }, true) := by unfold kdo; rw [if_neg k1, if_neg k2, if_neg k5, if_neg k6, if_neg k7, if_pos k8]
    rw [hk]
    refine .inr (.inr (.inr (.inr (.inr (.inr ⟨k8, he, hgp, hfull, hsm, rfl, ?_⟩)))))
    rw [keep_law h.rise h.links o.at_ hp]
theorem wf_mono {N M : Int} {l : List Vn} (h : Wf N l) (hNM : N ≤ M) : Wf M l := ⟨h.rise, h.links, h.pos, fun x hx => ⟨(h.ver x hx).1, by have := (h.ver x hx).2; omega⟩, h.nxt⟩
theorem wf_snoc {N : Int} {l : List Vn} {x : Vn} (h : Wf N l) (hr : Rise (l ++ [x])) (hl : Links (l ++ [x])) (hp : 1 ≤ x.r.m ∧ 0 ≤ x.r.s) (hv : 1 ≤ x.v ∧ x.v ≤ N + 1) (hn : ∀ a, l[l.length - 1]? = some a → (a.g = false → x.v = nx a.v) ∧ (a.g = true → x.c = x.r)) : Wf (N + 1) (l ++ [x]) where
  rise := hr
  links := hl
  pos := fun y hy => (List.mem_append.1 hy).elim (h.pos y) (fun hy => by rw [List.mem_singleton.1 hy]; exact hp)
  ver := fun y hy => (List.mem_append.1 hy).elim (fun hy => ⟨(h.ver y hy).1, by have := (h.ver y hy).2; omega⟩) (fun hy => by rw [List.mem_singleton.1 hy]; exact hv)
  nxt := fun i a b ha hb => by
    have hlt := (List.getElem?_eq_some_iff.1 hb).1
    rw [List.length_append, List.length_singleton] at hlt
    rw [List.getElem?_append_left (by omega)] at ha
    rcases Nat.lt_or_eq_of_le (Nat.le_of_lt_succ hlt) with h1 | h1
    · rw [List.getElem?_append_left h1] at hb
      exact h.nxt i a b ha hb
    · rw [List.getElem?_append_right (by omega), h1, Nat.sub_self] at hb
      obtain rfl : x = b := by simpa using hb
      exact hn a (by rw [show l.length - 1 = i from by omega]; exact ha)
theorem wf_step {N : Int} {l : List Vn} (h : Wf N l) (hN : N ≤ 4611686018427388999) (hN1 : 0 ≤ N) (hp : 0 < l.length) {i : Nat} {o : KOp} (hrf : ¬ refuse i l o) : Wf (N + 1) (kdo l o).1 := by
  have hb2 : ¬ bad2 i l o := fun e => hrf (.inr (.inl e))
  have hb3 : ¬ bad3 l o := fun e => hrf (.inr (.inr (.inl e)))
  have hr := kdo_rise (o := o) h.rise
  have hl := kdo_links h.rise h.links hb3
  obtain ⟨x, hx⟩ : ∃ x, l[l.length - 1]? = some x := ⟨_, List.getElem?_eq_getElem (by omega)⟩
  have hxv := h.ver x (List.mem_iff_getElem?.2 ⟨_, hx⟩)
  have hnx := nx_ok hxv.1 (by omega)
  have hlv := lives_at hx
  unfold bad2 at hb2
  by_cases k1 : o.k = 1
  · have hk : (kdo l o).1 = if less (modi l) o.r then l ++ [putV l o.r] else l := by unfold kdo; rw [if_pos k1]; split <;> rfl
    rw [hk] at hr hl ⊢
    split
    · rename_i hless
      rw [if_pos hless] at hr hl
      cases hg : x.g with
      | false =>
        have hpv := putV_go o.r hx hg
        rw [hpv] at hr hl ⊢
        refine wf_snoc h hr hl (by show 1 ≤ o.r.m ∧ 0 ≤ o.r.s; omega) (by show 1 ≤ nx x.v ∧ nx x.v ≤ N + 1; omega) (fun a ha => ?_)
        obtain rfl : x = a := by rw [hx] at ha; exact Option.some.inj ha
        exact ⟨fun _ => rfl, fun e => (by rw [hg] at e; cases e)⟩
      | true =>
        rw [hg] at hlv
        have hpv := putV_new o.r hlv
        rw [hpv] at hr hl ⊢
        refine wf_snoc h hr hl (by show 1 ≤ o.r.m ∧ 0 ≤ o.r.s; omega) (by show (1 : Int) ≤ 1 ∧ (1 : Int) ≤ N + 1; omega) (fun a ha => ?_)
        obtain rfl : x = a := by rw [hx] at ha; exact Option.some.inj ha
        exact ⟨fun e => (by rw [hg] at e; cases e), fun _ => rfl⟩
    · exact wf_mono h (by omega)
  by_cases k2 : o.k = 2
  · cases hg : x.g with
    | false =>
      rw [hg] at hlv
      have hk0 : kdo l o = if less (modi l) o.r then (l ++ [endV x o.r], { KA0 with ok := true }, true) else (l, KA0, false) := by unfold kdo; rw [if_neg k1, if_pos k2, hlv, hx]; rfl
      have hk : (kdo l o).1 = if less (modi l) o.r then l ++ [endV x o.r] else l := by rw [hk0]; split <;> rfl
      rw [hk] at hr hl ⊢
      split
      · rename_i hless
        rw [if_pos hless] at hr hl
        refine wf_snoc h hr hl (by show 1 ≤ o.r.m ∧ 0 ≤ o.r.s; omega) (by show 1 ≤ nx x.v ∧ nx x.v ≤ N + 1; omega) (fun a ha => ?_)
        obtain rfl : x = a := by rw [hx] at ha; exact Option.some.inj ha
        exact ⟨fun _ => rfl, fun e => (by rw [hg] at e; cases e)⟩
      · exact wf_mono h (by omega)
    | true =>
      rw [hg] at hlv
      have hk : (kdo l o).1 = l := by unfold kdo; rw [if_neg k1, if_pos k2, hlv]; rfl
      rw [hk]; exact wf_mono h (by omega)
  by_cases k7 : o.k = 7
  · have hk : (kdo l o).1 = comp l o.at_ l.length := by unfold kdo; rw [if_neg k1, if_neg k2, if_neg (by omega), if_neg (by omega), if_pos k7]
    rw [hk, comp_eq h.rise]
    exact wf_mono (wf_drop h _) (by omega)
  · have hk : (kdo l o).1 = l := by
      unfold kdo
      rw [if_neg k1, if_neg k2]
      split
      · rfl
      split
      · rfl
      first | (split <;> rfl) | (rw [if_neg k7]; split <;> rfl)
    rw [hk]; exact wf_mono h (by omega)
def toK (p : KA × List Vn) : KA × KI := (p.1, ⟨modi p.2, dgens p.2⟩)
theorem stAt_app {s : KI} {ans : List (KA × KI)} {x : KA × KI} : ∀ i, i ≤ ans.length → stAt s (ans ++ [x]) i = stAt s ans i
  | 0, _ => rfl
  | i + 1, h => by
    show (match (ans ++ [x])[i]? with | some x => x.2 | none => s) = (match ans[i]? with | some x => x.2 | none => s)
    rw [List.getElem?_append_left (by omega)]
/-- all operations -/
theorem runs_law {N : Int} {l0 : List Vn} (h0 : Wf N l0) (hN1 : 0 ≤ N) (hp0 : 0 < l0.length) (hl0 : l0.length ≤ 1000) : ∀ (n : Nat) (ops : List KOp), ops.length = n → n ≤ 1000 → N + n ≤ 4611686018427388999 → ∀ {l : List Vn} {aa : List (KA × List Vn)}, life l0 ops = some (l, aa) →
    Runs StAll ⟨modi l0, dgens l0⟩ ops (aa.map toK) ∧ stAt ⟨modi l0, dgens l0⟩ (aa.map toK) ops.length = ⟨modi l, dgens l⟩ ∧ Wf (N + n) l ∧ 0 < l.length ∧ l.length ≤ l0.length + n ∧ aa.length = n
  | 0, ops, hn, hn2, hN, l, aa, h => by
    rw [List.eq_nil_of_length_eq_zero hn] at h ⊢
    cases h
    refine ⟨⟨rfl, fun i o x ho => by cases ho⟩, rfl, ?_, hp0, Nat.le_refl _, rfl⟩
    have : N + ((0 : Nat) : Int) = N := by omega
    rw [this]; exact h0
  | n + 1, ops, hn, hn2, hN, l, aa, h => by
    obtain ⟨m, o, rfl⟩ := snoc_of (l := ops) (fun e => by rw [e] at hn; cases hn)
    have hmn : m.length = n := by simpa using hn
    rw [life_snoc] at h
    cases hm : life l0 m with
    | none => rw [hm] at h; cases h
    | some q =>
      obtain ⟨l1, a1⟩ := q
      rw [hm] at h
      unfold lstep at h
      dsimp only at h
      split at h
      · cases h
      · rename_i hrf
        cases h
        obtain ⟨i1, i2, i3, i4, i5, i6⟩ := runs_law h0 hN1 hp0 hl0 n m hmn (by omega) (by omega) hm
        have hst := step_law i3 (by omega) i4 (by omega) hrf
        have hwf := wf_step i3 (by omega) (by omega) i4 hrf
        have hb4 : ¬ bad4 l1 o := fun e => hrf (.inr (.inr (.inr e)))
        have hkl := kdo_len l1 o
        have hal : (a1.map toK).length = n := by rw [List.length_map]; exact i6
        rw [List.map_append, List.map_singleton]
        refine ⟨⟨?_, fun i p x hp hx => ?_⟩, ?_, ?_, ?_, by omega, by simp [i6]⟩
        · simp [hal, hmn]
        · rcases Nat.lt_or_ge i n with hi | hi
          · rw [List.getElem?_append_left (by omega)] at hp hx
            rw [stAt_app i (by omega)]
            exact i1.2 i p x hp hx
          · rw [List.getElem?_append_right (by omega)] at hp hx
            have hi2 : i = n := by
              have := (List.getElem?_eq_some_iff.1 hp).1
              simp at this; omega
            subst hi2
            rw [hmn, Nat.sub_self] at hp
            rw [hal, Nat.sub_self] at hx
            obtain rfl : o = p := by simpa using hp
            obtain rfl : toK ((kdo l1 o).2.1, (kdo l1 o).1) = x := by simpa using hx
            rw [stAt_app i (by omega), ← hmn, i2]
            exact hst
        · rw [List.length_append, List.length_singleton]
          refine stAt_step (x := toK ((kdo l1 o).2.1, (kdo l1 o).1)) ?_
          rw [List.getElem?_append_right (by omega), hal, hmn, Nat.sub_self]; rfl
        · have : N + ((n + 1 : Nat) : Int) = N + (n : Int) + 1 := by omega
          rw [this]; exact hwf
        · unfold bad4 at hb4; omega
theorem stAt_cons (s : KI) (x : KA × KI) (ans : List (KA × KI)) : ∀ i, i ≤ ans.length → stAt s (x :: ans) (i + 1) = stAt x.2 ans i
  | 0, _ => rfl
  | i + 1, h => by
    show (match (x :: ans)[i + 1]? with | some x => x.2 | none => s) = (match ans[i]? with | some y => y.2 | none => x.2)
    rw [List.getElem?_cons_succ, List.getElem?_eq_getElem (by omega)]
theorem runs_cons {St : Stp} {s : KI} {o : KOp} {x : KA × KI} {ops : List KOp} {ans : List (KA × KI)} (h1 : St s o x.2 x.1) (h2 : Runs St x.2 ops ans) : Runs St s (o :: ops) (x :: ans) := by
  refine ⟨by simp [h2.1], fun i p y hp hy => ?_⟩
  cases i with
  | zero =>
    obtain rfl : o = p := by simpa using hp
    obtain rfl : x = y := by simpa using hy
    exact h1
  | succ i =>
    rw [List.getElem?_cons_succ] at hp hy
    rw [stAt_cons s x ans i (by have := (List.getElem?_eq_some_iff.1 hy).1; omega)]
    exact h2.2 i p y hp hy
end Go.Proofs.Ythicijpjpijdjaa.KyU

namespace Go.Proofs.Ythicijpjpijdjaa.Lm
open Go.RowKit Go.Proofs.Ythicijpjpijdjaa Go.Proofs.Ythicijpjpijdjaa.Sl Go.Proofs.Ythicijpjpijdjaa.KyP Go.Proofs.Ythicijpjpijdjaa.Ka Go.Proofs.Ythicijpjpijdjaa.Kb Go.Proofs.Ythicijpjpijdjaa.Kc Go.Proofs.Ythicijpjpijdjaa.Kd Go.Proofs.Ythicijpjpijdjaa.Ke Go.Proofs.Ythicijpjpijdjaa.Kf Go.Proofs.Ythicijpjpijdjaa.Kg Go.Proofs.Ythicijpjpijdjaa.Kh Go.Proofs.Ythicijpjpijdjaa.Ki Go.Proofs.Ythicijpjpijdjaa.Kj Go.Proofs.Ythicijpjpijdjaa.Kk Go.Proofs.Ythicijpjpijdjaa.Kl Go.Proofs.Ythicijpjpijdjaa.Km Go.Proofs.Ythicijpjpijdjaa.Kn Go.Proofs.Ythicijpjpijdjaa.Ko Go.Proofs.Ythicijpjpijdjaa.Kp Go.Proofs.Ythicijpjpijdjaa.Kq Go.Proofs.Ythicijpjpijdjaa.Kr Go.Proofs.Ythicijpjpijdjaa.Ks Go.Proofs.Ythicijpjpijdjaa.Kt Go.Proofs.Ythicijpjpijdjaa.Ku Go.Proofs.Ythicijpjpijdjaa.Kv Go.Proofs.Ythicijpjpijdjaa.Kw Go.Proofs.Ythicijpjpijdjaa.Kx Go.Proofs.Ythicijpjpijdjaa.Ky Go.Proofs.Ythicijpjpijdjaa.Kz Go.Proofs.Ythicijpjpijdjaa.La Go.Proofs.Ythicijpjpijdjaa.Lb Go.Proofs.Ythicijpjpijdjaa.Lc Go.Proofs.Ythicijpjpijdjaa.Ld Go.Proofs.Ythicijpjpijdjaa.Le Go.Proofs.Ythicijpjpijdjaa.Lf Go.Proofs.Ythicijpjpijdjaa.Lg Go.Proofs.Ythicijpjpijdjaa.Lh Go.Proofs.Ythicijpjpijdjaa.KyQ Go.Proofs.Ythicijpjpijdjaa.KyR Go.Proofs.Ythicijpjpijdjaa.Li Go.Proofs.Ythicijpjpijdjaa.Lj Go.Proofs.Ythicijpjpijdjaa.Lk Go.Proofs.Ythicijpjpijdjaa.Ll Go.Proofs.Ythicijpjpijdjaa.KyS Go.Proofs.Ythicijpjpijdjaa.KyT Go.Proofs.Ythicijpjpijdjaa.KyU
set_option linter.unusedVariables false
set_option linter.unusedSimpArgs false
set_option linter.unusedSectionVars false


section
variable {n : Nat} {l : List (Nat × Value)} {G : World → Prop} {o : Oper}
theorem Val.eqRvS {u : TypeId} {x y : Operand} (a : Rv) (ho : o.op = .binOp .eql 32 x y u) (hx : ev l x = some (.agg #[.int .i64 a.m, .int .i64 a.s])) (hy : ev l y = some (.agg #[.int .i64 a.m, .int .i64 a.s])) : Val Try.prog n l G o (.bool true) := by
  have h := Val.eqRv (n := n) (G := G) a a ho hx hy
  rwa [rveq_self] at h
theorem Val.eqSameI {t u : TypeId} {x y : Operand} {k : IntKind} {p : Int} (ho : o.op = .binOp .eql t x y u) (hx : ev l x = some (.int k p)) (hy : ev l y = some (.int k p)) : Val Try.prog n l G o (.bool true) := by
  have h := Val.eql (n := n) (P := Try.prog) (G := G) ho hx hy
  rwa [decide_eq_true rfl] at h
theorem Val.eqSameB {t u : TypeId} {x y : Operand} {p : Bool} (ho : o.op = .binOp .eql t x y u) (ht : isBool Try.prog t = true) (hx : ev l x = some (.bool p)) (hy : ev l y = some (.bool p)) : Val Try.prog n l G o (.bool true) := fun a w hf hs => by
  have := Val.eqlB (G := G) ho ht hx hy a w hf hs
  rwa [beq_self_eq_true] at this
end
/-- an answer in a row -/
structure AR where
  a : KA
  md : Rv
  vr : Value
  vg : Value
  gl : List GV
def AR.cells (x : AR) : List Value := [.bool x.a.ok, .int .i64 x.a.mod.m, .int .i64 x.a.mod.s, .int .i64 x.a.cre.m, .int .i64 x.a.cre.s, .int .i64 x.a.ver, x.vr, .int .i64 x.md.m, .int .i64 x.md.s, x.vg]
theorem AR.len (x : AR) : x.cells.length = 10 := rfl
def AR.key (x : AR) : KA × Rv × List Gn := (x.a, x.md, x.gl.map (·.1))
def ARP (x : AR) : HProp := Sep [Own 32 2 x.vr x.a.revs.length (flatOf Rv.cells x.a.revs), Own 53 4 x.vg x.gl.length (flatOf GV.cells x.gl), Kds (GVPe 32) x.gl]
def WK.ar (x : WK) : AR := ⟨x.a, x.s.md, x.vr, x.vg, x.gl⟩
def WA.ar (x : WA) : AR := ⟨x.a, modi x.lb, x.vr, x.vg, x.gl⟩
theorem kds_wk (was : List WK) : Kds WKP was = Kds ARP (was.map WK.ar) := by unfold Kds; rw [List.map_map]; rfl
theorem kds_wa (was : List WA) : Kds WAP was = Kds ARP (was.map WA.ar) := by unfold Kds; rw [List.map_map]; rfl
theorem flat_wk (was : List WK) : flatOf WK.cells was = flatOf AR.cells (was.map WK.ar) := by unfold flatOf; rw [List.flatMap_map]; rfl
theorem flat_wa (was : List WA) : flatOf WA.cells was = flatOf AR.cells (was.map WA.ar) := by unfold flatOf; rw [List.flatMap_map]; rfl
/-- what answers hold can be read -/
def RdI (E : HProp) (l : List AR) : Prop := ∀ x ∈ l, Rd E 2 Rv.cells x.vr x.a.revs ∧ RdG E x.vg x.gl
theorem RdI.mono {A B : HProp} {l : List AR} (hi : ∀ w, Holds B w → Holds A w) (h : RdI A l) : RdI B l := fun x hx => ⟨(h x hx).1.mono hi, RdG.mono hi (h x hx).2⟩
theorem ars_rd {W : World} : ∀ (l : List AR) (w : World) (L : List HProp), Sat W (Kds ARP l :: L) w → ∃ E : HProp, Sat W (Pure (RdI E l) :: E :: L) w
  | [], w, L, h => ⟨Pure True, Sat.pure_mk (fun x hx => by cases hx) (Sat.pure_mk trivial h.drop)⟩
  | x :: l, w, L, h => by
    have h1 := h.kCons
    have h2 : Sat W (Own 32 2 x.vr x.a.revs.length (flatOf Rv.cells x.a.revs) :: Own 53 4 x.vg x.gl.length (flatOf GV.cells x.gl) :: Kds (GVPe 32) x.gl :: Kds ARP l :: L) w := h1.sep
    obtain ⟨A, hA, h3, -⟩ := own_rdB (cf := Rv.cells) (l := x.a.revs) Rv.len h2
    have h4 : Sat W (Own 53 4 x.vg x.gl.length (flatOf GV.cells x.gl) :: Kds (GVPe 32) x.gl :: A :: Kds ARP l :: L) w := h3.perm ((List.Perm.swap _ _ _).trans (List.Perm.cons _ (List.Perm.swap _ _ _)))
    obtain ⟨B, hB, h5, -⟩ := gens_rd h4
    have h6 : Sat W (Kds ARP l :: B :: A :: L) w := h5.perm ((List.Perm.cons _ (List.Perm.swap _ _ _)).trans (List.Perm.swap _ _ _))
    obtain ⟨E, hE⟩ := ars_rd l w (B :: A :: L) h6
    have hE1 := hE.pure
    have h7 : Sat W ([Sep [B, A], E] ++ L) w := by
      have h8 : Sat W (B :: A :: E :: L) w := hE.drop.perm ((List.Perm.swap _ _ _).trans (List.Perm.cons _ (List.Perm.swap _ _ _)))
      exact Sat.sep_mk (M := [B, A]) h8
    refine ⟨Sep [Sep [B, A], E], Sat.pure_mk ?_ (Sat.sep_mk h7)⟩
    intro y hy
    rcases List.mem_cons.1 hy with rfl | hy
    · exact ⟨hA.mono (fun w hw => Holds.sep2b (Holds.sep2a hw)), RdG.mono (fun w hw => Holds.sep2a (Holds.sep2a hw)) hB⟩
    · exact ⟨(hE1 y hy).1.mono (fun w hw => Holds.sep2b hw), RdG.mono (fun w hw => Holds.sep2b hw) (hE1 y hy).2⟩
def ARok (x : AR) : Prop := x.a.revs.length ≤ 200000 ∧ Small (x.gl.map (·.1))
set_option maxRecDepth 100000 in
set_option maxHeartbeats 2000000 in
theorem same_slice (E : HProp) (a : KA) (md : Rv) (gl hl : List GV) (heq : gl.map (·.1) = hl.map (·.1)) (hok : a.revs.length ≤ 200000 ∧ Small (gl.map (·.1))) (ra ta ga ha : Option Addr) (rc tc gc hc : Nat) (hr1 : Rd E 2 Rv.cells (.slice ra a.revs.length rc) a.revs) (hr2 : Rd E 2 Rv.cells (.slice ta a.revs.length tc) a.revs) (hg1 : RdG E (.slice ga gl.length gc) gl) (hg2 : RdG E (.slice ha hl.length hc) hl) : Does Try.prog 36 [.agg #[.bool (a.ok), .int .i64 (a.mod.m), .int .i64 (a.mod.s), .int .i64 (a.cre.m), .int .i64 (a.cre.s), .int .i64 (a.ver), .slice ra a.revs.length rc, .int .i64 (md.m), .int .i64 (md.s), .slice ga gl.length gc], .agg #[.bool (a.ok), .int .i64 (a.mod.m), .int .i64 (a.mod.s), .int .i64 (a.cre.m), .int .i64 (a.cre.s), .int .i64 (a.ver), .slice ta a.revs.length tc, .int .i64 (md.m), .int .i64 (md.s), .slice ha hl.length hc]] [E] (fun v L => v = .bool true ∧ L = [E]) := by
  refine Does.enter 45 Try.func36 rfl rfl rfl fun W F => ?_
  show WPc _ _ _ _ _ [(0, .agg #[.bool (a.ok), .int .i64 (a.mod.m), .int .i64 (a.mod.s), .int .i64 (a.cre.m), .int .i64 (a.cre.s), .int .i64 (a.ver), .slice ra a.revs.length rc, .int .i64 (md.m), .int .i64 (md.s), .slice ga gl.length gc]), (1, .agg #[.bool (a.ok), .int .i64 (a.mod.m), .int .i64 (a.mod.s), .int .i64 (a.cre.m), .int .i64 (a.cre.s), .int .i64 (a.ver), .slice ta a.revs.length tc, .int .i64 (md.m), .int .i64 (md.s), .slice ha hl.length hc])] (E :: F)
  refine WPc.seq ?_
  refine WPc.region ?_
  refine WP.eff rfl rfl rfl (Eff.box (C := [.bool (a.ok), .int .i64 (a.mod.m), .int .i64 (a.mod.s), .int .i64 (a.cre.m), .int .i64 (a.cre.s), .int .i64 (a.ver), .slice ra a.revs.length rc, .int .i64 (md.m), .int .i64 (md.s), .slice ga gl.length gc]) rfl rfl rfl) ?_
  rintro _ _ ⟨b1, rfl, rfl⟩
  refine WP.eff rfl rfl rfl (Eff.box (C := [.bool (a.ok), .int .i64 (a.mod.m), .int .i64 (a.mod.s), .int .i64 (a.cre.m), .int .i64 (a.cre.s), .int .i64 (a.ver), .slice ta a.revs.length tc, .int .i64 (md.m), .int .i64 (md.s), .slice ha hl.length hc]) rfl rfl rfl) ?_
  rintro _ _ ⟨b2, rfl, rfl⟩
  refine WP.val rfl rfl rfl (Val.assign rfl rfl) ?_
  refine WP.nil ?_
  refine Out.next ?_
  refine WPc.seq ?_
  refine WPc.region ?_
  refine WP.val rfl rfl rfl (Val.fieldAddr (j := 0) rfl Ty.fo42_0 rfl rfl) ?_
  refine WP.val rfl rfl rfl (Val.load rfl Ty.sc4 rfl (fun w h => h.cell 1 rfl rfl)) ?_
  refine WP.val rfl rfl rfl (Val.fieldAddr (j := 0) rfl Ty.fo42_0 rfl rfl) ?_
  refine WP.val rfl rfl rfl (Val.load rfl Ty.sc4 rfl (fun w h => h.cell 0 rfl rfl)) ?_
  refine WP.val rfl rfl rfl (Val.eqSameB rfl Ty2.bo4 rfl rfl) ?_
  refine WP.val rfl rfl rfl (Val.move rfl rfl) ?_
  refine WP.valG rfl rfl rfl rfl rfl rfl rfl (Val.fieldAddr (j := 1) rfl Ty.fo42_1 rfl rfl) ?_
  refine WP.valG rfl rfl rfl rfl rfl rfl rfl (Val.loadAgg (cs := [.int .i64 (a.mod.m), .int .i64 (a.mod.s)]) rfl Ty.ag32 rfl rfl (fun w h => h.range 1 rfl rfl)) ?_
  refine WP.valG rfl rfl rfl rfl rfl rfl rfl (Val.fieldAddr (j := 1) rfl Ty.fo42_1 rfl rfl) ?_
  refine WP.valG rfl rfl rfl rfl rfl rfl rfl (Val.loadAgg (cs := [.int .i64 (a.mod.m), .int .i64 (a.mod.s)]) rfl Ty.ag32 rfl rfl (fun w h => h.range 0 rfl rfl)) ?_
  refine WP.valG rfl rfl rfl rfl rfl rfl rfl (Val.eqRvS a.mod rfl rfl rfl) ?_
  refine WP.val rfl rfl rfl (Val.pickT rfl rfl rfl) ?_
  refine WP.val rfl rfl rfl (Val.move rfl rfl) ?_
  refine WP.valG rfl rfl rfl rfl rfl rfl rfl (Val.fieldAddr (j := 3) rfl Ty.fo42_2 rfl rfl) ?_
  refine WP.valG rfl rfl rfl rfl rfl rfl rfl (Val.loadAgg (cs := [.int .i64 (a.cre.m), .int .i64 (a.cre.s)]) rfl Ty.ag32 rfl rfl (fun w h => h.range 1 rfl rfl)) ?_
  refine WP.valG rfl rfl rfl rfl rfl rfl rfl (Val.fieldAddr (j := 3) rfl Ty.fo42_2 rfl rfl) ?_
  refine WP.valG rfl rfl rfl rfl rfl rfl rfl (Val.loadAgg (cs := [.int .i64 (a.cre.m), .int .i64 (a.cre.s)]) rfl Ty.ag32 rfl rfl (fun w h => h.range 0 rfl rfl)) ?_
  refine WP.valG rfl rfl rfl rfl rfl rfl rfl (Val.eqRvS a.cre rfl rfl rfl) ?_
  refine WP.val rfl rfl rfl (Val.pickT rfl rfl rfl) ?_
  refine WP.val rfl rfl rfl (Val.move rfl rfl) ?_
  refine WP.valG rfl rfl rfl rfl rfl rfl rfl (Val.fieldAddr (j := 5) rfl Ty.fo42_3 rfl rfl) ?_
  refine WP.valG rfl rfl rfl rfl rfl rfl rfl (Val.load rfl Ty.sc2 rfl (fun w h => h.cell 1 rfl rfl)) ?_
  refine WP.valG rfl rfl rfl rfl rfl rfl rfl (Val.fieldAddr (j := 5) rfl Ty.fo42_3 rfl rfl) ?_
  refine WP.valG rfl rfl rfl rfl rfl rfl rfl (Val.load rfl Ty.sc2 rfl (fun w h => h.cell 0 rfl rfl)) ?_
  refine WP.valG rfl rfl rfl rfl rfl rfl rfl (Val.eqSameI rfl rfl rfl) ?_
  refine WP.val rfl rfl rfl (Val.pickT rfl rfl rfl) ?_
  refine WP.val rfl rfl rfl (Val.move rfl rfl) ?_
  refine WP.valG rfl rfl rfl rfl rfl rfl rfl (Val.fieldAddr (j := 6) rfl Ty.fo42_4 rfl rfl) ?_
  refine WP.valG rfl rfl rfl rfl rfl rfl rfl (Val.load rfl Ty.sc40 rfl (fun w h => h.cell 1 rfl rfl)) ?_
  refine WP.valG rfl rfl rfl rfl rfl rfl rfl (Val.fieldAddr (j := 6) rfl Ty.fo42_4 rfl rfl) ?_
  refine WP.valG rfl rfl rfl rfl rfl rfl rfl (Val.load rfl Ty.sc40 rfl (fun w h => h.cell 0 rfl rfl)) ?_
  refine WP.perm pl2 ?_
  refine WP.effG rfl rfl rfl rfl rfl rfl rfl (Eff.call rfl rfl Try.call13 (sameRevs_spec E a.revs hok.1 _ _ hr1 hr2)) ?_
  rintro _ _ ⟨_, ⟨rfl, rfl⟩, rfl⟩
  show WP _ _ _ _ _ _ _ (E :: Blk b2 [.bool (a.ok), .int .i64 (a.mod.m), .int .i64 (a.mod.s), .int .i64 (a.cre.m), .int .i64 (a.cre.s), .int .i64 (a.ver), .slice ta a.revs.length tc, .int .i64 (md.m), .int .i64 (md.s), .slice ha hl.length hc] 42 :: Blk b1 [.bool (a.ok), .int .i64 (a.mod.m), .int .i64 (a.mod.s), .int .i64 (a.cre.m), .int .i64 (a.cre.s), .int .i64 (a.ver), .slice ra a.revs.length rc, .int .i64 (md.m), .int .i64 (md.s), .slice ga gl.length gc] 42 :: F)
  refine WP.val rfl rfl rfl (Val.pickT rfl rfl rfl) ?_
  refine WP.val rfl rfl rfl (Val.move rfl rfl) ?_
  refine WP.valG rfl rfl rfl rfl rfl rfl rfl (Val.fieldAddr (j := 7) rfl Ty.fo42_5 rfl rfl) ?_
  refine WP.valG rfl rfl rfl rfl rfl rfl rfl (Val.loadAgg (cs := [.int .i64 (md.m), .int .i64 (md.s), .slice ga gl.length gc]) rfl Ty.ag35 rfl rfl (fun w h => h.range 2 rfl rfl)) ?_
  refine WP.valG rfl rfl rfl rfl rfl rfl rfl (Val.fieldAddr (j := 7) rfl Ty.fo42_5 rfl rfl) ?_
  refine WP.valG rfl rfl rfl rfl rfl rfl rfl (Val.loadAgg (cs := [.int .i64 (md.m), .int .i64 (md.s), .slice ha hl.length hc]) rfl Ty.ag35 rfl rfl (fun w h => h.range 1 rfl rfl)) ?_
  refine WP.effG rfl rfl rfl rfl rfl rfl rfl (Eff.call rfl rfl Try.call12 (sameDump_spec E md gl hl heq hok.2 _ _ hg1 hg2)) ?_
  rintro _ _ ⟨_, ⟨rfl, rfl⟩, rfl⟩
  show WP _ _ _ _ _ _ _ (E :: Blk b2 [.bool (a.ok), .int .i64 (a.mod.m), .int .i64 (a.mod.s), .int .i64 (a.cre.m), .int .i64 (a.cre.s), .int .i64 (a.ver), .slice ta a.revs.length tc, .int .i64 (md.m), .int .i64 (md.s), .slice ha hl.length hc] 42 :: Blk b1 [.bool (a.ok), .int .i64 (a.mod.m), .int .i64 (a.mod.s), .int .i64 (a.cre.m), .int .i64 (a.cre.s), .int .i64 (a.ver), .slice ra a.revs.length rc, .int .i64 (md.m), .int .i64 (md.s), .slice ga gl.length gc] 42 :: F)
  refine WP.val rfl rfl rfl (Val.pickT rfl rfl rfl) ?_
  refine WP.val rfl rfl rfl (Val.assign rfl rfl) ?_
  refine WP.nil ?_
  refine Out.next ?_
  refine WPc.ret ?_
  refine Out.perm pl1 ?_
  refine Out.drop ?_
  refine Out.perm pl1 ?_
  refine Out.drop ?_
  exact Out.ret1 (L' := _) Try.results36 rfl ⟨rfl, rfl⟩ (fun _ h => h)

theorem same_spec (E : HProp) (x y : AR) (he : x.key = y.key) (hok : ARok x) (hx : Rd E 2 Rv.cells x.vr x.a.revs ∧ RdG E x.vg x.gl) (hy : Rd E 2 Rv.cells y.vr y.a.revs ∧ RdG E y.vg y.gl) : Does Try.prog 36 [.agg x.cells.toArray, .agg y.cells.toArray] [E] (fun v L => v = .bool true ∧ L = [E]) := by
  obtain ⟨a, md, vr, vg, gl⟩ := x
  obtain ⟨a2, md2, vr2, vg2, gl2⟩ := y
  simp only [AR.key, Prod.mk.injEq] at he
  obtain ⟨rfl, rfl, heq⟩ := he
  obtain ⟨ra, rc, h1⟩ := Rd.slice hx.1
  obtain ⟨ta, tc, h2⟩ := Rd.slice hy.1
  obtain ⟨ga, gc, h3⟩ := Rd.slice hx.2.rd
  obtain ⟨ha, hc, h4⟩ := Rd.slice hy.2.rd
  dsimp only at h1 h2 h3 h4
  subst h1 h2 h3 h4
  exact same_slice E a md gl gl2 heq hok ra ta ga ha rc tc gc hc hx.1 hy.1 hx.2 hy.2
set_option maxRecDepth 100000 in
set_option maxHeartbeats 2000000 in
theorem alike_spec (E : HProp) (l m : List AR) (heq : l.map AR.key = m.map AR.key) (hll : l.length ≤ 100000) (hok : ∀ x ∈ l, ARok x) (hil : RdI E l) (him : RdI E m) (va vb : Value) (hva : Rd E 10 AR.cells va l) (hvb : Rd E 10 AR.cells vb m) : Does Try.prog 17 [va, vb] [E] (fun v L => v = .bool true ∧ L = [E]) := by
  refine Does.enter 27 Try.func17 rfl rfl rfl fun W F => ?_
  show WPc _ _ _ _ _ [(0, va), (1, vb)] (E :: F)
  refine WPc.seq ?_
  refine WPc.region ?_
  refine WP.val rfl rfl rfl (Val.assign rfl rfl) ?_
  refine WP.nil ?_
  refine Out.next ?_
  refine WPc.seq ?_
  refine WPc.seq ?_
  have hml : m.length = l.length := by have h9 := congrArg List.length heq; simpa using h9.symm
  refine WPc.region ?_
  refine WP.val rfl rfl rfl (Val.move rfl rfl) ?_
  refine WP.val rfl rfl rfl (Rd.len hva rfl Ty.sl24 rfl) ?_
  refine WP.val rfl rfl rfl (Val.move rfl rfl) ?_
  refine WP.val rfl rfl rfl (Rd.len hvb rfl Ty.sl24 rfl) ?_
  refine WP.val rfl rfl rfl (Val.neq rfl rfl rfl) ?_
  refine WP.nil ?_
  refine Out.next ?_
  refine WPc.ifP rfl (fun h1 => ?_) (fun h1 => ?_)
  · skip
    have h1 : (((l.length : Nat) : Int) ≠ ((m.length : Nat) : Int)) := h1
    exfalso; omega
  · skip
    have h1 : ¬ (((l.length : Nat) : Int) ≠ ((m.length : Nat) : Int)) := h1
    refine WPc.skip ?_
    refine Out.next ?_
    refine WPc.seq ?_
    refine WPc.seq ?_
    refine WPc.region ?_
    refine WP.val rfl rfl rfl (Val.move rfl rfl) ?_
    refine WP.val rfl rfl rfl (Rd.len hva rfl Ty.sl24 rfl) ?_
    refine WP.val rfl rfl rfl (Val.move rfl rfl) ?_
    refine WP.nil ?_
    refine Out.next ?_
    refine WPc.block ?_
    refine WPc.loop (ι := Nat) (fun i => i ≤ l.length) (fun i => [(0, va), (1, vb), (12, .int .i64 (((l.length : Nat) : Int))), (13, .int .i64 (((i : Nat) : Int)))]) (fun i => E :: F) (fun i => l.length - i) 0 (Nat.zero_le _) ((Sub.cons rfl (Sub.cons rfl (Sub.cons rfl (Sub.cons rfl Sub.nil))))) (fun _ h => h) ?_
    rintro i hi
    show WPc _ _ _ _ _ [(0, va), (1, vb), (12, .int .i64 (((l.length : Nat) : Int))), (13, .int .i64 (((i : Nat) : Int)))] (E :: F)
    replace hi : i ≤ l.length := hi
    refine WPc.seq ?_
    refine WPc.region ?_
    refine WP.val rfl rfl rfl (Val.lss rfl rfl rfl) ?_
    refine WP.nil ?_
    refine Out.next ?_
    refine WPc.seq ?_
    refine WPc.ifP rfl (fun h2 => ?_) (fun h2 => ?_)
    · skip
      have h2 : (((i : Nat) : Int) < ((l.length : Nat) : Int)) := h2
      refine WPc.skip ?_
      refine Out.next ?_
      refine WPc.seq ?_
      refine WPc.block ?_
      refine WPc.seq ?_
      refine WPc.region ?_
      refine WP.val rfl rfl rfl (Val.move rfl rfl) ?_
      refine WP.val rfl rfl rfl (Val.assign rfl rfl) ?_
      refine WP.nil ?_
      refine Out.next ?_
      refine WPc.seq ?_
      obtain ⟨x, hx⟩ : ∃ x, l[i]? = some x := ⟨_, List.getElem?_eq_getElem (by omega)⟩
      obtain ⟨y, hy⟩ : ∃ x, m[i]? = some x := ⟨_, List.getElem?_eq_getElem (by omega)⟩
      have hxy : x.key = y.key := by have h9 := congrArg (fun q => q[i]?) heq; simp only [List.getElem?_map, hx, hy, Option.map_some] at h9; exact Option.some.inj h9
      have hxm := List.mem_iff_getElem?.2 ⟨_, hx⟩
      have hym := List.mem_iff_getElem?.2 ⟨_, hy⟩
      obtain ⟨b0, o0, c0, rfl, hr⟩ := Rd.row hva (by omega)
      obtain ⟨b1, o1, c1, rfl, hr1⟩ := Rd.row hvb (by omega)
      refine WPD.start (Sat W (E :: F)) Ty.mixed ?_
      refine WPD.takeM 0 rfl rfl rfl rfl (by kernel_rfl) (by kernel_rfl) (by kernel_rfl) (by kernel_rfl) (fun _ _ _ h => h) (fun _ h => h) (Val.move rfl rfl) ?_
      refine WPD.takeM 1 rfl rfl rfl rfl (by kernel_rfl) (by kernel_rfl) (by kernel_rfl) (by kernel_rfl) (fun _ _ _ h => h) (fun _ h => h) (Val.move rfl rfl) ?_
      refine WPD.takeM 2 rfl rfl rfl rfl (by kernel_rfl) (by kernel_rfl) (by kernel_rfl) (by kernel_rfl) (fun _ _ _ h => h) (fun _ h => h) (Val.indexAddr (j := i) (q := o0 + i * 10) rfl Ty.sl24 rfl rfl (by omega) (by omega) (by omega)) ?_
      refine WPD.take 3 rfl rfl rfl rfl (by kernel_rfl) (by kernel_rfl) (by kernel_rfl) (by kernel_rfl) (fun _ _ _ h => h) (by kernel_rfl) (fun _ h => h) (Val.loadAgg (cs := (AR.cells x)) rfl Ty.ag42 rfl (by rfl) (fun w h => hr w (h.at 0 rfl) i x hx)) ?_
      refine WPD.takeM 4 rfl rfl rfl rfl (by kernel_rfl) (by kernel_rfl) (by kernel_rfl) (by kernel_rfl) (fun _ _ _ h => h) (fun _ h => h) (Val.move rfl rfl) ?_
      refine WPD.takeM 5 rfl rfl rfl rfl (by kernel_rfl) (by kernel_rfl) (by kernel_rfl) (by kernel_rfl) (fun _ _ _ h => h) (fun _ h => h) (Val.move rfl rfl) ?_
      refine WPD.takeM 6 rfl rfl rfl rfl (by kernel_rfl) (by kernel_rfl) (by kernel_rfl) (by kernel_rfl) (fun _ _ _ h => h) (fun _ h => h) (Val.indexAddr (j := i) (q := o1 + i * 10) rfl Ty.sl24 rfl rfl (by omega) (by omega) (by omega)) ?_
      refine WPD.take 7 rfl rfl rfl rfl (by kernel_rfl) (by kernel_rfl) (by kernel_rfl) (by kernel_rfl) (fun _ _ _ h => h) (by kernel_rfl) (fun _ h => h) (Val.loadAgg (cs := (AR.cells y)) rfl Ty.ag42 rfl (by rfl) (fun w h => hr1 w (h.at 0 rfl) i y hy)) ?_
      refine WPD.stepC 8 (by kernel_rfl) rfl rfl rfl rfl (by kernel_rfl) (Eff.call rfl rfl Try.call36 (same_spec E x y hxy (hok x hxm) (hil x hxm) (him y hym))) ?_
      rintro _ _ ⟨_, ⟨rfl, rfl⟩, rfl⟩
      refine ⟨(Sat W (E :: F)), (fun _ h => h), ?_⟩
      show WPD _ _ _ _ _ _ _ _ _ (E :: F)
      refine WPD.takeM 9 rfl rfl rfl rfl (by kernel_rfl) (by kernel_rfl) (by kernel_rfl) (by kernel_rfl) (fun _ _ _ h => h) (fun _ h => h) (Val.not rfl rfl) ?_
      refine WPD.done (by kernel_rfl) ?_
      refine Out.next ?_
      refine WPc.condF rfl rfl ?_
      refine WPc.skip ?_
      refine Out.block ?_
      refine Out.next ?_
      refine WPc.region ?_
      refine WP.val rfl rfl rfl (Val.add (z := ((i + 1 : Nat) : Int)) rfl rfl rfl ((w64 (by omega) (by omega)).trans (by omega))) ?_
      refine WP.val rfl rfl rfl (Val.move rfl rfl) ?_
      refine WP.nil ?_
      refine Out.again (i + 1) ?_ ?_ ?_ ?_
      · exact (by first | omega | (dsimp only; omega))
      · first | omega | (dsimp only; omega)
      · exact (Sub.cons rfl (Sub.cons rfl (Sub.cons rfl (Sub.cons rfl Sub.nil))))
      · exact (fun _ h => h)
    · skip
      have h2 : ¬ (((i : Nat) : Int) < ((l.length : Nat) : Int)) := h2
      refine WPc.exit ?_
      refine Out.then_exit ?_
      refine Out.then_exit ?_
      refine Out.block_exit ?_
      refine Out.next ?_
      refine WPc.seq ?_
      refine WPc.region ?_
      refine WP.val rfl rfl rfl (Val.assign rfl rfl) ?_
      refine WP.nil ?_
      refine Out.next ?_
      refine WPc.ret ?_
      exact Out.ret1 (L' := _) Try.results17 rfl ⟨rfl, rfl⟩ (fun _ h => h)

end Go.Proofs.Ythicijpjpijdjaa.Lm

