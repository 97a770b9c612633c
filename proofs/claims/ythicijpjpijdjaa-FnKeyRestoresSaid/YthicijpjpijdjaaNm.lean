import Derived.Test.YthicijpjpijdjaaNl
namespace Go.Proofs.Ythicijpjpijdjaa.KyR
open Go.RowKit Go.Proofs.Ythicijpjpijdjaa Go.Proofs.Ythicijpjpijdjaa.Sl Go.Proofs.Ythicijpjpijdjaa.KyP Go.Proofs.Ythicijpjpijdjaa.KyQ Go.Proofs.Ythicijpjpijdjaa.Ka Go.Proofs.Ythicijpjpijdjaa.Ke Go.Proofs.Ythicijpjpijdjaa.Kg Go.Proofs.Ythicijpjpijdjaa.Ki Go.Proofs.Ythicijpjpijdjaa.Kl Go.Proofs.Ythicijpjpijdjaa.Km Go.Proofs.Ythicijpjpijdjaa.Kn Go.Proofs.Ythicijpjpijdjaa.Kp Go.Proofs.Ythicijpjpijdjaa.Ku Go.Proofs.Ythicijpjpijdjaa.Kv Go.Proofs.Ythicijpjpijdjaa.Lc Go.Proofs.Ythicijpjpijdjaa.Le Go.Proofs.Ythicijpjpijdjaa.Lf
set_option linter.unusedVariables false
set_option linter.unusedSimpArgs false
theorem wk_split {A B : List Rv} {at_ : Int} (hB : ∀ y ∈ B, at_ < y.m) (hA : A = [] ∨ ∃ y, A[A.length - 1]? = some y ∧ y.m ≤ at_) : wk (A ++ B) at_ (A ++ B).length = A.length := by
  have h1 : ∀ j, j ≤ B.length → wk (A ++ B) at_ (A.length + j) = wk (A ++ B) at_ A.length := by
    intro j
    induction j with
    | zero => intro _; rfl
    | succ j ih =>
      intro hj
      obtain ⟨y, hy⟩ : ∃ y, B[j]? = some y := ⟨_, List.getElem?_eq_getElem (by omega)⟩
      have h2 : (A ++ B)[A.length + j]? = some y := by rw [List.getElem?_append_right (by omega), Nat.add_sub_cancel_left]; exact hy
      rw [← Nat.add_assoc, wk_step h2, if_pos (hB y (List.mem_iff_getElem?.2 ⟨_, hy⟩)), ih (by omega)]
  rw [List.length_append, h1 _ (Nat.le_refl _)]
  rcases hA with rfl | ⟨y, hy, hm⟩
  · rfl
  · have hlt := (List.getElem?_eq_some_iff.1 hy).1
    have h2 : (A ++ B)[A.length - 1]? = some y := by rw [List.getElem?_append_left (by omega)]; exact hy
    have h3 := wk_step (at_ := at_) h2
    rw [show A.length - 1 + 1 = A.length from by omega, if_neg (by omega)] at h3
    exact h3
theorem gx_skip {P T : List Gn} {at_ : Int} (hP : ∀ g ∈ P, lstM g < at_) (hT : T ≠ []) : gx (P ++ T) at_ ((P ++ T).length - 1) 0 = gx (P ++ T) at_ (T.length - 1) P.length := by
  have hTl : 0 < T.length := Nat.pos_of_ne_zero (fun h => hT (List.eq_nil_of_length_eq_zero h))
  have h : ∀ j, j ≤ P.length → gx (P ++ T) at_ ((P ++ T).length - 1) 0 = gx (P ++ T) at_ ((P ++ T).length - 1 - j) j := by
    intro j
    induction j with
    | zero => intro _; rfl
    | succ j ih =>
      intro hj
      rw [ih (by omega)]
      obtain ⟨g, hg⟩ : ∃ g, P[j]? = some g := ⟨_, List.getElem?_eq_getElem (by omega)⟩
      have h2 : (P ++ T)[j]? = some g := by rw [List.getElem?_append_left (by omega)]; exact hg
      have h3 := hP g (List.mem_iff_getElem?.2 ⟨_, hg⟩)
      rw [show (P ++ T).length - 1 - j = ((P ++ T).length - 1 - (j + 1)) + 1 from by rw [List.length_append]; omega]
      exact gx_go h2 (by omega)
  have h2 := h P.length (Nat.le_refl _)
  rwa [show (P ++ T).length - 1 - P.length = T.length - 1 from by rw [List.length_append]; omega] at h2
theorem lst_addR (R : List Rv) (g : Gn) (h : 0 < g.revs.length) : lstM ⟨g.v, g.c, R ++ g.revs⟩ = lstM g := by
  unfold lstM
  dsimp only
  rw [List.length_append, List.getElem?_append_right (by omega), show R.length + g.revs.length - 1 - R.length = g.revs.length - 1 from by omega]
/-- ahead of what stays, lives have ended below the number; behind it, they end at it or above -/
theorem ck_gone {l : List Vn} (hr : Rise l) (hl : Links l) (at_ : Int) : (∀ a ∈ l.take (ck l at_), a.g = true → a.r.m < at_) ∧ (∀ a ∈ l.drop (ck l at_), a.g = true → at_ ≤ a.r.m) ∧ (∀ a ∈ l.take (ck l at_), a.r.m ≤ at_) := by
  have hle := lastN_le l at_ l.length
  cases hn : lastN l at_ l.length with
  | zero =>
    have hck : ck l at_ = 0 := by unfold ck; rw [hn]
    rw [hck]
    refine ⟨fun a ha => by simp at ha, fun a ha _ => ?_, fun a ha => by simp at ha⟩
    obtain ⟨i, hi⟩ := List.mem_iff_getElem?.1 ha
    rw [List.drop_zero] at hi
    have := lastN_gt (at_ := at_) l.length i a (by omega) (List.getElem?_eq_some_iff.1 hi).1 hi
    omega
  | succ k =>
    obtain ⟨h1, y, hy, hy2⟩ := lastN_at _ _ hn
    have hck : ck l at_ = if y.g = false ∨ y.r.m = at_ then k else k + 1 := by unfold ck; rw [hn]; dsimp only; rw [hy]
    have hgt : ∀ i a, k < i → l[i]? = some a → at_ < a.r.m := fun i a hi ha => lastN_gt (at_ := at_) l.length i a (by omega) (List.getElem?_eq_some_iff.1 ha).1 ha
    have hlt : ∀ i a, i < k → l[i]? = some a → a.g = true → a.r.m < at_ := fun i a hi ha hg => by
      obtain ⟨b, hb⟩ : ∃ b, l[i + 1]? = some b := ⟨_, List.getElem?_eq_getElem (by omega)⟩
      have h2 := (hl i a b ha hb).1 hg
      have h3 := rise_le hr hb hy (by omega)
      omega
    by_cases hg : y.g = false ∨ y.r.m = at_
    · rw [if_pos hg] at hck
      rw [hck]
      refine ⟨fun a ha hga => ?_, fun a ha hga => ?_, fun a ha => ?_⟩
      · obtain ⟨i, hi⟩ := List.mem_iff_getElem?.1 ha
        rw [List.getElem?_take] at hi
        split at hi
        · exact hlt i a (by assumption) hi hga
        · cases hi
      · obtain ⟨i, hi⟩ := List.mem_iff_getElem?.1 ha
        rw [List.getElem?_drop] at hi
        rcases Nat.eq_zero_or_pos i with rfl | hp
        · rw [Nat.add_zero, hy] at hi
          obtain rfl := Option.some.inj hi
          rcases hg with hg | hg
          · rw [hg] at hga; cases hga
          · omega
        · have := hgt (k + i) a (by omega) hi
          omega
      · obtain ⟨i, hi⟩ := List.mem_iff_getElem?.1 ha
        rw [List.getElem?_take] at hi
        split at hi
        · have := rise_le hr hi hy (by omega)
          omega
        · cases hi
    · rw [if_neg hg] at hck
      rw [hck]
      have hyg : y.g = true := by cases hq : y.g <;> simp_all
      have hym : y.r.m ≠ at_ := fun e => hg (.inr e)
      refine ⟨fun a ha hga => ?_, fun a ha hga => ?_, fun a ha => ?_⟩
      · obtain ⟨i, hi⟩ := List.mem_iff_getElem?.1 ha
        rw [List.getElem?_take] at hi
        split at hi
        · rcases Nat.lt_or_eq_of_le (Nat.le_of_lt_succ (by assumption : i < k + 1)) with h2 | rfl
          · exact hlt i a h2 hi hga
          · rw [hy] at hi; obtain rfl := Option.some.inj hi; omega
        · cases hi
      · obtain ⟨i, hi⟩ := List.mem_iff_getElem?.1 ha
        rw [List.getElem?_drop] at hi
        have := hgt (k + 1 + i) a (by omega) hi
        omega
      · obtain ⟨i, hi⟩ := List.mem_iff_getElem?.1 ha
        rw [List.getElem?_take] at hi
        split at hi
        · have := rise_le hr hi hy (by omega)
          omega
        · cases hi
def kl (l : List Vn) (at_ : Int) : List Rv := match lastN l at_ l.length with
  | 0 => []
  | k + 1 => match l[k]? with
    | some x => if x.g = false ∨ x.r.m = at_ then [x.r] else []
    | none => []
theorem kept_kl {l : List Vn} (h : Rise l) (at_ : Int) : keptV l at_ true l.length = kl l at_ := by rw [kept_ck h]; rfl
theorem comp_law {l : List Vn} (hr : Rise l) (hl : Links l) (at_ : Int) (hne : 0 < (comp l at_ l.length).length) :
    kcomp ⟨modi l, dgens l⟩ at_ = ⟨modi (comp l at_ l.length), dgens (comp l at_ l.length)⟩ ∧ (kav ⟨modi l, dgens l⟩ at_).toList = keptV l at_ true l.length := by
  have hce := comp_eq hr at_
  rw [hce] at hne ⊢
  have hk : ck l at_ < l.length := by rw [List.length_drop] at hne; omega
  obtain ⟨P, R, hG, hP, hR, hR0⟩ := dgens_cut hl hk
  obtain ⟨g1, g2, g3⟩ := ck_gone hr hl at_
  obtain ⟨t0, t, ht, htp, htg, rest, hrest⟩ := dgens_head (links_drop hl (ck l at_)) hne
  have hPlt : ∀ g ∈ P, lstM g < at_ := fun g hg => by
    obtain ⟨-, a, ha, hag, hal⟩ := hP g hg
    have := g1 a ha hag
    omega
  have hG2 : P ++ (⟨t0.v, t0.c, R ++ t0.revs⟩ : Gn) :: t = dgens l := by rw [hG, ht]; rfl
  have hgx : gx (dgens l) at_ ((dgens l).length - 1) 0 = P.length := by
    rw [← hG2, gx_skip hPlt (by simp)]
    cases t with
    | nil => rfl
    | cons t1 t =>
      obtain ⟨a, ha, hag, hal⟩ := htg (by simp)
      have := g2 a ha hag
      refine gx_stop (g := ⟨t0.v, t0.c, R ++ t0.revs⟩) (by simp) ?_
      rw [lst_addR _ _ htp, hal]
      omega
  have hgx2 : gx (KI.mk (modi l) (dgens l)).gs at_ ((KI.mk (modi l) (dgens l)).gs.length - 1) 0 = P.length := hgx
  have hsome : ∀ y ∈ t0.revs, ∃ a ∈ l.drop (ck l at_), y = a.r := fun y hy => by
    have : y ∈ (l.drop (ck l at_)).map (·.r) := by rw [hrest]; exact List.mem_append_left _ hy
    obtain ⟨a, ha, rfl⟩ := List.mem_map.1 this
    exact ⟨a, ha, rfl⟩
  rw [kcomp_of (s := ⟨modi l, dgens l⟩) hG2 hgx2, kav_of (s := ⟨modi l, dgens l⟩) hG2 hgx2, modi_drop hk, ht, kept_kl hr]
  dsimp only
  have hgt : ∀ i a, lastN l at_ l.length ≤ i → l[i]? = some a → at_ < a.r.m := fun i a hi ha => lastN_gt (at_ := at_) l.length i a hi (List.getElem?_eq_some_iff.1 ha).1 ha
  have hle := lastN_le l at_ l.length
  -- either nothing at or below the number stays, or one change
  have hcase : (ck l at_ = lastN l at_ l.length ∧ R = [] ∧ kl l at_ = []) ∨ (∃ x, lastN l at_ l.length = ck l at_ + 1 ∧ l[ck l at_]? = some x ∧ x.r.m ≤ at_ ∧ kl l at_ = [x.r]) := by
    cases hn : lastN l at_ l.length with
    | zero =>
      have hck : ck l at_ = 0 := by unfold ck; rw [hn]
      refine .inl ⟨hck, hR0 (by rw [hck]; rfl), by unfold kl; rw [hn]⟩
    | succ k =>
      obtain ⟨h1, y, hy, hy2⟩ := lastN_at _ _ hn
      have hck : ck l at_ = if y.g = false ∨ y.r.m = at_ then k else k + 1 := by unfold ck; rw [hn]; dsimp only; rw [hy]
      by_cases hg : y.g = false ∨ y.r.m = at_
      · rw [if_pos hg] at hck
        refine .inr ⟨y, by rw [hck], by rw [hck]; exact hy, hy2, ?_⟩
        unfold kl; rw [hn]; dsimp only
        rw [hy]; dsimp only; rw [if_pos hg]
      · rw [if_neg hg] at hck
        have hyg : y.g = true := by cases hq : y.g <;> simp_all
        refine .inl ⟨hck, hR0 ?_, ?_⟩
        · rw [hck, take_more hy, dgo_flag, hyg]; rfl
        · unfold kl; rw [hn]; dsimp only
          rw [hy]; dsimp only; rw [if_neg hg]
  rcases hcase with ⟨hc, rfl, hkept⟩ | ⟨x, hc, hx, hxm, hkept⟩
  · have hall : ∀ y ∈ t0.revs, at_ < y.m := fun y hy => by
      obtain ⟨a, ha, rfl⟩ := hsome y hy
      obtain ⟨i, hi⟩ := List.mem_iff_getElem?.1 ha
      rw [List.getElem?_drop] at hi
      exact hgt _ a (by omega) hi
    have hw := wk_split (A := []) hall (.inl rfl)
    simp only [List.nil_append, List.length_nil] at hw ⊢
    rw [hkept, hw, wkr_none hw]
    exact ⟨rfl, rfl⟩
  · have hd : l.drop (ck l at_) = x :: l.drop (ck l at_ + 1) := by
      obtain ⟨h1, h2⟩ := List.getElem?_eq_some_iff.1 hx
      rw [List.drop_eq_getElem_cons h1, h2]
    obtain ⟨y0, hs, hts⟩ : ∃ y0 hs, t0.revs = y0 :: hs := by
      cases h : t0.revs with
      | nil => rw [h] at htp; cases htp
      | cons a b => exact ⟨a, b, rfl⟩
    rw [hd, hts] at hrest
    simp only [List.map_cons, List.cons_append, List.cons.injEq] at hrest
    obtain ⟨hy0, hrest⟩ := hrest
    have hall : ∀ y ∈ hs, at_ < y.m := fun y hy => by
      have : y ∈ (l.drop (ck l at_ + 1)).map (·.r) := by rw [hrest]; exact List.mem_append_left _ hy
      obtain ⟨a, ha, rfl⟩ := List.mem_map.1 this
      obtain ⟨i, hi⟩ := List.mem_iff_getElem?.1 ha
      rw [List.getElem?_drop] at hi
      exact hgt _ a (by omega) hi
    have hw := wk_split (A := R ++ [y0]) (B := hs) (at_ := at_) hall (.inr ⟨y0, by simp, by rw [← hy0]; exact hxm⟩)
    have e : R ++ [y0] ++ hs = R ++ y0 :: hs := by simp
    rw [e] at hw
    have hw2 : wk (R ++ y0 :: hs) at_ (R ++ y0 :: hs).length = R.length + 1 := by rw [hw]; simp
    rw [hkept, hts, hw2, Nat.add_sub_cancel, List.drop_left, wkr_some hw2 (by rw [List.getElem?_append_right (Nat.le_refl _), Nat.sub_self]; rfl), ← hy0]
    refine ⟨?_, rfl⟩
    congr 2
    rw [hy0, ← hts]
/-! lists of changes that operations make -/
theorem links_snoc {l : List Vn} {x : Vn} (h : Links l) (hx : ∀ a, l[l.length - 1]? = some a → 0 < l.length → Link a x) : Links (l ++ [x]) := by
  intro i a b ha hb
  have hlt := (List.getElem?_eq_some_iff.1 hb).1
  rw [List.length_append, List.length_singleton] at hlt
  rw [List.getElem?_append_left (by omega)] at ha
  rcases Nat.lt_or_eq_of_le (Nat.le_of_lt_succ hlt) with h1 | h1
  · rw [List.getElem?_append_left h1] at hb
    exact h i a b ha hb
  · rw [List.getElem?_append_right (by omega), h1, Nat.sub_self] at hb
    obtain rfl : x = b := by simpa using hb
    exact hx a (by rw [show l.length - 1 = i from by omega]; exact ha) (by omega)
theorem kdo_links {l : List Vn} {o : KOp} (hr : Rise l) (h : Links l) (hb : ¬ bad3 l o) : Links (kdo l o).1 := by
  unfold kdo
  split
  · rename_i hk
    split
    · rename_i hless
      refine links_snoc h (fun a ha hpos => ?_)
      have hm := modi_at ha
      have hlv := lives_at ha
      cases hg : a.g with
      | true =>
        rw [hg] at hlv
        rw [putV_new _ hlv]
        refine ⟨fun _ => ?_, fun h => (by rw [hg] at h; cases h)⟩
        have h3 : (modi l).m ≠ o.r.m := fun e => hb ⟨hk, hpos, hlv, e⟩
        rw [hm] at hless h3
        unfold less at hless
        show a.r.m < o.r.m
        omega
      | false =>
        rw [putV_go _ ha hg]
        exact ⟨fun h => (by rw [hg] at h; cases h), fun _ => rfl⟩
    · exact h
  split
  · split
    · rename_i x hlv hx
      split
      · refine links_snoc h (fun a ha hpos => ?_)
        rw [hx] at ha
        obtain rfl := Option.some.inj ha
        have hg : x.g = false := by have := lives_at hx; rw [hlv] at this; simpa using this
        exact ⟨fun h => (by rw [hg] at h; cases h), fun _ => rfl⟩
      · exact h
    · exact h
  split
  · exact h
  split
  · exact h
  split
  · rw [comp_eq hr]; exact links_drop h _
  split <;> exact h
theorem links_nil : Links [] := fun i a b h => by simp at h
theorem life_wf {l0 : List Vn} (h0 : Rise l0) (k0 : Links l0) : ∀ (ops : List KOp) {l : List Vn} {aa : List (KA × List Vn)}, life l0 ops = some (l, aa) → Rise l ∧ Links l := by
  intro ops
  generalize hn : ops.length = n
  induction n generalizing ops with
  | zero =>
    intro l aa h
    rw [List.eq_nil_of_length_eq_zero hn] at h
    cases h
    exact ⟨h0, k0⟩
  | succ n ih =>
    intro l aa h
    rcases List.eq_nil_or_concat ops with rfl | ⟨m, o, rfl⟩
    · cases hn
    · rw [List.concat_eq_append] at h hn
      rw [life_snoc] at h
      cases hm : life l0 m with
      | none => rw [hm] at h; cases h
      | some q =>
        obtain ⟨l1, a1⟩ := q
        rw [hm] at h
        unfold lstep at h
        dsimp only at h
        split at h
        · cases h
        · rename_i hrf
          cases h
          obtain ⟨h1, h2⟩ := ih m (by simpa using hn) hm
          exact ⟨kdo_rise h1, kdo_links h1 h2 (fun hb => hrf (.inr (.inr (.inl hb))))⟩
theorem lifeR_wf {ops : List KOp} {l : List Vn} {aa : List (KA × List Vn)} (h : lifeR [] ops = some (l, aa)) : Rise l ∧ Links l := by
  unfold lifeR at h
  split at h
  · cases h
  · exact life_wf rise_nil links_nil ops h
end Go.Proofs.Ythicijpjpijdjaa.KyR

namespace Go.Proofs.Ythicijpjpijdjaa.Li
open Go.RowKit Go.Proofs.Ythicijpjpijdjaa Go.Proofs.Ythicijpjpijdjaa.Sl Go.Proofs.Ythicijpjpijdjaa.KyP Go.Proofs.Ythicijpjpijdjaa.Ka Go.Proofs.Ythicijpjpijdjaa.Kb Go.Proofs.Ythicijpjpijdjaa.Kc Go.Proofs.Ythicijpjpijdjaa.Kd Go.Proofs.Ythicijpjpijdjaa.Ke Go.Proofs.Ythicijpjpijdjaa.Kf Go.Proofs.Ythicijpjpijdjaa.Kg Go.Proofs.Ythicijpjpijdjaa.Kh Go.Proofs.Ythicijpjpijdjaa.Ki Go.Proofs.Ythicijpjpijdjaa.Kj Go.Proofs.Ythicijpjpijdjaa.Kk Go.Proofs.Ythicijpjpijdjaa.Kl Go.Proofs.Ythicijpjpijdjaa.Km Go.Proofs.Ythicijpjpijdjaa.Kn Go.Proofs.Ythicijpjpijdjaa.Ko Go.Proofs.Ythicijpjpijdjaa.Kp Go.Proofs.Ythicijpjpijdjaa.Kq Go.Proofs.Ythicijpjpijdjaa.Kr Go.Proofs.Ythicijpjpijdjaa.Ks Go.Proofs.Ythicijpjpijdjaa.Kt Go.Proofs.Ythicijpjpijdjaa.Ku Go.Proofs.Ythicijpjpijdjaa.Kv Go.Proofs.Ythicijpjpijdjaa.Kw Go.Proofs.Ythicijpjpijdjaa.Kx Go.Proofs.Ythicijpjpijdjaa.Ky Go.Proofs.Ythicijpjpijdjaa.Kz Go.Proofs.Ythicijpjpijdjaa.La Go.Proofs.Ythicijpjpijdjaa.Lb Go.Proofs.Ythicijpjpijdjaa.Lc Go.Proofs.Ythicijpjpijdjaa.Ld Go.Proofs.Ythicijpjpijdjaa.Le Go.Proofs.Ythicijpjpijdjaa.Lf Go.Proofs.Ythicijpjpijdjaa.Lg Go.Proofs.Ythicijpjpijdjaa.Lh Go.Proofs.Ythicijpjpijdjaa.KyQ Go.Proofs.Ythicijpjpijdjaa.KyR
set_option linter.unusedVariables false
set_option linter.unusedSimpArgs false
set_option linter.unusedSectionVars false


def StComp (s : KI) (o : KOp) (s' : KI) (a : KA) : Prop := o.k = 7 ∧ emp s.gs = false ∧ 0 < s.gs.length ∧ Full s.gs ∧ Small s.gs ∧ Small (kcomp s o.at_).gs ∧ s' = kcomp s o.at_ ∧ a = { KA0 with revs := (kav s o.at_).toList }
theorem stComp_ok : StOk StComp := by
  intro b ka kn kc s o s' a h
  obtain ⟨h1, h2, h3, h4, h5, h6, rfl, rfl⟩ := h
  exact keyed_compact b ka kn kc s h5 o h1 h2 h3 h4 h6
abbrev opc (at_ : Int) : KOp := ⟨7, ⟨0, 0⟩, ⟨0, 0⟩, 0, at_⟩
theorem comp_runs {vs : List Vn} (hr : Rise vs) (hl : Links vs) (at_ : Int) (hne : 0 < (comp vs at_ vs.length).length) (hb : vs.length ≤ 100000) {gs : List Gn} (hgs : gs = dgens vs) : Runs StComp ⟨modi vs, gs⟩ [opc at_] [({ KA0 with revs := keptV vs at_ true vs.length }, ⟨modi (comp vs at_ vs.length), dgens (comp vs at_ vs.length)⟩)] := by
  subst hgs
  have hc := Km.comp_len vs at_ vs.length
  obtain ⟨h1, h2⟩ := comp_law hr hl at_ hne
  refine ⟨rfl, fun i o x ho hx => ?_⟩
  match i, ho, hx with
  | 0, ho, hx =>
    obtain rfl : opc at_ = o := by simpa using ho
    simp only [List.getElem?_cons_zero, Option.some.injEq] at hx
    subst hx
    have hp : 0 < vs.length := by omega
    refine ⟨rfl, emp_dgens hl hp, dgens_pos hp, full_dgens hl, small_dgens hb, ?_, h1.symm, ?_⟩
    · show Small (kcomp ⟨modi vs, dgens vs⟩ at_).gs
      rw [h1]; exact small_dgens (by omega)
    · show _ = ({ KA0 with revs := (kav ⟨modi vs, dgens vs⟩ at_).toList } : KA)
      rw [h2]
  | i + 1, ho, hx => simp at ho
theorem one_was {was : List WK} {a : KA} {s : KI} (h : was.map WK.pr = [(a, s)]) : ∃ u v g, was = [⟨a, s, u, v, g⟩] := by
  match was, h with
  | [⟨a, s, u, v, g⟩], h =>
    simp only [List.map_cons, List.map_nil, WK.pr, List.cons.injEq, Prod.mk.injEq, and_true] at h
    obtain ⟨rfl, rfl⟩ := h
    exact ⟨u, v, g, rfl⟩
theorem RdG.mono {A B : HProp} {vg : Value} {gl : List GV} (hi : ∀ w, Holds B w → Holds A w) (h : RdG A vg gl) : RdG B vg gl := ⟨h.rd.mono hi, fun p hp => (h.inn p hp).mono hi⟩
theorem open_was {W w : World} {x : WK} {L : List HProp} (h : Sat W (Kds WKP [x] :: L) w) : Sat W (Own 32 2 x.vr x.a.revs.length (flatOf Rv.cells x.a.revs) :: Own 53 4 x.vg x.gl.length (flatOf GV.cells x.gl) :: Kds (GVPe 32) x.gl :: L) w := by
  have h1 := h.kCons
  have h2 : Sat W (Kds WKP [] :: WKP x :: L) w := h1.perm (List.Perm.swap _ _ _)
  have h3 : Sat W ([Own 32 2 x.vr x.a.revs.length (flatOf Rv.cells x.a.revs), Own 53 4 x.vg x.gl.length (flatOf GV.cells x.gl), Kds (GVPe 32) x.gl] ++ L) w := h2.drop.sep
  exact h3
set_option maxRecDepth 100000 in
set_option maxHeartbeats 2000000 in
theorem law_spec (W0 : World) (l : List KOp) (hl : l.length ≤ 9223372036854775807) (vo : Value) (hvo : Rd (Old W0) 7 KOp.cells vo l) (at_ : Int) : Does Try.prog 3 [vo, .int .i64 (at_)] [Old W0] (fun v L => v = .bool true ∧ L = [Old W0]) := by
  refine Does.enter 68 Try.func3 rfl rfl rfl fun W F => ?_
  show WPc _ _ _ _ _ [(0, vo), (1, .int .i64 (at_))] (Old W0 :: F)
  refine WPc.seq ?_
  refine WPc.region ?_
  refine WP.val rfl rfl rfl (Val.assign rfl rfl) ?_
  refine WP.nil ?_
  refine Out.next ?_
  refine WPc.seq ?_
  refine WPc.seq ?_
  refine WPc.region ?_
  refine WP.val rfl rfl rfl (Val.move rfl rfl) ?_
  refine WP.val rfl rfl rfl (Rd.len hvo rfl Ty.sl22 rfl) ?_
  refine WP.val rfl rfl rfl (Val.gtr rfl rfl rfl) ?_
  refine WP.nil ?_
  refine Out.next ?_
  refine WPc.ifP rfl (fun h1 => ?_) (fun h1 => ?_)
  · skip
    have h1 : ((2147483647 : Int) < ((l.length : Nat) : Int)) := h1
    refine WPc.seq ?_
    refine WPc.region ?_
    refine WP.val rfl rfl rfl (Val.assign rfl rfl) ?_
    refine WP.nil ?_
    refine Out.next ?_
    refine WPc.ret ?_
    refine Out.then_ret ?_
    exact Out.ret1 (L' := _) Try.results3 rfl ⟨rfl, rfl⟩ (fun _ h => h)
  · skip
    have h1 : ¬ ((2147483647 : Int) < ((l.length : Nat) : Int)) := h1
    refine WPc.skip ?_
    refine Out.next ?_
    refine WPc.seq ?_
    refine WPc.region ?_
    refine WP.val rfl rfl rfl (Val.move rfl rfl) ?_
    refine WP.conv (fun w h => Sat.pure_mk (φ := True) trivial h) ?_
    show WP _ _ _ _ _ _ _ (Pure True :: Old W0 :: F)
    refine WP.eff rfl rfl rfl (Eff.call rfl rfl Try.call7 (life_all (Pure True) (Old W0) [] (by decide) (.slice none 0 0) (.inr ⟨rfl, none, 0, rfl⟩) l (by omega) vo hvo)) ?_
    rintro _ _ ⟨_, ⟨X, va2, v5, vs, was, ok, rfl, hlife, hvs0, hgs, hX, hvn, -, rfl⟩, rfl⟩
    show WP _ _ _ _ _ _ _ (Own 42 10 v5 was.length (flatOf WA.cells was) :: Kds WAP was :: X :: Old W0 :: F)
    refine WP.val rfl rfl rfl (Val.move rfl rfl) ?_
    refine WP.val rfl rfl rfl (Val.extract rfl rfl rfl) ?_
    refine WP.val rfl rfl rfl (Val.extract rfl rfl rfl) ?_
    refine WP.val rfl rfl rfl (Val.extract rfl rfl rfl) ?_
    refine WP.val rfl rfl rfl (Val.assign rfl rfl) ?_
    refine WP.val rfl rfl rfl (Val.assign rfl rfl) ?_
    refine WP.val rfl rfl rfl (Val.assign rfl rfl) ?_
    refine WP.nil ?_
    refine Out.next ?_
    refine WPc.seq ?_
    refine WPc.seq ?_
    have hvn2 : vs.length ≤ 300 := by simpa using hvn
    refine WPc.region ?_
    refine WP.val rfl rfl rfl (Val.move rfl rfl) ?_
    refine WP.val rfl rfl rfl (Val.not rfl rfl) ?_
    refine WP.val rfl rfl rfl (Val.move rfl rfl) ?_
    refine WP.splitB 21 rfl (fun h2 => ?_) (fun h2 => ?_)
    · skip
      refine WP.skip rfl rfl rfl rfl rfl rfl rfl ?_
      refine WP.skip rfl rfl rfl rfl rfl rfl rfl ?_
      refine WP.skip rfl rfl rfl rfl rfl rfl rfl ?_
      refine WP.skip rfl rfl rfl rfl rfl rfl rfl ?_
      refine WP.skip rfl rfl rfl rfl rfl rfl rfl ?_
      refine WP.val rfl rfl rfl (Val.pickT rfl rfl rfl) ?_
      refine WP.nil ?_
      refine Out.next ?_
      refine WPc.condT rfl rfl ?_
      refine WPc.seq ?_
      refine WPc.region ?_
      refine WP.eff rfl rfl rfl (Eff.call rfl rfl Try.call9 (Lb.live_spec 0)) ?_
      rintro _ _ ⟨_, ⟨rfl, rfl⟩, rfl⟩
      show WP _ _ _ _ _ _ _ (Own 42 10 v5 was.length (flatOf WA.cells was) :: Kds WAP was :: X :: Old W0 :: F)
      refine WP.val rfl rfl rfl (Val.assign rfl rfl) ?_
      refine WP.nil ?_
      refine Out.next ?_
      refine WPc.ret ?_
      refine Out.then_ret ?_
      refine Out.drop ?_
      refine Out.drop ?_
      refine Out.drop ?_
      exact Out.ret1 (L' := _) Try.results3 rfl ⟨rfl, rfl⟩ (fun _ h => h)
    · skip
      refine WP.valG rfl rfl rfl rfl rfl rfl rfl (Val.move rfl rfl) ?_
      refine WP.valG rfl rfl rfl rfl rfl rfl rfl (Val.move rfl rfl) ?_
      refine WP.perm pl2 ?_
      refine WP.effG rfl rfl rfl rfl rfl rfl rfl (Eff.call rfl rfl Try.call8 (compacted_spec X at_ vs (by omega) va2 hX)) ?_
      rintro vc1 _ ⟨_, rfl, rfl⟩
      show WP _ _ _ _ _ _ _ (Own 47 6 vc1 ((comp vs at_ vs.length).length) (flatOf Vn.cells (comp vs at_ vs.length)) :: X :: Own 42 10 v5 was.length (flatOf WA.cells was) :: Kds WAP was :: Old W0 :: F)
      refine WP.valG rfl rfl rfl rfl rfl rfl rfl (Val.lenOwn rfl Ty.sl23 rfl (fun w h => h.at 0 rfl)) ?_
      refine WP.valG rfl rfl rfl rfl rfl rfl rfl (Val.eql rfl rfl rfl) ?_
      refine WP.val rfl rfl rfl (Val.pickF rfl rfl rfl) ?_
      refine WP.nil ?_
      refine Out.next ?_
      refine WPc.ifP rfl (fun h3 => ?_) (fun h3 => ?_)
      · skip
        have h3 : ((((comp vs at_ vs.length).length : Nat) : Int) = (0 : Int)) := h3
        refine WPc.seq ?_
        refine WPc.region ?_
        refine WP.eff rfl rfl rfl (Eff.call rfl rfl Try.call9 (Lb.live_spec 0)) ?_
        rintro _ _ ⟨_, ⟨rfl, rfl⟩, rfl⟩
        show WP _ _ _ _ _ _ _ (Own 47 6 vc1 ((comp vs at_ vs.length).length) (flatOf Vn.cells (comp vs at_ vs.length)) :: X :: Own 42 10 v5 was.length (flatOf WA.cells was) :: Kds WAP was :: Old W0 :: F)
        refine WP.val rfl rfl rfl (Val.assign rfl rfl) ?_
        refine WP.nil ?_
        refine Out.next ?_
        refine WPc.ret ?_
        refine Out.then_ret ?_
        refine Out.drop ?_
        refine Out.drop ?_
        refine Out.drop ?_
        refine Out.drop ?_
        exact Out.ret1 (L' := _) Try.results3 rfl ⟨rfl, rfl⟩ (fun _ h => h)
      · skip
        have h3 : ¬ ((((comp vs at_ vs.length).length : Nat) : Int) = (0 : Int)) := h3
        refine WPc.skip ?_
        refine Out.next ?_
        refine WPc.seq ?_
        refine WPc.region ?_
        refine WP.val rfl rfl rfl (Val.move rfl rfl) ?_
        refine WP.perm pl1 ?_
        refine WP.eff rfl rfl rfl (Eff.call rfl rfl Try.call11 (dump_spec X vs (by omega) va2 hX)) ?_
        rintro _ _ ⟨_, ⟨vg, gl, rfl, hgl, rfl⟩, rfl⟩
        show WP _ _ _ _ _ _ _ (Own 53 4 vg gl.length (flatOf GV.cells gl) :: Kds (GVPe 32) gl :: X :: Own 47 6 vc1 ((comp vs at_ vs.length).length) (flatOf Vn.cells (comp vs at_ vs.length)) :: Own 42 10 v5 was.length (flatOf WA.cells was) :: Kds WAP was :: Old W0 :: F)
        refine WP.perm pl1 ?_
        refine WP.perm pl1 ?_
        refine WP.open (fun w h => gens_open (e2 := 32) h) ?_
        rintro EG
        refine WP.pure (fun hEG => ?_)
        obtain ⟨rEG, backEG⟩ := hEG
        show WP _ _ _ _ _ _ _ (EG :: X :: Own 47 6 vc1 ((comp vs at_ vs.length).length) (flatOf Vn.cells (comp vs at_ vs.length)) :: Own 42 10 v5 was.length (flatOf WA.cells was) :: Kds WAP was :: Old W0 :: F)
        have hsg : Small (gl.map (·.1)) := by rw [hgl]; exact small_dgens (by omega)
        refine WP.val rfl rfl rfl (Val.move rfl rfl) ?_
        refine WP.val rfl rfl rfl (Val.mk (cs := [.int .i64 7, .int .i64 0, .int .i64 0, .int .i64 0, .int .i64 0, .int .i64 0, .int .i64 (at_)]) rfl rfl (fun _ => by kernel_rfl)) ?_
        refine WP.eff rfl rfl rfl (Eff.mkSlice (C := [.int .i64 7, .int .i64 0, .int .i64 0, .int .i64 0, .int .i64 0, .int .i64 0, .int .i64 (at_)]) rfl Ty.sl22 rfl (fun _ => by kernel_rfl)) ?_
        rintro _ _ ⟨b1, rfl, rfl⟩
        have hok : ok = true := by cases ok <;> simp_all
        have hwf := lifeR_wf (ops := l) (l := vs) (aa := was.map WA.pr) (by rw [hlife, if_pos hok])
        have hcn : 0 < (comp vs at_ vs.length).length := by omega
        refine WP.perm pl1 ?_
        refine WP.eff rfl rfl rfl (Eff.call rfl rfl Try.call10 (key_spec EG (Blk b1 (flatOf KOp.cells [opc at_]) 38) ⟨#[107]⟩ (modi vs) StComp stComp_ok [({ KA0 with revs := (keptV vs at_ true vs.length) }, ⟨modi (comp vs at_ vs.length), dgens (comp vs at_ vs.length)⟩)] gl hsg [opc at_] (by show 1 ≤ 65540; omega) (comp_runs hwf.1 hwf.2 at_ hcn (by omega) hgl) vg (.slice (some ⟨b1, 0, none⟩) 1 1) rEG (rd_blk (cf := KOp.cells) (k := 7) KOp.len b1 1 38 [opc at_]))) ?_
        rintro _ _ ⟨_, ⟨v6, was2, hwas2, hgs2, rfl, rfl⟩, rfl⟩
        show WP _ _ _ _ _ _ _ (Own 42 10 v6 was2.length (flatOf WK.cells was2) :: Kds WKP was2 :: EG :: Blk b1 (flatOf KOp.cells [opc at_]) 38 :: X :: Own 47 6 vc1 ((comp vs at_ vs.length).length) (flatOf Vn.cells (comp vs at_ vs.length)) :: Own 42 10 v5 was.length (flatOf WA.cells was) :: Kds WAP was :: Old W0 :: F)
        refine WP.val rfl rfl rfl (Val.move rfl rfl) ?_
        refine WP.val rfl rfl rfl (Val.extract rfl rfl rfl) ?_
        refine WP.val rfl rfl rfl (Val.extract rfl rfl rfl) ?_
        refine WP.val rfl rfl rfl (Val.assign rfl rfl) ?_
        refine WP.val rfl rfl rfl (Val.assign rfl rfl) ?_
        refine WP.nil ?_
        refine Out.next ?_
        refine WPc.seq ?_
        obtain ⟨uu, vv, g3, rfl⟩ := one_was hwas2
        show WPc _ _ _ _ _ _ (Own 42 10 v6 1 (flatOf WK.cells [(⟨{ KA0 with revs := (keptV vs at_ true vs.length) }, ⟨modi (comp vs at_ vs.length), dgens (comp vs at_ vs.length)⟩, uu, vv, g3⟩ : WK)]) :: Kds WKP [(⟨{ KA0 with revs := (keptV vs at_ true vs.length) }, ⟨modi (comp vs at_ vs.length), dgens (comp vs at_ vs.length)⟩, uu, vv, g3⟩ : WK)] :: EG :: Blk b1 (flatOf KOp.cells [opc at_]) 38 :: X :: Own 47 6 vc1 ((comp vs at_ vs.length).length) (flatOf Vn.cells (comp vs at_ vs.length)) :: Own 42 10 v5 was.length (flatOf WA.cells was) :: Kds WAP was :: Old W0 :: F)
        refine WPc.perm pl1 ?_
        refine WPc.conv (fun w h => open_was h) ?_
        show WPc _ _ _ _ _ _ (Own 32 2 uu ((keptV vs at_ true vs.length).length) (flatOf Rv.cells (keptV vs at_ true vs.length)) :: Own 53 4 vv g3.length (flatOf GV.cells g3) :: Kds (GVPe 32) g3 :: Own 42 10 v6 1 (flatOf WK.cells [(⟨{ KA0 with revs := (keptV vs at_ true vs.length) }, ⟨modi (comp vs at_ vs.length), dgens (comp vs at_ vs.length)⟩, uu, vv, g3⟩ : WK)]) :: EG :: Blk b1 (flatOf KOp.cells [opc at_]) 38 :: X :: Own 47 6 vc1 ((comp vs at_ vs.length).length) (flatOf Vn.cells (comp vs at_ vs.length)) :: Own 42 10 v5 was.length (flatOf WA.cells was) :: Kds WAP was :: Old W0 :: F)
        refine WPc.open (fun w h => own_rdG (l := (keptV vs at_ true vs.length)) Rv.len h) ?_
        rintro EU
        refine WPc.pure (fun hEU => ?_)
        show WPc _ _ _ _ _ _ (EU :: Own 53 4 vv g3.length (flatOf GV.cells g3) :: Kds (GVPe 32) g3 :: Own 42 10 v6 1 (flatOf WK.cells [(⟨{ KA0 with revs := (keptV vs at_ true vs.length) }, ⟨modi (comp vs at_ vs.length), dgens (comp vs at_ vs.length)⟩, uu, vv, g3⟩ : WK)]) :: EG :: Blk b1 (flatOf KOp.cells [opc at_]) 38 :: X :: Own 47 6 vc1 ((comp vs at_ vs.length).length) (flatOf Vn.cells (comp vs at_ vs.length)) :: Own 42 10 v5 was.length (flatOf WA.cells was) :: Kds WAP was :: Old W0 :: F)
        refine WPc.perm pl2 ?_
        refine WPc.perm pl2 ?_
        refine WPc.open (fun w h => gens_open (e2 := 32) h) ?_
        rintro EW
        refine WPc.pure (fun hEW => ?_)
        obtain ⟨rEW, backEW⟩ := hEW
        show WPc _ _ _ _ _ _ (EW :: EU :: Own 42 10 v6 1 (flatOf WK.cells [(⟨{ KA0 with revs := (keptV vs at_ true vs.length) }, ⟨modi (comp vs at_ vs.length), dgens (comp vs at_ vs.length)⟩, uu, vv, g3⟩ : WK)]) :: EG :: Blk b1 (flatOf KOp.cells [opc at_]) 38 :: X :: Own 47 6 vc1 ((comp vs at_ vs.length).length) (flatOf Vn.cells (comp vs at_ vs.length)) :: Own 42 10 v5 was.length (flatOf WA.cells was) :: Kds WAP was :: Old W0 :: F)
        have hg3 : g3.map (·.1) = dgens (comp vs at_ vs.length) := hgs2 _ (List.mem_singleton.2 rfl)
        have hs3 : Small (g3.map (·.1)) := by rw [hg3]; exact small_dgens (by have := Km.comp_len vs at_ vs.length; omega)
        refine WPc.perm pl2 ?_
        refine WPc.open (fun w h => h.ownPos (by decide)) ?_
        rintro ⟨g2, cg2, spg2⟩
        refine WPc.pure (fun hvg2 => ?_)
        obtain ⟨rfl, hng2, hlg2, hsg2, hcg2⟩ := hvg2
        dsimp only at hng2 hlg2 hsg2 hcg2
        show WPc _ _ _ _ _ _ (Blk g2 (flatOf WK.cells [(⟨{ KA0 with revs := (keptV vs at_ true vs.length) }, ⟨modi (comp vs at_ vs.length), dgens (comp vs at_ vs.length)⟩, uu, vv, g3⟩ : WK)] ++ spg2) 42 :: EW :: EU :: EG :: Blk b1 (flatOf KOp.cells [opc at_]) 38 :: X :: Own 47 6 vc1 ((comp vs at_ vs.length).length) (flatOf Vn.cells (comp vs at_ vs.length)) :: Own 42 10 v5 was.length (flatOf WA.cells was) :: Kds WAP was :: Old W0 :: F)
        refine WPD.start (Sat W [Blk g2 (flatOf WK.cells [(⟨{ KA0 with revs := (keptV vs at_ true vs.length) }, ⟨modi (comp vs at_ vs.length), dgens (comp vs at_ vs.length)⟩, uu, vv, g3⟩ : WK)] ++ spg2) 42]) Ty.mixed ?_
        refine WPD.takeM 0 rfl rfl rfl rfl (by kernel_rfl) (by kernel_rfl) (by kernel_rfl) (by kernel_rfl) (fun _ _ _ h => h) (fun w h => (h).dropEnd (L := [_])) (Val.move rfl rfl) ?_
        refine WPD.takeM 1 rfl rfl rfl rfl (by kernel_rfl) (by kernel_rfl) (by kernel_rfl) (by kernel_rfl) (fun _ _ _ h => h) (fun w h => (h).dropEnd (L := [_])) (Val.move rfl rfl) ?_
        refine WPD.takeGM 2 rfl rfl rfl rfl rfl rfl rfl rfl (by kernel_rfl) (by kernel_rfl) (by kernel_rfl) (by kernel_rfl) (fun _ _ _ h => h) (fun w h => (h).dropEnd (L := [_])) (Val.move rfl rfl) ?_
        refine WPD.takeG 3 rfl rfl rfl rfl rfl rfl rfl rfl (by kernel_rfl) (by kernel_rfl) (by kernel_rfl) (by kernel_rfl) (fun _ _ _ h => h) (by kernel_rfl) (fun w h => (h).dropEnd (L := [_])) (Val.len rfl Ty.sl24 rfl) ?_
        refine WPD.takeGM 4 rfl rfl rfl rfl rfl rfl rfl rfl (by kernel_rfl) (by kernel_rfl) (by kernel_rfl) (by kernel_rfl) (fun _ _ _ h => h) (fun w h => (h).dropEnd (L := [_])) (Val.eqlK rfl rfl rfl rfl) ?_
        refine WPD.takeM 5 rfl rfl rfl rfl (by kernel_rfl) (by kernel_rfl) (by kernel_rfl) (by kernel_rfl) (fun _ _ _ h => h) (fun w h => (h).dropEnd (L := [_])) (Val.pickT rfl rfl rfl) ?_
        refine WPD.takeM 6 rfl rfl rfl rfl (by kernel_rfl) (by kernel_rfl) (by kernel_rfl) (by kernel_rfl) (fun _ _ _ h => h) (fun w h => (h).dropEnd (L := [_])) (Val.move rfl rfl) ?_
        refine WPD.takeGM 7 rfl rfl rfl rfl rfl rfl rfl rfl (by kernel_rfl) (by kernel_rfl) (by kernel_rfl) (by kernel_rfl) (fun _ _ _ h => h) (fun w h => (h).dropEnd (L := [_])) (Val.move rfl rfl) ?_
        refine WPD.takeGM 8 rfl rfl rfl rfl rfl rfl rfl rfl (by kernel_rfl) (by kernel_rfl) (by kernel_rfl) (by kernel_rfl) (fun _ _ _ h => h) (fun w h => (h).dropEnd (L := [_])) (Val.indexAddr (j := 0) (q := 0) rfl Ty.sl24 rfl rfl (by omega) (by omega) (by omega)) ?_
        refine WPD.takeGM 9 rfl rfl rfl rfl rfl rfl rfl rfl (by kernel_rfl) (by kernel_rfl) (by kernel_rfl) (by kernel_rfl) (fun _ _ _ h => h) (fun w h => (h).dropEnd (L := [_])) (Val.fieldAddr (j := 7) rfl Ty.fo42_5 rfl rfl) ?_
        refine WPD.takeG 10 rfl rfl rfl rfl rfl rfl rfl rfl (by kernel_rfl) (by kernel_rfl) (by kernel_rfl) (by kernel_rfl) (fun _ _ _ h => h) (by kernel_rfl) (fun w h => (h).dropEnd (L := [_])) (Val.loadAgg (cs := [.int .i64 (modi (comp vs at_ vs.length)).m, .int .i64 (modi (comp vs at_ vs.length)).s, vv]) rfl Ty.ag35 rfl (by rfl) (fun w h => (h.at 0 rfl).cell_range rfl)) ?_
        refine WPD.takeGM 11 rfl rfl rfl rfl rfl rfl rfl rfl (by kernel_rfl) (by kernel_rfl) (by kernel_rfl) (by kernel_rfl) (fun _ _ _ h => h) (fun w h => (h).dropEnd (L := [_])) (Val.move rfl rfl) ?_
        refine WPD.takeGM 12 rfl rfl rfl rfl rfl rfl rfl rfl (by kernel_rfl) (by kernel_rfl) (by kernel_rfl) (by kernel_rfl) (fun _ _ _ h => h) (fun w h => (h).dropEnd (L := [_])) (Val.move rfl rfl) ?_
        refine WPD.perm pl5 ?_
        refine WPD.stepG 13 (by kernel_rfl) rfl rfl rfl rfl rfl rfl rfl rfl (Eff.call rfl rfl Try.call8 (compacted_spec X at_ vs (by omega) va2 hX)) ?_
        rintro vc2 _ ⟨_, rfl, rfl⟩
        refine ⟨(fun w h => ((h.perm pl2)).dropEnd (L := [_])), ?_⟩
        show WPD _ _ _ _ _ _ _ _ _ (Own 47 6 vc2 ((comp vs at_ vs.length).length) (flatOf Vn.cells (comp vs at_ vs.length)) :: X :: Blk g2 (flatOf WK.cells [(⟨{ KA0 with revs := (keptV vs at_ true vs.length) }, ⟨modi (comp vs at_ vs.length), dgens (comp vs at_ vs.length)⟩, uu, vv, g3⟩ : WK)] ++ spg2) 42 :: EW :: EU :: EG :: Blk b1 (flatOf KOp.cells [opc at_]) 38 :: Own 47 6 vc1 ((comp vs at_ vs.length).length) (flatOf Vn.cells (comp vs at_ vs.length)) :: Own 42 10 v5 was.length (flatOf WA.cells was) :: Kds WAP was :: Old W0 :: F)
        refine WPD.open (fun w h => own_rdG (l := (comp vs at_ vs.length)) Vn.len h) ?_
        rintro E8
        refine WPD.pure (fun hE8 => ?_)
        show WPD _ _ _ _ _ _ _ _ _ (E8 :: X :: Blk g2 (flatOf WK.cells [(⟨{ KA0 with revs := (keptV vs at_ true vs.length) }, ⟨modi (comp vs at_ vs.length), dgens (comp vs at_ vs.length)⟩, uu, vv, g3⟩ : WK)] ++ spg2) 42 :: EW :: EU :: EG :: Blk b1 (flatOf KOp.cells [opc at_]) 38 :: Own 47 6 vc1 ((comp vs at_ vs.length).length) (flatOf Vn.cells (comp vs at_ vs.length)) :: Own 42 10 v5 was.length (flatOf WA.cells was) :: Kds WAP was :: Old W0 :: F)
        refine WPD.stepG 14 (by kernel_rfl) rfl rfl rfl rfl rfl rfl rfl rfl (Eff.call rfl rfl Try.call11 (dump_spec E8 (comp vs at_ vs.length) (by have := Km.comp_len vs at_ vs.length; omega) vc2 hE8)) ?_
        rintro _ _ ⟨_, ⟨vg2, gl2, rfl, hgl2, rfl⟩, rfl⟩
        refine ⟨(fun w h => ((h.perm pl4)).dropEnd (L := [_])), ?_⟩
        show WPD _ _ _ _ _ _ _ _ _ (Own 53 4 vg2 gl2.length (flatOf GV.cells gl2) :: Kds (GVPe 32) gl2 :: E8 :: X :: Blk g2 (flatOf WK.cells [(⟨{ KA0 with revs := (keptV vs at_ true vs.length) }, ⟨modi (comp vs at_ vs.length), dgens (comp vs at_ vs.length)⟩, uu, vv, g3⟩ : WK)] ++ spg2) 42 :: EW :: EU :: EG :: Blk b1 (flatOf KOp.cells [opc at_]) 38 :: Own 47 6 vc1 ((comp vs at_ vs.length).length) (flatOf Vn.cells (comp vs at_ vs.length)) :: Own 42 10 v5 was.length (flatOf WA.cells was) :: Kds WAP was :: Old W0 :: F)
        refine WPD.perm pl1 ?_
        refine WPD.perm pl1 ?_
        refine WPD.open (fun w h => gens_open (e2 := 32) h) ?_
        rintro EH
        refine WPD.pure (fun hEH => ?_)
        obtain ⟨rEH, backEH⟩ := hEH
        show WPD _ _ _ _ _ _ _ _ _ (EH :: E8 :: X :: Blk g2 (flatOf WK.cells [(⟨{ KA0 with revs := (keptV vs at_ true vs.length) }, ⟨modi (comp vs at_ vs.length), dgens (comp vs at_ vs.length)⟩, uu, vv, g3⟩ : WK)] ++ spg2) 42 :: EW :: EU :: EG :: Blk b1 (flatOf KOp.cells [opc at_]) 38 :: Own 47 6 vc1 ((comp vs at_ vs.length).length) (flatOf Vn.cells (comp vs at_ vs.length)) :: Own 42 10 v5 was.length (flatOf WA.cells was) :: Kds WAP was :: Old W0 :: F)
        refine WPD.perm pl4 ?_
        refine WPD.conv (fun w h => Sat.sep_mk (M := [EW, EH]) h) ?_
        show WPD _ _ _ _ _ _ _ _ _ (Sep [EW, EH] :: E8 :: X :: Blk g2 (flatOf WK.cells [(⟨{ KA0 with revs := (keptV vs at_ true vs.length) }, ⟨modi (comp vs at_ vs.length), dgens (comp vs at_ vs.length)⟩, uu, vv, g3⟩ : WK)] ++ spg2) 42 :: EU :: EG :: Blk b1 (flatOf KOp.cells [opc at_]) 38 :: Own 47 6 vc1 ((comp vs at_ vs.length).length) (flatOf Vn.cells (comp vs at_ vs.length)) :: Own 42 10 v5 was.length (flatOf WA.cells was) :: Kds WAP was :: Old W0 :: F)
        refine WPD.stepGC 15 (by kernel_rfl) rfl rfl rfl rfl rfl rfl rfl rfl (by kernel_rfl) (Eff.call rfl rfl Try.call12 (sameDump_spec (Sep [EW, EH]) (modi (comp vs at_ vs.length)) g3 gl2 (hg3.trans hgl2.symm) hs3 vv vg2 (RdG.mono (fun w hw => Holds.sep2a hw) rEW) (RdG.mono (fun w hw => Holds.sep2b hw) rEH))) ?_
        rintro _ _ ⟨_, ⟨rfl, rfl⟩, rfl⟩
        refine ⟨(Sat W [Blk g2 (flatOf WK.cells [(⟨{ KA0 with revs := (keptV vs at_ true vs.length) }, ⟨modi (comp vs at_ vs.length), dgens (comp vs at_ vs.length)⟩, uu, vv, g3⟩ : WK)] ++ spg2) 42]), (fun w h => ((h.perm pl3)).dropEnd (L := [_])), ?_⟩
        show WPD _ _ _ _ _ _ _ _ _ (Sep [EW, EH] :: E8 :: X :: Blk g2 (flatOf WK.cells [(⟨{ KA0 with revs := (keptV vs at_ true vs.length) }, ⟨modi (comp vs at_ vs.length), dgens (comp vs at_ vs.length)⟩, uu, vv, g3⟩ : WK)] ++ spg2) 42 :: EU :: EG :: Blk b1 (flatOf KOp.cells [opc at_]) 38 :: Own 47 6 vc1 ((comp vs at_ vs.length).length) (flatOf Vn.cells (comp vs at_ vs.length)) :: Own 42 10 v5 was.length (flatOf WA.cells was) :: Kds WAP was :: Old W0 :: F)
        refine WPD.takeM 16 rfl rfl rfl rfl (by kernel_rfl) (by kernel_rfl) (by kernel_rfl) (by kernel_rfl) (fun _ _ _ h => h) (fun w h => ((h.perm pl3)).dropEnd (L := [_])) (Val.pickT rfl rfl rfl) ?_
        refine WPD.takeM 17 rfl rfl rfl rfl (by kernel_rfl) (by kernel_rfl) (by kernel_rfl) (by kernel_rfl) (fun _ _ _ h => h) (fun w h => ((h.perm pl3)).dropEnd (L := [_])) (Val.move rfl rfl) ?_
        refine WPD.takeGM 18 rfl rfl rfl rfl rfl rfl rfl rfl (by kernel_rfl) (by kernel_rfl) (by kernel_rfl) (by kernel_rfl) (fun _ _ _ h => h) (fun w h => ((h.perm pl3)).dropEnd (L := [_])) (Val.move rfl rfl) ?_
        refine WPD.takeGM 19 rfl rfl rfl rfl rfl rfl rfl rfl (by kernel_rfl) (by kernel_rfl) (by kernel_rfl) (by kernel_rfl) (fun _ _ _ h => h) (fun w h => ((h.perm pl3)).dropEnd (L := [_])) (Val.indexAddr (j := 0) (q := 0) rfl Ty.sl24 rfl rfl (by omega) (by omega) (by omega)) ?_
        refine WPD.takeGM 20 rfl rfl rfl rfl rfl rfl rfl rfl (by kernel_rfl) (by kernel_rfl) (by kernel_rfl) (by kernel_rfl) (fun _ _ _ h => h) (fun w h => ((h.perm pl3)).dropEnd (L := [_])) (Val.fieldAddr (j := 6) rfl Ty.fo42_4 rfl rfl) ?_
        refine WPD.takeG 21 rfl rfl rfl rfl rfl rfl rfl rfl (by kernel_rfl) (by kernel_rfl) (by kernel_rfl) (by kernel_rfl) (fun _ _ _ h => h) (by kernel_rfl) (fun w h => ((h.perm pl3)).dropEnd (L := [_])) (Val.load (v := uu) rfl Ty.sc40 rfl (fun w h => ((h.at 0 rfl).cell 6).trans rfl)) ?_
        refine WPD.takeGM 22 rfl rfl rfl rfl rfl rfl rfl rfl (by kernel_rfl) (by kernel_rfl) (by kernel_rfl) (by kernel_rfl) (fun _ _ _ h => h) (fun w h => ((h.perm pl3)).dropEnd (L := [_])) (Val.move rfl rfl) ?_
        refine WPD.takeGM 23 rfl rfl rfl rfl rfl rfl rfl rfl (by kernel_rfl) (by kernel_rfl) (by kernel_rfl) (by kernel_rfl) (fun _ _ _ h => h) (fun w h => ((h.perm pl3)).dropEnd (L := [_])) (Val.move rfl rfl) ?_
        refine WPD.perm pl2 ?_
        refine WPD.stepG 24 (by kernel_rfl) rfl rfl rfl rfl rfl rfl rfl rfl (Eff.call rfl rfl Try.call14 (Kg.kept_spec X at_ true vs (by omega) va2 hX)) ?_
        rintro vk _ ⟨_, rfl, rfl⟩
        refine ⟨(fun w h => ((h.perm pl4)).dropEnd (L := [_])), ?_⟩
        show WPD _ _ _ _ _ _ _ _ _ (Own 32 2 vk ((keptV vs at_ true vs.length).length) (flatOf Rv.cells (keptV vs at_ true vs.length)) :: X :: Sep [EW, EH] :: E8 :: Blk g2 (flatOf WK.cells [(⟨{ KA0 with revs := (keptV vs at_ true vs.length) }, ⟨modi (comp vs at_ vs.length), dgens (comp vs at_ vs.length)⟩, uu, vv, g3⟩ : WK)] ++ spg2) 42 :: EU :: EG :: Blk b1 (flatOf KOp.cells [opc at_]) 38 :: Own 47 6 vc1 ((comp vs at_ vs.length).length) (flatOf Vn.cells (comp vs at_ vs.length)) :: Own 42 10 v5 was.length (flatOf WA.cells was) :: Kds WAP was :: Old W0 :: F)
        refine WPD.open (fun w h => own_rdG (l := (keptV vs at_ true vs.length)) Rv.len h) ?_
        rintro EK
        refine WPD.pure (fun hEK => ?_)
        show WPD _ _ _ _ _ _ _ _ _ (EK :: X :: Sep [EW, EH] :: E8 :: Blk g2 (flatOf WK.cells [(⟨{ KA0 with revs := (keptV vs at_ true vs.length) }, ⟨modi (comp vs at_ vs.length), dgens (comp vs at_ vs.length)⟩, uu, vv, g3⟩ : WK)] ++ spg2) 42 :: EU :: EG :: Blk b1 (flatOf KOp.cells [opc at_]) 38 :: Own 47 6 vc1 ((comp vs at_ vs.length).length) (flatOf Vn.cells (comp vs at_ vs.length)) :: Own 42 10 v5 was.length (flatOf WA.cells was) :: Kds WAP was :: Old W0 :: F)
        refine WPD.perm pl5 ?_
        refine WPD.conv (fun w h => Sat.sep_mk (M := [EU, EK]) h) ?_
        show WPD _ _ _ _ _ _ _ _ _ (Sep [EU, EK] :: X :: Sep [EW, EH] :: E8 :: Blk g2 (flatOf WK.cells [(⟨{ KA0 with revs := (keptV vs at_ true vs.length) }, ⟨modi (comp vs at_ vs.length), dgens (comp vs at_ vs.length)⟩, uu, vv, g3⟩ : WK)] ++ spg2) 42 :: EG :: Blk b1 (flatOf KOp.cells [opc at_]) 38 :: Own 47 6 vc1 ((comp vs at_ vs.length).length) (flatOf Vn.cells (comp vs at_ vs.length)) :: Own 42 10 v5 was.length (flatOf WA.cells was) :: Kds WAP was :: Old W0 :: F)
        refine WPD.stepGC 25 (by kernel_rfl) rfl rfl rfl rfl rfl rfl rfl rfl (by kernel_rfl) (Eff.call rfl rfl Try.call13 (sameRevs_spec (Sep [EU, EK]) (keptV vs at_ true vs.length) (by have := kept_len vs at_ true vs.length; omega) uu vk (hEU.mono (fun w hw => Holds.sep2a hw)) (hEK.mono (fun w hw => Holds.sep2b hw)))) ?_
        rintro _ _ ⟨_, ⟨rfl, rfl⟩, rfl⟩
        refine ⟨(Sat W (Sep [EU, EK] :: X :: Sep [EW, EH] :: E8 :: Blk g2 (flatOf WK.cells [(⟨{ KA0 with revs := (keptV vs at_ true vs.length) }, ⟨modi (comp vs at_ vs.length), dgens (comp vs at_ vs.length)⟩, uu, vv, g3⟩ : WK)] ++ spg2) 42 :: EG :: Blk b1 (flatOf KOp.cells [opc at_]) 38 :: Own 47 6 vc1 ((comp vs at_ vs.length).length) (flatOf Vn.cells (comp vs at_ vs.length)) :: Own 42 10 v5 was.length (flatOf WA.cells was) :: Kds WAP was :: Old W0 :: F)), (fun _ h => h), ?_⟩
        show WPD _ _ _ _ _ _ _ _ _ (Sep [EU, EK] :: X :: Sep [EW, EH] :: E8 :: Blk g2 (flatOf WK.cells [(⟨{ KA0 with revs := (keptV vs at_ true vs.length) }, ⟨modi (comp vs at_ vs.length), dgens (comp vs at_ vs.length)⟩, uu, vv, g3⟩ : WK)] ++ spg2) 42 :: EG :: Blk b1 (flatOf KOp.cells [opc at_]) 38 :: Own 47 6 vc1 ((comp vs at_ vs.length).length) (flatOf Vn.cells (comp vs at_ vs.length)) :: Own 42 10 v5 was.length (flatOf WA.cells was) :: Kds WAP was :: Old W0 :: F)
        refine WPD.takeM 26 rfl rfl rfl rfl (by kernel_rfl) (by kernel_rfl) (by kernel_rfl) (by kernel_rfl) (fun _ _ _ h => h) (fun _ h => h) (Val.pickT rfl rfl rfl) ?_
        refine WPD.takeM 27 rfl rfl rfl rfl (by kernel_rfl) (by kernel_rfl) (by kernel_rfl) (by kernel_rfl) (fun _ _ _ h => h) (fun _ h => h) (Val.move rfl rfl) ?_
        refine WPD.stepGC 28 (by kernel_rfl) rfl rfl rfl rfl rfl rfl rfl rfl (by kernel_rfl) (Eff.call rfl rfl Try.call9 (Lb.live_spec 0)) ?_
        rintro _ _ ⟨_, ⟨rfl, rfl⟩, rfl⟩
        refine ⟨(Sat W (Sep [EU, EK] :: X :: Sep [EW, EH] :: E8 :: Blk g2 (flatOf WK.cells [(⟨{ KA0 with revs := (keptV vs at_ true vs.length) }, ⟨modi (comp vs at_ vs.length), dgens (comp vs at_ vs.length)⟩, uu, vv, g3⟩ : WK)] ++ spg2) 42 :: EG :: Blk b1 (flatOf KOp.cells [opc at_]) 38 :: Own 47 6 vc1 ((comp vs at_ vs.length).length) (flatOf Vn.cells (comp vs at_ vs.length)) :: Own 42 10 v5 was.length (flatOf WA.cells was) :: Kds WAP was :: Old W0 :: F)), (fun _ h => h), ?_⟩
        show WPD _ _ _ _ _ _ _ _ _ (Sep [EU, EK] :: X :: Sep [EW, EH] :: E8 :: Blk g2 (flatOf WK.cells [(⟨{ KA0 with revs := (keptV vs at_ true vs.length) }, ⟨modi (comp vs at_ vs.length), dgens (comp vs at_ vs.length)⟩, uu, vv, g3⟩ : WK)] ++ spg2) 42 :: EG :: Blk b1 (flatOf KOp.cells [opc at_]) 38 :: Own 47 6 vc1 ((comp vs at_ vs.length).length) (flatOf Vn.cells (comp vs at_ vs.length)) :: Own 42 10 v5 was.length (flatOf WA.cells was) :: Kds WAP was :: Old W0 :: F)
        refine WPD.takeM 29 rfl rfl rfl rfl (by kernel_rfl) (by kernel_rfl) (by kernel_rfl) (by kernel_rfl) (fun _ _ _ h => h) (fun _ h => h) (Val.pickT rfl rfl rfl) ?_
        refine WPD.takeM 30 rfl rfl rfl rfl (by kernel_rfl) (by kernel_rfl) (by kernel_rfl) (by kernel_rfl) (fun _ _ _ h => h) (fun _ h => h) (Val.assign rfl rfl) ?_
        refine WPD.done (by kernel_rfl) ?_
        refine Out.next ?_
        refine WPc.ret ?_
        refine Out.drop ?_
        refine Out.drop ?_
        refine Out.drop ?_
        refine Out.drop ?_
        refine Out.drop ?_
        refine Out.drop ?_
        refine Out.drop ?_
        refine Out.drop ?_
        refine Out.drop ?_
        refine Out.drop ?_
        exact Out.ret1 (L' := _) Try.results3 rfl ⟨rfl, rfl⟩ (fun _ h => h)

end Go.Proofs.Ythicijpjpijdjaa.Li

namespace Go.Proofs.Ythicijpjpijdjaa.Lj
open Go.RowKit Go.Proofs.Ythicijpjpijdjaa Go.Proofs.Ythicijpjpijdjaa.Sl Go.Proofs.Ythicijpjpijdjaa.KyP Go.Proofs.Ythicijpjpijdjaa.Ka Go.Proofs.Ythicijpjpijdjaa.Kb Go.Proofs.Ythicijpjpijdjaa.Kc Go.Proofs.Ythicijpjpijdjaa.Kd Go.Proofs.Ythicijpjpijdjaa.Ke Go.Proofs.Ythicijpjpijdjaa.Kf Go.Proofs.Ythicijpjpijdjaa.Kg Go.Proofs.Ythicijpjpijdjaa.Kh Go.Proofs.Ythicijpjpijdjaa.Ki Go.Proofs.Ythicijpjpijdjaa.Kj Go.Proofs.Ythicijpjpijdjaa.Kk Go.Proofs.Ythicijpjpijdjaa.Kl Go.Proofs.Ythicijpjpijdjaa.Km Go.Proofs.Ythicijpjpijdjaa.Kn Go.Proofs.Ythicijpjpijdjaa.Ko Go.Proofs.Ythicijpjpijdjaa.Kp Go.Proofs.Ythicijpjpijdjaa.Kq Go.Proofs.Ythicijpjpijdjaa.Kr Go.Proofs.Ythicijpjpijdjaa.Ks Go.Proofs.Ythicijpjpijdjaa.Kt Go.Proofs.Ythicijpjpijdjaa.Ku Go.Proofs.Ythicijpjpijdjaa.Kv Go.Proofs.Ythicijpjpijdjaa.Kw Go.Proofs.Ythicijpjpijdjaa.Kx Go.Proofs.Ythicijpjpijdjaa.Ky Go.Proofs.Ythicijpjpijdjaa.Kz Go.Proofs.Ythicijpjpijdjaa.La Go.Proofs.Ythicijpjpijdjaa.Lb Go.Proofs.Ythicijpjpijdjaa.Lc Go.Proofs.Ythicijpjpijdjaa.Ld Go.Proofs.Ythicijpjpijdjaa.Le Go.Proofs.Ythicijpjpijdjaa.Lf Go.Proofs.Ythicijpjpijdjaa.Lg Go.Proofs.Ythicijpjpijdjaa.Lh Go.Proofs.Ythicijpjpijdjaa.KyQ Go.Proofs.Ythicijpjpijdjaa.KyR Go.Proofs.Ythicijpjpijdjaa.Li
set_option linter.unusedVariables false
set_option linter.unusedSimpArgs false
set_option linter.unusedSectionVars false


/-- one more revision is told, from a number on -/
def sstep (at_ : Int) (q : List Rv × Int) (r : Rv) : List Rv × Int := if less r ⟨at_, 0⟩ then q else if r.m = q.2 then (q.1.take (q.1.length - 1) ++ [r], q.2) else (q.1 ++ [r], r.m)
def sfold (at_ : Int) (rs : List Rv) (q : List Rv × Int) : List Rv × Int := rs.foldl (sstep at_) q
/-- the life from which on revisions are looked at -/
def si (gs : List Gn) (at_ : Int) : Nat → Nat
  | 0 => 0
  | i + 1 => match gs[i + 1]? with
    | some g => if g.revs.length = 0 then si gs at_ i else if less g.c ⟨at_, 0⟩ then i + 1 else si gs at_ i
    | none => si gs at_ i
theorem si_step {gs : List Gn} {at_ : Int} {i : Nat} {g : Gn} (h : gs[i + 1]? = some g) : si gs at_ (i + 1) = if g.revs.length = 0 then si gs at_ i else if less g.c ⟨at_, 0⟩ then i + 1 else si gs at_ i := by
  conv => lhs; unfold si
  rw [h]
def ksince (gs : List Gn) (at_ : Int) : List Rv := (sfold at_ (revsOf (gs.drop (si gs at_ (gs.length - 1)))) ([], 0)).1
theorem revsOf_drop {gs : List Gn} {k : Nat} {g : Gn} (h : gs[k]? = some g) : revsOf (gs.drop k) = g.revs ++ revsOf (gs.drop (k + 1)) := by
  obtain ⟨h1, h2⟩ := List.getElem?_eq_some_iff.1 h
  rw [List.drop_eq_getElem_cons h1, h2]
  unfold revsOf
  simp
theorem sf_cons (at_ : Int) {rs rest : List Rv} {i : Nat} {y : Rv} (h : rs[i]? = some y) (q : List Rv × Int) : sfold at_ (rs.drop i ++ rest) q = sfold at_ (rs.drop (i + 1) ++ rest) (sstep at_ q y) := by
  obtain ⟨h1, h2⟩ := List.getElem?_eq_some_iff.1 h
  rw [List.drop_eq_getElem_cons h1, h2]
  rfl
theorem sstep_skip {at_ : Int} {q : List Rv × Int} {r : Rv} (h : less r ⟨at_, 0⟩) : sstep at_ q r = q := by unfold sstep; rw [if_pos h]
theorem sstep_same {at_ : Int} {q : List Rv} {y r : Rv} {la : Int} (h : ¬ less r ⟨at_, 0⟩) (h2 : r.m = la) : sstep at_ (q ++ [y], la) r = (q ++ [r], la) := by unfold sstep; rw [if_neg h, if_pos h2]; simp
theorem sstep_new {at_ : Int} {q : List Rv} {r : Rv} {la : Int} (h : ¬ less r ⟨at_, 0⟩) (h2 : r.m ≠ la) : sstep at_ (q, la) r = (q ++ [r], r.m) := by unfold sstep; rw [if_neg h, if_neg h2]
theorem rvfit (q : List Rv) (y : Rv) (sp : List Value) : q.length * 2 + 2 ≤ (flatOf Rv.cells (q ++ [y]) ++ sp).length := by
  rw [List.length_append, flatOf_length Rv.len, List.length_append, List.length_singleton]; omega
theorem rvset (q : List Rv) (y r : Rv) (sp : List Value) : (flatOf Rv.cells (q ++ [y]) ++ sp).take (q.length * 2) ++ ([.int .i64 r.m, .int .i64 r.s] : List Value) ++ (flatOf Rv.cells (q ++ [y]) ++ sp).drop (q.length * 2 + 2) = flatOf Rv.cells (q ++ [r]) ++ sp := by
  have hl := flatOf_length Rv.len q
  have e : flatOf Rv.cells (q ++ [y]) ++ sp = flatOf Rv.cells q ++ (Rv.cells y ++ sp) := by rw [flatOf_append, flatOf_one, List.append_assoc]
  rw [e, ← hl, List.take_left, List.drop_append, List.drop_eq_nil_of_le (by omega), List.nil_append, Nat.add_sub_cancel_left, flatOf_append, flatOf_one]
  simp [Rv.cells]
set_option maxRecDepth 100000 in
set_option maxHeartbeats 2000000 in
theorem ksince_row (A : HProp) (b : Nat) (ka : Option Addr) (kn kc : Nat) (md : Rv) (at_ : Int) (l : List GV) (hsm : Small (l.map (·.1))) (hin : ∀ p ∈ l, Rd A 2 Rv.cells p.2 p.1.revs) (hlp : 0 < l.length) (hemp : emp (l.map (·.1)) = false) (hpos : ∀ p ∈ l, ∀ r ∈ p.1.revs, 1 ≤ r.m) (b0 o0 c0 : Nat) (hr : ∀ w, Holds A w → ∀ i x, l[i]? = some x → w.rangeAt b0 (o0 + i * 4) (GV.cells x)) : Does Try.prog 100 [.pointer (some ⟨b, 0, none⟩), .pointer none, .int .i64 (at_)] [Blk b [.slice ka kn kc, .int .i64 (md.m), .int .i64 (md.s), .slice (some ⟨b0, o0, none⟩) l.length c0] 153, A] (fun v L => L = [Own 81 2 v (ksince (l.map (·.1)) at_).length (flatOf Rv.cells (ksince (l.map (·.1)) at_)), Blk b [.slice ka kn kc, .int .i64 md.m, .int .i64 md.s, .slice (some ⟨b0, o0, none⟩) l.length c0] 153, A]) := by
  have hlen := hsm.len
  refine Does.enter 84 Try.func100 rfl rfl rfl fun W F => ?_
  show WPc _ _ _ _ _ [(0, .pointer (some ⟨b, 0, none⟩)), (1, .pointer none), (2, .int .i64 (at_))] (Blk b [.slice ka kn kc, .int .i64 (md.m), .int .i64 (md.s), .slice (some ⟨b0, o0, none⟩) l.length c0] 153 :: A :: F)
  refine WPc.seq ?_
  refine WPc.region ?_
  refine WP.val rfl rfl rfl (Val.assign rfl rfl) ?_
  refine WP.nil ?_
  refine Out.next ?_
  refine WPc.seq ?_
  refine WPc.seq ?_
  refine WPc.region ?_
  refine WP.val rfl rfl rfl (Val.move rfl rfl) ?_
  refine WP.perm pl1 ?_
  refine WP.perm pl1 ?_
  refine WP.eff rfl rfl rfl (Eff.call rfl rfl Try.call105 (kempty_row A b ka kn kc md l hsm hin b0 o0 c0 hr)) ?_
  rintro _ _ ⟨_, ⟨rfl, rfl⟩, rfl⟩
  show WP _ _ _ _ _ _ _ (Blk b [.slice ka kn kc, .int .i64 (md.m), .int .i64 (md.s), .slice (some ⟨b0, o0, none⟩) l.length c0] 153 :: A :: F)
  refine WP.nil ?_
  refine Out.next ?_
  refine WPc.cond rfl (fun h1 => ?_) (fun h1 => ?_)
  · skip
    have h1 : ((emp (l.map (·.1)))) = true := h1
    exfalso; rw [hemp] at h1; cases h1
  · skip
    have h1 : ((emp (l.map (·.1)))) = false := h1
    refine WPc.skip ?_
    refine Out.next ?_
    refine WPc.seq ?_
    refine WPc.region ?_
    refine WP.val rfl rfl rfl (Val.move rfl rfl) ?_
    refine WP.val rfl rfl rfl (Val.mk (cs := [.int .i64 (at_), .int .i64 0]) rfl rfl (fun _ => by kernel_rfl)) ?_
    refine WP.eff rfl rfl rfl (Eff.alloc rfl Ty.z81) ?_
    rintro _ _ ⟨b1, rfl, rfl⟩
    refine WP.eff0 rfl rfl (Eff.storeAgg (cs := [.int .i64 (at_), .int .i64 0]) (C' := [.int .i64 (at_), .int .i64 0]) rfl Ty.ag81 rfl rfl rfl rfl (by simp) rfl) ?_
    rintro _ _ rfl
    refine WP.nil ?_
    refine Out.next ?_
    refine WPc.seq ?_
    refine WPc.region ?_
    refine WP.val rfl rfl rfl (Val.assign rfl rfl) ?_
    refine WP.nil ?_
    refine Out.next ?_
    refine WPc.cut (ι := Nat) (fun k0 => k0 < l.length ∧ si (l.map (·.1)) at_ (l.length - 1) = k0) (fun k0 => [(0, .pointer (some ⟨b, 0, none⟩)), (7, .pointer (some ⟨b1, 0, none⟩)), (8, .int .i64 (((k0 : Nat) : Int)))]) (fun k0 => Blk b1 [.int .i64 (at_), .int .i64 0] 81 :: Blk b [.slice ka kn kc, .int .i64 (md.m), .int .i64 (md.s), .slice (some ⟨b0, o0, none⟩) l.length c0] 153 :: A :: F) ?_ ?_
    · skip
      refine WPc.seq ?_
      refine WPc.region ?_
      refine WP.val rfl rfl rfl (Val.move rfl rfl) ?_
      refine WP.val rfl rfl rfl (Val.nilCheck rfl rfl) ?_
      refine WP.val rfl rfl rfl (Val.fieldAddr (j := 3) rfl Ty.fo153_2 rfl rfl) ?_
      refine WP.val rfl rfl rfl (Val.load rfl Ty.sc151 rfl (fun w h => h.cell 1 rfl rfl)) ?_
      refine WP.val rfl rfl rfl (Val.len rfl Ty.sl151 rfl) ?_
      refine WP.val rfl rfl rfl (Val.sub (z := ((l.length - 1 : Nat) : Int)) rfl rfl rfl ((w64 (by omega) (by omega)).trans (by omega))) ?_
      refine WP.val rfl rfl rfl (Val.assign rfl rfl) ?_
      refine WP.nil ?_
      refine Out.next ?_
      refine WPc.block ?_
      refine WPc.loop (ι := Nat) (fun k => k < l.length ∧ si (l.map (·.1)) at_ (l.length - 1) = si (l.map (·.1)) at_ k) (fun k => [(0, .pointer (some ⟨b, 0, none⟩)), (7, .pointer (some ⟨b1, 0, none⟩)), (8, .int .i64 (((k : Nat) : Int)))]) (fun k => Blk b1 [.int .i64 (at_), .int .i64 0] 81 :: Blk b [.slice ka kn kc, .int .i64 (md.m), .int .i64 (md.s), .slice (some ⟨b0, o0, none⟩) l.length c0] 153 :: A :: F) (fun k => k) (l.length - 1) ⟨by omega, rfl⟩ ((Sub.cons rfl (Sub.cons rfl (Sub.cons rfl Sub.nil)))) (fun _ h => h) ?_
      rintro k ⟨hk, hsi⟩
      show WPc _ _ _ _ _ [(0, .pointer (some ⟨b, 0, none⟩)), (7, .pointer (some ⟨b1, 0, none⟩)), (8, .int .i64 (((k : Nat) : Int)))] (Blk b1 [.int .i64 (at_), .int .i64 0] 81 :: Blk b [.slice ka kn kc, .int .i64 (md.m), .int .i64 (md.s), .slice (some ⟨b0, o0, none⟩) l.length c0] 153 :: A :: F)
      replace hk : k < l.length := hk
      replace hsi : si (l.map (·.1)) at_ (l.length - 1) = si (l.map (·.1)) at_ k := hsi
      refine WPc.seq ?_
      refine WPc.seq ?_
      refine WPc.region ?_
      refine WP.val rfl rfl rfl (Val.move rfl rfl) ?_
      refine WP.val rfl rfl rfl (Val.gtr rfl rfl rfl) ?_
      refine WP.nil ?_
      refine Out.next ?_
      refine WPc.ifP rfl (fun h2 => ?_) (fun h2 => ?_)
      · skip
        have h2 : ((0 : Int) < ((k : Nat) : Int)) := h2
        refine WPc.skip ?_
        refine Out.next ?_
        refine WPc.seq ?_
        refine WPc.block ?_
        refine WPc.seq ?_
        obtain ⟨j, rfl⟩ : ∃ j, k = j + 1 := ⟨k - 1, by omega⟩
        show WPc _ _ _ _ _ _ (Blk b1 [.int .i64 (at_), .int .i64 0] 81 :: Blk b [.slice ka kn kc, .int .i64 (md.m), .int .i64 (md.s), .slice (some ⟨b0, o0, none⟩) l.length c0] 153 :: A :: F)
        have hlt : j + 1 < l.length := by omega
        obtain ⟨⟨g, u⟩, hx⟩ : ∃ x, l[j + 1]? = some x := ⟨_, List.getElem?_eq_getElem hlt⟩
        have hxm : (g, u) ∈ l := List.mem_iff_getElem?.2 ⟨_, hx⟩
        have hin1 : Rd A 2 Rv.cells u g.revs := hin _ hxm
        have hsx : g.revs.length ≤ 200000 := hsm.inn hxm
        have hgj : (l.map (·.1))[j + 1]? = some g := by rw [List.getElem?_map, hx]; rfl
        obtain ⟨ua2, uc2, rfl⟩ := Rd.slice hin1
        have hst := si_step (at_ := at_) hgj
        have onu : True := trivial
        refine WPc.region ?_
        refine WP.val rfl rfl rfl (Val.move rfl rfl) ?_
        refine WP.val rfl rfl rfl (Val.nilCheck rfl rfl) ?_
        refine WP.val rfl rfl rfl (Val.fieldAddr (j := 3) rfl Ty.fo153_2 rfl rfl) ?_
        refine WP.val rfl rfl rfl (Val.load rfl Ty.sc151 rfl (fun w h => h.cell 1 rfl rfl)) ?_
        refine WP.val rfl rfl rfl (Val.move rfl rfl) ?_
        refine WP.val rfl rfl rfl (Val.indexAddr (j := j + 1) (q := o0 + (j + 1) * 4) rfl Ty.sl151 rfl rfl (by omega) (by omega) (by omega)) ?_
        refine WP.val rfl rfl rfl (Val.loadAgg (cs := (GV.cells (g, Value.slice ua2 g.revs.length uc2))) rfl Ty.ag155 rfl (by rfl) (fun w h => hr w (h.at 2 rfl) (j + 1) (g, _) hx)) ?_
        refine WP.eff rfl rfl rfl (Eff.alloc rfl Ty.z155) ?_
        rintro _ _ ⟨b3, rfl, rfl⟩
        refine WP.eff0 rfl rfl (Eff.storeAgg (cs := [.int .i64 (g.v), .int .i64 (g.c.m), .int .i64 (g.c.s), .slice ua2 g.revs.length uc2]) (C' := [.int .i64 (g.v), .int .i64 (g.c.m), .int .i64 (g.c.s), .slice ua2 g.revs.length uc2]) rfl Ty.ag155 rfl rfl rfl rfl (by simp) rfl) ?_
        rintro _ _ rfl
        refine WP.nil ?_
        refine Out.next ?_
        refine WPc.seq ?_
        refine WPc.seq ?_
        refine WPc.region ?_
        refine WP.eff rfl rfl rfl (Eff.call rfl rfl Try.call112 (gempty_own b3 0 [.int .i64 (g.v), .int .i64 (g.c.m), .int .i64 (g.c.s), .slice ua2 g.revs.length uc2] ua2 g.revs.length uc2 rfl)) ?_
        rintro _ _ ⟨_, ⟨rfl, rfl⟩, rfl⟩
        show WP _ _ _ _ _ _ _ (Blk b3 [.int .i64 (g.v), .int .i64 (g.c.m), .int .i64 (g.c.s), .slice ua2 g.revs.length uc2] 155 :: Blk b1 [.int .i64 (at_), .int .i64 0] 81 :: Blk b [.slice ka kn kc, .int .i64 (md.m), .int .i64 (md.s), .slice (some ⟨b0, o0, none⟩) l.length c0] 153 :: A :: F)
        refine WP.nil ?_
        refine Out.next ?_
        refine WPc.ifP rfl (fun h3 => ?_) (fun h3 => ?_)
        · skip
          have h3 : (g.revs.length = 0) := h3
          refine WPc.exit ?_
          refine Out.then_exit ?_
          refine Out.block_exit ?_
          refine Out.next ?_
          refine WPc.region ?_
          refine WP.val rfl rfl rfl (Val.move rfl rfl) ?_
          refine WP.val rfl rfl rfl (Val.sub (z := ((j : Nat) : Int)) rfl rfl rfl ((w64 (by omega) (by omega)).trans (by omega))) ?_
          refine WP.val rfl rfl rfl (Val.assign rfl rfl) ?_
          refine WP.nil ?_
          refine Out.drop ?_
          refine Out.again j ?_ ?_ ?_ ?_
          · exact ⟨by omega, hsi.trans (hst.trans (by rw [if_pos (by omega)]))⟩
          · first | omega | (dsimp only; omega)
          · exact (Sub.cons rfl (Sub.cons rfl (Sub.cons rfl Sub.nil)))
          · exact (fun _ h => h)
        · skip
          have h3 : ¬ (g.revs.length = 0) := h3
          refine WPc.skip ?_
          refine Out.next ?_
          refine WPc.seq ?_
          refine WPc.region ?_
          refine WP.val rfl rfl rfl (Val.loadAgg (cs := [.int .i64 (at_), .int .i64 0]) rfl Ty.ag81 rfl rfl (fun w h => h.range 1 rfl rfl)) ?_
          refine WP.val rfl rfl rfl (Val.fieldAddr (j := 1) rfl Ty.fo155_1 rfl rfl) ?_
          refine WP.val rfl rfl rfl (Val.loadAgg (cs := [.int .i64 (g.c.m), .int .i64 (g.c.s)]) rfl Ty.ag81 rfl rfl (fun w h => h.range 0 rfl rfl)) ?_
          refine WP.eff rfl rfl rfl (Eff.call rfl rfl Try.call111 (gt_spec ⟨at_, 0⟩ g.c)) ?_
          rintro _ _ ⟨_, ⟨rfl, rfl⟩, rfl⟩
          show WP _ _ _ _ _ _ _ (Blk b3 [.int .i64 (g.v), .int .i64 (g.c.m), .int .i64 (g.c.s), .slice ua2 g.revs.length uc2] 155 :: Blk b1 [.int .i64 (at_), .int .i64 0] 81 :: Blk b [.slice ka kn kc, .int .i64 (md.m), .int .i64 (md.s), .slice (some ⟨b0, o0, none⟩) l.length c0] 153 :: A :: F)
          refine WP.nil ?_
          refine Out.next ?_
          refine WPc.ifP rfl (fun h4 => ?_) (fun h4 => ?_)
          · skip
            have h4 : (less g.c ⟨at_, 0⟩) := h4
            refine WPc.exit ?_
            refine Out.block_other rfl ?_
            refine Out.then_exit ?_
            refine Out.then_exit ?_
            refine Out.block_exit ?_
            refine Out.drop ?_
            refine Out.meet (j + 1) ?_ ?_ ?_
            · exact ⟨by omega, hsi.trans (hst.trans (by rw [if_neg (by omega), if_pos (by assumption)]))⟩
            · exact (Sub.cons rfl (Sub.cons rfl (Sub.cons rfl Sub.nil)))
            · exact (fun _ h => h)
          · skip
            have h4 : ¬ (less g.c ⟨at_, 0⟩) := h4
            refine WPc.skip ?_
            refine Out.block ?_
            refine Out.next ?_
            refine WPc.region ?_
            refine WP.val rfl rfl rfl (Val.move rfl rfl) ?_
            refine WP.val rfl rfl rfl (Val.sub (z := ((j : Nat) : Int)) rfl rfl rfl ((w64 (by omega) (by omega)).trans (by omega))) ?_
            refine WP.val rfl rfl rfl (Val.assign rfl rfl) ?_
            refine WP.nil ?_
            refine Out.drop ?_
            refine Out.again j ?_ ?_ ?_ ?_
            · exact ⟨by omega, hsi.trans (hst.trans (by rw [if_neg (by omega), if_neg (by assumption)]))⟩
            · first | omega | (dsimp only; omega)
            · exact (Sub.cons rfl (Sub.cons rfl (Sub.cons rfl Sub.nil)))
            · exact (fun _ h => h)
      · skip
        have h2 : ¬ ((0 : Int) < ((k : Nat) : Int)) := h2
        refine WPc.exit ?_
        refine Out.then_exit ?_
        refine Out.then_exit ?_
        refine Out.block_exit ?_
        refine Out.meet k ?_ ?_ ?_
        · exact ⟨hk, by rw [hsi, show k = 0 from by omega]; rfl⟩
        · exact (Sub.cons rfl (Sub.cons rfl (Sub.cons rfl Sub.nil)))
        · exact (fun _ h => h)
    · skip
      rintro k0 ⟨hk0, hsi⟩
      show WPc _ _ _ _ _ [(0, .pointer (some ⟨b, 0, none⟩)), (7, .pointer (some ⟨b1, 0, none⟩)), (8, .int .i64 (((k0 : Nat) : Int)))] (Blk b1 [.int .i64 (at_), .int .i64 0] 81 :: Blk b [.slice ka kn kc, .int .i64 (md.m), .int .i64 (md.s), .slice (some ⟨b0, o0, none⟩) l.length c0] 153 :: A :: F)
      refine WPc.seq ?_
      refine WPc.region ?_
      refine WP.val rfl rfl rfl (Val.assign rfl rfl) ?_
      refine WP.nil ?_
      refine Out.next ?_
      refine WPc.seq ?_
      refine WPc.conv (fun w h => h.ownNil (e := 81) (k := 2)) ?_
      show WPc _ _ _ _ _ _ (Own 81 2 (.slice none 0 0) 0 ([]) :: Blk b1 [.int .i64 (at_), .int .i64 0] 81 :: Blk b [.slice ka kn kc, .int .i64 (md.m), .int .i64 (md.s), .slice (some ⟨b0, o0, none⟩) l.length c0] 153 :: A :: F)
      refine WPc.region ?_
      refine WP.val rfl rfl rfl (Val.assign rfl rfl) ?_
      refine WP.nil ?_
      refine Out.next ?_
      refine WPc.seq ?_
      refine WPc.block ?_
      refine WPc.loop (ι := Nat × Value × List Rv × Int) (fun ⟨k, v, acc, la⟩ => k ≤ l.length ∧ sfold at_ (revsOf ((l.map (·.1)).drop k)) (acc, la) = sfold at_ (revsOf ((l.map (·.1)).drop k0)) ([], 0) ∧ (la ≠ 0 → acc ≠ []) ∧ acc.length ≤ k * 200000) (fun ⟨k, v, acc, la⟩ => [(0, .pointer (some ⟨b, 0, none⟩)), (7, .pointer (some ⟨b1, 0, none⟩)), (8, .int .i64 (((k : Nat) : Int))), (10, v), (11, .int .i64 (la))]) (fun ⟨k, v, acc, la⟩ => Own 81 2 v acc.length (flatOf Rv.cells acc) :: Blk b1 [.int .i64 (at_), .int .i64 0] 81 :: Blk b [.slice ka kn kc, .int .i64 (md.m), .int .i64 (md.s), .slice (some ⟨b0, o0, none⟩) l.length c0] 153 :: A :: F) (fun ⟨k, v, acc, la⟩ => l.length - k) (k0, .slice none 0 0, [], 0) ⟨Nat.le_of_lt hk0, rfl, fun h => absurd rfl h, Nat.zero_le _⟩ ((Sub.cons rfl (Sub.cons rfl (Sub.cons rfl (Sub.cons rfl (Sub.cons rfl Sub.nil)))))) (fun _ h => h) ?_
      rintro ⟨k, v, acc, la⟩ ⟨hk, hf, hne, hal⟩
      show WPc _ _ _ _ _ [(0, .pointer (some ⟨b, 0, none⟩)), (7, .pointer (some ⟨b1, 0, none⟩)), (8, .int .i64 (((k : Nat) : Int))), (10, v), (11, .int .i64 (la))] (Own 81 2 v acc.length (flatOf Rv.cells acc) :: Blk b1 [.int .i64 (at_), .int .i64 0] 81 :: Blk b [.slice ka kn kc, .int .i64 (md.m), .int .i64 (md.s), .slice (some ⟨b0, o0, none⟩) l.length c0] 153 :: A :: F)
      replace hk : k ≤ l.length := hk
      replace hf : sfold at_ (revsOf ((l.map (·.1)).drop k)) (acc, la) = sfold at_ (revsOf ((l.map (·.1)).drop k0)) ([], 0) := hf
      replace hne : la ≠ 0 → acc ≠ [] := hne
      replace hal : acc.length ≤ k * 200000 := hal
      refine WPc.seq ?_
      refine WPc.seq ?_
      refine WPc.region ?_
      refine WP.val rfl rfl rfl (Val.move rfl rfl) ?_
      refine WP.val rfl rfl rfl (Val.move rfl rfl) ?_
      refine WP.val rfl rfl rfl (Val.nilCheck rfl rfl) ?_
      refine WP.val rfl rfl rfl (Val.fieldAddr (j := 3) rfl Ty.fo153_2 rfl rfl) ?_
      refine WP.val rfl rfl rfl (Val.load rfl Ty.sc151 rfl (fun w h => h.cell 2 rfl rfl)) ?_
      refine WP.val rfl rfl rfl (Val.len rfl Ty.sl151 rfl) ?_
      refine WP.val rfl rfl rfl (Val.lss rfl rfl rfl) ?_
      refine WP.nil ?_
      refine Out.next ?_
      refine WPc.ifP rfl (fun h5 => ?_) (fun h5 => ?_)
      · skip
        have h5 : (((k : Nat) : Int) < ((l.length : Nat) : Int)) := h5
        refine WPc.skip ?_
        refine Out.next ?_
        refine WPc.seq ?_
        refine WPc.block ?_
        refine WPc.seq ?_
        have hlt : k < l.length := by omega
        obtain ⟨⟨g, u⟩, hx⟩ : ∃ x, l[k]? = some x := ⟨_, List.getElem?_eq_getElem hlt⟩
        have hxm : (g, u) ∈ l := List.mem_iff_getElem?.2 ⟨_, hx⟩
        have hin1 : Rd A 2 Rv.cells u g.revs := hin _ hxm
        have hsx : g.revs.length ≤ 200000 := hsm.inn hxm
        have hgj : (l.map (·.1))[k]? = some g := by rw [List.getElem?_map, hx]; rfl
        obtain ⟨ua4, uc4, rfl⟩ := Rd.slice hin1
        rw [revsOf_drop hgj] at hf
        have hpm : ∀ r ∈ g.revs, 1 ≤ r.m := fun r hr => hpos _ hxm r hr
        refine WPc.region ?_
        refine WP.val rfl rfl rfl (Val.move rfl rfl) ?_
        refine WP.val rfl rfl rfl (Val.nilCheck rfl rfl) ?_
        refine WP.val rfl rfl rfl (Val.fieldAddr (j := 3) rfl Ty.fo153_2 rfl rfl) ?_
        refine WP.val rfl rfl rfl (Val.load rfl Ty.sc151 rfl (fun w h => h.cell 2 rfl rfl)) ?_
        refine WP.val rfl rfl rfl (Val.move rfl rfl) ?_
        refine WP.val rfl rfl rfl (Val.indexAddr (j := k) (q := o0 + k * 4) rfl Ty.sl151 rfl rfl (by omega) (by omega) (by omega)) ?_
        refine WP.val rfl rfl rfl (Val.fieldAddr (j := o0 + k * 4 + 3) rfl Ty.fo155_2 rfl rfl) ?_
        refine WP.val rfl rfl rfl (Val.load (v := .slice ua4 g.revs.length uc4) rfl Ty.sc132 rfl (fun w h => hr w (h.at 3 rfl) (k) (g, _) hx 3 _ rfl)) ?_
        refine WP.val rfl rfl rfl (Val.len rfl Ty.sl132 rfl) ?_
        refine WP.val rfl rfl rfl (Val.move rfl rfl) ?_
        refine WP.nil ?_
        refine Out.next ?_
        refine WPc.block ?_
        refine WPc.loop (ι := Nat × Value × List Rv × Int) (fun ⟨i, v, acc, la⟩ => i ≤ g.revs.length ∧ sfold at_ (g.revs.drop i ++ revsOf ((l.map (·.1)).drop (k + 1))) (acc, la) = sfold at_ (revsOf ((l.map (·.1)).drop k0)) ([], 0) ∧ (la ≠ 0 → acc ≠ []) ∧ acc.length ≤ k * 200000 + i) (fun ⟨i, v, acc, la⟩ => [(0, .pointer (some ⟨b, 0, none⟩)), (7, .pointer (some ⟨b1, 0, none⟩)), (8, .int .i64 (((k : Nat) : Int))), (10, v), (11, .int .i64 (la)), (57, .slice ua4 g.revs.length uc4), (58, .int .i64 (((g.revs.length : Nat) : Int))), (59, .int .i64 (((i : Nat) : Int)))]) (fun ⟨i, v, acc, la⟩ => Own 81 2 v acc.length (flatOf Rv.cells acc) :: Blk b1 [.int .i64 (at_), .int .i64 0] 81 :: Blk b [.slice ka kn kc, .int .i64 (md.m), .int .i64 (md.s), .slice (some ⟨b0, o0, none⟩) l.length c0] 153 :: A :: F) (fun ⟨i, v, acc, la⟩ => g.revs.length - i) (0, v, acc, la) ⟨Nat.zero_le _, hf, hne, Nat.le_add_right_of_le hal⟩ ((Sub.cons rfl (Sub.cons rfl (Sub.cons rfl (Sub.cons rfl (Sub.cons rfl (Sub.cons rfl (Sub.cons rfl (Sub.cons rfl Sub.nil))))))))) (fun _ h => h) ?_
        rintro ⟨i, v, acc, la⟩ ⟨hi, hf2, hne2, hal2⟩
        show WPc _ _ _ _ _ [(0, .pointer (some ⟨b, 0, none⟩)), (7, .pointer (some ⟨b1, 0, none⟩)), (8, .int .i64 (((k : Nat) : Int))), (10, v), (11, .int .i64 (la)), (57, .slice ua4 g.revs.length uc4), (58, .int .i64 (((g.revs.length : Nat) : Int))), (59, .int .i64 (((i : Nat) : Int)))] (Own 81 2 v acc.length (flatOf Rv.cells acc) :: Blk b1 [.int .i64 (at_), .int .i64 0] 81 :: Blk b [.slice ka kn kc, .int .i64 (md.m), .int .i64 (md.s), .slice (some ⟨b0, o0, none⟩) l.length c0] 153 :: A :: F)
        replace hi : i ≤ g.revs.length := hi
        replace hf2 : sfold at_ (g.revs.drop i ++ revsOf ((l.map (·.1)).drop (k + 1))) (acc, la) = sfold at_ (revsOf ((l.map (·.1)).drop k0)) ([], 0) := hf2
        replace hne2 : la ≠ 0 → acc ≠ [] := hne2
        replace hal2 : acc.length ≤ k * 200000 + i := hal2
        refine WPc.seq ?_
        refine WPc.region ?_
        refine WP.val rfl rfl rfl (Val.lss rfl rfl rfl) ?_
        refine WP.nil ?_
        refine Out.next ?_
        refine WPc.seq ?_
        refine WPc.ifP rfl (fun h6 => ?_) (fun h6 => ?_)
        · skip
          have h6 : (((i : Nat) : Int) < ((g.revs.length : Nat) : Int)) := h6
          refine WPc.skip ?_
          refine Out.next ?_
          refine WPc.seq ?_
          refine WPc.block ?_
          refine WPc.seq ?_
          obtain ⟨bi, oi, hua, hri⟩ := Rd.rowS hin1 (by omega)
          subst hua
          show WPc _ _ _ _ _ _ (Own 81 2 v acc.length (flatOf Rv.cells acc) :: Blk b1 [.int .i64 (at_), .int .i64 0] 81 :: Blk b [.slice ka kn kc, .int .i64 (md.m), .int .i64 (md.s), .slice (some ⟨b0, o0, none⟩) l.length c0] 153 :: A :: F)
          obtain ⟨y, hy⟩ : ∃ y, g.revs[i]? = some y := ⟨_, List.getElem?_eq_getElem (by omega)⟩
          have hym := hpm y (List.mem_iff_getElem?.2 ⟨_, hy⟩)
          refine WPc.region ?_
          refine WP.val rfl rfl rfl (Val.indexAddr (j := i) (q := oi + i * 2) rfl Ty.sl132 rfl rfl (by omega) (by omega) (by omega)) ?_
          refine WP.val rfl rfl rfl (Val.loadAgg (cs := (Rv.cells y)) rfl Ty.ag81 rfl (by rfl) (fun w h => hri w (h.at 3 rfl) i y hy)) ?_
          refine WP.eff rfl rfl rfl (Eff.alloc rfl Ty.z81) ?_
          rintro _ _ ⟨b5, rfl, rfl⟩
          refine WP.eff0 rfl rfl (Eff.storeAgg (cs := [.int .i64 (y.m), .int .i64 (y.s)]) (C' := [.int .i64 (y.m), .int .i64 (y.s)]) rfl Ty.ag81 rfl rfl rfl rfl (by simp) rfl) ?_
          rintro _ _ rfl
          refine WP.nil ?_
          refine Out.next ?_
          refine WPc.seq ?_
          refine WPc.seq ?_
          refine WPc.region ?_
          refine WP.val rfl rfl rfl (Val.loadAgg (cs := [.int .i64 (at_), .int .i64 0]) rfl Ty.ag81 rfl rfl (fun w h => h.range 2 rfl rfl)) ?_
          refine WP.val rfl rfl rfl (Val.loadAgg (cs := [.int .i64 (y.m), .int .i64 (y.s)]) rfl Ty.ag81 rfl rfl (fun w h => h.range 0 rfl rfl)) ?_
          refine WP.eff rfl rfl rfl (Eff.call rfl rfl Try.call111 (gt_spec ⟨at_, 0⟩ y)) ?_
          rintro _ _ ⟨_, ⟨rfl, rfl⟩, rfl⟩
          show WP _ _ _ _ _ _ _ (Blk b5 [.int .i64 (y.m), .int .i64 (y.s)] 81 :: Own 81 2 v acc.length (flatOf Rv.cells acc) :: Blk b1 [.int .i64 (at_), .int .i64 0] 81 :: Blk b [.slice ka kn kc, .int .i64 (md.m), .int .i64 (md.s), .slice (some ⟨b0, o0, none⟩) l.length c0] 153 :: A :: F)
          refine WP.nil ?_
          refine Out.next ?_
          refine WPc.ifP rfl (fun h7 => ?_) (fun h7 => ?_)
          · skip
            have h7 : (less y ⟨at_, 0⟩) := h7
            refine WPc.exit ?_
            refine Out.then_exit ?_
            refine Out.block_exit ?_
            refine Out.next ?_
            refine WPc.region ?_
            refine WP.val rfl rfl rfl (Val.add (z := ((i + 1 : Nat) : Int)) rfl rfl rfl ((w64 (by omega) (by omega)).trans (by omega))) ?_
            refine WP.val rfl rfl rfl (Val.move rfl rfl) ?_
            refine WP.nil ?_
            refine Out.drop ?_
            refine Out.again (i + 1, v, acc, la) ?_ ?_ ?_ ?_
            · exact (by rw [sf_cons at_ hy, sstep_skip (by assumption)] at hf2; exact ⟨by show i + 1 ≤ g.revs.length; omega, hf2, hne2, by show acc.length ≤ k * 200000 + (i + 1); omega⟩)
            · (dsimp only; omega)
            · exact (Sub.cons rfl (Sub.cons rfl (Sub.cons rfl (Sub.cons rfl (Sub.cons rfl (Sub.cons rfl (Sub.cons rfl (Sub.cons rfl Sub.nil))))))))
            · exact (fun _ h => h)
          · skip
            have h7 : ¬ (less y ⟨at_, 0⟩) := h7
            refine WPc.skip ?_
            refine Out.next ?_
            refine WPc.seq ?_
            refine WPc.seq ?_
            refine WPc.region ?_
            refine WP.val rfl rfl rfl (Val.fieldAddr (j := 0) rfl Ty.fo81_0 rfl rfl) ?_
            refine WP.val rfl rfl rfl (Val.load rfl Ty.sc2 rfl (fun w h => h.cell 0 rfl rfl)) ?_
            refine WP.val rfl rfl rfl (Val.move rfl rfl) ?_
            refine WP.val rfl rfl rfl (Val.eql rfl rfl rfl) ?_
            refine WP.nil ?_
            refine Out.next ?_
            refine WPc.ifP rfl (fun h8 => ?_) (fun h8 => ?_)
            · skip
              have h8 : (y.m = la) := h8
              refine WPc.seq ?_
              obtain ⟨q, y9, rfl⟩ := snoc_of (hne2 (by omega))
              have hql : q.length + 1 ≤ k * 200000 + i := by simpa using hal2
              refine WPc.perm pl1 ?_
              refine WPc.conv (M := Own 81 2 v (q.length + 1) (flatOf Rv.cells (q ++ [y9])) :: Blk b5 [.int .i64 (y.m), .int .i64 (y.s)] 81 :: Blk b1 [.int .i64 (at_), .int .i64 0] 81 :: Blk b [.slice ka kn kc, .int .i64 (md.m), .int .i64 (md.s), .slice (some ⟨b0, o0, none⟩) l.length c0] 153 :: A :: F) (fun w h => by rw [List.length_append] at h; exact h) ?_
              show WPc _ _ _ _ _ _ (Own 81 2 v (q.length + 1) (flatOf Rv.cells (q ++ [y9])) :: Blk b5 [.int .i64 (y.m), .int .i64 (y.s)] 81 :: Blk b1 [.int .i64 (at_), .int .i64 0] 81 :: Blk b [.slice ka kn kc, .int .i64 (md.m), .int .i64 (md.s), .slice (some ⟨b0, o0, none⟩) l.length c0] 153 :: A :: F)
              refine WPc.open (fun w h => h.ownPos (by omega)) ?_
              rintro ⟨g6, cg6, spg6⟩
              refine WPc.pure (fun hvg6 => ?_)
              obtain ⟨rfl, hng6, hlg6, hsg6, hcg6⟩ := hvg6
              dsimp only at hng6 hlg6 hsg6 hcg6
              show WPc _ _ _ _ _ _ (Blk g6 (flatOf Rv.cells (q ++ [y9]) ++ spg6) 81 :: Blk b5 [.int .i64 (y.m), .int .i64 (y.s)] 81 :: Blk b1 [.int .i64 (at_), .int .i64 0] 81 :: Blk b [.slice ka kn kc, .int .i64 (md.m), .int .i64 (md.s), .slice (some ⟨b0, o0, none⟩) l.length c0] 153 :: A :: F)
              refine WPc.region ?_
              refine WP.val rfl rfl rfl (Val.move rfl rfl) ?_
              refine WP.val rfl rfl rfl (Val.move rfl rfl) ?_
              refine WP.val rfl rfl rfl (Val.len rfl Ty.sl132 rfl) ?_
              refine WP.val rfl rfl rfl (Val.sub (z := ((q.length : Nat) : Int)) rfl rfl rfl ((w64 (by omega) (by omega)).trans (by omega))) ?_
              refine WP.val rfl rfl rfl (Val.loadAgg (cs := [.int .i64 (y.m), .int .i64 (y.s)]) rfl Ty.ag81 rfl rfl (fun w h => h.range 1 rfl rfl)) ?_
              refine WP.val rfl rfl rfl (Val.indexAddr (j := q.length) (q := q.length * 2) rfl Ty.sl132 rfl rfl (by omega) (by omega) (by omega)) ?_
              refine WP.eff0 rfl rfl (Eff.storeAgg (cs := [.int .i64 (y.m), .int .i64 (y.s)]) (C' := flatOf Rv.cells (q ++ [y]) ++ spg6) rfl Ty.ag81 rfl rfl rfl rfl (rvfit q y9 _) (rvset q y9 y spg6)) ?_
              rintro _ _ rfl
              refine WP.nil ?_
              refine Out.next ?_
              refine WPc.exit ?_
              refine Out.then_exit ?_
              refine Out.block_exit ?_
              refine Out.next ?_
              refine WPc.region ?_
              refine WP.val rfl rfl rfl (Val.add (z := ((i + 1 : Nat) : Int)) rfl rfl rfl ((w64 (by omega) (by omega)).trans (by omega))) ?_
              refine WP.val rfl rfl rfl (Val.move rfl rfl) ?_
              refine WP.nil ?_
              refine Out.conv (fun w h => Sat.ownMk (e := 81) (k := 2) (b := g6) (m := q.length + 1) (cap := cg6) (xs := flatOf Rv.cells (q ++ [y])) (sp := spg6) (by exact h) (by omega) (by rw [flatOf_length Rv.len, List.length_append, List.length_singleton]) hsg6 hcg6) ?_
              refine Out.perm pl1 ?_
              refine Out.drop ?_
              refine Out.again (i + 1, .slice (some ⟨g6, 0, none⟩) (q.length + 1) cg6, q ++ [y], la) ?_ ?_ ?_ ?_
              · exact (by rw [sf_cons at_ hy, sstep_same (by assumption) (by assumption)] at hf2; exact ⟨by show i + 1 ≤ g.revs.length; omega, hf2, fun _ => by simp, by show (q ++ [y]).length ≤ k * 200000 + (i + 1); rw [List.length_append, List.length_singleton]; omega⟩)
              · (dsimp only; omega)
              · exact (Sub.cons rfl (Sub.cons rfl (Sub.cons rfl (Sub.cons rfl (Sub.cons rfl (Sub.cons rfl (Sub.cons rfl (Sub.cons rfl Sub.nil))))))))
              · exact (fun w h => by dsimp only; rw [List.length_append]; exact h)
            · skip
              have h8 : ¬ (y.m = la) := h8
              refine WPc.skip ?_
              refine Out.next ?_
              refine WPc.seq ?_
              refine WPc.region ?_
              refine WP.val rfl rfl rfl (Val.move rfl rfl) ?_
              refine WP.val rfl rfl rfl (Val.loadAgg (cs := [.int .i64 (y.m), .int .i64 (y.s)]) rfl Ty.ag81 rfl rfl (fun w h => h.range 0 rfl rfl)) ?_
              refine WP.eff rfl rfl rfl (Eff.mkSlice (C := [.int .i64 (y.m), .int .i64 (y.s)]) rfl Ty.sl132 rfl (fun _ => by kernel_rfl)) ?_
              rintro _ _ ⟨b7, rfl, rfl⟩
              refine WP.perm pl2 ?_
              refine WP.eff rfl rfl rfl (Eff.append (m := 1) (n0 := acc.length) (news := [.int .i64 (y.m), .int .i64 (y.s)]) rfl Ty.sl132 Ty.z81 rfl rfl rfl (.slice Ty.sl132 rfl rfl (fun w h => cells_range (h.range 1 rfl rfl))) (by omega) (by omega)) ?_
              rintro v8 _ ⟨onev8, rfl⟩
              refine WP.val rfl rfl rfl (Val.assign rfl rfl) ?_
              refine WP.nil ?_
              refine Out.next ?_
              refine WPc.region ?_
              refine WP.val rfl rfl rfl (Val.fieldAddr (j := 0) rfl Ty.fo81_0 rfl rfl) ?_
              refine WP.val rfl rfl rfl (Val.load rfl Ty.sc2 rfl (fun w h => h.cell 2 rfl rfl)) ?_
              refine WP.val rfl rfl rfl (Val.assign rfl rfl) ?_
              refine WP.nil ?_
              refine Out.block ?_
              refine Out.next ?_
              refine WPc.region ?_
              refine WP.val rfl rfl rfl (Val.add (z := ((i + 1 : Nat) : Int)) rfl rfl rfl ((w64 (by omega) (by omega)).trans (by omega))) ?_
              refine WP.val rfl rfl rfl (Val.move rfl rfl) ?_
              refine WP.nil ?_
              refine Out.perm pl1 ?_
              refine Out.drop ?_
              refine Out.perm pl1 ?_
              refine Out.drop ?_
              refine Out.again (i + 1, v8, acc ++ [y], y.m) ?_ ?_ ?_ ?_
              · exact (by rw [sf_cons at_ hy, sstep_new (by assumption) (by assumption)] at hf2; exact ⟨by show i + 1 ≤ g.revs.length; omega, hf2, fun _ => by simp, by show (acc ++ [y]).length ≤ k * 200000 + (i + 1); simp; omega⟩)
              · (dsimp only; omega)
              · exact (Sub.cons rfl (Sub.cons rfl (Sub.cons rfl (Sub.cons rfl (Sub.cons rfl (Sub.cons rfl (Sub.cons rfl (Sub.cons rfl Sub.nil))))))))
              · exact (fun w h => by dsimp only; rw [flatOf_append, flatOf_one, List.length_append]; exact h)
        · skip
          have h6 : ¬ (((i : Nat) : Int) < ((g.revs.length : Nat) : Int)) := h6
          refine WPc.exit ?_
          refine Out.then_exit ?_
          refine Out.then_exit ?_
          refine Out.block_exit ?_
          refine Out.block ?_
          refine Out.next ?_
          refine WPc.region ?_
          refine WP.val rfl rfl rfl (Val.move rfl rfl) ?_
          refine WP.val rfl rfl rfl (Val.add (z := ((k + 1 : Nat) : Int)) rfl rfl rfl ((w64 (by omega) (by omega)).trans (by omega))) ?_
          refine WP.val rfl rfl rfl (Val.assign rfl rfl) ?_
          refine WP.nil ?_
          refine Out.again (k + 1, v, acc, la) ?_ ?_ ?_ ?_
          · exact (by refine ⟨by show k + 1 ≤ l.length; omega, ?_, hne2, by show acc.length ≤ (k + 1) * 200000; omega⟩; rw [← hf2, show g.revs.drop i = [] from List.drop_eq_nil_of_le (by omega)]; rfl)
          · (dsimp only; omega)
          · exact (Sub.cons rfl (Sub.cons rfl (Sub.cons rfl (Sub.cons rfl (Sub.cons rfl Sub.nil)))))
          · exact (fun _ h => h)
      · skip
        have h5 : ¬ (((k : Nat) : Int) < ((l.length : Nat) : Int)) := h5
        refine WPc.exit ?_
        refine Out.then_exit ?_
        refine Out.then_exit ?_
        refine Out.block_exit ?_
        refine Out.next ?_
        refine WPc.seq ?_
        refine WPc.region ?_
        refine WP.val rfl rfl rfl (Val.move rfl rfl) ?_
        refine WP.val rfl rfl rfl (Val.assign rfl rfl) ?_
        refine WP.nil ?_
        refine Out.next ?_
        refine WPc.ret ?_
        have hkl : k = l.length := by omega
        rw [hkl, ← List.length_map (f := Prod.fst), List.drop_length] at hf
        have hks : ksince (l.map (·.1)) at_ = acc := by unfold ksince; rw [List.length_map, hsi, ← hf]; rfl
        refine Out.perm pl1 ?_
        refine Out.drop ?_
        exact Out.ret1 (L' := _) Try.results100 rfl rfl (fun w h => by rw [hks]; exact h)

end Go.Proofs.Ythicijpjpijdjaa.Lj

