import Derived.Test.YthmkdioafjmclaaSlTerse
import Derived.Test.YthmkdioafjmclaaBt14
namespace Go.Proofs.Ythmkdioafjmclaa.BtP
open Go.RowKit Go.Proofs.Ythmkdioafjmclaa Go.Proofs.Ythmkdioafjmclaa.Sl Go.Proofs.Ythmkdioafjmclaa.Bt Go.Proofs.Ythmkdioafjmclaa.Bt3 Go.Proofs.Ythmkdioafjmclaa.Bt4 Go.Proofs.Ythmkdioafjmclaa.Bt6 Go.Proofs.Ythmkdioafjmclaa.Bt7 Go.Proofs.Ythmkdioafjmclaa.Bt8 Go.Proofs.Ythmkdioafjmclaa.Bt9 Go.Proofs.Ythmkdioafjmclaa.Bt10 Go.Proofs.Ythmkdioafjmclaa.Bt11 Go.Proofs.Ythmkdioafjmclaa.Bt12
set_option linter.unusedVariables false
set_option linter.unusedSimpArgs false

/-- children and items by turns -/
def tl (f : Tr → List El) : List Tr → List El → List El
 | k :: ks, x :: xs => x :: (f k ++ tl f ks xs)
 | _, _ => []
def pfx (f : Tr → List El) (ks : List Tr) (xs : List El) : List El := (List.zipWith (fun k x => f k ++ [x]) ks xs).flatten
theorem pfx_tl {f : Tr → List El} : ∀ (ks : List Tr) (xs : List El) (k : Tr), ks.length = xs.length → pfx f (k :: ks) (xs) ++ f ((k :: ks).getD xs.length TE) = f k ++ tl f ks xs
 | [], [], k, _ => by simp [pfx, tl]
 | k2 :: ks, x :: xs, k, h => by
  have := pfx_tl (f := f) ks xs k2 (by simpa using h)
  simp only [pfx, List.zipWith_cons_cons, List.flatten_cons, List.length_cons, List.getD_cons_succ, tl, List.append_assoc, List.singleton_append, List.cons_append, List.nil_append] at this ⊢
  rw [this]; try rfl
theorem ino_tl {h : Nat} {t k : Tr} {ks : List Tr} (hk : t.ks = k :: ks) (hl : ks.length = t.is.length) : ino (h + 1) t = ino h k ++ tl (ino h) ks t.is := by
 show pfx (ino h) t.ks t.is ++ ino h (t.ks.getD t.is.length TE) = _
 rw [hk]; exact pfx_tl ks t.is k hl
theorem tl_app {f : Tr → List El} : ∀ (ka kb : List Tr) (xa xb : List El), ka.length = xa.length → tl f (ka ++ kb) (xa ++ xb) = tl f ka xa ++ tl f kb xb
 | [], kb, [], xb, _ => by simp [tl]
 | k :: ka, kb, x :: xa, xb, h => by
  have := tl_app (f := f) ka kb xa xb (by simpa using h)
  simp only [List.cons_append, tl, this, List.append_assoc]
/-- a node, cut at the item y: what is on its left, and on its right -/
theorem ino_cut {h : Nat} {ka kb : List Tr} {xa xb : List El} {y : El} {t : Tr} (hi : t.is = xa ++ y :: xb) (hk : t.ks = ka ++ kb) (hc : h = 0 ∧ ka = [] ∧ kb = [] ∨ ka.length = xa.length + 1 ∧ kb.length = xb.length + 1) : ino h t = ino h (.nd xa ka) ++ y :: ino h (.nd xb kb) := by
 rcases hc with ⟨rfl, rfl, rfl⟩ | ⟨h1, h2⟩
 ·
  exact hi
 ·
  cases h with
  | zero => exact hi
  | succ h =>
   cases ka with
   | nil => simp at h1
   | cons a ka =>
    cases kb with
    | nil => simp at h2
    | cons b kb =>
     have e1 := ino_tl (h := h) (t := t) (k := a) (ks := ka ++ b :: kb) (by rw [hk]; rfl) (by rw [hi]; simp at h1 h2 ⊢; omega)
     have e2 := ino_tl (h := h) (t := .nd xa (a :: ka)) (k := a) (ks := ka) rfl (by show ka.length = xa.length; simpa using h1)
     have e3 := ino_tl (h := h) (t := .nd xb (b :: kb)) (k := b) (ks := kb) rfl (by show kb.length = xb.length; simpa using h2)
     rw [e1, e2, e3, hi, tl_app ka (b :: kb) xa (y :: xb) (by simpa using h1)]
     simp [tl, Tr.is]
theorem bal_cut {m M h : Nat} {t : Tr} (hb : Bal m M h t) {d : Nat} (hd : d < t.is.length) : h = 0 ∧ t.ks.take (d + 1) = [] ∧ t.ks.drop (d + 1) = [] ∨ (t.ks.take (d + 1)).length = (t.is.take d).length + 1 ∧ (t.ks.drop (d + 1)).length = (t.is.drop (d + 1)).length + 1 := by
 cases h with
 | zero => left; rw [hb.1]; simp
 | succ h =>
  right
  have h1 : t.ks.length = t.is.length + 1 := hb.1
  rw [List.length_take, List.length_take, List.length_drop, List.length_drop]
  omega
theorem ino_split {m M h d : Nat} {t : Tr} {y : El} (hb : Bal m M h t) (hy : t.is[d]? = some y) : ino h t = ino h (.nd (t.is.take d) (t.ks.take (d + 1))) ++ y :: ino h (.nd (t.is.drop (d + 1)) (t.ks.drop (d + 1))) :=
 ino_cut (split_at hy) (List.take_append_drop _ _).symm (bal_cut hb (List.getElem?_eq_some_iff.1 hy).1)
/-- an inner node around its child i -/
theorem ino_at' {h i : Nat} {t k : Tr} (hl : t.ks.length = t.is.length + 1) (hk : t.ks[i]? = some k) : ∃ X Y, (∀ k2, ino (h + 1) (.nd t.is (t.ks.set i k2)) = X ++ ino h k2 ++ Y) ∧ ino (h + 1) t = X ++ ino h k ++ Y ∧ ∀ k1 y k2, ino (h + 1) (.nd (t.is.take i ++ y :: t.is.drop i) (t.ks.take i ++ k1 :: k2 :: t.ks.drop (i + 1))) = X ++ (ino h k1 ++ y :: ino h k2) ++ Y := by
 have hlt := (List.getElem?_eq_some_iff.1 hk).1
 have e := split_at hk
 have hset : ∀ k2, t.ks.set i k2 = t.ks.take i ++ k2 :: t.ks.drop (i + 1) := fun k2 => by rw [List.set_eq_take_append_cons_drop, if_pos hlt]
 have hi : t.is = t.is.take i ++ t.is.drop i := (List.take_append_drop _ _).symm
 have hal : (t.ks.take i).length = (t.is.take i).length := by rw [List.length_take, List.length_take]; omega
 have hbl : (t.ks.drop (i + 1)).length = (t.is.drop i).length := by rw [List.length_drop, List.length_drop]; omega
 generalize t.ks.take i = ka at *
 generalize t.ks.drop (i + 1) = kb at *
 generalize hxa : t.is.take i = xa at *
 generalize hxb : t.is.drop i = xb at *
 cases ka with
 | nil =>
  have hx0 : xa = [] := List.eq_nil_of_length_eq_zero hal.symm
  subst hx0
  rw [List.nil_append] at hi
  refine ⟨[], tl (ino h) kb xb, fun k2 => ?_, ?_, fun k1 y k2 => ?_⟩
  ·
   rw [hset, ino_tl (k := k2) (ks := kb) rfl (by show kb.length = t.is.length; rw [hi]; exact hbl)]; show ino h k2 ++ tl (ino h) kb t.is = _; rw [hi]; simp
  ·
   rw [ino_tl (k := k) (ks := kb) e (by rw [hi]; exact hbl), hi]; simp
  ·
   rw [ino_tl (k := k1) (ks := k2 :: kb) rfl (by show _ = ([] ++ y :: xb).length; simp; omega)]
   show ino h k1 ++ tl (ino h) (k2 :: kb) (y :: xb) = _
   simp [tl]
 | cons a ka =>
  cases hxs : xa.getLast? with
  | none => simp at hxs; subst hxs; simp at hal
  | some z =>
   obtain ⟨xs, rfl⟩ : ∃ xs, xa = xs ++ [z] := List.getLast?_eq_some_iff.1 hxs
   have hal2 : ka.length = xs.length := by simpa using hal
   refine ⟨ino h a ++ tl (ino h) ka xs ++ [z], tl (ino h) kb xb, fun k2 => ?_, ?_, fun k1 y k2 => ?_⟩
   ·
    rw [hset, ino_tl (k := a) (ks := ka ++ k2 :: kb) rfl (by show _ = t.is.length; rw [hi]; simp; omega)]
    show ino h a ++ tl (ino h) (ka ++ k2 :: kb) t.is = _
    rw [hi, show xs ++ [z] ++ xb = xs ++ z :: xb by simp, tl_app _ _ _ _ hal2]
    simp [tl]
   ·
    rw [ino_tl (k := a) (ks := ka ++ k :: kb) (by rw [e]; rfl) (by rw [hi]; simp; omega), hi, show xs ++ [z] ++ xb = xs ++ z :: xb by simp, tl_app _ _ _ _ hal2]
    simp [tl]
   ·
    rw [ino_tl (k := a) (ks := ka ++ k1 :: k2 :: kb) rfl (by show _ = (xs ++ [z] ++ y :: xb).length; simp; omega)]
    show ino h a ++ tl (ino h) (ka ++ k1 :: k2 :: kb) (xs ++ [z] ++ y :: xb) = _
    rw [show xs ++ [z] ++ y :: xb = xs ++ z :: y :: xb by simp, tl_app _ _ _ _ hal2]
    simp [tl]
theorem ino_at {m M h i : Nat} {t k : Tr} (hb : Bal m M (h + 1) t) (hk : t.ks[i]? = some k) : ∃ X Y, (∀ k2, ino (h + 1) (.nd t.is (t.ks.set i k2)) = X ++ ino h k2 ++ Y) ∧ ino (h + 1) t = X ++ ino h k ++ Y ∧ ∀ k1 y k2, ino (h + 1) (.nd (t.is.take i ++ y :: t.is.drop i) (t.ks.take i ++ k1 :: k2 :: t.ks.drop (i + 1))) = X ++ (ino h k1 ++ y :: ino h k2) ++ Y := ino_at' hb.1 hk
theorem ino_first {h : Nat} {t k : Tr} (hl : t.ks.length = t.is.length + 1) (hk : t.ks[0]? = some k) : ∃ Y, ino (h + 1) t = ino h k ++ Y ∧ ∀ k2, ino (h + 1) (.nd t.is (t.ks.set 0 k2)) = ino h k2 ++ Y := by
 obtain ⟨is, ks⟩ := t
 cases ks with
 | nil => cases hk
 | cons a ks =>
  have : a = k := by simpa [Tr.ks] using hk
  subst this
  exact ⟨tl (ino h) ks is, ino_tl rfl (by simpa [Tr.is, Tr.ks] using hl), fun k2 => ino_tl rfl (by simpa [Tr.is, Tr.ks] using hl)⟩
theorem pfx_snoc {f : Tr → List El} : ∀ (ka : List Tr) (xs : List El) (k : Tr), ka.length = xs.length → pfx f (ka ++ [k]) xs = pfx f ka xs
 | [], [], k, _ => by simp [pfx]
 | a :: ka, x :: xs, k, h => by
  have := pfx_snoc (f := f) ka xs k (by simpa using h)
  simp only [pfx, List.cons_append, List.zipWith_cons_cons, List.flatten_cons] at this ⊢
  rw [this]
theorem ino_last {h : Nat} {t k : Tr} (hl : t.ks.length = t.is.length + 1) (hk : t.ks[t.is.length]? = some k) : ∃ X, ino (h + 1) t = X ++ ino h k ∧ ∀ k2, ino (h + 1) (.nd t.is (t.ks.set t.is.length k2)) = X ++ ino h k2 := by
 have e := split_at hk
 rw [List.drop_eq_nil_of_le (by omega)] at e
 have hal : (t.ks.take t.is.length).length = t.is.length := by rw [List.length_take]; omega
 refine ⟨pfx (ino h) (t.ks.take t.is.length) t.is, ?_, fun k2 => ?_⟩
 ·
  show pfx (ino h) t.ks t.is ++ ino h (kid t t.is.length) = _
  rw [kid_at hk]
  conv => { lhs; rw [e] }
  rw [pfx_snoc _ _ _ hal]
 ·
  show pfx (ino h) (t.ks.set t.is.length k2) t.is ++ ino h (kid (.nd t.is (t.ks.set t.is.length k2)) t.is.length) = _
  rw [kid_at (k := k2) (by show (t.ks.set t.is.length k2)[t.is.length]? = _; rw [List.getElem?_set_self (by omega)]), show t.ks.set t.is.length k2 = t.ks.take t.is.length ++ [k2] from by
   rw [List.set_eq_take_append_cons_drop, if_pos (by omega), List.drop_eq_nil_of_le (by omega)], pfx_snoc _ _ _ hal]
theorem spl_ino {m M h i : Nat} {t tk : Tr} (hM : M = 2 * m + 1) (hb : Bal m M (h + 1) t) (hk : t.ks[i]? = some tk) (hl : M ≤ tk.is.length) : ino (h + 1) (spl t i (M / 2) tk) = ino (h + 1) t := by
 obtain ⟨X, Y, -, e2, e3⟩ := ino_at hb hk
 obtain ⟨y, hy⟩ : ∃ y, tk.is[M / 2]? = some y := ⟨_, List.getElem?_eq_getElem (by omega)⟩
 have hs := ino_split (bal_kid hb hk).2 hy
 unfold spl
 rw [e3, e2, hs, getD_at hy]
theorem mspl_ino {m M h i : Nat} {t t1 : Tr} {sp : Bool} (hM : M = 2 * m + 1) (hb : Bal m M (h + 1) t) (e : mspl M t i = (t1, sp)) : ino (h + 1) t1 = ino (h + 1) t := by
 unfold mspl at e
 split at e
 ·
  obtain ⟨rfl, -⟩ := Prod.mk.inj e; rfl
 ·
  rename_i tk hk
  split at e
  ·
   obtain ⟨rfl, -⟩ := Prod.mk.inj e; rfl
  ·
   obtain ⟨rfl, -⟩ := Prod.mk.inj e
   exact spl_ino hM hb hk (by omega)
theorem zipWith_len {h : Nat} : ∀ (ks : List Tr) (xs ys : List El), xs.length = ys.length → (List.zipWith (fun k x => ino h k ++ [x]) ks xs).flatten.length = (List.zipWith (fun k x => ino h k ++ [x]) ks ys).flatten.length
 | [], xs, ys, _ => by simp
 | k :: ks, [], [], _ => by simp
 | k :: ks, x :: xs, y :: ys, hl => by
  have := zipWith_len (h := h) ks xs ys (by simpa using hl)
  simp only [List.zipWith_cons_cons, List.flatten_cons, List.length_append, List.length_singleton, this]
theorem set_len {h i : Nat} {t : Tr} {x : El} : (ino h (.nd (t.is.set i x) t.ks)).length = (ino h t).length := by
 cases h with
 | zero => show (t.is.set i x).length = t.is.length; simp
 | succ h =>
  show ((List.zipWith (fun k x => ino h k ++ [x]) t.ks (t.is.set i x)).flatten ++ ino h (t.ks.getD (t.is.set i x).length TE)).length = ((List.zipWith (fun k x => ino h k ++ [x]) t.ks t.is).flatten ++ ino h (t.ks.getD t.is.length TE)).length
  rw [List.length_append, List.length_append, zipWith_len t.ks (t.is.set i x) t.is (by simp), List.length_set]
def one (o : Option El) : Nat := if o.isSome = true then 0 else 1
/-- insert keeps the balance, and makes one element more where none is replaced -/
theorem ins_bal {m M : Nat} (hM : M = 2 * m + 1) (x : El) : ∀ (h : Nat) (t : Tr), Bal m M h t → t.is.length < M → Bal m M h (ins M h t x).1 ∧ t.is.length ≤ (ins M h t x).1.is.length ∧ (ino h (ins M h t x).1).length = (ino h t).length + one (ins M h t x).2
 | 0, t, hb, hl => by
  have hf := findI_le t.is x
  cases hfd : (findI t.is x).2 with
  | true =>
   obtain ⟨y, hy⟩ : ∃ y, t.is[(findI t.is x).1]? = some y := ⟨_, List.getElem?_eq_getElem (hf.2 hfd)⟩
   rw [ins_found rfl hfd hy]
   exact ⟨⟨hb.1, by show (t.is.set _ _).length ≤ M; rw [List.length_set]; omega⟩, by show _ ≤ (t.is.set _ _).length; rw [List.length_set]; exact Nat.le_refl _, set_len⟩
  | false =>
   rw [ins_leaf rfl hfd]
   have hn : (t.is.take (findI t.is x).1 ++ x :: t.is.drop (findI t.is x).1).length = t.is.length + 1 := by
    rw [List.length_append, List.length_take, List.length_cons, List.length_drop]; omega
   exact ⟨⟨hb.1, by show (t.is.take _ ++ x :: t.is.drop _).length ≤ M; omega⟩, by show _ ≤ (t.is.take _ ++ x :: t.is.drop _).length; omega, hn⟩
 | h + 1, t, hb, hl => by
  have hf := findI_le t.is x
  have setb : ∀ (t1 : Tr) (i : Nat), Bal m M (h + 1) t1 → Bal m M (h + 1) (.nd (t1.is.set i x) t1.ks) := fun t1 i b => ⟨by show t1.ks.length = (t1.is.set i x).length + 1; rw [List.length_set]; exact b.1, by show (t1.is.set i x).length ≤ M; rw [List.length_set]; exact b.2.1, b.2.2⟩
  cases hfd : (findI t.is x).2 with
  | true =>
   obtain ⟨y, hy⟩ : ∃ y, t.is[(findI t.is x).1]? = some y := ⟨_, List.getElem?_eq_getElem (hf.2 hfd)⟩
   rw [ins_found rfl hfd hy]
   exact ⟨setb t _ hb, by show _ ≤ (t.is.set _ _).length; rw [List.length_set]; exact Nat.le_refl _, set_len⟩
  | false =>
   have go : ∀ (t1 tk : Tr) (j : Nat) (sp : Bool), mspl M t (findI t.is x).1 = (t1, sp) → Bal m M (h + 1) t1 → t.is.length ≤ t1.is.length → Fits m M h t1 j tk →
     ((sp = false ∧ j = (findI t.is x).1) ∨ ∃ y, t1.is[(findI t.is x).1]? = some y ∧ sp = true ∧ (x.k < y.k ∧ j = (findI t.is x).1 ∨ ¬ x.k < y.k ∧ y.k < x.k ∧ j = (findI t.is x).1 + 1)) →
     Bal m M (h + 1) (ins M (h + 1) t x).1 ∧ t.is.length ≤ (ins M (h + 1) t x).1.is.length ∧ (ino (h + 1) (ins M (h + 1) t x).1).length = (ino (h + 1) t).length + one (ins M (h + 1) t x).2 := by
    intro t1 tk j sp hms b1 hl1 hf1 hgo
    rw [ins_go rfl hfd hms hf1.at_ hgo]
    have ih := ins_bal hM x h tk hf1.bal hf1.lt
    have hmk := (b1.2.2 tk (List.mem_of_getElem? hf1.at_)).1
    obtain ⟨X, Y, e1, e2, -⟩ := ino_at b1 hf1.at_
    refine ⟨⟨by show (t1.ks.set j _).length = _; rw [List.length_set]; exact b1.1, b1.2.1, fun q hq => ?_⟩, hl1, ?_⟩
    ·
     rcases List.mem_or_eq_of_mem_set (show q ∈ t1.ks.set j _ from hq) with hq | rfl
     ·
      exact b1.2.2 q hq
     ·
      exact ⟨by omega, ih.1⟩
    ·
     have hin := mspl_ino hM hb hms
     show (ino (h + 1) (.nd t1.is (t1.ks.set j _))).length = _
     rw [e1, ← hin, e2]
     simp only [List.length_append, ih.2.2]; omega
   cases hms : mspl M t (findI t.is x).1 with
   | mk t1 sp =>
    cases sp with
    | false =>
     obtain ⟨e, tk, hf1⟩ := mspl_false hb hf.1 hms
     exact go t1 tk _ false hms (e ▸ hb) (by rw [e]; exact Nat.le_refl _) hf1 (.inl ⟨rfl, rfl⟩)
    | true =>
     obtain ⟨b1, l1, ⟨tk0, f0⟩, tk1, f1⟩ := mspl_true hM hb hl hf.1 hms
     obtain ⟨y, hy⟩ : ∃ y, t1.is[(findI t.is x).1]? = some y := ⟨_, List.getElem?_eq_getElem (by omega)⟩
     by_cases h4 : x.k < y.k
     ·
      exact go t1 tk0 _ true hms b1 (by omega) f0 (.inr ⟨y, hy, rfl, .inl ⟨h4, rfl⟩⟩)
     ·
      by_cases h5 : y.k < x.k
      ·
       exact go t1 tk1 _ true hms b1 (by omega) f1 (.inr ⟨y, hy, rfl, .inr ⟨h4, h5, rfl⟩⟩)
      ·
       rw [ins_eq rfl hfd hms hy h4 h5]
       refine ⟨setb t1 _ b1, by show _ ≤ (t1.is.set _ _).length; rw [List.length_set]; omega, ?_⟩
       rw [← mspl_ino hM hb hms]
       exact set_len

theorem trc {a b : List El} {c d : List Tr} (h1 : a = b) (h2 : c = d) : Tr.nd a c = Tr.nd b d := by rw [h1, h2]
/-- an inner node around its children i and i + 1 -/
theorem ino_two {m M h i : Nat} {t a b : Tr} {y : El} (hb : Bal m M (h + 1) t) (ha : t.ks[i]? = some a) (hb2 : t.ks[i + 1]? = some b) (hy : t.is[i]? = some y) : ∃ X Y, ino (h + 1) t = X ++ (ino h a ++ y :: ino h b) ++ Y ∧
  (∀ z a2 b2, ino (h + 1) (.nd (t.is.set i z) ((t.ks.set (i + 1) b2).set i a2)) = X ++ (ino h a2 ++ z :: ino h b2) ++ Y) ∧
  ∀ a2, ino (h + 1) (.nd (t.is.eraseIdx i) ((t.ks.eraseIdx (i + 1)).set i a2)) = X ++ ino h a2 ++ Y := by
 -- t as a node whose child i was split
 have hl : t.ks.length = t.is.length + 1 := hb.1
 have hlt := (List.getElem?_eq_some_iff.1 hb2).1
 have hi := (List.getElem?_eq_some_iff.1 hy).1
 have ek := split_at ha
 have hb3 : (t.ks.drop (i + 1))[0]? = some b := by rw [List.getElem?_drop]; exact hb2
 have ek2 := split_at hb3
 simp only [List.take_zero, List.nil_append, Nat.zero_add, List.drop_drop] at ek2
 have ei := split_at hy
 let t0 : Tr := .nd (t.is.take i ++ t.is.drop (i + 1)) (t.ks.take i ++ a :: t.ks.drop (i + 1 + 1))
 have hal : (t.ks.take i).length = i := by rw [List.length_take]; omega
 have hil : (t.is.take i).length = i := by rw [List.length_take]; omega
 have ha0 : t0.ks[i]? = some a := by show (t.ks.take i ++ a :: _)[i]? = _; rw [List.getElem?_append_right (by omega), hal]; simp
 have hl0 : t0.ks.length = t0.is.length + 1 := by
  show (t.ks.take i ++ a :: _).length = (t.is.take i ++ _).length + 1
  rw [List.length_append, List.length_append, List.length_cons, List.length_drop, List.length_drop, hal, hil]; omega
 obtain ⟨X, Y, e1, e2, e3⟩ := ino_at' hl0 ha0
 have tk0 : t0.ks.take i = t.ks.take i := by show (t.ks.take i ++ _).take i = _; rw [List.take_append_of_le_length (by omega), List.take_take, Nat.min_self]
 have ti0 : t0.is.take i = t.is.take i := by show (t.is.take i ++ _).take i = _; rw [List.take_append_of_le_length (by omega), List.take_take, Nat.min_self]
 have dk0 : t0.ks.drop (i + 1) = t.ks.drop (i + 1 + 1) := by show (t.ks.take i ++ a :: _).drop (i + 1) = _; rw [show i + 1 = (t.ks.take i).length + 1 by omega, List.drop_length_add_append]; rfl
 have di0 : t0.is.drop i = t.is.drop (i + 1) := by show (t.is.take i ++ _).drop i = _; exact (List.drop_append_of_le_length (by omega)).trans (by rw [List.drop_eq_nil_of_le (by omega), List.nil_append])
 rw [tk0, ti0, dk0, di0] at e3
 refine ⟨X, Y, ?_, fun z a2 b2 => ?_, fun a2 => ?_⟩
 ·
  have := e3 a y b
  rw [← this]
  congr 1
  show t = _
  cases t with
  | nd is ks => exact trc ei (ek.trans (by rw [ek2]))
 ·
  rw [← e3 a2 z b2]
  congr 1
  refine trc (by rw [List.set_eq_take_append_cons_drop, if_pos hi]) ?_
  conv => { lhs; rw [ek, ek2] }
  rw [List.set_append_right _ _ (by omega), hal, show i + 1 - i = 1 by omega, List.set_cons_succ, List.set_cons_zero, List.set_append_right _ _ (by omega), hal, Nat.sub_self, List.set_cons_zero]
 ·
  rw [← e1 a2]
  congr 1
  refine trc (List.eraseIdx_eq_take_drop_succ _ _) ?_
  show _ = (t.ks.take i ++ a :: t.ks.drop (i + 1 + 1)).set i a2
  conv => { lhs; rw [ek, ek2] }
  rw [List.eraseIdx_append_of_length_le (by omega), hal, show i + 1 - i = 1 by omega, List.eraseIdx_cons_succ, List.eraseIdx_cons_zero]
theorem bal_nonempty {m M h : Nat} {t : Tr} (hb : Bal m M (h + 1) t) : 0 < t.ks.length := by rw [hb.1]; omega
/-- an element and a child go from the left to the right -/
theorem moveL_ino {m M h : Nat} {l k : Tr} {y z : El} (hl : Bal m M h l) (hk : Bal m M h k) (hz : l.is[l.is.length - 1]? = some z) :
  ino h (.nd (l.is.take (l.is.length - 1)) (l.ks.take (l.ks.length - 1))) ++ z :: ino h (.nd (y :: k.is) (if 0 < l.ks.length then l.ks.getD (l.ks.length - 1) TE :: k.ks else k.ks)) = ino h l ++ y :: ino h k := by
 have hlt := (List.getElem?_eq_some_iff.1 hz).1
 cases h with
 | zero =>
  show l.is.take _ ++ z :: (y :: k.is) = l.is ++ y :: k.is
  have := split_at hz
  rw [show l.is.length - 1 + 1 = l.is.length by omega, List.drop_length] at this
  conv => { rhs; rw [this] }
  simp
 | succ h =>
  have h1 : l.ks.length = l.is.length + 1 := hl.1
  have hks : 0 < l.ks.length := by omega
  have hg : l.ks[l.ks.length - 1]? = some (l.ks.getD (l.ks.length - 1) TE) := by rw [List.getD_eq_getElem?_getD, List.getElem?_eq_getElem (by omega)]; rfl
  generalize l.ks.getD (l.ks.length - 1) TE = e at hg ⊢
  rw [if_pos hks]
  have s1 := split_at hz
  rw [show l.is.length - 1 + 1 = l.is.length by omega, List.drop_length] at s1
  have s2 := split_at hg
  rw [show l.ks.length - 1 + 1 = l.ks.length by omega, List.drop_length] at s2
  have c1 := ino_cut (h := h + 1) (t := l) (xa := l.is.take (l.is.length - 1)) (y := z) (xb := []) (ka := l.ks.take (l.ks.length - 1)) (kb := [e]) s1 s2 (.inr ⟨by rw [List.length_take, List.length_take]; omega, rfl⟩)
  have c2 := ino_cut (h := h + 1) (t := .nd (y :: k.is) (e :: k.ks)) (xa := []) (y := y) (xb := k.is) (ka := [e]) (kb := k.ks) rfl rfl (.inr ⟨rfl, hk.1⟩)
  rw [c1, c2]
  cases k with
  | nd is ks => simp [Tr.is, Tr.ks]
/-- an element and a child go from the right to the left -/
theorem moveR_ino {m M h : Nat} {r k : Tr} {y z : El} (hr : Bal m M h r) (hk : Bal m M h k) (hz : r.is[0]? = some z) :
  ino h (.nd (k.is ++ [y]) (if 0 < r.ks.length then k.ks ++ [r.ks.getD 0 TE] else k.ks)) ++ z :: ino h (.nd (r.is.eraseIdx 0) (r.ks.eraseIdx 0)) = ino h k ++ y :: ino h r := by
 cases r with
 | nd ris rks =>
 cases ris with
 | nil => cases hz
 | cons z' ris =>
  have : z' = z := by simpa [Tr.is] using hz
  subst this
  cases h with
  | zero => show (k.is ++ [y]) ++ z' :: ris = k.is ++ y :: z' :: ris; simp
  | succ h =>
   cases rks with
   | nil => have := hr.1; simp [Tr.is, Tr.ks] at this
   | cons e rks =>
    have h1 : rks.length = ris.length + 1 := by have := hr.1; simpa [Tr.is, Tr.ks] using this
    show ino (h + 1) (.nd (k.is ++ [y]) (k.ks ++ [e])) ++ z' :: ino (h + 1) (.nd ris rks) = _
    have c1 := ino_cut (h := h + 1) (t := .nd (z' :: ris) (e :: rks)) (xa := []) (y := z') (xb := ris) (ka := [e]) (kb := rks) rfl rfl (.inr ⟨rfl, h1⟩)
    have c2 := ino_cut (h := h + 1) (t := .nd (k.is ++ [y]) (k.ks ++ [e])) (xa := k.is) (y := y) (xb := []) (ka := k.ks) (kb := [e]) rfl rfl (.inr ⟨hk.1, rfl⟩)
    rw [c1, c2]
    cases k with
    | nd is ks => simp [Tr.is, Tr.ks]
theorem both_ino {m M h : Nat} {a b : Tr} {y : El} (ha : Bal m M h a) (hb : Bal m M h b) : ino h (.nd (a.is ++ [y] ++ b.is) (a.ks ++ b.ks)) = ino h a ++ y :: ino h b := by
 have c : h = 0 ∧ a.ks = [] ∧ b.ks = [] ∨ a.ks.length = a.is.length + 1 ∧ b.ks.length = b.is.length + 1 := by
  cases h with
  | zero => exact .inl ⟨rfl, ha.1, hb.1⟩
  | succ h => exact .inr ⟨ha.1, hb.1⟩
 have := ino_cut (h := h) (t := .nd (a.is ++ [y] ++ b.is) (a.ks ++ b.ks)) (xa := a.is) (y := y) (xb := b.is) (ka := a.ks) (kb := b.ks) (by show a.is ++ [y] ++ b.is = _; simp) rfl c
 rw [this]
 cases a; cases b; rfl
theorem grow_ino {m M h i : Nat} {t : Tr} (hm : 1 ≤ m) (hb : Bal m M (h + 1) t) (hi : i ≤ t.is.length) (h1 : 1 ≤ t.is.length) : ino (h + 1) (grow m t i) = ino (h + 1) t := by
 have hkl : t.ks.length = t.is.length + 1 := hb.1
 unfold grow
 split
 ·
  rename_i hc
  have ha : t.ks[i - 1]? = some (kid t (i - 1)) := kid_get (by omega)
  have hb2 : t.ks[i - 1 + 1]? = some (kid t i) := by rw [show i - 1 + 1 = i by omega]; exact kid_get (by omega)
  obtain ⟨y, hy⟩ : ∃ y, t.is[i - 1]? = some y := ⟨_, List.getElem?_eq_getElem (by omega)⟩
  obtain ⟨z, hz⟩ : ∃ z, (kid t (i - 1)).is[(kid t (i - 1)).is.length - 1]? = some z := ⟨_, List.getElem?_eq_getElem (by omega)⟩
  obtain ⟨X, Y, e1, e2, -⟩ := ino_two hb ha hb2 hy
  unfold stealL
  simp only [getD_at hy, getD_at hz]
  rw [show i - 1 + 1 = i by omega] at e2
  rw [e2, e1, moveL_ino (bal_kid hb ha).2 (bal_kid hb hb2).2 hz]
 ·
  split
  ·
   rename_i hc
   have ha : t.ks[i]? = some (kid t i) := kid_get (by omega)
   have hb2 : t.ks[i + 1]? = some (kid t (i + 1)) := kid_get (by omega)
   obtain ⟨y, hy⟩ : ∃ y, t.is[i]? = some y := ⟨_, List.getElem?_eq_getElem (by omega)⟩
   obtain ⟨z, hz⟩ : ∃ z, (kid t (i + 1)).is[0]? = some z := ⟨_, List.getElem?_eq_getElem (by omega)⟩
   obtain ⟨X, Y, e1, e2, -⟩ := ino_two hb ha hb2 hy
   unfold stealR
   simp only [getD_at hy, getD_at hz]
   rw [e2, e1, moveR_ino (bal_kid hb hb2).2 (bal_kid hb ha).2 hz]
  ·
   generalize hj : (if t.is.length ≤ i then i - 1 else i) = j
   have hj1 : j < t.is.length := by rw [← hj]; split <;> omega
   have ha : t.ks[j]? = some (kid t j) := kid_get (by omega)
   have hb2 : t.ks[j + 1]? = some (kid t (j + 1)) := kid_get (by omega)
   obtain ⟨y, hy⟩ : ∃ y, t.is[j]? = some y := ⟨_, List.getElem?_eq_getElem (by omega)⟩
   obtain ⟨X, Y, e1, -, e3⟩ := ino_two hb ha hb2 hy
   unfold merge
   simp only [getD_at hy]
   rw [e3, e1, both_ino (bal_kid hb ha).2 (bal_kid hb hb2).2]
/-- the least element comes out, the others stay -/
theorem dmin_ino {m M : Nat} (hM : M = 2 * m + 1) (hm : 1 ≤ m) : ∀ {h : Nat} {t : Tr}, Bal m M h t → 1 ≤ t.is.length → ∃ x, (dmin m h t).2 = some x ∧ ino h t = x :: ino h (dmin m h t).1
 | 0, t, hb, h1 => by
  obtain ⟨is, ks⟩ := t
  cases is with
  | nil => simp [Tr.is] at h1
  | cons x is => exact ⟨x, rfl, rfl⟩
 | h + 1, t, hb, h1 => by
  have key : ∀ t1 : Tr, Bal m M (h + 1) t1 → m < (kid t1 0).is.length → ∃ x, (dmin m h (kid t1 0)).2 = some x ∧ ino (h + 1) t1 = x :: ino (h + 1) (.nd t1.is (t1.ks.set 0 (dmin m h (kid t1 0)).1)) := fun t1 b1 hk => by
   have hx : t1.ks[0]? = some (kid t1 0) := kid_get (by rw [b1.1]; omega)
   obtain ⟨x, e1, e2⟩ := dmin_ino hM hm (bal_kid b1 hx).2 (by omega)
   obtain ⟨Y, q1, q2⟩ := ino_first b1.1 hx
   exact ⟨x, e1, by rw [q1, q2, e2]; rfl⟩
  by_cases hk : (kid t 0).is.length ≤ m
  ·
   obtain ⟨g1, g2, -⟩ := grow_bal (i := 0) hM hm hb (by omega) h1 hk
   rw [dmin_small hk (g2 rfl), dmin_big (g2 rfl), ← grow_ino (i := 0) hm hb (by omega) h1]
   exact key _ g1.bal (g2 rfl)
  ·
   rw [dmin_big (by omega)]
   exact key t hb (by omega)
theorem dmax_ino {m M : Nat} (hM : M = 2 * m + 1) (hm : 1 ≤ m) : ∀ {h : Nat} {t : Tr}, Bal m M h t → 1 ≤ t.is.length → ∃ x, (dmax m h t).2 = some x ∧ ino h t = ino h (dmax m h t).1 ++ [x]
 | 0, t, hb, h1 => by
  obtain ⟨x, hx⟩ : ∃ x, t.is[t.is.length - 1]? = some x := ⟨_, List.getElem?_eq_getElem (by omega)⟩
  refine ⟨x, by show some (t.is.getD _ El0) = _; rw [getD_at hx], ?_⟩
  have s1 := split_at hx
  rw [show t.is.length - 1 + 1 = t.is.length by omega, List.drop_length] at s1
  exact s1
 | h + 1, t, hb, h1 => by
  have key : ∀ t1 : Tr, Bal m M (h + 1) t1 → m < (kid t1 t1.is.length).is.length → ∃ x, (dmax m h (kid t1 t1.is.length)).2 = some x ∧ ino (h + 1) t1 = ino (h + 1) (.nd t1.is (t1.ks.set t1.is.length (dmax m h (kid t1 t1.is.length)).1)) ++ [x] := fun t1 b1 hk => by
   have hx : t1.ks[t1.is.length]? = some (kid t1 t1.is.length) := kid_get (by rw [b1.1]; omega)
   obtain ⟨x, e1, e2⟩ := dmax_ino hM hm (bal_kid b1 hx).2 (by omega)
   obtain ⟨Y, q1, q2⟩ := ino_last b1.1 hx
   exact ⟨x, e1, by rw [q1, q2, e2, List.append_assoc]⟩
  by_cases hk : (kid t t.is.length).is.length ≤ m
  ·
   obtain ⟨g1, -, g3⟩ := grow_bal (i := t.is.length) hM hm hb (by omega) h1 hk
   rw [dmax_small hk (g3 rfl), dmax_big (g3 rfl), ← grow_ino (i := t.is.length) hm hb (by omega) h1]
   exact key _ g1.bal (g3 rfl)
  ·
   rw [dmax_big (by omega)]
   exact key t hb (by omega)
theorem shrink_ino {m M h : Nat} {t : Tr} (hb : Bal m M h t) (hm : 1 ≤ m) : ino (shrink h t).1 (shrink h t).2 = ino h t ∧ Bal m M (shrink h t).1 (shrink h t).2 ∧ (0 < (shrink h t).1 → 1 ≤ (shrink h t).2.is.length) := by
 unfold shrink
 split
 ·
  rename_i hc
  cases h with
  | zero => have := hb.1; rw [this] at hc; simp at hc
  | succ h =>
   have h1 : t.ks.length = t.is.length + 1 := hb.1
   have hx : t.ks[t.is.length]? = some (kid t 0) := by rw [hc.1]; exact kid_get hc.2
   obtain ⟨b1, b2⟩ := bal_kid hb hx
   refine ⟨?_, b2, fun _ => by show 1 ≤ (kid t 0).is.length; omega⟩
   show ino h (kid t 0) = pfx (ino h) t.ks t.is ++ ino h (kid t t.is.length)
   rw [kid_at hx, List.eq_nil_of_length_eq_zero hc.1]
   cases t.ks <;> simp [pfx]
 ·
  rename_i hc
  refine ⟨rfl, hb, fun h0 => ?_⟩
  have h0 : 0 < h := h0
  show 1 ≤ t.is.length
  obtain ⟨h', rfl⟩ : ∃ h', h = h' + 1 := ⟨h - 1, by omega⟩
  have h1 : t.ks.length = t.is.length + 1 := hb.1
  exact Nat.not_lt.1 fun h2 => hc ⟨by omega, by omega⟩
end Go.Proofs.Ythmkdioafjmclaa.BtP
