import Derived.Test.YthmkdioafjmclaaTy2
namespace Go.Proofs.Ythmkdioafjmclaa.Qm
open Go.RowKit Go.Proofs.Ythmkdioafjmclaa Go.Proofs.Ythmkdioafjmclaa.Sl
set_option linter.unusedVariables false
set_option linter.unusedSimpArgs false
set_option linter.unusedSectionVars false

/-! ## a heap of times -/
def Hole (f : Nat → Nat) (n i : Nat) : Prop := (∀ k, 0 < k → k < n → k ≠ i → (k - 1) / 2 ≠ i → f ((k - 1) / 2) ≤ f k) ∧ (0 < i → ∀ c, 0 < c → c < n → (c - 1) / 2 = i → f ((i - 1) / 2) ≤ f c)
def Up (f : Nat → Nat) (i : Nat) : Prop := 0 < i → f ((i - 1) / 2) ≤ f i
def Dn (f : Nat → Nat) (n i : Nat) : Prop := ∀ c, 0 < c → c < n → (c - 1) / 2 = i → f i ≤ f c
def Ok (f : Nat → Nat) (n : Nat) : Prop := ∀ k, 0 < k → k < n → f ((k - 1) / 2) ≤ f k
theorem ok_of {f : Nat → Nat} {n i : Nat} (h : Hole f n i) (hu : Up f i) (hd : Dn f n i) : Ok f n := fun k hk hn => by
  by_cases h1 : k = i
  · subst h1; exact hu hk
  · by_cases h2 : (k - 1) / 2 = i
    · rw [h2]; exact hd k hk hn h2
    · exact h.1 k hk hn h1 h2
theorem ok_min {f : Nat → Nat} {n : Nat} (h : Ok f n) : ∀ k, k < n → f 0 ≤ f k := fun k => by
  induction k using Nat.strongRecOn with
  | ind k ih =>
    intro hk
    by_cases h0 : k = 0
    · subst h0; exact Nat.le_refl _
    · have h1 : (k - 1) / 2 < k := by omega
      exact Nat.le_trans (ih _ h1 (by omega)) (h k (by omega) hk)
def swf (f : Nat → Nat) (i j : Nat) : Nat → Nat := fun k => if k = i then f j else if k = j then f i else f k
theorem hole_down {f : Nat → Nat} {n i j : Nat} (h : Hole f n i) (hj : (j - 1) / 2 = i) (hj0 : 0 < j) (hjn : j < n) (hlt : f j < f i) (hmin : ∀ c, 0 < c → c < n → (c - 1) / 2 = i → f j ≤ f c) : Hole (swf f i j) n j ∧ Up (swf f i j) j := by
  have hij : i < j := by omega
  refine ⟨⟨fun k hk hn h1 h2 => ?_, fun _ c hc hn hp => ?_⟩, fun _ => ?_⟩
  · unfold swf
    by_cases e1 : k = i
    · subst e1
      rw [if_neg (by omega), if_neg (by omega), if_pos rfl]
      exact h.2 hk j hj0 hjn hj
    · by_cases e2 : (k - 1) / 2 = i
      · rw [if_pos e2, if_neg e1, if_neg h1]
        exact hmin k hk hn e2
      · rw [if_neg e2, if_neg h2, if_neg e1, if_neg h1]
        exact h.1 k hk hn e1 e2
  · unfold swf
    have e1 : (j - 1) / 2 = i := hj
    rw [if_pos e1, if_neg (show ¬ c = i by omega), if_neg (show ¬ c = j by omega)]
    have := h.1 c hc hn (by omega) (by omega)
    rw [hp] at this
    exact this
  · unfold swf
    rw [if_pos hj, if_neg (show ¬ j = i by omega), if_pos rfl]
    exact Nat.le_of_lt hlt
theorem hole_up {f : Nat → Nat} {n i j : Nat} (h : Hole f n j) (hd : Dn f n j) (hi : (j - 1) / 2 = i) (hj0 : 0 < j) (hjn : j < n) (hlt : f j < f i) : Hole (swf f i j) n i ∧ Dn (swf f i j) n i := by
  have hij : i < j := by omega
  refine ⟨⟨fun k hk hn h1 h2 => ?_, fun h0 c hc hn hp => ?_⟩, fun c hc hn hp => ?_⟩
  · unfold swf
    have e1 : ¬ k = j := fun e => h2 (by rw [e]; exact hi)
    by_cases e2 : (k - 1) / 2 = j
    · rw [if_neg h2, if_pos e2, if_neg h1, if_neg e1]
      have := h.2 hj0 k hk hn e2
      rw [hi] at this
      exact this
    · rw [if_neg h2, if_neg e2, if_neg h1, if_neg e1]
      exact h.1 k hk hn e1 e2
  · unfold swf
    have hpi : f ((i - 1) / 2) ≤ f i := h.1 i h0 (by omega) (by omega) (by omega)
    rw [if_neg (show ¬ (i - 1) / 2 = i by omega), if_neg (show ¬ (i - 1) / 2 = j by omega), if_neg (show ¬ c = i by omega)]
    by_cases e : c = j
    · rw [if_pos e]; exact hpi
    · rw [if_neg e]
      have := h.1 c hc hn e (by omega)
      rw [hp] at this
      exact Nat.le_trans hpi this
  · unfold swf
    rw [if_pos rfl, if_neg (show ¬ c = i by omega)]
    by_cases e : c = j
    · rw [if_pos e]; exact Nat.le_of_lt hlt
    · rw [if_neg e]
      have := h.1 c hc hn e (by omega)
      rw [hp] at this
      omega
theorem hole_change {f g : Nat → Nat} {n i : Nat} (h : Ok f n) (hin : i < n) (hg : ∀ k, k ≠ i → g k = f k) : Hole g n i := by
  refine ⟨fun k hk hn h1 h2 => ?_, fun h0 c hc hn hp => ?_⟩
  · rw [hg _ h1, hg _ h2]; exact h k hk hn
  · rw [hg _ (show (i - 1) / 2 ≠ i by omega), hg c (by omega)]
    have h1 := h i h0 hin
    have h2 := h c hc hn
    rw [hp] at h2
    exact Nat.le_trans h1 h2
theorem hole_push {f : Nat → Nat} {n : Nat} (h : Ok f n) : Hole f (n + 1) n ∧ Dn f (n + 1) n := by
  refine ⟨⟨fun k hk hn h1 h2 => h k hk (by omega), fun h0 c hc hn hp => by omega⟩, fun c hc hn hp => by omega⟩
theorem hole_pop {f : Nat → Nat} {n : Nat} (h : Ok f (n + 1)) : Hole (swf f 0 n) n 0 := by
  refine ⟨fun k hk hn h1 h2 => ?_, fun h0 => absurd h0 (by omega)⟩
  unfold swf
  rw [if_neg h2, if_neg (show ¬ (k - 1) / 2 = n by omega), if_neg h1, if_neg (show ¬ k = n by omega)]
  exact h k hk (by omega)

/-! ## the items -/
structure QI where
  b : Nat
  id : Int
  t : Nat
  ix : Int
def QI.cells (x : QI) : List Value := [.int .i64 x.id, .int .i64 ((x.t / 1000000000 : Nat) : Int), .int .i64 ((x.t % 1000000000 : Nat) : Int), .bool true, .int .i64 x.ix]
def QI.ptr (x : QI) : Value := .pointer (some ⟨x.b, 0, none⟩)
def QI.key (x : QI) : Nat × Int × Nat := (x.b, x.id, x.t)
def Its (q : List QI) : HProp := Sep (q.map fun x => Blk x.b x.cells 134)
def Idx (q : List QI) : Prop := ∀ (i : Nat) x, q[i]? = some x → x.ix = (i : Int)
def tm (q : List QI) (k : Nat) : Nat := ((q[k]?).map (·.t)).getD 0
theorem tm_at {q : List QI} {k : Nat} {x : QI} (h : q[k]? = some x) : tm q k = x.t := by simp [tm, h]
section
variable {W w : World} {L : List HProp} {q : List QI}
theorem its_perm {q' : List QI} (hp : q.Perm q') (h : Sat W (Its q :: L) w) : Sat W (Its q' :: L) w :=
  Sat.sep_mk (h.sep.perm ((hp.map _).append_right L))
theorem erase_perm {α : Type} {l : List α} {i : Nat} {x : α} (h : l[i]? = some x) : l.Perm (x :: l.eraseIdx i) := by
  induction l generalizing i with
  | nil => simp at h
  | cons a l ih =>
    cases i with
    | zero => simp at h; subst h; exact List.Perm.refl _
    | succ i =>
      have := ih (i := i) (by simpa using h)
      rw [List.eraseIdx_cons_succ]
      exact (this.cons a).trans (List.Perm.swap _ _ _)
theorem set_perm {α : Type} {l : List α} {i : Nat} (h : i < l.length) (y : α) : (l.set i y).Perm (y :: l.eraseIdx i) := by
  have := erase_perm (l := l.set i y) (i := i) (x := y) (by rw [List.getElem?_set_self h])
  rwa [List.eraseIdx_set_eq] at this
theorem its_out {i : Nat} {x : QI} (hx : q[i]? = some x) (h : Sat W (Its q :: L) w) : Sat W (Blk x.b x.cells 134 :: Its (q.eraseIdx i) :: L) w := by
  have h2 := (its_perm (erase_perm hx) h).sep
  have h3 : Sat W (((q.eraseIdx i).map fun x => Blk x.b x.cells 134) ++ (Blk x.b x.cells 134 :: L)) w := h2.perm (by simp only [List.map_cons, List.cons_append]; exact List.perm_middle.symm)
  exact (Sat.sep_mk h3).perm (List.Perm.swap _ _ _)
theorem its_in {i : Nat} (y : QI) (hi : i < q.length) (h : Sat W (Blk y.b y.cells 134 :: Its (q.eraseIdx i) :: L) w) : Sat W (Its (q.set i y) :: L) w := by
  have h3 := (h.perm (List.Perm.swap _ _ _)).sep
  have h4 : Sat W (((y :: q.eraseIdx i).map fun x => Blk x.b x.cells 134) ++ L) w := h3.perm (by simp only [List.map_cons, List.cons_append]; exact List.perm_middle)
  exact its_perm (set_perm hi y).symm (Sat.sep_mk h4)
theorem its_add (y : QI) (h : Sat W (Blk y.b y.cells 134 :: Its q :: L) w) : Sat W (Its (q ++ [y]) :: L) w := by
  have h3 := (h.perm (List.Perm.swap _ _ _)).sep
  have h4 : Sat W (((y :: q).map fun x => Blk x.b x.cells 134) ++ L) w := h3.perm (by simp only [List.map_cons, List.cons_append]; exact List.perm_middle)
  exact its_perm (List.perm_append_singleton y q).symm (Sat.sep_mk h4)
theorem its_nil (h : Sat W L w) : Sat W (Its [] :: L) w := Sat.sep_mk h
theorem its_holds {i : Nat} {x : QI} (hx : q[i]? = some x) {k : Nat} (hk : L[k]? = some (Its q)) (h : Sat W L w) : Holds (Blk x.b x.cells 134) w := by
  obtain ⟨h1, h2⟩ := List.getElem?_eq_some_iff.1 hk
  have hp : L.Perm (Its q :: L.eraseIdx k) := erase_perm hk
  exact (its_out hx (h.perm hp)).head
/-- two items differ -/
theorem its_apart {i j : Nat} {x y : QI} (hx : q[i]? = some x) (hy : q[j]? = some y) (hb : x.b = y.b) (h : Sat W (Its q :: L) w) : i = j := by
  by_cases hij : i = j
  · exact hij
  · have h1 := its_out hx h
    have : ∃ k : Nat, (q.eraseIdx i)[k]? = some y := by
      by_cases hlt : j < i
      · exact ⟨j, by rw [List.getElem?_eraseIdx, if_pos hlt]; exact hy⟩
      · exact ⟨j - 1, by rw [List.getElem?_eraseIdx, if_neg (by omega), show j - 1 + 1 = j by omega]; exact hy⟩
    obtain ⟨k, hk⟩ := this
    have h2 := its_out (L := Blk x.b x.cells 134 :: L) hk (h1.perm (List.Perm.swap _ _ _))
    exact absurd hb.symm ((h2.perm (List.Perm.cons _ (List.Perm.swap _ _ _))).apart)
end
def sw (q : List QI) (i j : Nat) (x y : QI) : List QI := (q.set i { y with ix := (i : Int) }).set j { x with ix := (j : Int) }
section
variable {q : List QI} {i j : Nat} {x y : QI} (hi : q[i]? = some x) (hj : q[j]? = some y)
include hi hj
theorem sw_len : (sw q i j x y).length = q.length := by simp [sw]
theorem sw_at (k : Nat) : (sw q i j x y)[k]? = if k = j then some { x with ix := (j : Int) } else if k = i then some { y with ix := (i : Int) } else q[k]? := by
  have h1 := (List.getElem?_eq_some_iff.1 hi).1
  have h2 := (List.getElem?_eq_some_iff.1 hj).1
  unfold sw
  rw [List.getElem?_set, List.getElem?_set]
  by_cases e1 : j = k
  · subst e1; simp [h2]
  · rw [if_neg e1, if_neg (Ne.symm e1)]
    by_cases e2 : i = k
    · subst e2; simp [h1]
    · rw [if_neg e2, if_neg (Ne.symm e2)]
theorem sw_idx (h : Idx q) : Idx (sw q i j x y) := fun k z hz => by
  rw [sw_at hi hj] at hz
  split at hz
  · rename_i e; subst e; cases hz; rfl
  · split at hz
    · rename_i e; subst e; cases hz; rfl
    · exact h k z hz
theorem sw_tm (k : Nat) : tm (sw q i j x y) k = swf (tm q) i j k := by
  unfold swf
  have h1 : tm q i = x.t := tm_at hi
  have h2 : tm q j = y.t := tm_at hj
  unfold tm at *
  rw [sw_at hi hj]
  by_cases e1 : k = j
  · subst e1
    by_cases e2 : k = i
    · subst e2; rw [hi] at hj; cases hj; simp [h1]
    · simp [e2, h1]
  · rw [if_neg e1]
    by_cases e2 : k = i
    · subst e2; simp [h2]
    · simp [e1, e2]
theorem sw_perm : ((sw q i j x y).map QI.key).Perm (q.map QI.key) := by
  have h1 := (List.getElem?_eq_some_iff.1 hi).1
  have h2 := (List.getElem?_eq_some_iff.1 hj).1
  have e : (sw q i j x y).map QI.key = ((q.map QI.key).set i y.key).set j x.key := by simp [sw, List.map_set]; rfl
  rw [e]
  have a1 : (q.map QI.key)[i]? = some x.key := by rw [List.getElem?_map, hi]; rfl
  have a2 : (q.map QI.key)[j]? = some y.key := by rw [List.getElem?_map, hj]; rfl
  generalize q.map QI.key = l at a1 a2
  have l1 := (List.getElem?_eq_some_iff.1 a1).1
  have l2 := (List.getElem?_eq_some_iff.1 a2).1
  have a3 : (l.set i y.key)[j]? = some y.key := by
    rw [List.getElem?_set]
    split
    · simp
    · exact a2
  have p1 := set_perm (l := l.set i y.key) (i := j) (by simpa using l2) x.key
  have p2 := erase_perm a3
  have p3 := set_perm l1 y.key
  have p4 := erase_perm a1
  refine List.Perm.cons_inv (a := y.key) ?_
  refine (p1.cons _).trans ?_
  refine (List.Perm.swap _ _ _).trans ?_
  refine (p2.symm.cons _).trans ?_
  refine (p3.cons _).trans ?_
  refine (List.Perm.swap _ _ _).trans ?_
  exact p4.symm.cons _
/-- the row of pointers -/
theorem sw_row (sp : List Value) : (((q.map QI.ptr ++ sp).set i y.ptr).set j x.ptr) = (sw q i j x y).map QI.ptr ++ sp := by
  have h1 := (List.getElem?_eq_some_iff.1 hi).1
  have h2 := (List.getElem?_eq_some_iff.1 hj).1
  rw [List.set_append_left _ _ (by simpa using h1), List.set_append_left _ _ (by simpa using h2)]
  simp [sw, List.map_set]
  rfl
end
theorem row_at {q : List QI} {i : Nat} {x : QI} (h : q[i]? = some x) (sp : List Value) : (q.map QI.ptr ++ sp)[i]? = some (.pointer (some ⟨x.b, 0, none⟩)) := by
  have h1 := (List.getElem?_eq_some_iff.1 h).1
  rw [List.getElem?_append_left (by simpa using h1), List.getElem?_map, h]
  rfl
theorem time_lt (a b : Nat) : (decide (((a / 1000000000 : Nat) : Int) < ((b / 1000000000 : Nat) : Int)) || (decide (((a / 1000000000 : Nat) : Int) = ((b / 1000000000 : Nat) : Int)) && decide (((a % 1000000000 : Nat) : Int) < ((b % 1000000000 : Nat) : Int)))) = decide (a < b) := by
  by_cases h : a < b
  · rw [decide_eq_true h]
    by_cases h1 : a / 1000000000 < b / 1000000000
    · rw [decide_eq_true (show ((a / 1000000000 : Nat) : Int) < _ by omega)]; rfl
    · rw [decide_eq_true (show ((a / 1000000000 : Nat) : Int) = ((b / 1000000000 : Nat) : Int) by omega), decide_eq_true (show ((a % 1000000000 : Nat) : Int) < ((b % 1000000000 : Nat) : Int) by omega)]; simp
  · rw [decide_eq_false h, decide_eq_false (show ¬ ((a / 1000000000 : Nat) : Int) < ((b / 1000000000 : Nat) : Int) by omega)]
    by_cases h1 : a / 1000000000 = b / 1000000000
    · rw [decide_eq_false (show ¬ ((a % 1000000000 : Nat) : Int) < ((b % 1000000000 : Nat) : Int) by omega)]; simp
    · rw [decide_eq_false (show ¬ ((a / 1000000000 : Nat) : Int) = ((b / 1000000000 : Nat) : Int) by omega)]; simp
end Go.Proofs.Ythmkdioafjmclaa.Qm
