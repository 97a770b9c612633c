import Derived.Test.YthicijpjpijdjaaDoorWy
namespace Go.Proofs.YthicijpjpijdjaaDoor.Wz
open Go.RowKit Go.Proofs.YthicijpjpijdjaaDoor Go.Proofs.YthicijpjpijdjaaDoor.Sl Go.Proofs.YthicijpjpijdjaaDoor.Wa Go.Proofs.YthicijpjpijdjaaDoor.Wb Go.Proofs.YthicijpjpijdjaaDoor.Wc Go.Proofs.YthicijpjpijdjaaDoor.Wd Go.Proofs.YthicijpjpijdjaaDoor.We Go.Proofs.YthicijpjpijdjaaDoor.Wf Go.Proofs.YthicijpjpijdjaaDoor.Wg Go.Proofs.YthicijpjpijdjaaDoor.Wh Go.Proofs.YthicijpjpijdjaaDoor.Wi Go.Proofs.YthicijpjpijdjaaDoor.Wj Go.Proofs.YthicijpjpijdjaaDoor.Wk Go.Proofs.YthicijpjpijdjaaDoor.Wl Go.Proofs.YthicijpjpijdjaaDoor.Wm Go.Proofs.YthicijpjpijdjaaDoor.Wn Go.Proofs.YthicijpjpijdjaaDoor.Wo Go.Proofs.YthicijpjpijdjaaDoor.Wp Go.Proofs.YthicijpjpijdjaaDoor.Wq Go.Proofs.YthicijpjpijdjaaDoor.Wr Go.Proofs.YthicijpjpijdjaaDoor.Ws Go.Proofs.YthicijpjpijdjaaDoor.Wt Go.Proofs.YthicijpjpijdjaaDoor.Wu Go.Proofs.YthicijpjpijdjaaDoor.Wv Go.Proofs.YthicijpjpijdjaaDoor.Ww Go.Proofs.YthicijpjpijdjaaDoor.Wx Go.Proofs.YthicijpjpijdjaaDoor.Wy
set_option linter.unusedVariables false
set_option linter.unusedSimpArgs false
set_option linter.unusedSectionVars false


/-- the parts of a row that end where is told -/
def segs {α : Type} (P : List α) : Nat → List Int → List (List α)
  | _, [] => []
  | a, x :: E => (P.drop a).take (x.toNat - a) :: segs P x.toNat E
def lastI : Int → List Int → Int
  | a, [] => a
  | _, x :: l => lastI x l
def Rising (n : Int) : Int → List Int → Prop
  | _, [] => True
  | a, x :: l => 0 ≤ x ∧ x ≤ n ∧ a ≤ x ∧ Rising n x l
theorem lastI_snoc : ∀ (a : Int) (l : List Int) (x : Int), lastI a (l ++ [x]) = x
  | _, [], _ => rfl
  | _, y :: l, x => lastI_snoc y l x
theorem rising_snoc (n : Int) : ∀ (a : Int) (l : List Int) (x : Int), Rising n a l → 0 ≤ x → x ≤ n → lastI a l ≤ x → Rising n a (l ++ [x])
  | _, [], _, _, h1, h2, h3 => ⟨h1, h2, h3, True.intro⟩
  | _, y :: l, x, h, h1, h2, h3 => ⟨h.1, h.2.1, h.2.2.1, rising_snoc n y l x h.2.2.2 h1 h2 h3⟩
theorem rising_last (n : Int) : ∀ (a : Int) (l : List Int), 0 ≤ a → a ≤ n → Rising n a l → a ≤ lastI a l ∧ lastI a l ≤ n
  | a, [], h0, h1, _ => ⟨Int.le_refl _, h1⟩
  | a, x :: l, h0, h1, h => by
    have := rising_last n x l h.1 h.2.1 h.2.2.2
    exact ⟨Int.le_trans h.2.2.1 this.1, this.2⟩
theorem lastI_at : ∀ (l : List Int) (a : Int) (i : Nat) (y : Int), l[i]? = some y → lastI a (l.take (i + 1)) = y
  | [], _, _, _, h => by simp at h
  | x :: l, a, 0, y, h => by simpa [lastI] using h
  | x :: l, a, i + 1, y, h => by
    have := lastI_at l x i y (by simpa using h)
    simpa [lastI] using this
theorem segs_snoc {α : Type} (P : List α) : ∀ (a : Nat) (l : List Int) (x : Int), segs P a (l ++ [x]) = segs P a l ++ [(P.drop (lastI (a : Int) l).toNat).take (x.toNat - (lastI (a : Int) l).toNat)]
  | a, [], x => by simp [segs, lastI]
  | a, y :: l, x => by
    simp only [List.cons_append, segs]
    rw [segs_snoc P y.toNat l x]
    have e : lastI ((y.toNat : Nat) : Int) l = lastI y l ∨ l = [] := by
      cases l with
      | nil => exact .inr rfl
      | cons z l => exact .inl rfl
    rcases e with e | rfl
    · simp only [lastI, e]
    · simp only [lastI, Int.toNat_natCast]
theorem segs_len {α : Type} (P : List α) : ∀ (a : Nat) (l : List Int), (segs P a l).length = l.length
  | _, [] => rfl
  | _, x :: l => by simp [segs, segs_len]
theorem segs_map {α β : Type} (f : α → β) (P : List α) : ∀ (a : Nat) (l : List Int), segs (P.map f) a l = (segs P a l).map (List.map f)
  | _, [] => rfl
  | a, x :: l => by simp only [segs, List.map_cons, segs_map f P, List.map_take, List.map_drop]
theorem segs_flat {α : Type} (P : List α) (n : Int) : ∀ (a : Nat) (l : List Int), Rising n (a : Int) l → (segs P a l).flatten = (P.drop a).take ((lastI (a : Int) l).toNat - a)
  | a, [], _ => by simp [segs, lastI]
  | a, x :: l, h => by
    obtain ⟨h1, h2, h3, h4⟩ := h
    have hx : ((x.toNat : Nat) : Int) = x := by omega
    have ih := segs_flat P n x.toNat l (by rw [hx]; exact h4)
    rw [hx] at ih
    have hr := rising_last n x l h1 h2 h4
    simp only [segs, List.flatten_cons, lastI]
    rw [ih]
    have e : (lastI x l).toNat - a = (x.toNat - a) + ((lastI x l).toNat - x.toNat) := by omega
    rw [e, List.take_add, List.drop_drop]
    congr 2
    congr 1
    omega
theorem segs_mem {α : Type} {P : List α} : ∀ {a : Nat} {l : List Int} {s : List α}, s ∈ segs P a l → ∀ x ∈ s, x ∈ P
  | _, [], _, h, _, _ => by cases h
  | a, y :: l, s, h, x, hx => by
    rcases List.mem_cons.1 h with rfl | h
    · exact List.mem_of_mem_drop (List.mem_of_mem_take hx)
    · exact segs_mem h x hx
def scell (l : List UInt8) : List Value := [strv l]
theorem scell_len (l : List UInt8) : (scell l).length = 1 := rfl
def icell (z : Int) : List Value := [.int .i64 z]
theorem icell_len (z : Int) : (icell z).length = 1 := rfl
theorem flat_icell (l : List Int) : flatOf icell l = l.map (Value.int .i64) := by
  induction l with
  | nil => rfl
  | cons x l ih => simp only [flatOf, List.flatMap_cons, icell] at *; rw [ih]; rfl
theorem icell_one (l : List Int) : (flatOf icell l).all (·.oneCell') = true := by
  rw [flat_icell, List.all_eq_true]
  intro v hv
  obtain ⟨z, -, rfl⟩ := List.mem_map.1 hv
  rfl
theorem irows_at {w : World} {b o : Nat} {l : List Int} (h : ∀ i x, l[i]? = some x → w.rangeAt b (o + i * 1) (icell x)) : w.rangeAt b o (flatOf icell l) := fun j v hj => rd_cell icell_len h j v hj
/-- a part of a row of texts -/
theorem rd_seg {b c at_ k : Nat} {P : List (List UInt8)} {sp : List Value} {T : TypeId} (hk : at_ + k ≤ P.length) (hc : P.length ≤ c) : Rd (Ro (Blk b (P.map strv ++ sp) T)) 1 scell (.slice (some ⟨b, if c = at_ then 0 else 0 + at_, none⟩) k (c - at_)) ((P.drop at_).take k) := by
  have hl : ((P.drop at_).take k).length = k := by rw [List.length_take, List.length_drop]; omega
  by_cases h0 : k = 0
  · subst h0
    exact .inr ⟨by simp, _, _, rfl⟩
  · refine .inl ⟨b, if c = at_ then 0 else 0 + at_, c - at_, by rw [hl], fun w h i x hx => ?_⟩
    rw [if_neg (by omega)]
    have hx2 : P[at_ + i]? = some x := by
      rw [List.getElem?_take] at hx
      split at hx
      · rwa [List.getElem?_drop] at hx
      · cases hx
    have hr := h.ro.cell_range (o0 := at_ + i) (cs := scell x) (by
      have hlt := (List.getElem?_eq_some_iff.1 hx2).1
      show ((P.map strv ++ sp).drop (at_ + i)).take 1 = _
      rw [List.drop_append_of_le_length (by simp; omega), List.drop_eq_getElem_cons (by simpa using hlt)]
      have := (List.getElem?_eq_some_iff.1 hx2).2
      simp [scell, this])
    rw [show 0 + at_ + i * 1 = at_ + i by omega]
    exact hr
set_option maxRecDepth 100000 in
set_option maxHeartbeats 1000000 in
theorem joinr_nil (A : HProp) (a : Option Addr) (c : Nat) : Does Tryd.prog 11 [.slice a 0 c] [A] (fun v L => v = .string (str ([] : List (List UInt8)).flatten) ∧ L = [A]) := by
  refine Does.enter 17 Tryd.func11 rfl rfl rfl fun W F => ?_
  show WPc _ _ _ _ _ [(0, .slice a 0 c)] (A :: F)
  refine WPc.seq ?_
  refine WPc.region ?_
  refine WP.val rfl rfl rfl (Val.assign rfl rfl) ?_
  refine WP.nil ?_
  refine Out.next ?_
  refine WPc.seq ?_
  refine WPc.region ?_
  refine WP.val rfl rfl rfl (Val.assign rfl rfl) ?_
  refine WP.nil ?_
  refine Out.next ?_
  refine WPc.seq ?_
  refine WPc.seq ?_
  refine WPc.region ?_
  refine WP.val rfl rfl rfl (Val.move rfl rfl) ?_
  refine WP.val rfl rfl rfl (Val.len rfl Ty.sl27 rfl) ?_
  refine WP.val rfl rfl rfl (Val.move rfl rfl) ?_
  refine WP.nil ?_
  refine Out.next ?_
  refine WPc.block ?_
  refine WPc.loop (ι := Nat) (fun i => i ≤ (([] : List (List UInt8))).length) (fun i => [(3, .string (str (((([] : List (List UInt8))).take i).flatten))), (6, .slice a 0 c), (7, .int .i64 0), (8, .int .i64 (((i : Nat) : Int)))]) (fun i => A :: F) (fun i => (([] : List (List UInt8))).length - i) 0 (Nat.zero_le _) ((Sub.cons rfl (Sub.cons rfl (Sub.cons rfl (Sub.cons rfl Sub.nil))))) (fun _ h => h) ?_
  rintro i hi
  show WPc _ _ _ _ _ [(3, .string (str (((([] : List (List UInt8))).take i).flatten))), (6, .slice a 0 c), (7, .int .i64 0), (8, .int .i64 (((i : Nat) : Int)))] (A :: F)
  replace hi : i ≤ (([] : List (List UInt8))).length := hi
  refine WPc.seq ?_
  refine WPc.region ?_
  refine WP.val rfl rfl rfl (Val.lss rfl rfl rfl) ?_
  refine WP.nil ?_
  refine Out.next ?_
  refine WPc.seq ?_
  refine WPc.ifP rfl (fun h1 => ?_) (fun h1 => ?_)
  · skip
    have h1 : (((i : Nat) : Int) < (0 : Int)) := h1
    exfalso; simp at *; omega
  · skip
    have h1 : ¬ (((i : Nat) : Int) < (0 : Int)) := h1
    refine WPc.exit ?_
    refine Out.then_exit ?_
    refine Out.then_exit ?_
    refine Out.block_exit ?_
    refine Out.next ?_
    refine WPc.seq ?_
    refine WPc.region ?_
    refine WP.val rfl rfl rfl (Val.move rfl rfl) ?_
    refine WP.val rfl rfl rfl (Val.assign rfl rfl) ?_
    refine WP.nil ?_
    refine Out.next ?_
    refine WPc.ret ?_
    have hti : (([] : List (List UInt8))).take i = ([] : List (List UInt8)) := List.take_of_length_le (by first | omega | (simp at *; try omega))
    exact Out.ret1 (L' := _) Tryd.results11 rfl ⟨by rw [hti], rfl⟩ (fun _ h => h)

set_option maxRecDepth 100000 in
set_option maxHeartbeats 1000000 in
theorem joinr_row (A : HProp) (l : List (List UInt8)) (hl : l.flatten.length ≤ 4294967296) (hlen : l.length ≤ 4294967296) (b0 o0 c0 : Nat) (hr : ∀ w, Holds A w → ∀ i x, l[i]? = some x → w.rangeAt b0 (o0 + i * 1) (scell x)) : Does Tryd.prog 11 [.slice (some ⟨b0, o0, none⟩) l.length c0] [A] (fun v L => v = .string (str l.flatten) ∧ L = [A]) := by
  refine Does.enter 17 Tryd.func11 rfl rfl rfl fun W F => ?_
  show WPc _ _ _ _ _ [(0, .slice (some ⟨b0, o0, none⟩) l.length c0)] (A :: F)
  refine WPc.seq ?_
  refine WPc.region ?_
  refine WP.val rfl rfl rfl (Val.assign rfl rfl) ?_
  refine WP.nil ?_
  refine Out.next ?_
  refine WPc.seq ?_
  refine WPc.region ?_
  refine WP.val rfl rfl rfl (Val.assign rfl rfl) ?_
  refine WP.nil ?_
  refine Out.next ?_
  refine WPc.seq ?_
  refine WPc.seq ?_
  refine WPc.region ?_
  refine WP.val rfl rfl rfl (Val.move rfl rfl) ?_
  refine WP.val rfl rfl rfl (Val.len rfl Ty.sl27 rfl) ?_
  refine WP.val rfl rfl rfl (Val.move rfl rfl) ?_
  refine WP.nil ?_
  refine Out.next ?_
  refine WPc.block ?_
  refine WPc.loop (ι := Nat) (fun i => i ≤ (l).length) (fun i => [(3, .string (str (((l).take i).flatten))), (6, .slice (some ⟨b0, o0, none⟩) l.length c0), (7, .int .i64 ((((l).length : Nat) : Int))), (8, .int .i64 (((i : Nat) : Int)))]) (fun i => A :: F) (fun i => (l).length - i) 0 (Nat.zero_le _) ((Sub.cons rfl (Sub.cons rfl (Sub.cons rfl (Sub.cons rfl Sub.nil))))) (fun _ h => h) ?_
  rintro i hi
  show WPc _ _ _ _ _ [(3, .string (str (((l).take i).flatten))), (6, .slice (some ⟨b0, o0, none⟩) l.length c0), (7, .int .i64 ((((l).length : Nat) : Int))), (8, .int .i64 (((i : Nat) : Int)))] (A :: F)
  replace hi : i ≤ (l).length := hi
  refine WPc.seq ?_
  refine WPc.region ?_
  refine WP.val rfl rfl rfl (Val.lss rfl rfl rfl) ?_
  refine WP.nil ?_
  refine Out.next ?_
  refine WPc.seq ?_
  refine WPc.ifP rfl (fun h1 => ?_) (fun h1 => ?_)
  · skip
    have h1 : (((i : Nat) : Int) < (((l).length : Nat) : Int)) := h1
    refine WPc.skip ?_
    refine Out.next ?_
    refine WPc.seq ?_
    refine WPc.block ?_
    refine WPc.seq ?_
    have hlt : i < l.length := by omega
    obtain ⟨x, hx⟩ : ∃ x, l[i]? = some x := ⟨_, List.getElem?_eq_getElem hlt⟩
    have htk := take_more hx
    have hfl : (l.take (i + 1)).flatten = (l.take i).flatten ++ x := by rw [htk]; simp
    have hle := flat_take_le l (i + 1)
    rw [hfl, List.length_append] at hle
    refine WPc.region ?_
    refine WP.val rfl rfl rfl (Val.indexAddr (j := i) (q := o0 + i) rfl Ty.sl27 rfl rfl (by omega) (by omega) (by omega)) ?_
    refine WP.val rfl rfl rfl (Val.load (v := .string (str (x))) rfl Ty.sc9 rfl (fun w h => (by have h2 := hr w (h.at 0 rfl) i x hx 0 _ rfl; rwa [Nat.mul_one] at h2))) ?_
    refine WP.val rfl rfl rfl (Val.assign rfl rfl) ?_
    refine WP.nil ?_
    refine Out.next ?_
    refine WPc.region ?_
    refine WP.val rfl rfl rfl (Val.move rfl rfl) ?_
    refine WP.val rfl rfl rfl (Val.move rfl rfl) ?_
    refine WP.val rfl rfl rfl (Val.addL (a := (l.take i).flatten) (b := x) rfl rfl rfl (by omega)) ?_
    refine WP.val rfl rfl rfl (Val.assign rfl rfl) ?_
    refine WP.nil ?_
    refine Out.block ?_
    refine Out.next ?_
    refine WPc.region ?_
    refine WP.val rfl rfl rfl (Val.add (z := ((i + 1 : Nat) : Int)) rfl rfl rfl ((w64 (by omega) (by omega)).trans (by omega))) ?_
    refine WP.val rfl rfl rfl (Val.move rfl rfl) ?_
    refine WP.nil ?_
    refine Out.again (i + 1) ?_ ?_ ?_ ?_
    · exact (by first | omega | (dsimp only; omega))
    · first | omega | (dsimp only; omega)
    · exact (Sub.cons (by rw [hfl]; rfl) (Sub.cons rfl (Sub.cons rfl (Sub.cons rfl Sub.nil))))
    · exact (fun _ h => h)
  · skip
    have h1 : ¬ (((i : Nat) : Int) < (((l).length : Nat) : Int)) := h1
    refine WPc.exit ?_
    refine Out.then_exit ?_
    refine Out.then_exit ?_
    refine Out.block_exit ?_
    refine Out.next ?_
    refine WPc.seq ?_
    refine WPc.region ?_
    refine WP.val rfl rfl rfl (Val.move rfl rfl) ?_
    refine WP.val rfl rfl rfl (Val.assign rfl rfl) ?_
    refine WP.nil ?_
    refine Out.next ?_
    refine WPc.ret ?_
    have hti : (l).take i = l := List.take_of_length_le (by first | omega | (simp at *; try omega))
    exact Out.ret1 (L' := _) Tryd.results11 rfl ⟨by rw [hti], rfl⟩ (fun _ h => h)

theorem joinr_spec (A : HProp) (l : List (List UInt8)) (hl : l.flatten.length ≤ 4294967296) (hlen : l.length ≤ 4294967296) (va : Value) (hva : Rd A 1 scell va l) : Does Tryd.prog 11 [va] [A] (fun v L => v = .string (str l.flatten) ∧ L = [A]) := by
  rcases hva with ⟨b0, o0, c0, rfl, hr⟩ | ⟨rfl, a, c, rfl⟩
  · exact joinr_row A l hl hlen b0 o0 c0 hr
  · exact joinr_nil A a c
set_option maxRecDepth 100000 in
set_option maxHeartbeats 1000000 in
theorem clonei_nil (A : HProp) (a : Option Addr) (c : Nat) : Does Tryd.prog 13 [.slice a 0 c] [A] (fun v L => ∃ u, v = u ∧ L = [Own 3 1 u 0 (flatOf icell ([] : List Int)), A]) := by
  refine Does.enter 8 Tryd.func13 rfl rfl rfl fun W F => ?_
  show WPc _ _ _ _ _ [(0, .slice a 0 c)] (A :: F)
  refine WPc.seq ?_
  refine WPc.region ?_
  refine WP.val rfl rfl rfl (Val.assign rfl rfl) ?_
  refine WP.nil ?_
  refine Out.next ?_
  refine WPc.seq ?_
  refine WPc.seq ?_
  refine WPc.region ?_
  refine WP.val rfl rfl rfl (Val.move rfl rfl) ?_
  refine WP.val rfl rfl rfl (Val.nilS rfl Ty.is36 rfl rfl) ?_
  refine WP.nil ?_
  refine Out.next ?_
  refine WPc.cond rfl (fun h1 => ?_) (fun h1 => ?_)
  · skip
    have h1 : (a.isNone) = true := h1
    refine WPc.seq ?_
    refine WPc.region ?_
    refine WP.val rfl rfl rfl (Val.assign rfl rfl) ?_
    refine WP.nil ?_
    refine Out.next ?_
    refine WPc.ret ?_
    refine Out.then_ret ?_
    exact Out.ret1 (L' := _) Tryd.results13 rfl ⟨_, rfl, rfl⟩ (fun w h => h.ownNil)
  · skip
    have h1 : (a.isNone) = false := h1
    refine WPc.skip ?_
    refine Out.next ?_
    refine WPc.seq ?_
    refine WPc.region ?_
    refine WP.eff rfl rfl rfl (Eff.mkSlice (C := []) rfl Ty.sl36 rfl (fun _ => by kernel_rfl)) ?_
    rintro _ _ ⟨b1, rfl, rfl⟩
    refine WP.val rfl rfl rfl (Val.move rfl rfl) ?_
    refine WP.conv (fun w h => Sat.ownMk (e := 3) (k := 1) (b := b1) (m := 0) (cap := 0) (xs := []) (sp := []) h (by omega) rfl rfl (by decide)) ?_
    show WP _ _ _ _ _ _ _ (Own 3 1 (.slice (some ⟨b1, 0, none⟩) 0 0) 0 ([]) :: A :: F)
    refine WP.eff rfl rfl rfl (Eff.append (m := 0) (n0 := 0) (news := ([] : List Value)) rfl Ty.sl36 Ty.z3 rfl rfl rfl (Srcs.empty Ty.sl36 a) (by omega) (by omega)) ?_
    rintro v2 _ ⟨onev2, rfl⟩
    refine WP.val rfl rfl rfl (Val.assign rfl rfl) ?_
    refine WP.nil ?_
    refine Out.next ?_
    refine WPc.ret ?_
    exact Out.ret1 (L' := _) Tryd.results13 rfl ⟨v2, rfl, rfl⟩ (fun w h => by first | exact h | (rw [Nat.zero_add] at h; exact h))

set_option maxRecDepth 100000 in
set_option maxHeartbeats 1000000 in
theorem clonei_row (A : HProp) (l : List Int) (hlen : l.length ≤ 4294967296) (b0 o0 c0 : Nat) (hr : ∀ w, Holds A w → ∀ i x, l[i]? = some x → w.rangeAt b0 (o0 + i * 1) (icell x)) : Does Tryd.prog 13 [.slice (some ⟨b0, o0, none⟩) l.length c0] [A] (fun v L => ∃ u, v = u ∧ L = [Own 3 1 u l.length (flatOf icell l), A]) := by
  refine Does.enter 8 Tryd.func13 rfl rfl rfl fun W F => ?_
  show WPc _ _ _ _ _ [(0, .slice (some ⟨b0, o0, none⟩) l.length c0)] (A :: F)
  refine WPc.seq ?_
  refine WPc.region ?_
  refine WP.val rfl rfl rfl (Val.assign rfl rfl) ?_
  refine WP.nil ?_
  refine Out.next ?_
  refine WPc.seq ?_
  refine WPc.seq ?_
  refine WPc.region ?_
  refine WP.val rfl rfl rfl (Val.move rfl rfl) ?_
  refine WP.val rfl rfl rfl (Val.nilS rfl Ty.is36 rfl rfl) ?_
  refine WP.nil ?_
  refine Out.next ?_
  refine WPc.condF rfl rfl ?_
  refine WPc.skip ?_
  refine Out.next ?_
  refine WPc.seq ?_
  refine WPc.region ?_
  refine WP.eff rfl rfl rfl (Eff.mkSlice (C := []) rfl Ty.sl36 rfl (fun _ => by kernel_rfl)) ?_
  rintro _ _ ⟨b1, rfl, rfl⟩
  refine WP.val rfl rfl rfl (Val.move rfl rfl) ?_
  refine WP.conv (fun w h => Sat.ownMk (e := 3) (k := 1) (b := b1) (m := 0) (cap := 0) (xs := []) (sp := []) h (by omega) rfl rfl (by decide)) ?_
  show WP _ _ _ _ _ _ _ (Own 3 1 (.slice (some ⟨b1, 0, none⟩) 0 0) 0 ([]) :: A :: F)
  refine WP.eff rfl rfl rfl (Eff.append (m := l.length) (n0 := 0) (news := flatOf icell l) rfl Ty.sl36 Ty.z3 rfl rfl rfl (Srcs.slice Ty.sl36 (flatOf_length icell_len l) (icell_one l) (fun w h => cells_range (irows_at (hr w (h.at 1 rfl))))) (by omega) (by omega)) ?_
  rintro v2 _ ⟨onev2, rfl⟩
  refine WP.val rfl rfl rfl (Val.assign rfl rfl) ?_
  refine WP.nil ?_
  refine Out.next ?_
  refine WPc.ret ?_
  exact Out.ret1 (L' := _) Tryd.results13 rfl ⟨v2, rfl, rfl⟩ (fun w h => by first | exact h | (rw [Nat.zero_add] at h; exact h))

theorem clonei_spec (A : HProp) (l : List Int) (hlen : l.length ≤ 4294967296) (va : Value) (hva : Rd A 1 icell va l) : Does Tryd.prog 13 [va] [A] (fun v L => ∃ u, v = u ∧ L = [Own 3 1 u l.length (flatOf icell l), A]) := by
  rcases hva with ⟨b0, o0, c0, rfl, hr⟩ | ⟨rfl, a, c, rfl⟩
  · exact clonei_row A l hlen b0 o0 c0 hr
  · exact clonei_nil A a c

end Go.Proofs.YthicijpjpijdjaaDoor.Wz
