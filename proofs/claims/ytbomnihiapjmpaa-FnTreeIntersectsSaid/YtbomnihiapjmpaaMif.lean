import Derived.Test.YtbomnihiapjmpaaMie
namespace Go.Proofs.Ytbomnihiapjmpaa.TK
open Go.RowKit Go.Proofs.Ytbomnihiapjmpaa Go.Proofs.Ytbomnihiapjmpaa.Sl Go.Proofs.Ytbomnihiapjmpaa.TrP Go.Proofs.Ytbomnihiapjmpaa.Tb Go.Proofs.Ytbomnihiapjmpaa.Tc Go.Proofs.Ytbomnihiapjmpaa.Td Go.Proofs.Ytbomnihiapjmpaa.Tn Go.Proofs.Ytbomnihiapjmpaa.Tr Go.Proofs.Ytbomnihiapjmpaa.Ts Go.Proofs.Ytbomnihiapjmpaa.Tx Go.Proofs.Ytbomnihiapjmpaa.TC Go.Proofs.Ytbomnihiapjmpaa.TD Go.Proofs.Ytbomnihiapjmpaa.TE Go.Proofs.Ytbomnihiapjmpaa.TG Go.Proofs.Ytbomnihiapjmpaa.TH Go.Proofs.Ytbomnihiapjmpaa.TI Go.Proofs.Ytbomnihiapjmpaa.TJ
set_option linter.unusedVariables false
set_option linter.unusedSimpArgs false
set_option linter.unusedSectionVars false


/-- put in behind those that stand ahead of it or with it -/
def putP (k : Int) (x : Sp) (n : Int) (l : List Pc) : List Pc := l.takeWhile (fun y => decide (¬ ahd k x y.x)) ++ ⟨pln x, n⟩ :: l.dropWhile (fun y => decide (¬ ahd k x y.x))
def TW (k : Int) (x : Sp) (l : List Pc) (i : Nat) : Prop := l.takeWhile (fun y => decide (¬ ahd k x y.x)) = l.take i ∧ l.dropWhile (fun y => decide (¬ ahd k x y.x)) = l.drop i
theorem tw_split {α : Type} {p : α → Bool} : ∀ (l : List α) (i : Nat), (∀ j y, j < i → l[j]? = some y → p y = true) → (∀ y, l[i]? = some y → p y = false) → l.takeWhile p = l.take i ∧ l.dropWhile p = l.drop i
  | [], i, _, _ => by simp
  | a :: l, 0, _, h => by
    have ha : p a = false := h a rfl
    simp [ha]
  | a :: l, i + 1, h1, h2 => by
    have ha : p a = true := h1 0 a (Nat.succ_pos _) rfl
    obtain ⟨e1, e2⟩ := tw_split l i (fun j y hj hy => h1 (j + 1) y (by omega) hy) (fun y hy => h2 y hy)
    simp [ha, e1, e2]
theorem tw_at {k : Int} {x : Sp} {l : List Pc} {i : Nat} {y : Pc} (h : ∀ j y, j < i → l[j]? = some y → ¬ ahd k x y.x) (hx : l[i]? = some y) (ha : ahd k x y.x) : TW k x l i :=
  tw_split l i (fun j y hj hy => decide_eq_true (h j y hj hy)) (fun z hz => by rw [hx] at hz; injection hz with hz; subst hz; exact decide_eq_false (fun h => h ha))
theorem tw_end {k : Int} {x : Sp} {l : List Pc} {i : Nat} (h : ∀ j y, j < i → l[j]? = some y → ¬ ahd k x y.x) (hi : l.length ≤ i) : TW k x l i :=
  tw_split l i (fun j y hj hy => decide_eq_true (h j y hj hy)) (fun z hz => by rw [List.getElem?_eq_none hi] at hz; cases hz)
theorem pc_in {l : List Pc} {sp : List Value} {i : Nat} {y : Pc} (h : l[i]? = some y) : ((flatOf Pc.cells l ++ sp).drop (i * 6)).take (Sp.cells y.x).length = Sp.cells y.x := by
  have h1 := flatOf_range Pc.len (sp := sp) h
  have h2 : ∀ (L : List Value), L.take 5 = (L.take 6).take 5 := fun L => by rw [List.take_take]; rfl
  show List.take 5 _ = _
  rw [h2]
  have h3 : List.take 6 ((flatOf Pc.cells l ++ sp).drop (i * 6)) = Pc.cells y := h1
  rw [h3]; rfl
theorem src_take {l : List Pc} {sp : List Value} {i : Nat} (h : i ≤ l.length) : ((flatOf Pc.cells l ++ sp).drop 0).take (flatOf Pc.cells (l.take i)).length = flatOf Pc.cells (l.take i) := by
  have e : flatOf Pc.cells l = flatOf Pc.cells (l.take i) ++ flatOf Pc.cells (l.drop i) := by rw [← flatOf_append, List.take_append_drop]
  rw [List.drop_zero, e, List.append_assoc, List.take_append_of_le_length (Nat.le_refl _), List.take_length]
theorem src_drop {l : List Pc} {sp : List Value} {i c : Nat} (h : i ≤ l.length) (hc : l.length ≤ c) : ((flatOf Pc.cells l ++ sp).drop (if c = i then 0 else 0 + i * 6)).take (flatOf Pc.cells (l.drop i)).length = flatOf Pc.cells (l.drop i) := by
  by_cases hi : i = l.length
  · have : l.drop i = [] := List.drop_of_length_le (by omega)
    rw [this]; rfl
  · rw [if_neg (by omega)]
    have e : flatOf Pc.cells l = flatOf Pc.cells (l.take i) ++ flatOf Pc.cells (l.drop i) := by rw [← flatOf_append, List.take_append_drop]
    have e2 : (flatOf Pc.cells (l.take i)).length = 0 + i * 6 := by rw [flatOf_length Pc.len, List.length_take, Nat.min_eq_left h, Nat.zero_add]
    rw [e, List.append_assoc, List.drop_left' e2, List.take_append_of_le_length (Nat.le_refl _), List.take_length]
theorem pc_all (l : List Pc) : (flatOf Pc.cells l).all (·.oneCell') = true := by
  rw [List.all_eq_true]
  intro v hv
  obtain ⟨p, hp, hv⟩ := List.mem_flatMap.1 hv
  simp only [Pc.cells, List.mem_cons, List.not_mem_nil, or_false] at hv
  rcases hv with rfl | rfl | rfl | rfl | rfl | rfl <;> rfl
theorem len_take {l : List Pc} {i : Nat} (h : i ≤ l.length) : (flatOf Pc.cells (l.take i)).length = i * 6 := by rw [flatOf_length Pc.len, List.length_take, Nat.min_eq_left h]
theorem len_drop {l : List Pc} {i : Nat} : (flatOf Pc.cells (l.drop i)).length = (l.length - i) * 6 := by rw [flatOf_length Pc.len, List.length_drop]
theorem own_zero {W w : World} {L : List HProp} {b : Nat} (h : Sat W (Blk b [] 89 :: L) w) : Sat W (Own 89 6 (.slice (some ⟨b, 0, none⟩) 0 0) 0 [] :: L) w := Sat.ownMk (xs := []) (sp := []) h (Nat.le_refl _) rfl rfl (Nat.zero_le _)
theorem seq_put {W w : World} {L : List HProp} {v : Value} {k : Int} {x : Sp} {n : Int} {l : List Pc} {i m : Nat} (hi : i ≤ l.length) (ht : TW k x l i) (hm : m = 0 + i + 1 + (l.length - i)) (h : Sat W (Own 89 6 v m ((([] ++ flatOf Pc.cells (l.take i)) ++ (Pc.cells ⟨pln x, n⟩)) ++ flatOf Pc.cells (l.drop i)) :: L) w) : Sat W (Seq v (putP k x n l).length (flatOf Pc.cells (putP k x n l)) :: L) w := by
  have e : putP k x n l = (l.take i ++ [⟨pln x, n⟩]) ++ l.drop i := by unfold putP; rw [ht.1, ht.2]; simp
  have h1 := h.seqMk
  rw [e, flatOf_append, flatOf_append, List.length_append, List.length_append, List.length_take, List.length_drop, Nat.min_eq_left hi]
  rw [hm] at h1
  simpa [flatOf] using h1
theorem putP_len {k : Int} {x : Sp} {n : Int} {l : List Pc} : (putP k x n l).length = l.length + 1 := by
  unfold putP
  have h := congrArg List.length (List.takeWhile_append_dropWhile (p := fun y : Pc => decide (¬ ahd k x y.x)) (l := l))
  rw [List.length_append] at h
  rw [List.length_append, List.length_cons]
  omega
theorem putP_mem {k : Int} {x : Sp} {n : Int} {l : List Pc} {y : Pc} : y ∈ putP k x n l ↔ y = ⟨pln x, n⟩ ∨ y ∈ l := by
  unfold putP
  have h := List.takeWhile_append_dropWhile (p := fun y : Pc => decide (¬ ahd k x y.x)) (l := l)
  rw [List.mem_append, List.mem_cons]
  conv => rhs; rw [← h, List.mem_append]
  constructor
  · rintro (h | h | h)
    · exact .inr (.inl h)
    · exact .inl h
    · exact .inr (.inr h)
  · rintro (h | h | h)
    · exact .inr (.inl h)
    · exact .inl h
    · exact .inr (.inr h)
set_option maxRecDepth 100000 in
set_option maxHeartbeats 2000000 in
theorem put_nil (pb : Nat) (k0 k : Int) (hk : KO k0 k) (x : Sp) (hx0 : x.key.size ≤ 2147483647) (n : Int) : Does Try.prog 43 [.pointer (some ⟨pb, 0, none⟩), .agg #[.string x.key, .string x.fin, .bool (x.one), .int .i64 (x.lo), .int .i64 (x.hi)], .int .i64 (n)] [Seq (.slice none 0 0) 0 ((flatOf Pc.cells ([] : List Pc))), Blk pb [.int .i64 (k0), .slice none 0 0] 33] (fun v L => ∃ u, L = [Seq u (putP k x n ([] : List Pc)).length (flatOf Pc.cells (putP k x n ([] : List Pc))), Blk pb [.int .i64 k0, u] 33]) := by
  refine Does.enter 59 Try.func43 rfl rfl rfl fun W F => ?_
  show WPc _ _ _ _ _ [(0, .pointer (some ⟨pb, 0, none⟩)), (1, .agg #[.string x.key, .string x.fin, .bool (x.one), .int .i64 (x.lo), .int .i64 (x.hi)]), (2, .int .i64 (n))] (Seq (.slice none 0 0) 0 ((flatOf Pc.cells ([] : List Pc))) :: Blk pb [.int .i64 (k0), .slice none 0 0] 33 :: F)
  refine WPc.seq ?_
  refine WPc.region ?_
  refine WP.eff rfl rfl rfl (Eff.box (C := [.string x.key, .string x.fin, .bool (x.one), .int .i64 (x.lo), .int .i64 (x.hi)]) rfl rfl rfl) ?_
  rintro _ _ ⟨b1, rfl, rfl⟩
  refine WP.nil ?_
  refine Out.next ?_
  refine WPc.seq ?_
  refine WPc.region ?_
  refine WP.val rfl rfl rfl (Val.assign rfl rfl) ?_
  refine WP.nil ?_
  refine Out.next ?_
  refine WPc.cut (ι := Nat) (fun i => i ≤ 0 ∧ TW k x ([] : List Pc) i) (fun i => [(0, .pointer (some ⟨pb, 0, none⟩)), (2, .int .i64 (n)), (4, .pointer (some ⟨b1, 0, none⟩)), (6, .int .i64 (((i : Nat) : Int)))]) (fun i => Blk b1 [.string x.key, .string x.fin, .bool (x.one), .int .i64 (x.lo), .int .i64 (x.hi)] 56 :: Seq (.slice none 0 0) 0 ((flatOf Pc.cells ([] : List Pc))) :: Blk pb [.int .i64 (k0), .slice none 0 0] 33 :: F) ?_ ?_
  · skip
    refine WPc.block ?_
    refine WPc.loop (ι := Nat) (fun i => i ≤ 0 ∧ ∀ j y, j < i → ([] : List Pc)[j]? = some y → ¬ ahd k x y.x) (fun i => [(0, .pointer (some ⟨pb, 0, none⟩)), (2, .int .i64 (n)), (4, .pointer (some ⟨b1, 0, none⟩)), (6, .int .i64 (((i : Nat) : Int)))]) (fun i => Blk b1 [.string x.key, .string x.fin, .bool (x.one), .int .i64 (x.lo), .int .i64 (x.hi)] 56 :: Seq (.slice none 0 0) 0 ((flatOf Pc.cells ([] : List Pc))) :: Blk pb [.int .i64 (k0), .slice none 0 0] 33 :: F) (fun i => 0 - i) 0 ⟨Nat.zero_le _, fun j y h => absurd h (Nat.not_lt_zero _)⟩ ((Sub.cons rfl (Sub.cons rfl (Sub.cons rfl (Sub.cons rfl Sub.nil))))) (fun _ h => h) ?_
    rintro i ⟨hi, hall⟩
    show WPc _ _ _ _ _ [(0, .pointer (some ⟨pb, 0, none⟩)), (2, .int .i64 (n)), (4, .pointer (some ⟨b1, 0, none⟩)), (6, .int .i64 (((i : Nat) : Int)))] (Blk b1 [.string x.key, .string x.fin, .bool (x.one), .int .i64 (x.lo), .int .i64 (x.hi)] 56 :: Seq (.slice none 0 0) 0 ((flatOf Pc.cells ([] : List Pc))) :: Blk pb [.int .i64 (k0), .slice none 0 0] 33 :: F)
    replace hi : i ≤ 0 := hi
    replace hall : ∀ j y, j < i → ([] : List Pc)[j]? = some y → ¬ ahd k x y.x := hall
    refine WPc.seq ?_
    refine WPc.seq ?_
    refine WPD.start (Sat W (Blk b1 [.string x.key, .string x.fin, .bool (x.one), .int .i64 (x.lo), .int .i64 (x.hi)] 56 :: Seq (.slice none 0 0) 0 ((flatOf Pc.cells ([] : List Pc))) :: Blk pb [.int .i64 (k0), .slice none 0 0] 33 :: F)) Ty.mixed ?_
    refine WPD.takeM 0 rfl rfl rfl rfl (by kernel_rfl) (by kernel_rfl) (by kernel_rfl) (by kernel_rfl) (fun _ _ _ h => h) (fun _ h => h) (Val.move rfl rfl) ?_
    refine WPD.takeM 1 rfl rfl rfl rfl (by kernel_rfl) (by kernel_rfl) (by kernel_rfl) (by kernel_rfl) (fun _ _ _ h => h) (fun _ h => h) (Val.move rfl rfl) ?_
    refine WPD.takeM 2 rfl rfl rfl rfl (by kernel_rfl) (by kernel_rfl) (by kernel_rfl) (by kernel_rfl) (fun _ _ _ h => h) (fun _ h => h) (Val.nilCheck rfl rfl) ?_
    refine WPD.takeM 3 rfl rfl rfl rfl (by kernel_rfl) (by kernel_rfl) (by kernel_rfl) (by kernel_rfl) (fun _ _ _ h => h) (fun _ h => h) (Val.fieldAddr (j := 1) rfl Ty.fo33_1 rfl rfl) ?_
    refine WPD.take 4 rfl rfl rfl rfl (by kernel_rfl) (by kernel_rfl) (by kernel_rfl) (by kernel_rfl) (fun _ _ _ h => h) (by kernel_rfl) (fun _ h => h) (Val.load rfl Ty.sc31 rfl (fun w h => h.cell 2 rfl rfl)) ?_
    refine WPD.take 5 rfl rfl rfl rfl (by kernel_rfl) (by kernel_rfl) (by kernel_rfl) (by kernel_rfl) (fun _ _ _ h => h) (by kernel_rfl) (fun _ h => h) (Val.len rfl Ty.sl31 rfl) ?_
    refine WPD.takeM 6 rfl rfl rfl rfl (by kernel_rfl) (by kernel_rfl) (by kernel_rfl) (by kernel_rfl) (fun _ _ _ h => h) (fun _ h => h) (Val.lss rfl rfl rfl) ?_
    refine WPD.takeM 7 rfl rfl rfl rfl (by kernel_rfl) (by kernel_rfl) (by kernel_rfl) (by kernel_rfl) (fun _ _ _ h => h) (fun _ h => h) (Val.move rfl rfl) ?_
    refine WPD.split 15 rfl (fun h1 => ?_) (fun h1 => ?_)
    · skip
      have h1 : (((i : Nat) : Int) < (0 : Int)) := h1
      exfalso; omega
    · skip
      have h1 : ¬ (((i : Nat) : Int) < (0 : Int)) := h1
      refine WPD.skip 8 rfl rfl rfl rfl rfl rfl rfl rfl (by kernel_rfl) (by kernel_rfl) (by kernel_rfl) (by kernel_rfl) (fun _ _ _ h => h) (fun _ h => h) ?_
      refine WPD.skip 9 rfl rfl rfl rfl rfl rfl rfl rfl (by kernel_rfl) (by kernel_rfl) (by kernel_rfl) (by kernel_rfl) (fun _ _ _ h => h) (fun _ h => h) ?_
      refine WPD.skip 10 rfl rfl rfl rfl rfl rfl rfl rfl (by kernel_rfl) (by kernel_rfl) (by kernel_rfl) (by kernel_rfl) (fun _ _ _ h => h) (fun _ h => h) ?_
      refine WPD.skip 11 rfl rfl rfl rfl rfl rfl rfl rfl (by kernel_rfl) (by kernel_rfl) (by kernel_rfl) (by kernel_rfl) (fun _ _ _ h => h) (fun _ h => h) ?_
      refine WPD.skip 12 rfl rfl rfl rfl rfl rfl rfl rfl (by kernel_rfl) (by kernel_rfl) (by kernel_rfl) (by kernel_rfl) (fun _ _ _ h => h) (fun _ h => h) ?_
      refine WPD.skip 13 rfl rfl rfl rfl rfl rfl rfl rfl (by kernel_rfl) (by kernel_rfl) (by kernel_rfl) (by kernel_rfl) (fun _ _ _ h => h) (fun _ h => h) ?_
      refine WPD.skip 14 rfl rfl rfl rfl rfl rfl rfl rfl (by kernel_rfl) (by kernel_rfl) (by kernel_rfl) (by kernel_rfl) (fun _ _ _ h => h) (fun _ h => h) ?_
      refine WPD.skip 15 rfl rfl rfl rfl rfl rfl rfl rfl (by kernel_rfl) (by kernel_rfl) (by kernel_rfl) (by kernel_rfl) (fun _ _ _ h => h) (fun _ h => h) ?_
      refine WPD.skip 16 rfl rfl rfl rfl rfl rfl rfl rfl (by kernel_rfl) (by kernel_rfl) (by kernel_rfl) (by kernel_rfl) (fun _ _ _ h => h) (fun _ h => h) ?_
      refine WPD.skip 17 rfl rfl rfl rfl rfl rfl rfl rfl (by kernel_rfl) (by kernel_rfl) (by kernel_rfl) (by kernel_rfl) (fun _ _ _ h => h) (fun _ h => h) ?_
      refine WPD.skip 18 rfl rfl rfl rfl rfl rfl rfl rfl (by kernel_rfl) (by kernel_rfl) (by kernel_rfl) (by kernel_rfl) (fun _ _ _ h => h) (fun _ h => h) ?_
      refine WPD.skip 19 rfl rfl rfl rfl rfl rfl rfl rfl (by kernel_rfl) (by kernel_rfl) (by kernel_rfl) (by kernel_rfl) (fun _ _ _ h => h) (fun _ h => h) ?_
      refine WPD.skip 20 rfl rfl rfl rfl rfl rfl rfl rfl (by kernel_rfl) (by kernel_rfl) (by kernel_rfl) (by kernel_rfl) (fun _ _ _ h => h) (fun _ h => h) ?_
      refine WPD.skip 21 rfl rfl rfl rfl rfl rfl rfl rfl (by kernel_rfl) (by kernel_rfl) (by kernel_rfl) (by kernel_rfl) (fun _ _ _ h => h) (fun _ h => h) ?_
      refine WPD.skip 22 rfl rfl rfl rfl rfl rfl rfl rfl (by kernel_rfl) (by kernel_rfl) (by kernel_rfl) (by kernel_rfl) (fun _ _ _ h => h) (fun _ h => h) ?_
      refine WPD.takeM 23 rfl rfl rfl rfl (by kernel_rfl) (by kernel_rfl) (by kernel_rfl) (by kernel_rfl) (fun _ _ _ h => h) (fun _ h => h) (Val.pickF rfl rfl rfl) ?_
      refine WPD.done (by kernel_rfl) ?_
      refine Out.next ?_
      refine WPc.condF rfl rfl ?_
      refine WPc.exit ?_
      refine Out.then_exit ?_
      refine Out.then_exit ?_
      refine Out.block_exit ?_
      refine Out.meet i ?_ ?_ ?_
      · exact ⟨hi, by first | exact tw_end hall (by omega) | exact tw_end hall (Nat.zero_le _) | exact tw_at hall hx (Decidable.byContradiction (by assumption))⟩
      · exact (Sub.cons rfl (Sub.cons rfl (Sub.cons rfl (Sub.cons rfl Sub.nil))))
      · exact (fun _ h => h)
  · skip
    rintro i ⟨hi, htw⟩
    show WPc _ _ _ _ _ [(0, .pointer (some ⟨pb, 0, none⟩)), (2, .int .i64 (n)), (4, .pointer (some ⟨b1, 0, none⟩)), (6, .int .i64 (((i : Nat) : Int)))] (Blk b1 [.string x.key, .string x.fin, .bool (x.one), .int .i64 (x.lo), .int .i64 (x.hi)] 56 :: Seq (.slice none 0 0) 0 ((flatOf Pc.cells ([] : List Pc))) :: Blk pb [.int .i64 (k0), .slice none 0 0] 33 :: F)
    replace hi : i ≤ 0 := hi
    replace htw : TW k x ([] : List Pc) i := htw
    refine WPc.seq ?_
    refine WPc.region ?_
    refine WP.eff rfl rfl rfl (Eff.mkSlice (C := []) rfl Ty.sl31 rfl (fun _ => by kernel_rfl)) ?_
    rintro _ _ ⟨b2, rfl, rfl⟩
    refine WP.conv (fun w h => own_zero h) ?_
    show WP _ _ _ _ _ _ _ (Own 89 6 (.slice (some ⟨b2, 0, none⟩) 0 0) 0 ([]) :: Blk b1 [.string x.key, .string x.fin, .bool (x.one), .int .i64 (x.lo), .int .i64 (x.hi)] 56 :: Seq (.slice none 0 0) 0 ((flatOf Pc.cells ([] : List Pc))) :: Blk pb [.int .i64 (k0), .slice none 0 0] 33 :: F)
    refine WP.val rfl rfl rfl (Val.move rfl rfl) ?_
    refine WP.val rfl rfl rfl (Val.nilCheck rfl rfl) ?_
    refine WP.val rfl rfl rfl (Val.fieldAddr (j := 1) rfl Ty.fo33_1 rfl rfl) ?_
    refine WP.val rfl rfl rfl (Val.load rfl Ty.sc31 rfl (fun w h => h.cell 3 rfl rfl)) ?_
    refine WP.val rfl rfl rfl (Val.move rfl rfl) ?_
    refine WP.val rfl rfl rfl (Val.sliceNil (vlo := none) (vhi := some (.i64, ((i : Nat) : Int))) rfl Ty.sl31 rfl rfl rfl (by simp [bnd]; try omega) (by simp [bnd]; try omega)) ?_
    refine WP.eff rfl rfl rfl (Eff.append (m := 0) (n0 := 0) (news := ([] : List Value)) rfl Ty.sl31 Ty.z89 rfl rfl rfl (.nil Ty.sl31) (by omega) (by omega)) ?_
    rintro v3 _ ⟨onev3, rfl⟩
    refine WP.val rfl rfl rfl (Val.assign rfl rfl) ?_
    refine WP.nil ?_
    refine Out.next ?_
    refine WPD.start (Sat W [Blk b1 [.string x.key, .string x.fin, .bool (x.one), .int .i64 (x.lo), .int .i64 (x.hi)] 56, Blk pb [.int .i64 (k0), .slice none 0 0] 33]) Ty.mixed ?_
    refine WPD.takeM 0 rfl rfl rfl rfl (by kernel_rfl) (by kernel_rfl) (by kernel_rfl) (by kernel_rfl) (fun _ _ _ h => h) (fun w h => (((h.perm pl3).perm pl2)).dropEnd (L := [_, _])) (Val.move rfl rfl) ?_
    refine WPD.takeM 1 rfl rfl rfl rfl (by kernel_rfl) (by kernel_rfl) (by kernel_rfl) (by kernel_rfl) (fun _ _ _ h => h) (fun w h => (((h.perm pl3).perm pl2)).dropEnd (L := [_, _])) (Val.move rfl rfl) ?_
    refine WPD.take 2 rfl rfl rfl rfl (by kernel_rfl) (by kernel_rfl) (by kernel_rfl) (by kernel_rfl) (fun _ _ _ h => h) (by kernel_rfl) (fun w h => (((h.perm pl3).perm pl2)).dropEnd (L := [_, _])) (Val.loadAgg (cs := [.string x.key, .string x.fin, .bool (x.one), .int .i64 (x.lo), .int .i64 (x.hi)]) rfl Ty.ag56 rfl rfl (fun w h => h.range 0 rfl rfl)) ?_
    refine WPD.takeM 4 rfl rfl rfl rfl (by kernel_rfl) (by kernel_rfl) (by kernel_rfl) (by kernel_rfl) (fun _ _ _ h => h) (fun w h => (((h.perm pl3).perm pl2)).dropEnd (L := [_, _])) (Val.move rfl rfl) ?_
    refine WPD.takeM 8 rfl rfl rfl rfl (by kernel_rfl) (by kernel_rfl) (by kernel_rfl) (by kernel_rfl) (fun _ _ _ h => h) (fun w h => (((h.perm pl3).perm pl2)).dropEnd (L := [_, _])) (Val.move rfl rfl) ?_
    refine WPD.takeM 9 rfl rfl rfl rfl (by kernel_rfl) (by kernel_rfl) (by kernel_rfl) (by kernel_rfl) (fun _ _ _ h => h) (fun w h => (((h.perm pl3).perm pl2)).dropEnd (L := [_, _])) (Val.nilCheck rfl rfl) ?_
    refine WPD.takeM 10 rfl rfl rfl rfl (by kernel_rfl) (by kernel_rfl) (by kernel_rfl) (by kernel_rfl) (fun _ _ _ h => h) (fun w h => (((h.perm pl3).perm pl2)).dropEnd (L := [_, _])) (Val.fieldAddr (j := 1) rfl Ty.fo33_1 rfl rfl) ?_
    refine WPD.take 11 rfl rfl rfl rfl (by kernel_rfl) (by kernel_rfl) (by kernel_rfl) (by kernel_rfl) (fun _ _ _ h => h) (by kernel_rfl) (fun w h => (((h.perm pl3).perm pl2)).dropEnd (L := [_, _])) (Val.load rfl Ty.sc31 rfl (fun w h => h.cell 1 rfl rfl)) ?_
    refine WPD.takeM 12 rfl rfl rfl rfl (by kernel_rfl) (by kernel_rfl) (by kernel_rfl) (by kernel_rfl) (fun _ _ _ h => h) (fun w h => (((h.perm pl3).perm pl2)).dropEnd (L := [_, _])) (Val.move rfl rfl) ?_
    refine WPD.takeM 13 rfl rfl rfl rfl (by kernel_rfl) (by kernel_rfl) (by kernel_rfl) (by kernel_rfl) (fun _ _ _ h => h) (fun w h => (((h.perm pl3).perm pl2)).dropEnd (L := [_, _])) (Val.sliceNil (vlo := some (.i64, ((i : Nat) : Int))) (vhi := none) rfl Ty.sl31 rfl rfl rfl (by simp [bnd]; try omega) (by simp [bnd]; try omega)) ?_
    refine WPD.step 3 (by kernel_rfl) rfl rfl rfl rfl (Eff.call rfl rfl Try.call79 (plain_does x hx0)) ?_
    rintro _ _ ⟨_, ⟨rfl, rfl⟩, rfl⟩
    refine ⟨(fun w h => (((h.perm pl3).perm pl2)).dropEnd (L := [_, _])), ?_⟩
    show WPD _ _ _ _ _ _ _ _ _ (Own 89 6 v3 (0 + 0) (([]) ++ (([] : List Value))) :: Blk b1 [.string x.key, .string x.fin, .bool (x.one), .int .i64 (x.lo), .int .i64 (x.hi)] 56 :: Seq (.slice none 0 0) 0 ((flatOf Pc.cells ([] : List Pc))) :: Blk pb [.int .i64 (k0), .slice none 0 0] 33 :: F)
    refine WPD.takeM 5 rfl rfl rfl rfl (by kernel_rfl) (by kernel_rfl) (by kernel_rfl) (by kernel_rfl) (fun _ _ _ h => h) (fun w h => (((h.perm pl3).perm pl2)).dropEnd (L := [_, _])) (Val.mk (cs := [.string ((pln x).key), .string ((pln x).fin), .bool ((pln x).one), .int .i64 ((pln x).lo), .int .i64 ((pln x).hi), .int .i64 (n)]) rfl rfl (fun _ => by kernel_rfl)) ?_
    refine WPD.step 6 (by kernel_rfl) rfl rfl rfl rfl (Eff.mkSlice (C := [.string ((pln x).key), .string ((pln x).fin), .bool ((pln x).one), .int .i64 ((pln x).lo), .int .i64 ((pln x).hi), .int .i64 (n)]) rfl Ty.sl31 rfl (fun _ => by kernel_rfl)) ?_
    rintro _ _ ⟨b4, rfl, rfl⟩
    refine ⟨(fun w h => (((h.perm pl4).perm pl3)).dropEnd (L := [_, _])), ?_⟩
    refine WPD.perm pl1 ?_
    refine WPD.step 7 (by kernel_rfl) rfl rfl rfl rfl (Eff.append (m := 1) (n0 := 0 + 0) (news := [.string ((pln x).key), .string ((pln x).fin), .bool ((pln x).one), .int .i64 ((pln x).lo), .int .i64 ((pln x).hi), .int .i64 (n)]) rfl Ty.sl31 Ty.z89 rfl rfl rfl (.slice Ty.sl31 rfl rfl (fun w h => cells_range (h.range 1 rfl rfl))) (by omega) (by omega)) ?_
    rintro v5 _ ⟨onev5, rfl⟩
    refine ⟨(fun w h => (((h.perm pl4).perm pl3)).dropEnd (L := [_, _])), ?_⟩
    refine WPD.stepC 14 (by kernel_rfl) rfl rfl rfl rfl (by kernel_rfl) (Eff.append (m := 0) (n0 := (0 + 0) + 1) (news := ([] : List Value)) rfl Ty.sl31 Ty.z89 rfl rfl rfl (.nil Ty.sl31) (by omega) (by omega)) ?_
    rintro v6 _ ⟨onev6, rfl⟩
    refine ⟨(Sat W (Own 89 6 v6 (((0 + 0) + 1) + 0) (((([]) ++ (([] : List Value))) ++ ([.string ((pln x).key), .string ((pln x).fin), .bool ((pln x).one), .int .i64 ((pln x).lo), .int .i64 ((pln x).hi), .int .i64 (n)])) ++ (([] : List Value))) :: Blk b4 [.string ((pln x).key), .string ((pln x).fin), .bool ((pln x).one), .int .i64 ((pln x).lo), .int .i64 ((pln x).hi), .int .i64 (n)] 89 :: Blk b1 [.string x.key, .string x.fin, .bool (x.one), .int .i64 (x.lo), .int .i64 (x.hi)] 56 :: Seq (.slice none 0 0) 0 ((flatOf Pc.cells ([] : List Pc))) :: Blk pb [.int .i64 (k0), .slice none 0 0] 33 :: F)), (fun _ h => h), ?_⟩
    refine WPD.takeM 15 rfl rfl rfl rfl (by kernel_rfl) (by kernel_rfl) (by kernel_rfl) (by kernel_rfl) (fun _ _ _ h => h) (fun _ h => h) (Val.nilCheck rfl rfl) ?_
    refine WPD.takeM 16 rfl rfl rfl rfl (by kernel_rfl) (by kernel_rfl) (by kernel_rfl) (by kernel_rfl) (fun _ _ _ h => h) (fun _ h => h) (Val.fieldAddr (j := 1) rfl Ty.fo33_1 rfl rfl) ?_
    refine WPD.perm pl4 ?_
    refine WPD.stepC0 17 (by kernel_rfl) rfl rfl rfl (by kernel_rfl) (Eff.store rfl Ty.sc31 rfl rfl onev6 (by simp) st1) ?_
    rintro _ _ rfl
    refine ⟨(Sat W (Blk pb [.int .i64 (k0), v6] 33 :: Own 89 6 v6 (((0 + 0) + 1) + 0) (((([]) ++ (([] : List Value))) ++ ([.string ((pln x).key), .string ((pln x).fin), .bool ((pln x).one), .int .i64 ((pln x).lo), .int .i64 ((pln x).hi), .int .i64 (n)])) ++ (([] : List Value))) :: Blk b4 [.string ((pln x).key), .string ((pln x).fin), .bool ((pln x).one), .int .i64 ((pln x).lo), .int .i64 ((pln x).hi), .int .i64 (n)] 89 :: Blk b1 [.string x.key, .string x.fin, .bool (x.one), .int .i64 (x.lo), .int .i64 (x.hi)] 56 :: Seq (.slice none 0 0) 0 ((flatOf Pc.cells ([] : List Pc))) :: F)), (fun _ h => h), ?_⟩
    refine WPD.done (by kernel_rfl) ?_
    obtain rfl : i = 0 := Nat.le_zero.1 hi
    refine Out.perm pl1 ?_
    refine Out.conv (fun w h => seq_put (k := k) (x := x) (n := n) (l := []) (i := 0) hi htw rfl h) ?_
    refine Out.perm pl2 ?_
    refine Out.drop ?_
    refine Out.perm pl2 ?_
    refine Out.drop ?_
    refine Out.perm pl2 ?_
    refine Out.drop ?_
    exact Out.end0 (L' := _) Try.results43 ⟨_, rfl⟩ (fun _ h => h)

set_option maxRecDepth 100000 in
set_option maxHeartbeats 2000000 in
theorem put_row (pb : Nat) (k0 k : Int) (hk : KO k0 k) (x : Sp) (hx0 : x.key.size ≤ 2147483647) (n : Int) (l : List Pc) (hl : l.length ≤ 1000000) (hsz : ∀ y ∈ l, y.x.key.size ≤ 2147483647) (g cg : Nat) (sg : List Value) (Tg : TypeId) (hcg : l.length ≤ cg) : Does Try.prog 43 [.pointer (some ⟨pb, 0, none⟩), .agg #[.string x.key, .string x.fin, .bool (x.one), .int .i64 (x.lo), .int .i64 (x.hi)], .int .i64 (n)] [Ro (Blk g (flatOf Pc.cells l ++ sg) Tg), Seq (.slice (some ⟨g, 0, none⟩) l.length cg) l.length ((flatOf Pc.cells l)), Blk pb [.int .i64 (k0), .slice (some ⟨g, 0, none⟩) l.length cg] 33] (fun v L => ∃ u, L = [Seq u (putP k x n l).length (flatOf Pc.cells (putP k x n l)), Blk pb [.int .i64 k0, u] 33]) := by
  refine Does.enter 59 Try.func43 rfl rfl rfl fun W F => ?_
  show WPc _ _ _ _ _ [(0, .pointer (some ⟨pb, 0, none⟩)), (1, .agg #[.string x.key, .string x.fin, .bool (x.one), .int .i64 (x.lo), .int .i64 (x.hi)]), (2, .int .i64 (n))] (Ro (Blk g (flatOf Pc.cells l ++ sg) Tg) :: Seq (.slice (some ⟨g, 0, none⟩) l.length cg) l.length ((flatOf Pc.cells l)) :: Blk pb [.int .i64 (k0), .slice (some ⟨g, 0, none⟩) l.length cg] 33 :: F)
  refine WPc.seq ?_
  refine WPc.region ?_
  refine WP.eff rfl rfl rfl (Eff.box (C := [.string x.key, .string x.fin, .bool (x.one), .int .i64 (x.lo), .int .i64 (x.hi)]) rfl rfl rfl) ?_
  rintro _ _ ⟨b1, rfl, rfl⟩
  refine WP.nil ?_
  refine Out.next ?_
  refine WPc.seq ?_
  refine WPc.region ?_
  refine WP.val rfl rfl rfl (Val.assign rfl rfl) ?_
  refine WP.nil ?_
  refine Out.next ?_
  refine WPc.cut (ι := Nat) (fun i => i ≤ l.length ∧ TW k x l i) (fun i => [(0, .pointer (some ⟨pb, 0, none⟩)), (2, .int .i64 (n)), (4, .pointer (some ⟨b1, 0, none⟩)), (6, .int .i64 (((i : Nat) : Int)))]) (fun i => Blk b1 [.string x.key, .string x.fin, .bool (x.one), .int .i64 (x.lo), .int .i64 (x.hi)] 56 :: Ro (Blk g (flatOf Pc.cells l ++ sg) Tg) :: Seq (.slice (some ⟨g, 0, none⟩) l.length cg) l.length ((flatOf Pc.cells l)) :: Blk pb [.int .i64 (k0), .slice (some ⟨g, 0, none⟩) l.length cg] 33 :: F) ?_ ?_
  · skip
    refine WPc.block ?_
    refine WPc.loop (ι := Nat) (fun i => i ≤ l.length ∧ ∀ j y, j < i → l[j]? = some y → ¬ ahd k x y.x) (fun i => [(0, .pointer (some ⟨pb, 0, none⟩)), (2, .int .i64 (n)), (4, .pointer (some ⟨b1, 0, none⟩)), (6, .int .i64 (((i : Nat) : Int)))]) (fun i => Blk b1 [.string x.key, .string x.fin, .bool (x.one), .int .i64 (x.lo), .int .i64 (x.hi)] 56 :: Ro (Blk g (flatOf Pc.cells l ++ sg) Tg) :: Seq (.slice (some ⟨g, 0, none⟩) l.length cg) l.length ((flatOf Pc.cells l)) :: Blk pb [.int .i64 (k0), .slice (some ⟨g, 0, none⟩) l.length cg] 33 :: F) (fun i => l.length - i) 0 ⟨Nat.zero_le _, fun j y h => absurd h (Nat.not_lt_zero _)⟩ ((Sub.cons rfl (Sub.cons rfl (Sub.cons rfl (Sub.cons rfl Sub.nil))))) (fun _ h => h) ?_
    rintro i ⟨hi, hall⟩
    show WPc _ _ _ _ _ [(0, .pointer (some ⟨pb, 0, none⟩)), (2, .int .i64 (n)), (4, .pointer (some ⟨b1, 0, none⟩)), (6, .int .i64 (((i : Nat) : Int)))] (Blk b1 [.string x.key, .string x.fin, .bool (x.one), .int .i64 (x.lo), .int .i64 (x.hi)] 56 :: Ro (Blk g (flatOf Pc.cells l ++ sg) Tg) :: Seq (.slice (some ⟨g, 0, none⟩) l.length cg) l.length ((flatOf Pc.cells l)) :: Blk pb [.int .i64 (k0), .slice (some ⟨g, 0, none⟩) l.length cg] 33 :: F)
    replace hi : i ≤ l.length := hi
    replace hall : ∀ j y, j < i → l[j]? = some y → ¬ ahd k x y.x := hall
    refine WPc.seq ?_
    refine WPc.seq ?_
    refine WPD.start (Sat W (Blk b1 [.string x.key, .string x.fin, .bool (x.one), .int .i64 (x.lo), .int .i64 (x.hi)] 56 :: Ro (Blk g (flatOf Pc.cells l ++ sg) Tg) :: Seq (.slice (some ⟨g, 0, none⟩) l.length cg) l.length ((flatOf Pc.cells l)) :: Blk pb [.int .i64 (k0), .slice (some ⟨g, 0, none⟩) l.length cg] 33 :: F)) Ty.mixed ?_
    refine WPD.takeM 0 rfl rfl rfl rfl (by kernel_rfl) (by kernel_rfl) (by kernel_rfl) (by kernel_rfl) (fun _ _ _ h => h) (fun _ h => h) (Val.move rfl rfl) ?_
    refine WPD.takeM 1 rfl rfl rfl rfl (by kernel_rfl) (by kernel_rfl) (by kernel_rfl) (by kernel_rfl) (fun _ _ _ h => h) (fun _ h => h) (Val.move rfl rfl) ?_
    refine WPD.takeM 2 rfl rfl rfl rfl (by kernel_rfl) (by kernel_rfl) (by kernel_rfl) (by kernel_rfl) (fun _ _ _ h => h) (fun _ h => h) (Val.nilCheck rfl rfl) ?_
    refine WPD.takeM 3 rfl rfl rfl rfl (by kernel_rfl) (by kernel_rfl) (by kernel_rfl) (by kernel_rfl) (fun _ _ _ h => h) (fun _ h => h) (Val.fieldAddr (j := 1) rfl Ty.fo33_1 rfl rfl) ?_
    refine WPD.take 4 rfl rfl rfl rfl (by kernel_rfl) (by kernel_rfl) (by kernel_rfl) (by kernel_rfl) (fun _ _ _ h => h) (by kernel_rfl) (fun _ h => h) (Val.load rfl Ty.sc31 rfl (fun w h => h.cell 3 rfl rfl)) ?_
    refine WPD.take 5 rfl rfl rfl rfl (by kernel_rfl) (by kernel_rfl) (by kernel_rfl) (by kernel_rfl) (fun _ _ _ h => h) (by kernel_rfl) (fun _ h => h) (Val.len rfl Ty.sl31 rfl) ?_
    refine WPD.takeM 6 rfl rfl rfl rfl (by kernel_rfl) (by kernel_rfl) (by kernel_rfl) (by kernel_rfl) (fun _ _ _ h => h) (fun _ h => h) (Val.lss rfl rfl rfl) ?_
    refine WPD.takeM 7 rfl rfl rfl rfl (by kernel_rfl) (by kernel_rfl) (by kernel_rfl) (by kernel_rfl) (fun _ _ _ h => h) (fun _ h => h) (Val.move rfl rfl) ?_
    refine WPD.split 15 rfl (fun h1 => ?_) (fun h1 => ?_)
    · skip
      have h1 : (((i : Nat) : Int) < ((l.length : Nat) : Int)) := h1
      refine WPD.takeGM 8 rfl rfl rfl rfl rfl rfl rfl rfl (by kernel_rfl) (by kernel_rfl) (by kernel_rfl) (by kernel_rfl) (fun _ _ _ h => h) (fun _ h => h) (Val.move rfl rfl) ?_
      refine WPD.takeGM 9 rfl rfl rfl rfl rfl rfl rfl rfl (by kernel_rfl) (by kernel_rfl) (by kernel_rfl) (by kernel_rfl) (fun _ _ _ h => h) (fun _ h => h) (Val.nilCheck rfl rfl) ?_
      refine WPD.takeGM 10 rfl rfl rfl rfl rfl rfl rfl rfl (by kernel_rfl) (by kernel_rfl) (by kernel_rfl) (by kernel_rfl) (fun _ _ _ h => h) (fun _ h => h) (Val.fieldAddr (j := 0) rfl Ty.fo33_0 rfl rfl) ?_
      refine WPD.takeG 11 rfl rfl rfl rfl rfl rfl rfl rfl (by kernel_rfl) (by kernel_rfl) (by kernel_rfl) (by kernel_rfl) (fun _ _ _ h => h) (by kernel_rfl) (fun _ h => h) (Val.load rfl Ty.sc3 rfl (fun w h => h.cell 3 rfl rfl)) ?_
      refine WPD.takeG 12 rfl rfl rfl rfl rfl rfl rfl rfl (by kernel_rfl) (by kernel_rfl) (by kernel_rfl) (by kernel_rfl) (fun _ _ _ h => h) (by kernel_rfl) (fun _ h => h) (Val.loadAgg (cs := [.string x.key, .string x.fin, .bool (x.one), .int .i64 (x.lo), .int .i64 (x.hi)]) rfl Ty.ag56 rfl rfl (fun w h => h.range 0 rfl rfl)) ?_
      refine WPD.takeGM 13 rfl rfl rfl rfl rfl rfl rfl rfl (by kernel_rfl) (by kernel_rfl) (by kernel_rfl) (by kernel_rfl) (fun _ _ _ h => h) (fun _ h => h) (Val.move rfl rfl) ?_
      refine WPD.takeGM 14 rfl rfl rfl rfl rfl rfl rfl rfl (by kernel_rfl) (by kernel_rfl) (by kernel_rfl) (by kernel_rfl) (fun _ _ _ h => h) (fun _ h => h) (Val.nilCheck rfl rfl) ?_
      refine WPD.takeGM 15 rfl rfl rfl rfl rfl rfl rfl rfl (by kernel_rfl) (by kernel_rfl) (by kernel_rfl) (by kernel_rfl) (fun _ _ _ h => h) (fun _ h => h) (Val.fieldAddr (j := 1) rfl Ty.fo33_1 rfl rfl) ?_
      refine WPD.takeG 16 rfl rfl rfl rfl rfl rfl rfl rfl (by kernel_rfl) (by kernel_rfl) (by kernel_rfl) (by kernel_rfl) (fun _ _ _ h => h) (by kernel_rfl) (fun _ h => h) (Val.load rfl Ty.sc31 rfl (fun w h => h.cell 3 rfl rfl)) ?_
      refine WPD.takeGM 17 rfl rfl rfl rfl rfl rfl rfl rfl (by kernel_rfl) (by kernel_rfl) (by kernel_rfl) (by kernel_rfl) (fun _ _ _ h => h) (fun _ h => h) (Val.move rfl rfl) ?_
      have hlt : i < l.length := by omega
      obtain ⟨y, hx⟩ : ∃ y, l[i]? = some y := ⟨_, List.getElem?_eq_getElem hlt⟩
      refine WPD.takeGM 18 rfl rfl rfl rfl rfl rfl rfl rfl (by kernel_rfl) (by kernel_rfl) (by kernel_rfl) (by kernel_rfl) (fun _ _ _ h => h) (fun _ h => h) (Val.indexAddr (j := i) (q := i * 6) rfl Ty.sl31 rfl rfl (by omega) (by omega) (by omega)) ?_
      refine WPD.takeGM 19 rfl rfl rfl rfl rfl rfl rfl rfl (by kernel_rfl) (by kernel_rfl) (by kernel_rfl) (by kernel_rfl) (fun _ _ _ h => h) (fun _ h => h) (Val.fieldAddr (j := i * 6) rfl Ty.fo89_0 rfl rfl) ?_
      refine WPD.takeG 20 rfl rfl rfl rfl rfl rfl rfl rfl (by kernel_rfl) (by kernel_rfl) (by kernel_rfl) (by kernel_rfl) (fun _ _ _ h => h) (by kernel_rfl) (fun _ h => h) (Val.loadAgg (cs := (Sp.cells y.x)) rfl Ty.ag56 rfl (by rfl) (fun w h => h.rangeRo 1 rfl (pc_in hx))) ?_
      refine WPD.stepGC 21 (by kernel_rfl) rfl rfl rfl rfl rfl rfl rfl rfl (by kernel_rfl) (Eff.call rfl rfl Try.call80 (ahead_does k0 k hk x y.x hx0 (hsz y (List.mem_of_getElem? hx)))) ?_
      rintro _ _ ⟨_, ⟨rfl, rfl⟩, rfl⟩
      refine ⟨(Sat W (Blk b1 [.string x.key, .string x.fin, .bool (x.one), .int .i64 (x.lo), .int .i64 (x.hi)] 56 :: Ro (Blk g (flatOf Pc.cells l ++ sg) Tg) :: Seq (.slice (some ⟨g, 0, none⟩) l.length cg) l.length ((flatOf Pc.cells l)) :: Blk pb [.int .i64 (k0), .slice (some ⟨g, 0, none⟩) l.length cg] 33 :: F)), (fun _ h => h), ?_⟩
      show WPD _ _ _ _ _ _ _ _ _ (Blk b1 [.string x.key, .string x.fin, .bool (x.one), .int .i64 (x.lo), .int .i64 (x.hi)] 56 :: Ro (Blk g (flatOf Pc.cells l ++ sg) Tg) :: Seq (.slice (some ⟨g, 0, none⟩) l.length cg) l.length ((flatOf Pc.cells l)) :: Blk pb [.int .i64 (k0), .slice (some ⟨g, 0, none⟩) l.length cg] 33 :: F)
      refine WPD.takeGM 22 rfl rfl rfl rfl rfl rfl rfl rfl (by kernel_rfl) (by kernel_rfl) (by kernel_rfl) (by kernel_rfl) (fun _ _ _ h => h) (fun _ h => h) (Val.notP rfl rfl) ?_
      refine WPD.takeM 23 rfl rfl rfl rfl (by kernel_rfl) (by kernel_rfl) (by kernel_rfl) (by kernel_rfl) (fun _ _ _ h => h) (fun _ h => h) (Val.pickT rfl rfl rfl) ?_
      refine WPD.done (by kernel_rfl) ?_
      refine Out.next ?_
      refine WPc.ifP rfl (fun h2 => ?_) (fun h2 => ?_)
      · skip
        have h2 : (¬ (ahd k x y.x)) := h2
        refine WPc.skip ?_
        refine Out.next ?_
        refine WPc.block ?_
        refine WPc.region ?_
        refine WP.val rfl rfl rfl (Val.move rfl rfl) ?_
        refine WP.val rfl rfl rfl (Val.add (z := ((i + 1 : Nat) : Int)) rfl rfl rfl ((w64 (by omega) (by omega)).trans (by omega))) ?_
        refine WP.val rfl rfl rfl (Val.assign rfl rfl) ?_
        refine WP.nil ?_
        refine Out.block ?_
        refine Out.again (i + 1) ?_ ?_ ?_ ?_
        · exact ⟨by show i + 1 ≤ l.length; omega, all_more hall hx (by simpa using ‹(¬ ahd k x y.x)›)⟩
        · (first | omega | (dsimp only; omega))
        · exact (Sub.cons rfl (Sub.cons rfl (Sub.cons rfl (Sub.cons rfl Sub.nil))))
        · exact (fun _ h => h)
      · skip
        have h2 : ¬ (¬ (ahd k x y.x)) := h2
        refine WPc.exit ?_
        refine Out.then_exit ?_
        refine Out.then_exit ?_
        refine Out.block_exit ?_
        refine Out.meet i ?_ ?_ ?_
        · exact ⟨hi, by first | exact tw_end hall (by omega) | exact tw_end hall (Nat.zero_le _) | exact tw_at hall hx (Decidable.byContradiction (by assumption))⟩
        · exact (Sub.cons rfl (Sub.cons rfl (Sub.cons rfl (Sub.cons rfl Sub.nil))))
        · exact (fun _ h => h)
    · skip
      have h1 : ¬ (((i : Nat) : Int) < ((l.length : Nat) : Int)) := h1
      refine WPD.skip 8 rfl rfl rfl rfl rfl rfl rfl rfl (by kernel_rfl) (by kernel_rfl) (by kernel_rfl) (by kernel_rfl) (fun _ _ _ h => h) (fun _ h => h) ?_
      refine WPD.skip 9 rfl rfl rfl rfl rfl rfl rfl rfl (by kernel_rfl) (by kernel_rfl) (by kernel_rfl) (by kernel_rfl) (fun _ _ _ h => h) (fun _ h => h) ?_
      refine WPD.skip 10 rfl rfl rfl rfl rfl rfl rfl rfl (by kernel_rfl) (by kernel_rfl) (by kernel_rfl) (by kernel_rfl) (fun _ _ _ h => h) (fun _ h => h) ?_
      refine WPD.skip 11 rfl rfl rfl rfl rfl rfl rfl rfl (by kernel_rfl) (by kernel_rfl) (by kernel_rfl) (by kernel_rfl) (fun _ _ _ h => h) (fun _ h => h) ?_
      refine WPD.skip 12 rfl rfl rfl rfl rfl rfl rfl rfl (by kernel_rfl) (by kernel_rfl) (by kernel_rfl) (by kernel_rfl) (fun _ _ _ h => h) (fun _ h => h) ?_
      refine WPD.skip 13 rfl rfl rfl rfl rfl rfl rfl rfl (by kernel_rfl) (by kernel_rfl) (by kernel_rfl) (by kernel_rfl) (fun _ _ _ h => h) (fun _ h => h) ?_
      refine WPD.skip 14 rfl rfl rfl rfl rfl rfl rfl rfl (by kernel_rfl) (by kernel_rfl) (by kernel_rfl) (by kernel_rfl) (fun _ _ _ h => h) (fun _ h => h) ?_
      refine WPD.skip 15 rfl rfl rfl rfl rfl rfl rfl rfl (by kernel_rfl) (by kernel_rfl) (by kernel_rfl) (by kernel_rfl) (fun _ _ _ h => h) (fun _ h => h) ?_
      refine WPD.skip 16 rfl rfl rfl rfl rfl rfl rfl rfl (by kernel_rfl) (by kernel_rfl) (by kernel_rfl) (by kernel_rfl) (fun _ _ _ h => h) (fun _ h => h) ?_
      refine WPD.skip 17 rfl rfl rfl rfl rfl rfl rfl rfl (by kernel_rfl) (by kernel_rfl) (by kernel_rfl) (by kernel_rfl) (fun _ _ _ h => h) (fun _ h => h) ?_
      refine WPD.skip 18 rfl rfl rfl rfl rfl rfl rfl rfl (by kernel_rfl) (by kernel_rfl) (by kernel_rfl) (by kernel_rfl) (fun _ _ _ h => h) (fun _ h => h) ?_
      refine WPD.skip 19 rfl rfl rfl rfl rfl rfl rfl rfl (by kernel_rfl) (by kernel_rfl) (by kernel_rfl) (by kernel_rfl) (fun _ _ _ h => h) (fun _ h => h) ?_
      refine WPD.skip 20 rfl rfl rfl rfl rfl rfl rfl rfl (by kernel_rfl) (by kernel_rfl) (by kernel_rfl) (by kernel_rfl) (fun _ _ _ h => h) (fun _ h => h) ?_
      refine WPD.skip 21 rfl rfl rfl rfl rfl rfl rfl rfl (by kernel_rfl) (by kernel_rfl) (by kernel_rfl) (by kernel_rfl) (fun _ _ _ h => h) (fun _ h => h) ?_
      refine WPD.skip 22 rfl rfl rfl rfl rfl rfl rfl rfl (by kernel_rfl) (by kernel_rfl) (by kernel_rfl) (by kernel_rfl) (fun _ _ _ h => h) (fun _ h => h) ?_
      refine WPD.takeM 23 rfl rfl rfl rfl (by kernel_rfl) (by kernel_rfl) (by kernel_rfl) (by kernel_rfl) (fun _ _ _ h => h) (fun _ h => h) (Val.pickF rfl rfl rfl) ?_
      refine WPD.done (by kernel_rfl) ?_
      refine Out.next ?_
      refine WPc.condF rfl rfl ?_
      refine WPc.exit ?_
      refine Out.then_exit ?_
      refine Out.then_exit ?_
      refine Out.block_exit ?_
      refine Out.meet i ?_ ?_ ?_
      · exact ⟨hi, by first | exact tw_end hall (by omega) | exact tw_end hall (Nat.zero_le _) | exact tw_at hall hx (Decidable.byContradiction (by assumption))⟩
      · exact (Sub.cons rfl (Sub.cons rfl (Sub.cons rfl (Sub.cons rfl Sub.nil))))
      · exact (fun _ h => h)
  · skip
    rintro i ⟨hi, htw⟩
    show WPc _ _ _ _ _ [(0, .pointer (some ⟨pb, 0, none⟩)), (2, .int .i64 (n)), (4, .pointer (some ⟨b1, 0, none⟩)), (6, .int .i64 (((i : Nat) : Int)))] (Blk b1 [.string x.key, .string x.fin, .bool (x.one), .int .i64 (x.lo), .int .i64 (x.hi)] 56 :: Ro (Blk g (flatOf Pc.cells l ++ sg) Tg) :: Seq (.slice (some ⟨g, 0, none⟩) l.length cg) l.length ((flatOf Pc.cells l)) :: Blk pb [.int .i64 (k0), .slice (some ⟨g, 0, none⟩) l.length cg] 33 :: F)
    replace hi : i ≤ l.length := hi
    replace htw : TW k x l i := htw
    refine WPc.seq ?_
    refine WPc.region ?_
    refine WP.eff rfl rfl rfl (Eff.mkSlice (C := []) rfl Ty.sl31 rfl (fun _ => by kernel_rfl)) ?_
    rintro _ _ ⟨b2, rfl, rfl⟩
    refine WP.conv (fun w h => own_zero h) ?_
    show WP _ _ _ _ _ _ _ (Own 89 6 (.slice (some ⟨b2, 0, none⟩) 0 0) 0 ([]) :: Blk b1 [.string x.key, .string x.fin, .bool (x.one), .int .i64 (x.lo), .int .i64 (x.hi)] 56 :: Ro (Blk g (flatOf Pc.cells l ++ sg) Tg) :: Seq (.slice (some ⟨g, 0, none⟩) l.length cg) l.length ((flatOf Pc.cells l)) :: Blk pb [.int .i64 (k0), .slice (some ⟨g, 0, none⟩) l.length cg] 33 :: F)
    refine WP.val rfl rfl rfl (Val.move rfl rfl) ?_
    refine WP.val rfl rfl rfl (Val.nilCheck rfl rfl) ?_
    refine WP.val rfl rfl rfl (Val.fieldAddr (j := 1) rfl Ty.fo33_1 rfl rfl) ?_
    refine WP.val rfl rfl rfl (Val.load rfl Ty.sc31 rfl (fun w h => h.cell 4 rfl rfl)) ?_
    refine WP.val rfl rfl rfl (Val.move rfl rfl) ?_
    refine WP.val rfl rfl rfl (Val.slice (lo := 0) (hi := i) (j := 0) (vlo := none) (vhi := some (.i64, ((i : Nat) : Int))) rfl Ty.sl31 rfl rfl rfl (by simp [bnd]) (by simp [bnd]; try omega) (by omega) (by omega) (by omega) (by simp)) ?_
    refine WP.eff rfl rfl rfl (Eff.append (m := i) (n0 := 0) (news := flatOf Pc.cells (l.take i)) rfl Ty.sl31 Ty.z89 rfl rfl rfl (.slice Ty.sl31 (len_take hi) (pc_all _) (fun w h => cells_range (h.rangeRo 2 rfl (src_take hi)))) (by omega) (by omega)) ?_
    rintro v3 _ ⟨onev3, rfl⟩
    refine WP.val rfl rfl rfl (Val.assign rfl rfl) ?_
    refine WP.nil ?_
    refine Out.next ?_
    refine WPD.start (Sat W [Blk b1 [.string x.key, .string x.fin, .bool (x.one), .int .i64 (x.lo), .int .i64 (x.hi)] 56, Blk pb [.int .i64 (k0), .slice (some ⟨g, 0, none⟩) l.length cg] 33]) Ty.mixed ?_
    refine WPD.takeM 0 rfl rfl rfl rfl (by kernel_rfl) (by kernel_rfl) (by kernel_rfl) (by kernel_rfl) (fun _ _ _ h => h) (fun w h => (((h.perm pl4).perm pl2)).dropEnd (L := [_, _])) (Val.move rfl rfl) ?_
    refine WPD.takeM 1 rfl rfl rfl rfl (by kernel_rfl) (by kernel_rfl) (by kernel_rfl) (by kernel_rfl) (fun _ _ _ h => h) (fun w h => (((h.perm pl4).perm pl2)).dropEnd (L := [_, _])) (Val.move rfl rfl) ?_
    refine WPD.take 2 rfl rfl rfl rfl (by kernel_rfl) (by kernel_rfl) (by kernel_rfl) (by kernel_rfl) (fun _ _ _ h => h) (by kernel_rfl) (fun w h => (((h.perm pl4).perm pl2)).dropEnd (L := [_, _])) (Val.loadAgg (cs := [.string x.key, .string x.fin, .bool (x.one), .int .i64 (x.lo), .int .i64 (x.hi)]) rfl Ty.ag56 rfl rfl (fun w h => h.range 0 rfl rfl)) ?_
    refine WPD.takeM 4 rfl rfl rfl rfl (by kernel_rfl) (by kernel_rfl) (by kernel_rfl) (by kernel_rfl) (fun _ _ _ h => h) (fun w h => (((h.perm pl4).perm pl2)).dropEnd (L := [_, _])) (Val.move rfl rfl) ?_
    refine WPD.takeM 8 rfl rfl rfl rfl (by kernel_rfl) (by kernel_rfl) (by kernel_rfl) (by kernel_rfl) (fun _ _ _ h => h) (fun w h => (((h.perm pl4).perm pl2)).dropEnd (L := [_, _])) (Val.move rfl rfl) ?_
    refine WPD.takeM 9 rfl rfl rfl rfl (by kernel_rfl) (by kernel_rfl) (by kernel_rfl) (by kernel_rfl) (fun _ _ _ h => h) (fun w h => (((h.perm pl4).perm pl2)).dropEnd (L := [_, _])) (Val.nilCheck rfl rfl) ?_
    refine WPD.takeM 10 rfl rfl rfl rfl (by kernel_rfl) (by kernel_rfl) (by kernel_rfl) (by kernel_rfl) (fun _ _ _ h => h) (fun w h => (((h.perm pl4).perm pl2)).dropEnd (L := [_, _])) (Val.fieldAddr (j := 1) rfl Ty.fo33_1 rfl rfl) ?_
    refine WPD.take 11 rfl rfl rfl rfl (by kernel_rfl) (by kernel_rfl) (by kernel_rfl) (by kernel_rfl) (fun _ _ _ h => h) (by kernel_rfl) (fun w h => (((h.perm pl4).perm pl2)).dropEnd (L := [_, _])) (Val.load rfl Ty.sc31 rfl (fun w h => h.cell 1 rfl rfl)) ?_
    refine WPD.takeM 12 rfl rfl rfl rfl (by kernel_rfl) (by kernel_rfl) (by kernel_rfl) (by kernel_rfl) (fun _ _ _ h => h) (fun w h => (((h.perm pl4).perm pl2)).dropEnd (L := [_, _])) (Val.move rfl rfl) ?_
    refine WPD.takeM 13 rfl rfl rfl rfl (by kernel_rfl) (by kernel_rfl) (by kernel_rfl) (by kernel_rfl) (fun _ _ _ h => h) (fun w h => (((h.perm pl4).perm pl2)).dropEnd (L := [_, _])) (Val.slice (lo := i) (hi := l.length) (j := (if cg = i then 0 else 0 + i * 6)) (vlo := some (.i64, ((i : Nat) : Int))) (vhi := none) rfl Ty.sl31 rfl rfl rfl (by simp [bnd]; try omega) (by simp [bnd]; try omega) (by omega) (by omega) (by omega) rfl) ?_
    refine WPD.step 3 (by kernel_rfl) rfl rfl rfl rfl (Eff.call rfl rfl Try.call79 (plain_does x hx0)) ?_
    rintro _ _ ⟨_, ⟨rfl, rfl⟩, rfl⟩
    refine ⟨(fun w h => (((h.perm pl4).perm pl2)).dropEnd (L := [_, _])), ?_⟩
    show WPD _ _ _ _ _ _ _ _ _ (Own 89 6 v3 (0 + i) (([]) ++ (flatOf Pc.cells (l.take i))) :: Blk b1 [.string x.key, .string x.fin, .bool (x.one), .int .i64 (x.lo), .int .i64 (x.hi)] 56 :: Ro (Blk g (flatOf Pc.cells l ++ sg) Tg) :: Seq (.slice (some ⟨g, 0, none⟩) l.length cg) l.length ((flatOf Pc.cells l)) :: Blk pb [.int .i64 (k0), .slice (some ⟨g, 0, none⟩) l.length cg] 33 :: F)
    refine WPD.takeM 5 rfl rfl rfl rfl (by kernel_rfl) (by kernel_rfl) (by kernel_rfl) (by kernel_rfl) (fun _ _ _ h => h) (fun w h => (((h.perm pl4).perm pl2)).dropEnd (L := [_, _])) (Val.mk (cs := [.string ((pln x).key), .string ((pln x).fin), .bool ((pln x).one), .int .i64 ((pln x).lo), .int .i64 ((pln x).hi), .int .i64 (n)]) rfl rfl (fun _ => by kernel_rfl)) ?_
    refine WPD.step 6 (by kernel_rfl) rfl rfl rfl rfl (Eff.mkSlice (C := [.string ((pln x).key), .string ((pln x).fin), .bool ((pln x).one), .int .i64 ((pln x).lo), .int .i64 ((pln x).hi), .int .i64 (n)]) rfl Ty.sl31 rfl (fun _ => by kernel_rfl)) ?_
    rintro _ _ ⟨b4, rfl, rfl⟩
    refine ⟨(fun w h => (((h.perm pl5).perm pl3)).dropEnd (L := [_, _])), ?_⟩
    refine WPD.perm pl1 ?_
    refine WPD.step 7 (by kernel_rfl) rfl rfl rfl rfl (Eff.append (m := 1) (n0 := 0 + i) (news := [.string ((pln x).key), .string ((pln x).fin), .bool ((pln x).one), .int .i64 ((pln x).lo), .int .i64 ((pln x).hi), .int .i64 (n)]) rfl Ty.sl31 Ty.z89 rfl rfl rfl (.slice Ty.sl31 rfl rfl (fun w h => cells_range (h.range 1 rfl rfl))) (by omega) (by omega)) ?_
    rintro v5 _ ⟨onev5, rfl⟩
    refine ⟨(fun w h => (((h.perm pl5).perm pl3)).dropEnd (L := [_, _])), ?_⟩
    refine WPD.stepC 14 (by kernel_rfl) rfl rfl rfl rfl (by kernel_rfl) (Eff.append (m := (l.length - i)) (n0 := (0 + i) + 1) (news := flatOf Pc.cells (l.drop i)) rfl Ty.sl31 Ty.z89 rfl rfl rfl (.slice Ty.sl31 len_drop (pc_all _) (fun w h => cells_range (h.rangeRo 3 rfl (src_drop hi hcg)))) (by omega) (by omega)) ?_
    rintro v6 _ ⟨onev6, rfl⟩
    refine ⟨(Sat W (Own 89 6 v6 (((0 + i) + 1) + ((l.length - i))) (((([]) ++ (flatOf Pc.cells (l.take i))) ++ ([.string ((pln x).key), .string ((pln x).fin), .bool ((pln x).one), .int .i64 ((pln x).lo), .int .i64 ((pln x).hi), .int .i64 (n)])) ++ (flatOf Pc.cells (l.drop i))) :: Blk b4 [.string ((pln x).key), .string ((pln x).fin), .bool ((pln x).one), .int .i64 ((pln x).lo), .int .i64 ((pln x).hi), .int .i64 (n)] 89 :: Blk b1 [.string x.key, .string x.fin, .bool (x.one), .int .i64 (x.lo), .int .i64 (x.hi)] 56 :: Ro (Blk g (flatOf Pc.cells l ++ sg) Tg) :: Seq (.slice (some ⟨g, 0, none⟩) l.length cg) l.length ((flatOf Pc.cells l)) :: Blk pb [.int .i64 (k0), .slice (some ⟨g, 0, none⟩) l.length cg] 33 :: F)), (fun _ h => h), ?_⟩
    refine WPD.takeM 15 rfl rfl rfl rfl (by kernel_rfl) (by kernel_rfl) (by kernel_rfl) (by kernel_rfl) (fun _ _ _ h => h) (fun _ h => h) (Val.nilCheck rfl rfl) ?_
    refine WPD.takeM 16 rfl rfl rfl rfl (by kernel_rfl) (by kernel_rfl) (by kernel_rfl) (by kernel_rfl) (fun _ _ _ h => h) (fun _ h => h) (Val.fieldAddr (j := 1) rfl Ty.fo33_1 rfl rfl) ?_
    refine WPD.perm pl5 ?_
    refine WPD.stepC0 17 (by kernel_rfl) rfl rfl rfl (by kernel_rfl) (Eff.store rfl Ty.sc31 rfl rfl onev6 (by simp) st1) ?_
    rintro _ _ rfl
    refine ⟨(Sat W (Blk pb [.int .i64 (k0), v6] 33 :: Own 89 6 v6 (((0 + i) + 1) + ((l.length - i))) (((([]) ++ (flatOf Pc.cells (l.take i))) ++ ([.string ((pln x).key), .string ((pln x).fin), .bool ((pln x).one), .int .i64 ((pln x).lo), .int .i64 ((pln x).hi), .int .i64 (n)])) ++ (flatOf Pc.cells (l.drop i))) :: Blk b4 [.string ((pln x).key), .string ((pln x).fin), .bool ((pln x).one), .int .i64 ((pln x).lo), .int .i64 ((pln x).hi), .int .i64 (n)] 89 :: Blk b1 [.string x.key, .string x.fin, .bool (x.one), .int .i64 (x.lo), .int .i64 (x.hi)] 56 :: Ro (Blk g (flatOf Pc.cells l ++ sg) Tg) :: Seq (.slice (some ⟨g, 0, none⟩) l.length cg) l.length ((flatOf Pc.cells l)) :: F)), (fun _ h => h), ?_⟩
    refine WPD.done (by kernel_rfl) ?_
    refine Out.perm pl1 ?_
    refine Out.conv (fun w h => seq_put (k := k) (x := x) (n := n) hi htw (by first | rfl | omega) h) ?_
    refine Out.perm pl2 ?_
    refine Out.drop ?_
    refine Out.perm pl2 ?_
    refine Out.drop ?_
    refine Out.perm pl2 ?_
    refine Out.drop ?_
    refine Out.perm pl2 ?_
    refine Out.drop ?_
    exact Out.end0 (L' := _) Try.results43 ⟨_, rfl⟩ (fun _ h => h)

theorem put_spec (pb : Nat) (k0 k : Int) (hk : KO k0 k) (x : Sp) (hx0 : x.key.size ≤ 2147483647) (n : Int) (l : List Pc) (hl : l.length ≤ 1000000) (hsz : ∀ y ∈ l, y.x.key.size ≤ 2147483647) (va : Value) : Does Try.prog 43 [.pointer (some ⟨pb, 0, none⟩), .agg #[.string x.key, .string x.fin, .bool (x.one), .int .i64 (x.lo), .int .i64 (x.hi)], .int .i64 (n)] [Seq va l.length (flatOf Pc.cells l), Blk pb [.int .i64 (k0), va] 33] (fun v L => ∃ u, L = [Seq u (putP k x n l).length (flatOf Pc.cells (putP k x n l)), Blk pb [.int .i64 k0, u] 33]) := by
  refine Does.seqC (fun h0 h1 => ?_) (fun g cg sg Tg h0 h1 => ?_)
  · obtain rfl := List.eq_nil_of_length_eq_zero h1
    subst h0
    exact put_nil pb k0 k hk x hx0 n
  · subst h0
    exact put_row pb k0 k hk x hx0 n l hl hsz g cg sg Tg h1

end Go.Proofs.Ytbomnihiapjmpaa.TK

namespace Go.Proofs.Ytbomnihiapjmpaa.TL
open Go.RowKit Go.Proofs.Ytbomnihiapjmpaa Go.Proofs.Ytbomnihiapjmpaa.Sl Go.Proofs.Ytbomnihiapjmpaa.TrP Go.Proofs.Ytbomnihiapjmpaa.Tb Go.Proofs.Ytbomnihiapjmpaa.Tc Go.Proofs.Ytbomnihiapjmpaa.Td Go.Proofs.Ytbomnihiapjmpaa.Tn Go.Proofs.Ytbomnihiapjmpaa.Tr Go.Proofs.Ytbomnihiapjmpaa.Ts Go.Proofs.Ytbomnihiapjmpaa.Tx Go.Proofs.Ytbomnihiapjmpaa.TC Go.Proofs.Ytbomnihiapjmpaa.TD Go.Proofs.Ytbomnihiapjmpaa.TE Go.Proofs.Ytbomnihiapjmpaa.TG Go.Proofs.Ytbomnihiapjmpaa.TH Go.Proofs.Ytbomnihiapjmpaa.TI Go.Proofs.Ytbomnihiapjmpaa.TJ Go.Proofs.Ytbomnihiapjmpaa.TK
set_option linter.unusedVariables false
set_option linter.unusedSimpArgs false
set_option linter.unusedSectionVars false


/-- what is found -/
def Do3 (k : Int) (x : Sp) (l : List Pc) (a : TAns) : Prop := (a = noAns ∧ ∀ y ∈ l, ¬ same k y.x x) ∨ ∃ y ∈ l, same k y.x x ∧ a = ⟨true, 0, 0, [y.x], [y.n]⟩
def Do6 (k : Int) (x : Sp) (l : List Pc) (a : TAns) : Prop := a = ⟨decide ((0 : Int) < (((mts k x l).length : Nat) : Int)), 0, 0, [], []⟩
theorem pc_n {l : List Pc} {sp : List Value} {i : Nat} {y : Pc} (h : l[i]? = some y) : (flatOf Pc.cells l ++ sp)[i * 6 + 5]? = some (.int .i64 y.n) := by
  have hlt := (List.getElem?_eq_some_iff.1 h).1
  rw [List.getElem?_append_left (by rw [flatOf_length Pc.len]; omega), flatOf_at Pc.len l i 5 y h (by omega)]
  rfl
theorem own_one1 {W w : World} {L : List HProp} {b : Nat} {T : TypeId} {C : List Value} (h : Sat W (Blk b C T :: L) w) : Sat W (Own T C.length (.slice (some ⟨b, 0, none⟩) 1 1) 1 C :: L) w := Sat.ownMk (sp := []) (by rw [List.append_nil]; exact h) (Nat.le_refl _) (by omega) (by simp) (by unfold maxLen; omega)
set_option maxRecDepth 100000 in
set_option maxHeartbeats 2000000 in
theorem do3_nil (pb : Nat) (k0 k : Int) (hk : KO k0 k) (x : Sp) (hx0 : x.key.size ≤ 2147483647) (val lim : Int) (ov wv : Value) (hov : ov.oneCell' = true) (hwv : wv.oneCell' = true) : Does Try.prog 28 [.pointer (some ⟨pb, 0, none⟩), .agg #[.int .i64 3, .string x.key, .string x.fin, .bool (x.one), .int .i64 (x.lo), .int .i64 (x.hi), .int .i64 (val), .int .i64 (lim), ov, wv]] [Seq (.slice none 0 0) 0 ((flatOf Pc.cells ([] : List Pc))), Blk pb [.int .i64 (k0), .slice none 0 0] 33] (fun v L => ∃ (a : TAns) (lv vv : Value), Do3 k x ([] : List Pc) a ∧ v = .agg (WA.cells ⟨a, lv, vv⟩).toArray ∧ L = [Seq (.slice none 0 0) 0 (flatOf Pc.cells ([] : List Pc)), Blk pb [.int .i64 k0, (.slice none 0 0)] 33, Own 56 5 lv a.l.length (flatOf Sp.cells a.l), Own 3 1 vv a.vs.length (flatOf iv a.vs)]) := by
  refine Does.enter 155 Try.func28 rfl rfl rfl fun W F => ?_
  show WPc _ _ _ _ _ [(0, .pointer (some ⟨pb, 0, none⟩)), (1, .agg #[.int .i64 3, .string x.key, .string x.fin, .bool (x.one), .int .i64 (x.lo), .int .i64 (x.hi), .int .i64 (val), .int .i64 (lim), ov, wv])] (Seq (.slice none 0 0) 0 ((flatOf Pc.cells ([] : List Pc))) :: Blk pb [.int .i64 (k0), .slice none 0 0] 33 :: F)
  refine WPc.seq ?_
  refine WPc.region ?_
  refine WP.eff rfl rfl rfl (Eff.box (C := [.int .i64 3, .string x.key, .string x.fin, .bool (x.one), .int .i64 (x.lo), .int .i64 (x.hi), .int .i64 (val), .int .i64 (lim), ov, wv]) rfl rfl rfl) ?_
  rintro _ _ ⟨b1, rfl, rfl⟩
  refine WP.eff rfl rfl rfl (Eff.alloc rfl Ty.z62) ?_
  rintro _ _ ⟨b2, rfl, rfl⟩
  refine WP.nil ?_
  refine Out.next ?_
  refine WPc.seq ?_
  refine WPc.region ?_
  refine WP.val rfl rfl rfl (Val.move rfl rfl) ?_
  refine WP.val rfl rfl rfl (Val.fieldAddr (j := 1) rfl Ty.fo60_1 rfl rfl) ?_
  refine WP.val rfl rfl rfl (Val.loadAgg (cs := [.string x.key, .string x.fin, .bool (x.one), .int .i64 (x.lo), .int .i64 (x.hi)]) rfl Ty.ag56 rfl rfl (fun w h => h.range 1 rfl rfl)) ?_
  refine WP.perm pl3 ?_
  refine WP.perm pl3 ?_
  refine WP.eff rfl rfl rfl (Eff.call rfl rfl Try.call67 (find_spec pb k0 k hk x hx0 ([] : List Pc) (Nat.zero_le _) (fun y hy => by cases hy) (.slice none 0 0))) ?_
  rintro _ _ ⟨_, ⟨n, rfl, hR, rfl⟩, rfl⟩
  show WP _ _ _ _ _ _ _ (Seq (.slice none 0 0) 0 ((flatOf Pc.cells ([] : List Pc))) :: Blk pb [.int .i64 (k0), .slice none 0 0] 33 :: Blk b2 [.bool false, .int .i64 0, .int .i64 0, .slice none 0 0, .slice none 0 0] 62 :: Blk b1 [.int .i64 3, .string x.key, .string x.fin, .bool (x.one), .int .i64 (x.lo), .int .i64 (x.hi), .int .i64 (val), .int .i64 (lim), ov, wv] 60 :: F)
  refine WP.val rfl rfl rfl (Val.assign rfl rfl) ?_
  refine WP.nil ?_
  refine Out.next ?_
  refine WPc.seq ?_
  refine WPc.seq ?_
  refine WPc.region ?_
  refine WP.val rfl rfl rfl (Val.fieldAddr (j := 0) rfl Ty.fo60_0 rfl rfl) ?_
  refine WP.val rfl rfl rfl (Val.load rfl Ty.sc3 rfl (fun w h => h.cell 3 rfl rfl)) ?_
  refine WP.nil ?_
  refine Out.next ?_
  refine WPc.block ?_
  refine WPc.seq ?_
  refine WPc.region ?_
  refine WP.val rfl rfl rfl (Val.eqlK rfl rfl rfl rfl) ?_
  refine WP.val rfl rfl rfl (Val.assign rfl rfl) ?_
  refine WP.nil ?_
  refine Out.next ?_
  refine WPc.condF rfl rfl ?_
  refine WPc.seq ?_
  refine WPc.region ?_
  refine WP.val rfl rfl rfl (Val.eqlK rfl rfl rfl rfl) ?_
  refine WP.val rfl rfl rfl (Val.assign rfl rfl) ?_
  refine WP.nil ?_
  refine Out.next ?_
  refine WPc.condF rfl rfl ?_
  refine WPc.seq ?_
  refine WPc.region ?_
  refine WP.val rfl rfl rfl (Val.eqlK rfl rfl rfl rfl) ?_
  refine WP.val rfl rfl rfl (Val.assign rfl rfl) ?_
  refine WP.nil ?_
  refine Out.next ?_
  refine WPc.condT rfl rfl ?_
  refine WPc.seq ?_
  refine WPc.region ?_
  refine WP.val rfl rfl rfl (Val.move rfl rfl) ?_
  refine WP.val rfl rfl rfl (Val.geq rfl rfl rfl) ?_
  refine WP.nil ?_
  refine Out.next ?_
  refine WPc.ifP rfl (fun h1 => ?_) (fun h1 => ?_)
  · skip
    have h1 : ((0 : Int) ≤ n) := h1
    rcases hR with ⟨h, -⟩ | ⟨i, y, -, hx, -⟩; exact absurd h (by omega); cases hx
  · skip
    have h1 : ¬ ((0 : Int) ≤ n) := h1
    refine WPc.skip ?_
    refine Out.block ?_
    refine Out.next ?_
    refine WPc.seq ?_
    refine WPc.region ?_
    refine WP.val rfl rfl rfl (Val.mk (cs := [.bool false, .int .i64 0, .int .i64 0, .slice none 0 0, .slice none 0 0]) rfl rfl (fun _ => by kernel_rfl)) ?_
    refine WP.perm pl2 ?_
    refine WP.eff0 rfl rfl (Eff.storeAgg (cs := [.bool false, .int .i64 0, .int .i64 0, .slice none 0 0, .slice none 0 0]) (C' := [.bool false, .int .i64 0, .int .i64 0, .slice none 0 0, .slice none 0 0]) rfl Ty.ag62 rfl rfl rfl rfl (by simp) rfl) ?_
    rintro _ _ rfl
    refine WP.nil ?_
    refine Out.next ?_
    refine WPc.ret ?_
    refine Out.conv (fun w h => own_nils h) ?_
    refine Out.perm pl5 ?_
    refine Out.drop ?_
    refine Out.perm pl1 ?_
    refine Out.perm pl1 ?_
    refine Out.perm pl4 ?_
    refine Out.perm pl4 ?_
    refine Out.perm pl4 ?_
    exact Out.retRun (L' := [Seq (.slice none 0 0) 0 ((flatOf Pc.cells ([] : List Pc))), Blk pb [.int .i64 (k0), .slice none 0 0] 33, Own 56 5 (.slice none 0 0) 0 ([]), Own 3 1 (.slice none 0 0) 0 ([])]) (results_cell (cs := [.bool false, .int .i64 0, .int .i64 0, .slice none 0 0, .slice none 0 0]) Try.results28 Ty.ag62 rfl rfl (fun w h => h.range 0 rfl rfl)) ⟨_, (.slice none 0 0), (.slice none 0 0), .inl ⟨rfl, (hR.elim And.right (fun ⟨i, y, h, _⟩ => absurd h (by omega)))⟩, rfl, rfl⟩ (fun w h => h.drop)

set_option maxRecDepth 100000 in
set_option maxHeartbeats 2000000 in
theorem do3_row (pb : Nat) (k0 k : Int) (hk : KO k0 k) (x : Sp) (hx0 : x.key.size ≤ 2147483647) (val lim : Int) (ov wv : Value) (hov : ov.oneCell' = true) (hwv : wv.oneCell' = true) (l : List Pc) (hl : l.length ≤ 1000000) (hsz : ∀ y ∈ l, y.x.key.size ≤ 2147483647) (g cg : Nat) (sg : List Value) (Tg : TypeId) (hcg : l.length ≤ cg) : Does Try.prog 28 [.pointer (some ⟨pb, 0, none⟩), .agg #[.int .i64 3, .string x.key, .string x.fin, .bool (x.one), .int .i64 (x.lo), .int .i64 (x.hi), .int .i64 (val), .int .i64 (lim), ov, wv]] [Ro (Blk g (flatOf Pc.cells l ++ sg) Tg), Seq (.slice (some ⟨g, 0, none⟩) l.length cg) l.length ((flatOf Pc.cells l)), Blk pb [.int .i64 (k0), .slice (some ⟨g, 0, none⟩) l.length cg] 33] (fun v L => ∃ (a : TAns) (lv vv : Value), Do3 k x l a ∧ v = .agg (WA.cells ⟨a, lv, vv⟩).toArray ∧ L = [Seq (.slice (some ⟨g, 0, none⟩) l.length cg) l.length (flatOf Pc.cells l), Blk pb [.int .i64 k0, (.slice (some ⟨g, 0, none⟩) l.length cg)] 33, Own 56 5 lv a.l.length (flatOf Sp.cells a.l), Own 3 1 vv a.vs.length (flatOf iv a.vs)]) := by
  refine Does.enter 155 Try.func28 rfl rfl rfl fun W F => ?_
  show WPc _ _ _ _ _ [(0, .pointer (some ⟨pb, 0, none⟩)), (1, .agg #[.int .i64 3, .string x.key, .string x.fin, .bool (x.one), .int .i64 (x.lo), .int .i64 (x.hi), .int .i64 (val), .int .i64 (lim), ov, wv])] (Ro (Blk g (flatOf Pc.cells l ++ sg) Tg) :: Seq (.slice (some ⟨g, 0, none⟩) l.length cg) l.length ((flatOf Pc.cells l)) :: Blk pb [.int .i64 (k0), .slice (some ⟨g, 0, none⟩) l.length cg] 33 :: F)
  refine WPc.seq ?_
  refine WPc.region ?_
  refine WP.eff rfl rfl rfl (Eff.box (C := [.int .i64 3, .string x.key, .string x.fin, .bool (x.one), .int .i64 (x.lo), .int .i64 (x.hi), .int .i64 (val), .int .i64 (lim), ov, wv]) rfl rfl rfl) ?_
  rintro _ _ ⟨b1, rfl, rfl⟩
  refine WP.eff rfl rfl rfl (Eff.alloc rfl Ty.z62) ?_
  rintro _ _ ⟨b2, rfl, rfl⟩
  refine WP.nil ?_
  refine Out.next ?_
  refine WPc.seq ?_
  refine WPc.region ?_
  refine WP.val rfl rfl rfl (Val.move rfl rfl) ?_
  refine WP.val rfl rfl rfl (Val.fieldAddr (j := 1) rfl Ty.fo60_1 rfl rfl) ?_
  refine WP.val rfl rfl rfl (Val.loadAgg (cs := [.string x.key, .string x.fin, .bool (x.one), .int .i64 (x.lo), .int .i64 (x.hi)]) rfl Ty.ag56 rfl rfl (fun w h => h.range 1 rfl rfl)) ?_
  refine WP.perm pl4 ?_
  refine WP.perm pl4 ?_
  refine WP.eff rfl rfl rfl (Eff.call rfl rfl Try.call67 (find_spec pb k0 k hk x hx0 l hl hsz (.slice (some ⟨g, 0, none⟩) l.length cg))) ?_
  rintro _ _ ⟨_, ⟨n, rfl, hR, rfl⟩, rfl⟩
  show WP _ _ _ _ _ _ _ (Seq (.slice (some ⟨g, 0, none⟩) l.length cg) l.length ((flatOf Pc.cells l)) :: Blk pb [.int .i64 (k0), .slice (some ⟨g, 0, none⟩) l.length cg] 33 :: Blk b2 [.bool false, .int .i64 0, .int .i64 0, .slice none 0 0, .slice none 0 0] 62 :: Blk b1 [.int .i64 3, .string x.key, .string x.fin, .bool (x.one), .int .i64 (x.lo), .int .i64 (x.hi), .int .i64 (val), .int .i64 (lim), ov, wv] 60 :: Ro (Blk g (flatOf Pc.cells l ++ sg) Tg) :: F)
  refine WP.val rfl rfl rfl (Val.assign rfl rfl) ?_
  refine WP.nil ?_
  refine Out.next ?_
  refine WPc.seq ?_
  refine WPc.seq ?_
  refine WPc.region ?_
  refine WP.val rfl rfl rfl (Val.fieldAddr (j := 0) rfl Ty.fo60_0 rfl rfl) ?_
  refine WP.val rfl rfl rfl (Val.load rfl Ty.sc3 rfl (fun w h => h.cell 3 rfl rfl)) ?_
  refine WP.nil ?_
  refine Out.next ?_
  refine WPc.block ?_
  refine WPc.seq ?_
  refine WPc.region ?_
  refine WP.val rfl rfl rfl (Val.eqlK rfl rfl rfl rfl) ?_
  refine WP.val rfl rfl rfl (Val.assign rfl rfl) ?_
  refine WP.nil ?_
  refine Out.next ?_
  refine WPc.condF rfl rfl ?_
  refine WPc.seq ?_
  refine WPc.region ?_
  refine WP.val rfl rfl rfl (Val.eqlK rfl rfl rfl rfl) ?_
  refine WP.val rfl rfl rfl (Val.assign rfl rfl) ?_
  refine WP.nil ?_
  refine Out.next ?_
  refine WPc.condF rfl rfl ?_
  refine WPc.seq ?_
  refine WPc.region ?_
  refine WP.val rfl rfl rfl (Val.eqlK rfl rfl rfl rfl) ?_
  refine WP.val rfl rfl rfl (Val.assign rfl rfl) ?_
  refine WP.nil ?_
  refine Out.next ?_
  refine WPc.condT rfl rfl ?_
  refine WPc.seq ?_
  refine WPc.region ?_
  refine WP.val rfl rfl rfl (Val.move rfl rfl) ?_
  refine WP.val rfl rfl rfl (Val.geq rfl rfl rfl) ?_
  refine WP.nil ?_
  refine Out.next ?_
  refine WPc.ifP rfl (fun h1 => ?_) (fun h1 => ?_)
  · skip
    have h1 : ((0 : Int) ≤ n) := h1
    refine WPc.seq ?_
    obtain ⟨i, y, rfl, hx, hs⟩ := hR.resolve_left (fun h => by omega)
    have hlt := (List.getElem?_eq_some_iff.1 hx).1
    show WPc _ _ _ _ _ _ (Seq (.slice (some ⟨g, 0, none⟩) l.length cg) l.length ((flatOf Pc.cells l)) :: Blk pb [.int .i64 (k0), .slice (some ⟨g, 0, none⟩) l.length cg] 33 :: Blk b2 [.bool false, .int .i64 0, .int .i64 0, .slice none 0 0, .slice none 0 0] 62 :: Blk b1 [.int .i64 3, .string x.key, .string x.fin, .bool (x.one), .int .i64 (x.lo), .int .i64 (x.hi), .int .i64 (val), .int .i64 (lim), ov, wv] 60 :: Ro (Blk g (flatOf Pc.cells l ++ sg) Tg) :: F)
    refine WPD.start (Sat W [Blk pb [.int .i64 (k0), .slice (some ⟨g, 0, none⟩) l.length cg] 33, Ro (Blk g (flatOf Pc.cells l ++ sg) Tg)]) Ty.mixed ?_
    refine WPD.takeM 0 rfl rfl rfl rfl (by kernel_rfl) (by kernel_rfl) (by kernel_rfl) (by kernel_rfl) (fun _ _ _ h => h) (fun w h => (((h.perm pl4).perm pl2)).dropEnd (L := [_, _])) (Val.move rfl rfl) ?_
    refine WPD.takeM 1 rfl rfl rfl rfl (by kernel_rfl) (by kernel_rfl) (by kernel_rfl) (by kernel_rfl) (fun _ _ _ h => h) (fun w h => (((h.perm pl4).perm pl2)).dropEnd (L := [_, _])) (Val.nilCheck rfl rfl) ?_
    refine WPD.takeM 2 rfl rfl rfl rfl (by kernel_rfl) (by kernel_rfl) (by kernel_rfl) (by kernel_rfl) (fun _ _ _ h => h) (fun w h => (((h.perm pl4).perm pl2)).dropEnd (L := [_, _])) (Val.fieldAddr (j := 1) rfl Ty.fo33_1 rfl rfl) ?_
    refine WPD.take 3 rfl rfl rfl rfl (by kernel_rfl) (by kernel_rfl) (by kernel_rfl) (by kernel_rfl) (fun _ _ _ h => h) (by kernel_rfl) (fun w h => (((h.perm pl4).perm pl2)).dropEnd (L := [_, _])) (Val.load rfl Ty.sc31 rfl (fun w h => h.cell 0 rfl rfl)) ?_
    refine WPD.takeM 4 rfl rfl rfl rfl (by kernel_rfl) (by kernel_rfl) (by kernel_rfl) (by kernel_rfl) (fun _ _ _ h => h) (fun w h => (((h.perm pl4).perm pl2)).dropEnd (L := [_, _])) (Val.move rfl rfl) ?_
    refine WPD.takeM 5 rfl rfl rfl rfl (by kernel_rfl) (by kernel_rfl) (by kernel_rfl) (by kernel_rfl) (fun _ _ _ h => h) (fun w h => (((h.perm pl4).perm pl2)).dropEnd (L := [_, _])) (Val.indexAddr (j := i) (q := i * 6) rfl Ty.sl31 rfl rfl (by omega) (by omega) (by omega)) ?_
    refine WPD.takeM 6 rfl rfl rfl rfl (by kernel_rfl) (by kernel_rfl) (by kernel_rfl) (by kernel_rfl) (fun _ _ _ h => h) (fun w h => (((h.perm pl4).perm pl2)).dropEnd (L := [_, _])) (Val.fieldAddr (j := i * 6) rfl Ty.fo89_0 rfl rfl) ?_
    refine WPD.take 7 rfl rfl rfl rfl (by kernel_rfl) (by kernel_rfl) (by kernel_rfl) (by kernel_rfl) (fun _ _ _ h => h) (by kernel_rfl) (fun w h => (((h.perm pl4).perm pl2)).dropEnd (L := [_, _])) (Val.loadAgg (cs := (Sp.cells y.x)) rfl Ty.ag56 rfl (by rfl) (fun w h => h.rangeRo 1 rfl (pc_in hx))) ?_
    refine WPD.takeM 9 rfl rfl rfl rfl (by kernel_rfl) (by kernel_rfl) (by kernel_rfl) (by kernel_rfl) (fun _ _ _ h => h) (fun w h => (((h.perm pl4).perm pl2)).dropEnd (L := [_, _])) (Val.move rfl rfl) ?_
    refine WPD.takeM 10 rfl rfl rfl rfl (by kernel_rfl) (by kernel_rfl) (by kernel_rfl) (by kernel_rfl) (fun _ _ _ h => h) (fun w h => (((h.perm pl4).perm pl2)).dropEnd (L := [_, _])) (Val.nilCheck rfl rfl) ?_
    refine WPD.takeM 11 rfl rfl rfl rfl (by kernel_rfl) (by kernel_rfl) (by kernel_rfl) (by kernel_rfl) (fun _ _ _ h => h) (fun w h => (((h.perm pl4).perm pl2)).dropEnd (L := [_, _])) (Val.fieldAddr (j := 1) rfl Ty.fo33_1 rfl rfl) ?_
    refine WPD.take 12 rfl rfl rfl rfl (by kernel_rfl) (by kernel_rfl) (by kernel_rfl) (by kernel_rfl) (fun _ _ _ h => h) (by kernel_rfl) (fun w h => (((h.perm pl4).perm pl2)).dropEnd (L := [_, _])) (Val.load rfl Ty.sc31 rfl (fun w h => h.cell 0 rfl rfl)) ?_
    refine WPD.takeM 13 rfl rfl rfl rfl (by kernel_rfl) (by kernel_rfl) (by kernel_rfl) (by kernel_rfl) (fun _ _ _ h => h) (fun w h => (((h.perm pl4).perm pl2)).dropEnd (L := [_, _])) (Val.move rfl rfl) ?_
    refine WPD.takeM 14 rfl rfl rfl rfl (by kernel_rfl) (by kernel_rfl) (by kernel_rfl) (by kernel_rfl) (fun _ _ _ h => h) (fun w h => (((h.perm pl4).perm pl2)).dropEnd (L := [_, _])) (Val.indexAddr (j := i) (q := i * 6) rfl Ty.sl31 rfl rfl (by omega) (by omega) (by omega)) ?_
    refine WPD.takeM 15 rfl rfl rfl rfl (by kernel_rfl) (by kernel_rfl) (by kernel_rfl) (by kernel_rfl) (fun _ _ _ h => h) (fun w h => (((h.perm pl4).perm pl2)).dropEnd (L := [_, _])) (Val.fieldAddr (j := i * 6 + 5) rfl Ty.fo89_1 rfl rfl) ?_
    refine WPD.take 16 rfl rfl rfl rfl (by kernel_rfl) (by kernel_rfl) (by kernel_rfl) (by kernel_rfl) (fun _ _ _ h => h) (by kernel_rfl) (fun w h => (((h.perm pl4).perm pl2)).dropEnd (L := [_, _])) (Val.load (v := .int .i64 (y.n)) rfl Ty.sc3 rfl (fun w h => h.cellRo 1 rfl (pc_n hx))) ?_
    refine WPD.pick2 8 17 (by kernel_rfl) ?_ ?_
    · skip
      refine WPO.step rfl rfl rfl rfl (Eff.mkSlice (C := [.string y.x.key, .string y.x.fin, .bool (y.x.one), .int .i64 (y.x.lo), .int .i64 (y.x.hi)]) rfl Ty.sl57 rfl (fun _ => by kernel_rfl)) ?_
      rintro _ _ ⟨b3, rfl, rfl⟩
      refine ⟨(fun w h => (((h.perm pl5).perm pl3)).dropEnd (L := [_, _])), ?_⟩
      refine WPD.step 17 (by kernel_rfl) rfl rfl rfl rfl (Eff.mkSlice (C := [.int .i64 (y.n)]) rfl Ty.sl58 rfl (fun _ => by kernel_rfl)) ?_
      rintro _ _ ⟨b4, rfl, rfl⟩
      refine ⟨(fun w h => (((h.perm pl6).perm pl4)).dropEnd (L := [_, _])), ?_⟩
      refine WPD.takeM 18 rfl rfl rfl rfl (by kernel_rfl) (by kernel_rfl) (by kernel_rfl) (by kernel_rfl) (fun _ _ _ h => h) (fun w h => (((h.perm pl6).perm pl4)).dropEnd (L := [_, _])) (Val.mk (cs := [.bool true, .int .i64 0, .int .i64 0, .slice (some ⟨b3, 0, none⟩) 1 1, .slice (some ⟨b4, 0, none⟩) 1 1]) rfl rfl (fun _ => by kernel_rfl)) ?_
      refine WPD.perm pl4 ?_
      refine WPD.stepC0 19 (by kernel_rfl) rfl rfl rfl (by kernel_rfl) (Eff.storeAgg (cs := [.bool true, .int .i64 0, .int .i64 0, .slice (some ⟨b3, 0, none⟩) 1 1, .slice (some ⟨b4, 0, none⟩) 1 1]) (C' := [.bool true, .int .i64 0, .int .i64 0, .slice (some ⟨b3, 0, none⟩) 1 1, .slice (some ⟨b4, 0, none⟩) 1 1]) rfl Ty.ag62 rfl rfl rfl rfl (by simp) rfl) ?_
      rintro _ _ rfl
      refine ⟨(Sat W (Blk b2 [.bool true, .int .i64 0, .int .i64 0, .slice (some ⟨b3, 0, none⟩) 1 1, .slice (some ⟨b4, 0, none⟩) 1 1] 62 :: Blk b4 [.int .i64 (y.n)] 3 :: Blk b3 [.string y.x.key, .string y.x.fin, .bool (y.x.one), .int .i64 (y.x.lo), .int .i64 (y.x.hi)] 56 :: Seq (.slice (some ⟨g, 0, none⟩) l.length cg) l.length ((flatOf Pc.cells l)) :: Blk pb [.int .i64 (k0), .slice (some ⟨g, 0, none⟩) l.length cg] 33 :: Blk b1 [.int .i64 3, .string x.key, .string x.fin, .bool (x.one), .int .i64 (x.lo), .int .i64 (x.hi), .int .i64 (val), .int .i64 (lim), ov, wv] 60 :: Ro (Blk g (flatOf Pc.cells l ++ sg) Tg) :: F)), (fun _ h => h), ?_⟩
      refine WPD.done (by kernel_rfl) ?_
      refine Out.next ?_
      refine WPc.ret ?_
      refine Out.block_ret ?_
      refine Out.then_ret ?_
      refine Out.perm pl1 ?_
      refine Out.conv (fun w h => own_one1 h) ?_
      refine Out.perm pl2 ?_
      refine Out.conv (fun w h => own_one1 h) ?_
      refine Out.perm pl5 ?_
      refine Out.drop ?_
      refine Out.perm pl5 ?_
      refine Out.drop ?_
      refine Out.perm pl1 ?_
      refine Out.perm pl1 ?_
      refine Out.perm pl4 ?_
      refine Out.perm pl4 ?_
      refine Out.perm pl4 ?_
      exact Out.retRun (L' := [Seq (.slice (some ⟨g, 0, none⟩) l.length cg) l.length ((flatOf Pc.cells l)), Blk pb [.int .i64 (k0), .slice (some ⟨g, 0, none⟩) l.length cg] 33, Own 56 5 (.slice (some ⟨b3, 0, none⟩) 1 1) 1 ([.string y.x.key, .string y.x.fin, .bool (y.x.one), .int .i64 (y.x.lo), .int .i64 (y.x.hi)]), Own 3 1 (.slice (some ⟨b4, 0, none⟩) 1 1) 1 ([.int .i64 (y.n)])]) (results_cell (cs := [.bool true, .int .i64 0, .int .i64 0, .slice (some ⟨b3, 0, none⟩) 1 1, .slice (some ⟨b4, 0, none⟩) 1 1]) Try.results28 Ty.ag62 rfl rfl (fun w h => h.range 0 rfl rfl)) ⟨_, (.slice (some ⟨b3, 0, none⟩) 1 1), (.slice (some ⟨b4, 0, none⟩) 1 1), .inr ⟨y, List.mem_of_getElem? hx, hs, rfl⟩, rfl, rfl⟩ (fun w h => h.drop)
    · skip
      refine WPO.step rfl rfl rfl rfl (Eff.mkSlice (C := [.int .i64 (y.n)]) rfl Ty.sl58 rfl (fun _ => by kernel_rfl)) ?_
      rintro _ _ ⟨b5, rfl, rfl⟩
      refine ⟨(fun w h => (((h.perm pl5).perm pl3)).dropEnd (L := [_, _])), ?_⟩
      refine WPD.step 8 (by kernel_rfl) rfl rfl rfl rfl (Eff.mkSlice (C := [.string y.x.key, .string y.x.fin, .bool (y.x.one), .int .i64 (y.x.lo), .int .i64 (y.x.hi)]) rfl Ty.sl57 rfl (fun _ => by kernel_rfl)) ?_
      rintro _ _ ⟨b6, rfl, rfl⟩
      refine ⟨(fun w h => (((h.perm pl6).perm pl4)).dropEnd (L := [_, _])), ?_⟩
      refine WPD.takeM 18 rfl rfl rfl rfl (by kernel_rfl) (by kernel_rfl) (by kernel_rfl) (by kernel_rfl) (fun _ _ _ h => h) (fun w h => (((h.perm pl6).perm pl4)).dropEnd (L := [_, _])) (Val.mk (cs := [.bool true, .int .i64 0, .int .i64 0, .slice (some ⟨b6, 0, none⟩) 1 1, .slice (some ⟨b5, 0, none⟩) 1 1]) rfl rfl (fun _ => by kernel_rfl)) ?_
      refine WPD.perm pl4 ?_
      refine WPD.stepC0 19 (by kernel_rfl) rfl rfl rfl (by kernel_rfl) (Eff.storeAgg (cs := [.bool true, .int .i64 0, .int .i64 0, .slice (some ⟨b6, 0, none⟩) 1 1, .slice (some ⟨b5, 0, none⟩) 1 1]) (C' := [.bool true, .int .i64 0, .int .i64 0, .slice (some ⟨b6, 0, none⟩) 1 1, .slice (some ⟨b5, 0, none⟩) 1 1]) rfl Ty.ag62 rfl rfl rfl rfl (by simp) rfl) ?_
      rintro _ _ rfl
      refine ⟨(Sat W (Blk b2 [.bool true, .int .i64 0, .int .i64 0, .slice (some ⟨b6, 0, none⟩) 1 1, .slice (some ⟨b5, 0, none⟩) 1 1] 62 :: Blk b6 [.string y.x.key, .string y.x.fin, .bool (y.x.one), .int .i64 (y.x.lo), .int .i64 (y.x.hi)] 56 :: Blk b5 [.int .i64 (y.n)] 3 :: Seq (.slice (some ⟨g, 0, none⟩) l.length cg) l.length ((flatOf Pc.cells l)) :: Blk pb [.int .i64 (k0), .slice (some ⟨g, 0, none⟩) l.length cg] 33 :: Blk b1 [.int .i64 3, .string x.key, .string x.fin, .bool (x.one), .int .i64 (x.lo), .int .i64 (x.hi), .int .i64 (val), .int .i64 (lim), ov, wv] 60 :: Ro (Blk g (flatOf Pc.cells l ++ sg) Tg) :: F)), (fun _ h => h), ?_⟩
      refine WPD.done (by kernel_rfl) ?_
      refine Out.next ?_
      refine WPc.ret ?_
      refine Out.block_ret ?_
      refine Out.then_ret ?_
      refine Out.perm pl2 ?_
      refine Out.conv (fun w h => own_one1 h) ?_
      refine Out.perm pl2 ?_
      refine Out.conv (fun w h => own_one1 h) ?_
      refine Out.perm pl5 ?_
      refine Out.drop ?_
      refine Out.perm pl5 ?_
      refine Out.drop ?_
      refine Out.perm pl1 ?_
      refine Out.perm pl1 ?_
      refine Out.perm pl4 ?_
      refine Out.perm pl4 ?_
      refine Out.perm pl4 ?_
      exact Out.retRun (L' := [Seq (.slice (some ⟨g, 0, none⟩) l.length cg) l.length ((flatOf Pc.cells l)), Blk pb [.int .i64 (k0), .slice (some ⟨g, 0, none⟩) l.length cg] 33, Own 56 5 (.slice (some ⟨b6, 0, none⟩) 1 1) 1 ([.string y.x.key, .string y.x.fin, .bool (y.x.one), .int .i64 (y.x.lo), .int .i64 (y.x.hi)]), Own 3 1 (.slice (some ⟨b5, 0, none⟩) 1 1) 1 ([.int .i64 (y.n)])]) (results_cell (cs := [.bool true, .int .i64 0, .int .i64 0, .slice (some ⟨b6, 0, none⟩) 1 1, .slice (some ⟨b5, 0, none⟩) 1 1]) Try.results28 Ty.ag62 rfl rfl (fun w h => h.range 0 rfl rfl)) ⟨_, (.slice (some ⟨b6, 0, none⟩) 1 1), (.slice (some ⟨b5, 0, none⟩) 1 1), .inr ⟨y, List.mem_of_getElem? hx, hs, rfl⟩, rfl, rfl⟩ (fun w h => h.drop)
  · skip
    have h1 : ¬ ((0 : Int) ≤ n) := h1
    refine WPc.skip ?_
    refine Out.block ?_
    refine Out.next ?_
    refine WPc.seq ?_
    refine WPc.region ?_
    refine WP.val rfl rfl rfl (Val.mk (cs := [.bool false, .int .i64 0, .int .i64 0, .slice none 0 0, .slice none 0 0]) rfl rfl (fun _ => by kernel_rfl)) ?_
    refine WP.perm pl2 ?_
    refine WP.eff0 rfl rfl (Eff.storeAgg (cs := [.bool false, .int .i64 0, .int .i64 0, .slice none 0 0, .slice none 0 0]) (C' := [.bool false, .int .i64 0, .int .i64 0, .slice none 0 0, .slice none 0 0]) rfl Ty.ag62 rfl rfl rfl rfl (by simp) rfl) ?_
    rintro _ _ rfl
    refine WP.nil ?_
    refine Out.next ?_
    refine WPc.ret ?_
    refine Out.conv (fun w h => own_nils h) ?_
    refine Out.perm pl5 ?_
    refine Out.drop ?_
    refine Out.perm pl5 ?_
    refine Out.drop ?_
    refine Out.perm pl1 ?_
    refine Out.perm pl1 ?_
    refine Out.perm pl4 ?_
    refine Out.perm pl4 ?_
    refine Out.perm pl4 ?_
    exact Out.retRun (L' := [Seq (.slice (some ⟨g, 0, none⟩) l.length cg) l.length ((flatOf Pc.cells l)), Blk pb [.int .i64 (k0), .slice (some ⟨g, 0, none⟩) l.length cg] 33, Own 56 5 (.slice none 0 0) 0 ([]), Own 3 1 (.slice none 0 0) 0 ([])]) (results_cell (cs := [.bool false, .int .i64 0, .int .i64 0, .slice none 0 0, .slice none 0 0]) Try.results28 Ty.ag62 rfl rfl (fun w h => h.range 0 rfl rfl)) ⟨_, (.slice none 0 0), (.slice none 0 0), .inl ⟨rfl, (hR.elim And.right (fun ⟨i, y, h, _⟩ => absurd h (by omega)))⟩, rfl, rfl⟩ (fun w h => h.drop)

theorem do3_spec (pb : Nat) (k0 k : Int) (hk : KO k0 k) (x : Sp) (hx0 : x.key.size ≤ 2147483647) (val lim : Int) (ov wv : Value) (hov : ov.oneCell' = true) (hwv : wv.oneCell' = true) (l : List Pc) (hl : l.length ≤ 1000000) (hsz : ∀ y ∈ l, y.x.key.size ≤ 2147483647) (va : Value) : Does Try.prog 28 [.pointer (some ⟨pb, 0, none⟩), .agg #[.int .i64 3, .string x.key, .string x.fin, .bool (x.one), .int .i64 (x.lo), .int .i64 (x.hi), .int .i64 (val), .int .i64 (lim), ov, wv]] [Seq va l.length (flatOf Pc.cells l), Blk pb [.int .i64 (k0), va] 33] (fun v L => ∃ (a : TAns) (lv vv : Value), Do3 k x l a ∧ v = .agg (WA.cells ⟨a, lv, vv⟩).toArray ∧ L = [Seq va l.length (flatOf Pc.cells l), Blk pb [.int .i64 k0, va] 33, Own 56 5 lv a.l.length (flatOf Sp.cells a.l), Own 3 1 vv a.vs.length (flatOf iv a.vs)]) := by
  refine Does.seqC (fun h0 h1 => ?_) (fun g cg sg Tg h0 h1 => ?_)
  · obtain rfl := List.eq_nil_of_length_eq_zero h1
    subst h0
    exact do3_nil pb k0 k hk x hx0 val lim ov wv hov hwv
  · subst h0
    exact do3_row pb k0 k hk x hx0 val lim ov wv hov hwv l hl hsz g cg sg Tg h1
set_option maxRecDepth 100000 in
set_option maxHeartbeats 2000000 in
theorem do6_nil (pb : Nat) (k0 k : Int) (hk : KO k0 k) (x : Sp) (hx0 : x.key.size ≤ 2147483647) (val lim : Int) (ov wv : Value) (hov : ov.oneCell' = true) (hwv : wv.oneCell' = true) : Does Try.prog 28 [.pointer (some ⟨pb, 0, none⟩), .agg #[.int .i64 6, .string x.key, .string x.fin, .bool (x.one), .int .i64 (x.lo), .int .i64 (x.hi), .int .i64 (val), .int .i64 (lim), ov, wv]] [Seq (.slice none 0 0) 0 ((flatOf Pc.cells ([] : List Pc))), Blk pb [.int .i64 (k0), .slice none 0 0] 33] (fun v L => ∃ (a : TAns) (lv vv : Value), Do6 k x ([] : List Pc) a ∧ v = .agg (WA.cells ⟨a, lv, vv⟩).toArray ∧ L = [Seq (.slice none 0 0) 0 (flatOf Pc.cells ([] : List Pc)), Blk pb [.int .i64 k0, (.slice none 0 0)] 33, Own 56 5 lv a.l.length (flatOf Sp.cells a.l), Own 3 1 vv a.vs.length (flatOf iv a.vs)]) := by
  refine Does.enter 155 Try.func28 rfl rfl rfl fun W F => ?_
  show WPc _ _ _ _ _ [(0, .pointer (some ⟨pb, 0, none⟩)), (1, .agg #[.int .i64 6, .string x.key, .string x.fin, .bool (x.one), .int .i64 (x.lo), .int .i64 (x.hi), .int .i64 (val), .int .i64 (lim), ov, wv])] (Seq (.slice none 0 0) 0 ((flatOf Pc.cells ([] : List Pc))) :: Blk pb [.int .i64 (k0), .slice none 0 0] 33 :: F)
  refine WPc.seq ?_
  refine WPc.region ?_
  refine WP.eff rfl rfl rfl (Eff.box (C := [.int .i64 6, .string x.key, .string x.fin, .bool (x.one), .int .i64 (x.lo), .int .i64 (x.hi), .int .i64 (val), .int .i64 (lim), ov, wv]) rfl rfl rfl) ?_
  rintro _ _ ⟨b1, rfl, rfl⟩
  refine WP.eff rfl rfl rfl (Eff.alloc rfl Ty.z62) ?_
  rintro _ _ ⟨b2, rfl, rfl⟩
  refine WP.nil ?_
  refine Out.next ?_
  refine WPc.seq ?_
  refine WPc.region ?_
  refine WP.val rfl rfl rfl (Val.move rfl rfl) ?_
  refine WP.val rfl rfl rfl (Val.fieldAddr (j := 1) rfl Ty.fo60_1 rfl rfl) ?_
  refine WP.val rfl rfl rfl (Val.loadAgg (cs := [.string x.key, .string x.fin, .bool (x.one), .int .i64 (x.lo), .int .i64 (x.hi)]) rfl Ty.ag56 rfl rfl (fun w h => h.range 1 rfl rfl)) ?_
  refine WP.perm pl3 ?_
  refine WP.perm pl3 ?_
  refine WP.eff rfl rfl rfl (Eff.call rfl rfl Try.call67 (find_spec pb k0 k hk x hx0 ([] : List Pc) (Nat.zero_le _) (fun y hy => by cases hy) (.slice none 0 0))) ?_
  rintro _ _ ⟨_, ⟨n, rfl, hR, rfl⟩, rfl⟩
  show WP _ _ _ _ _ _ _ (Seq (.slice none 0 0) 0 ((flatOf Pc.cells ([] : List Pc))) :: Blk pb [.int .i64 (k0), .slice none 0 0] 33 :: Blk b2 [.bool false, .int .i64 0, .int .i64 0, .slice none 0 0, .slice none 0 0] 62 :: Blk b1 [.int .i64 6, .string x.key, .string x.fin, .bool (x.one), .int .i64 (x.lo), .int .i64 (x.hi), .int .i64 (val), .int .i64 (lim), ov, wv] 60 :: F)
  refine WP.val rfl rfl rfl (Val.assign rfl rfl) ?_
  refine WP.nil ?_
  refine Out.next ?_
  refine WPc.seq ?_
  refine WPc.seq ?_
  refine WPc.region ?_
  refine WP.val rfl rfl rfl (Val.fieldAddr (j := 0) rfl Ty.fo60_0 rfl rfl) ?_
  refine WP.val rfl rfl rfl (Val.load rfl Ty.sc3 rfl (fun w h => h.cell 3 rfl rfl)) ?_
  refine WP.nil ?_
  refine Out.next ?_
  refine WPc.block ?_
  refine WPc.seq ?_
  refine WPc.region ?_
  refine WP.val rfl rfl rfl (Val.eqlK rfl rfl rfl rfl) ?_
  refine WP.val rfl rfl rfl (Val.assign rfl rfl) ?_
  refine WP.nil ?_
  refine Out.next ?_
  refine WPc.condF rfl rfl ?_
  refine WPc.seq ?_
  refine WPc.region ?_
  refine WP.val rfl rfl rfl (Val.eqlK rfl rfl rfl rfl) ?_
  refine WP.val rfl rfl rfl (Val.assign rfl rfl) ?_
  refine WP.nil ?_
  refine Out.next ?_
  refine WPc.condF rfl rfl ?_
  refine WPc.seq ?_
  refine WPc.region ?_
  refine WP.val rfl rfl rfl (Val.eqlK rfl rfl rfl rfl) ?_
  refine WP.val rfl rfl rfl (Val.assign rfl rfl) ?_
  refine WP.nil ?_
  refine Out.next ?_
  refine WPc.condF rfl rfl ?_
  refine WPc.seq ?_
  refine WPc.region ?_
  refine WP.val rfl rfl rfl (Val.eqlK rfl rfl rfl rfl) ?_
  refine WP.val rfl rfl rfl (Val.assign rfl rfl) ?_
  refine WP.nil ?_
  refine Out.next ?_
  refine WPc.condF rfl rfl ?_
  refine WPc.seq ?_
  refine WPc.region ?_
  refine WP.val rfl rfl rfl (Val.eqlK rfl rfl rfl rfl) ?_
  refine WP.val rfl rfl rfl (Val.assign rfl rfl) ?_
  refine WP.nil ?_
  refine Out.next ?_
  refine WPc.condF rfl rfl ?_
  refine WPc.seq ?_
  refine WPc.region ?_
  refine WP.val rfl rfl rfl (Val.eqlK rfl rfl rfl rfl) ?_
  refine WP.val rfl rfl rfl (Val.assign rfl rfl) ?_
  refine WP.nil ?_
  refine Out.next ?_
  refine WPc.condT rfl rfl ?_
  refine WPc.seq ?_
  refine WPc.region ?_
  refine WP.val rfl rfl rfl (Val.move rfl rfl) ?_
  refine WP.val rfl rfl rfl (Val.fieldAddr (j := 1) rfl Ty.fo60_1 rfl rfl) ?_
  refine WP.val rfl rfl rfl (Val.loadAgg (cs := [.string x.key, .string x.fin, .bool (x.one), .int .i64 (x.lo), .int .i64 (x.hi)]) rfl Ty.ag56 rfl rfl (fun w h => h.range 3 rfl rfl)) ?_
  refine WP.perm pl1 ?_
  refine WP.perm pl1 ?_
  refine WP.eff rfl rfl rfl (Eff.call rfl rfl Try.call69 (meeting_spec pb k0 k hk x hx0 ([] : List Pc) (Nat.zero_le _) (fun y hy => by cases hy) (.slice none 0 0))) ?_
  rintro u _ ⟨_, ⟨_, rfl, rfl⟩, rfl⟩
  show WP _ _ _ _ _ _ _ (Seq (.slice none 0 0) 0 ((flatOf Pc.cells ([] : List Pc))) :: Blk pb [.int .i64 (k0), .slice none 0 0] 33 :: Own 89 6 u ((mts k x ([] : List Pc)).length) (flatOf Pc.cells (mts k x ([] : List Pc))) :: Blk b2 [.bool false, .int .i64 0, .int .i64 0, .slice none 0 0, .slice none 0 0] 62 :: Blk b1 [.int .i64 6, .string x.key, .string x.fin, .bool (x.one), .int .i64 (x.lo), .int .i64 (x.hi), .int .i64 (val), .int .i64 (lim), ov, wv] 60 :: F)
  refine WP.val rfl rfl rfl (Val.lenOwn rfl Ty.sl31 rfl (fun w h => h.at 2 rfl)) ?_
  refine WP.val rfl rfl rfl (Val.gtr rfl rfl rfl) ?_
  refine WP.val rfl rfl rfl (Val.mk (cs := [.bool (decide ((0 : Int) < (((mts k x ([] : List Pc)).length : Nat) : Int))), .int .i64 0, .int .i64 0, .slice none 0 0, .slice none 0 0]) rfl rfl (fun _ => by kernel_rfl)) ?_
  refine WP.perm pl3 ?_
  refine WP.eff0 rfl rfl (Eff.storeAgg (cs := [.bool (decide ((0 : Int) < (((mts k x ([] : List Pc)).length : Nat) : Int))), .int .i64 0, .int .i64 0, .slice none 0 0, .slice none 0 0]) (C' := [.bool (decide ((0 : Int) < (((mts k x ([] : List Pc)).length : Nat) : Int))), .int .i64 0, .int .i64 0, .slice none 0 0, .slice none 0 0]) rfl Ty.ag62 rfl rfl rfl rfl (by simp) rfl) ?_
  rintro _ _ rfl
  refine WP.nil ?_
  refine Out.next ?_
  refine WPc.ret ?_
  refine Out.block_ret ?_
  refine Out.then_ret ?_
  refine Out.conv (fun w h => own_nils h) ?_
  refine Out.perm pl5 ?_
  refine Out.drop ?_
  refine Out.perm pl5 ?_
  refine Out.drop ?_
  refine Out.perm pl1 ?_
  refine Out.perm pl1 ?_
  refine Out.perm pl4 ?_
  refine Out.perm pl4 ?_
  refine Out.perm pl4 ?_
  exact Out.retRun (L' := [Seq (.slice none 0 0) 0 ((flatOf Pc.cells ([] : List Pc))), Blk pb [.int .i64 (k0), .slice none 0 0] 33, Own 56 5 (.slice none 0 0) 0 ([]), Own 3 1 (.slice none 0 0) 0 ([])]) (results_cell (cs := [.bool (decide ((0 : Int) < (((mts k x ([] : List Pc)).length : Nat) : Int))), .int .i64 0, .int .i64 0, .slice none 0 0, .slice none 0 0]) Try.results28 Ty.ag62 rfl rfl (fun w h => h.range 0 rfl rfl)) ⟨_, (.slice none 0 0), (.slice none 0 0), rfl, rfl, rfl⟩ (fun w h => h.drop)

set_option maxRecDepth 100000 in
set_option maxHeartbeats 2000000 in
theorem do6_row (pb : Nat) (k0 k : Int) (hk : KO k0 k) (x : Sp) (hx0 : x.key.size ≤ 2147483647) (val lim : Int) (ov wv : Value) (hov : ov.oneCell' = true) (hwv : wv.oneCell' = true) (l : List Pc) (hl : l.length ≤ 1000000) (hsz : ∀ y ∈ l, y.x.key.size ≤ 2147483647) (g cg : Nat) (sg : List Value) (Tg : TypeId) (hcg : l.length ≤ cg) : Does Try.prog 28 [.pointer (some ⟨pb, 0, none⟩), .agg #[.int .i64 6, .string x.key, .string x.fin, .bool (x.one), .int .i64 (x.lo), .int .i64 (x.hi), .int .i64 (val), .int .i64 (lim), ov, wv]] [Ro (Blk g (flatOf Pc.cells l ++ sg) Tg), Seq (.slice (some ⟨g, 0, none⟩) l.length cg) l.length ((flatOf Pc.cells l)), Blk pb [.int .i64 (k0), .slice (some ⟨g, 0, none⟩) l.length cg] 33] (fun v L => ∃ (a : TAns) (lv vv : Value), Do6 k x l a ∧ v = .agg (WA.cells ⟨a, lv, vv⟩).toArray ∧ L = [Seq (.slice (some ⟨g, 0, none⟩) l.length cg) l.length (flatOf Pc.cells l), Blk pb [.int .i64 k0, (.slice (some ⟨g, 0, none⟩) l.length cg)] 33, Own 56 5 lv a.l.length (flatOf Sp.cells a.l), Own 3 1 vv a.vs.length (flatOf iv a.vs)]) := by
  refine Does.enter 155 Try.func28 rfl rfl rfl fun W F => ?_
  show WPc _ _ _ _ _ [(0, .pointer (some ⟨pb, 0, none⟩)), (1, .agg #[.int .i64 6, .string x.key, .string x.fin, .bool (x.one), .int .i64 (x.lo), .int .i64 (x.hi), .int .i64 (val), .int .i64 (lim), ov, wv])] (Ro (Blk g (flatOf Pc.cells l ++ sg) Tg) :: Seq (.slice (some ⟨g, 0, none⟩) l.length cg) l.length ((flatOf Pc.cells l)) :: Blk pb [.int .i64 (k0), .slice (some ⟨g, 0, none⟩) l.length cg] 33 :: F)
  refine WPc.seq ?_
  refine WPc.region ?_
  refine WP.eff rfl rfl rfl (Eff.box (C := [.int .i64 6, .string x.key, .string x.fin, .bool (x.one), .int .i64 (x.lo), .int .i64 (x.hi), .int .i64 (val), .int .i64 (lim), ov, wv]) rfl rfl rfl) ?_
  rintro _ _ ⟨b1, rfl, rfl⟩
  refine WP.eff rfl rfl rfl (Eff.alloc rfl Ty.z62) ?_
  rintro _ _ ⟨b2, rfl, rfl⟩
  refine WP.nil ?_
  refine Out.next ?_
  refine WPc.seq ?_
  refine WPc.region ?_
  refine WP.val rfl rfl rfl (Val.move rfl rfl) ?_
  refine WP.val rfl rfl rfl (Val.fieldAddr (j := 1) rfl Ty.fo60_1 rfl rfl) ?_
  refine WP.val rfl rfl rfl (Val.loadAgg (cs := [.string x.key, .string x.fin, .bool (x.one), .int .i64 (x.lo), .int .i64 (x.hi)]) rfl Ty.ag56 rfl rfl (fun w h => h.range 1 rfl rfl)) ?_
  refine WP.perm pl4 ?_
  refine WP.perm pl4 ?_
  refine WP.eff rfl rfl rfl (Eff.call rfl rfl Try.call67 (find_spec pb k0 k hk x hx0 l hl hsz (.slice (some ⟨g, 0, none⟩) l.length cg))) ?_
  rintro _ _ ⟨_, ⟨n, rfl, hR, rfl⟩, rfl⟩
  show WP _ _ _ _ _ _ _ (Seq (.slice (some ⟨g, 0, none⟩) l.length cg) l.length ((flatOf Pc.cells l)) :: Blk pb [.int .i64 (k0), .slice (some ⟨g, 0, none⟩) l.length cg] 33 :: Blk b2 [.bool false, .int .i64 0, .int .i64 0, .slice none 0 0, .slice none 0 0] 62 :: Blk b1 [.int .i64 6, .string x.key, .string x.fin, .bool (x.one), .int .i64 (x.lo), .int .i64 (x.hi), .int .i64 (val), .int .i64 (lim), ov, wv] 60 :: Ro (Blk g (flatOf Pc.cells l ++ sg) Tg) :: F)
  refine WP.val rfl rfl rfl (Val.assign rfl rfl) ?_
  refine WP.nil ?_
  refine Out.next ?_
  refine WPc.seq ?_
  refine WPc.seq ?_
  refine WPc.region ?_
  refine WP.val rfl rfl rfl (Val.fieldAddr (j := 0) rfl Ty.fo60_0 rfl rfl) ?_
  refine WP.val rfl rfl rfl (Val.load rfl Ty.sc3 rfl (fun w h => h.cell 3 rfl rfl)) ?_
  refine WP.nil ?_
  refine Out.next ?_
  refine WPc.block ?_
  refine WPc.seq ?_
  refine WPc.region ?_
  refine WP.val rfl rfl rfl (Val.eqlK rfl rfl rfl rfl) ?_
  refine WP.val rfl rfl rfl (Val.assign rfl rfl) ?_
  refine WP.nil ?_
  refine Out.next ?_
  refine WPc.condF rfl rfl ?_
  refine WPc.seq ?_
  refine WPc.region ?_
  refine WP.val rfl rfl rfl (Val.eqlK rfl rfl rfl rfl) ?_
  refine WP.val rfl rfl rfl (Val.assign rfl rfl) ?_
  refine WP.nil ?_
  refine Out.next ?_
  refine WPc.condF rfl rfl ?_
  refine WPc.seq ?_
  refine WPc.region ?_
  refine WP.val rfl rfl rfl (Val.eqlK rfl rfl rfl rfl) ?_
  refine WP.val rfl rfl rfl (Val.assign rfl rfl) ?_
  refine WP.nil ?_
  refine Out.next ?_
  refine WPc.condF rfl rfl ?_
  refine WPc.seq ?_
  refine WPc.region ?_
  refine WP.val rfl rfl rfl (Val.eqlK rfl rfl rfl rfl) ?_
  refine WP.val rfl rfl rfl (Val.assign rfl rfl) ?_
  refine WP.nil ?_
  refine Out.next ?_
  refine WPc.condF rfl rfl ?_
  refine WPc.seq ?_
  refine WPc.region ?_
  refine WP.val rfl rfl rfl (Val.eqlK rfl rfl rfl rfl) ?_
  refine WP.val rfl rfl rfl (Val.assign rfl rfl) ?_
  refine WP.nil ?_
  refine Out.next ?_
  refine WPc.condF rfl rfl ?_
  refine WPc.seq ?_
  refine WPc.region ?_
  refine WP.val rfl rfl rfl (Val.eqlK rfl rfl rfl rfl) ?_
  refine WP.val rfl rfl rfl (Val.assign rfl rfl) ?_
  refine WP.nil ?_
  refine Out.next ?_
  refine WPc.condT rfl rfl ?_
  refine WPc.seq ?_
  refine WPc.region ?_
  refine WP.val rfl rfl rfl (Val.move rfl rfl) ?_
  refine WP.val rfl rfl rfl (Val.fieldAddr (j := 1) rfl Ty.fo60_1 rfl rfl) ?_
  refine WP.val rfl rfl rfl (Val.loadAgg (cs := [.string x.key, .string x.fin, .bool (x.one), .int .i64 (x.lo), .int .i64 (x.hi)]) rfl Ty.ag56 rfl rfl (fun w h => h.range 3 rfl rfl)) ?_
  refine WP.perm pl1 ?_
  refine WP.perm pl1 ?_
  refine WP.eff rfl rfl rfl (Eff.call rfl rfl Try.call69 (meeting_spec pb k0 k hk x hx0 l hl hsz (.slice (some ⟨g, 0, none⟩) l.length cg))) ?_
  rintro u _ ⟨_, ⟨_, rfl, rfl⟩, rfl⟩
  show WP _ _ _ _ _ _ _ (Seq (.slice (some ⟨g, 0, none⟩) l.length cg) l.length ((flatOf Pc.cells l)) :: Blk pb [.int .i64 (k0), .slice (some ⟨g, 0, none⟩) l.length cg] 33 :: Own 89 6 u ((mts k x l).length) (flatOf Pc.cells (mts k x l)) :: Blk b2 [.bool false, .int .i64 0, .int .i64 0, .slice none 0 0, .slice none 0 0] 62 :: Blk b1 [.int .i64 6, .string x.key, .string x.fin, .bool (x.one), .int .i64 (x.lo), .int .i64 (x.hi), .int .i64 (val), .int .i64 (lim), ov, wv] 60 :: Ro (Blk g (flatOf Pc.cells l ++ sg) Tg) :: F)
  refine WP.val rfl rfl rfl (Val.lenOwn rfl Ty.sl31 rfl (fun w h => h.at 2 rfl)) ?_
  refine WP.val rfl rfl rfl (Val.gtr rfl rfl rfl) ?_
  refine WP.val rfl rfl rfl (Val.mk (cs := [.bool (decide ((0 : Int) < (((mts k x l).length : Nat) : Int))), .int .i64 0, .int .i64 0, .slice none 0 0, .slice none 0 0]) rfl rfl (fun _ => by kernel_rfl)) ?_
  refine WP.perm pl3 ?_
  refine WP.eff0 rfl rfl (Eff.storeAgg (cs := [.bool (decide ((0 : Int) < (((mts k x l).length : Nat) : Int))), .int .i64 0, .int .i64 0, .slice none 0 0, .slice none 0 0]) (C' := [.bool (decide ((0 : Int) < (((mts k x l).length : Nat) : Int))), .int .i64 0, .int .i64 0, .slice none 0 0, .slice none 0 0]) rfl Ty.ag62 rfl rfl rfl rfl (by simp) rfl) ?_
  rintro _ _ rfl
  refine WP.nil ?_
  refine Out.next ?_
  refine WPc.ret ?_
  refine Out.block_ret ?_
  refine Out.then_ret ?_
  refine Out.conv (fun w h => own_nils h) ?_
  refine Out.perm pl5 ?_
  refine Out.drop ?_
  refine Out.perm pl5 ?_
  refine Out.drop ?_
  refine Out.perm pl5 ?_
  refine Out.drop ?_
  refine Out.perm pl1 ?_
  refine Out.perm pl1 ?_
  refine Out.perm pl4 ?_
  refine Out.perm pl4 ?_
  refine Out.perm pl4 ?_
  exact Out.retRun (L' := [Seq (.slice (some ⟨g, 0, none⟩) l.length cg) l.length ((flatOf Pc.cells l)), Blk pb [.int .i64 (k0), .slice (some ⟨g, 0, none⟩) l.length cg] 33, Own 56 5 (.slice none 0 0) 0 ([]), Own 3 1 (.slice none 0 0) 0 ([])]) (results_cell (cs := [.bool (decide ((0 : Int) < (((mts k x l).length : Nat) : Int))), .int .i64 0, .int .i64 0, .slice none 0 0, .slice none 0 0]) Try.results28 Ty.ag62 rfl rfl (fun w h => h.range 0 rfl rfl)) ⟨_, (.slice none 0 0), (.slice none 0 0), rfl, rfl, rfl⟩ (fun w h => h.drop)

theorem do6_spec (pb : Nat) (k0 k : Int) (hk : KO k0 k) (x : Sp) (hx0 : x.key.size ≤ 2147483647) (val lim : Int) (ov wv : Value) (hov : ov.oneCell' = true) (hwv : wv.oneCell' = true) (l : List Pc) (hl : l.length ≤ 1000000) (hsz : ∀ y ∈ l, y.x.key.size ≤ 2147483647) (va : Value) : Does Try.prog 28 [.pointer (some ⟨pb, 0, none⟩), .agg #[.int .i64 6, .string x.key, .string x.fin, .bool (x.one), .int .i64 (x.lo), .int .i64 (x.hi), .int .i64 (val), .int .i64 (lim), ov, wv]] [Seq va l.length (flatOf Pc.cells l), Blk pb [.int .i64 (k0), va] 33] (fun v L => ∃ (a : TAns) (lv vv : Value), Do6 k x l a ∧ v = .agg (WA.cells ⟨a, lv, vv⟩).toArray ∧ L = [Seq va l.length (flatOf Pc.cells l), Blk pb [.int .i64 k0, va] 33, Own 56 5 lv a.l.length (flatOf Sp.cells a.l), Own 3 1 vv a.vs.length (flatOf iv a.vs)]) := by
  refine Does.seqC (fun h0 h1 => ?_) (fun g cg sg Tg h0 h1 => ?_)
  · obtain rfl := List.eq_nil_of_length_eq_zero h1
    subst h0
    exact do6_nil pb k0 k hk x hx0 val lim ov wv hov hwv
  · subst h0
    exact do6_row pb k0 k hk x hx0 val lim ov wv hov hwv l hl hsz g cg sg Tg h1

end Go.Proofs.Ytbomnihiapjmpaa.TL

namespace Go.Proofs.Ytbomnihiapjmpaa.TM
open Go.RowKit Go.Proofs.Ytbomnihiapjmpaa Go.Proofs.Ytbomnihiapjmpaa.Sl Go.Proofs.Ytbomnihiapjmpaa.TrP Go.Proofs.Ytbomnihiapjmpaa.Tb Go.Proofs.Ytbomnihiapjmpaa.Tc Go.Proofs.Ytbomnihiapjmpaa.Td Go.Proofs.Ytbomnihiapjmpaa.Tn Go.Proofs.Ytbomnihiapjmpaa.Tr Go.Proofs.Ytbomnihiapjmpaa.Ts Go.Proofs.Ytbomnihiapjmpaa.Tx Go.Proofs.Ytbomnihiapjmpaa.TC Go.Proofs.Ytbomnihiapjmpaa.TD Go.Proofs.Ytbomnihiapjmpaa.TE Go.Proofs.Ytbomnihiapjmpaa.TG Go.Proofs.Ytbomnihiapjmpaa.TH Go.Proofs.Ytbomnihiapjmpaa.TI Go.Proofs.Ytbomnihiapjmpaa.TJ Go.Proofs.Ytbomnihiapjmpaa.TK Go.Proofs.Ytbomnihiapjmpaa.TL
set_option linter.unusedVariables false
set_option linter.unusedSimpArgs false
set_option linter.unusedSectionVars false


/-- what is put into the tree, and what the reference has of it -/
structure Fil (k : Int) (ops : List TOp) (ps : List Pc) : Prop where
  pss : ps = ops.foldl (fun p o => putP k o.x o.val p) []
  good : ∀ o ∈ ops, ∃ (x : Sp) (n : Int), o = ⟨1, x, n, 0, .slice none 0 0, .slice none 0 0⟩ ∧ SpOk k x ∧ prp k x
  sz : ∀ y ∈ ps, y.x.key.size ≤ 2147483647
  len : ps.length = ops.length
theorem fil_nil (k : Int) : Fil k [] [] := ⟨rfl, (fun o h => (List.not_mem_nil h).elim), (fun y h => (List.not_mem_nil h).elim), rfl⟩
theorem fil_more {k : Int} {ops : List TOp} {ps : List Pc} (h : Fil k ops ps) {x : Sp} (n : Int) (h1 : SpOk k x) (h2 : prp k x) : Fil k (ops ++ [⟨1, x, n, 0, .slice none 0 0, .slice none 0 0⟩]) (putP k x n ps) := by
  refine ⟨?_, ?_, ?_, ?_⟩
  · rw [List.foldl_append, ← h.pss]; rfl
  · intro o ho
    rcases List.mem_append.1 ho with ho | ho
    · exact h.good o ho
    · exact ⟨x, n, List.mem_singleton.1 ho, h1, h2⟩
  · intro y hy
    rcases putP_mem.1 hy with rfl | hy
    · exact h1.key
    · exact h.sz y hy
  · rw [putP_len, List.length_append, h.len]; rfl
set_option maxRecDepth 100000 in
set_option maxHeartbeats 2000000 in
theorem filled_nil (A : HProp) (k0 k : Int) (hk : KO k0 k) (a : Option Addr) (c : Nat) : Does Try.prog 33 [.int .i64 (k0), .slice a 0 c] [A] (fun v L => (v = .tuple #[.slice none 0 0, .pointer none, .bool false] ∧ L = [A]) ∨ ∃ (b : Bool) (vo : Value) (ops : List TOp) (ps : List Pc) (pb : Nat) (u : Value), v = .tuple #[vo, .pointer (some ⟨pb, 0, none⟩), .bool b] ∧ (b = true → 0 ≤ k0 ∧ k0 ≤ 3) ∧ ops.length ≤ 200 ∧ Fil k ops ps ∧ L = [A, Own 60 10 vo ops.length (flatOf TOp.cells ops), Seq u ps.length (flatOf Pc.cells ps), Blk pb [.int .i64 k0, u] 33]) := by
  refine Does.enter 53 Try.func33 rfl rfl rfl fun W F => ?_
  show WPc _ _ _ _ _ [(0, .int .i64 (k0)), (1, .slice a 0 c)] (A :: F)
  refine WPc.seq ?_
  refine WPc.region ?_
  refine WP.val rfl rfl rfl (Val.assign rfl rfl) ?_
  refine WP.val rfl rfl rfl (Val.assign rfl rfl) ?_
  refine WP.val rfl rfl rfl (Val.assign rfl rfl) ?_
  refine WP.nil ?_
  refine Out.next ?_
  refine WPc.seq ?_
  refine WPc.region ?_
  refine WP.val rfl rfl rfl (Val.move rfl rfl) ?_
  refine WP.val rfl rfl rfl (Val.mk (cs := [.int .i64 (k0), .slice none 0 0]) rfl rfl (fun _ => by kernel_rfl)) ?_
  refine WP.eff rfl rfl rfl (Eff.box (C := [.int .i64 (k0), .slice none 0 0]) rfl rfl rfl) ?_
  rintro _ _ ⟨b1, rfl, rfl⟩
  refine WP.val rfl rfl rfl (Val.assign rfl rfl) ?_
  refine WP.nil ?_
  refine Out.next ?_
  refine WPc.seq ?_
  refine WPc.conv (fun w h => Sat.seqNil h) ?_
  refine WPc.conv (fun w h => Sat.ownNil (e := 60) (k := 10) h) ?_
  show WPc _ _ _ _ _ _ (Own 60 10 (.slice none 0 0) 0 ([]) :: Seq ((.slice none 0 0)) 0 ([]) :: Blk b1 [.int .i64 (k0), .slice none 0 0] 33 :: A :: F)
  refine WPc.region ?_
  refine WP.val rfl rfl rfl (Val.assign rfl rfl) ?_
  refine WP.nil ?_
  refine Out.next ?_
  refine WPc.seq ?_
  refine WPc.seq ?_
  refine WPc.region ?_
  refine WP.val rfl rfl rfl (Val.move rfl rfl) ?_
  refine WP.val rfl rfl rfl (Val.len rfl Ty.sl57 rfl) ?_
  refine WP.val rfl rfl rfl (Val.move rfl rfl) ?_
  refine WP.nil ?_
  refine Out.next ?_
  refine WPc.block ?_
  refine WPc.perm pl2 ?_
  refine WPc.perm pl2 ?_
  refine WPc.perm pl2 ?_
  refine WPc.perm pl3 ?_
  refine WPc.loop (ι := Nat × List TOp × List Pc × Value × Value × Nat) (fun ⟨i, ops, ps, v, u, pb⟩ => i ≤ 0 ∧ i ≤ 200 ∧ ops.length ≤ i ∧ Fil k ops ps) (fun ⟨i, ops, ps, v, u, pb⟩ => [(0, .int .i64 (k0)), (4, .slice none 0 0), (5, .pointer none), (6, .bool false), (7, .pointer (some ⟨pb, 0, none⟩)), (8, v), (14, .slice a 0 c), (15, .int .i64 0), (16, .int .i64 (((i : Nat) : Int)))]) (fun ⟨i, ops, ps, v, u, pb⟩ => A :: Own 60 10 v ops.length (flatOf TOp.cells ops) :: Seq u ps.length ((flatOf Pc.cells ps)) :: Blk pb [.int .i64 (k0), u] 33 :: F) (fun ⟨i, ops, ps, v, u, pb⟩ => 0 - i) (0, [], [], (.slice none 0 0), (.slice none 0 0), b1) ⟨Nat.zero_le _, Nat.zero_le _, Nat.le_refl _, fil_nil k⟩ ((Sub.cons rfl (Sub.cons rfl (Sub.cons rfl (Sub.cons rfl (Sub.cons rfl (Sub.cons rfl (Sub.cons rfl (Sub.cons rfl (Sub.cons rfl Sub.nil)))))))))) (fun _ h => h) ?_
  rintro ⟨i, ops, ps, v, u, pb⟩ ⟨hi, h200, hol, hf⟩
  show WPc _ _ _ _ _ [(0, .int .i64 (k0)), (4, .slice none 0 0), (5, .pointer none), (6, .bool false), (7, .pointer (some ⟨pb, 0, none⟩)), (8, v), (14, .slice a 0 c), (15, .int .i64 0), (16, .int .i64 (((i : Nat) : Int)))] (A :: Own 60 10 v ops.length (flatOf TOp.cells ops) :: Seq u ps.length ((flatOf Pc.cells ps)) :: Blk pb [.int .i64 (k0), u] 33 :: F)
  replace hi : i ≤ 0 := hi
  replace h200 : i ≤ 200 := h200
  replace hol : ops.length ≤ i := hol
  replace hf : Fil k ops ps := hf
  have hpl := hf.len
  refine WPc.seq ?_
  refine WPc.region ?_
  refine WP.val rfl rfl rfl (Val.lss rfl rfl rfl) ?_
  refine WP.nil ?_
  refine Out.next ?_
  refine WPc.seq ?_
  refine WPc.ifP rfl (fun h1 => ?_) (fun h1 => ?_)
  · skip
    have h1 : (((i : Nat) : Int) < (0 : Int)) := h1
    exfalso; omega
  · skip
    have h1 : ¬ (((i : Nat) : Int) < (0 : Int)) := h1
    refine WPc.exit ?_
    refine Out.then_exit ?_
    refine Out.then_exit ?_
    refine Out.block_exit ?_
    refine Out.next ?_
    refine WPc.seq ?_
    refine WPc.region ?_
    refine WP.val rfl rfl rfl (Val.move rfl rfl) ?_
    refine WP.val rfl rfl rfl (Val.move rfl rfl) ?_
    refine WP.val rfl rfl rfl (Val.move rfl rfl) ?_
    refine WP.val rfl rfl rfl (Val.geq rfl rfl rfl) ?_
    refine WP.val rfl rfl rfl (Val.move rfl rfl) ?_
    refine WP.split 49 rfl (fun h2 => ?_) (fun h2 => ?_)
    · skip
      have h2 : ((0 : Int) ≤ k0) := h2
      refine WP.valG rfl rfl rfl rfl rfl rfl rfl (Val.move rfl rfl) ?_
      refine WP.valG rfl rfl rfl rfl rfl rfl rfl (Val.leq rfl rfl rfl) ?_
      refine WP.val rfl rfl rfl (Val.pickT rfl rfl rfl) ?_
      refine WP.val rfl rfl rfl (Val.assign rfl rfl) ?_
      refine WP.val rfl rfl rfl (Val.assign rfl rfl) ?_
      refine WP.val rfl rfl rfl (Val.assign rfl rfl) ?_
      refine WP.nil ?_
      refine Out.next ?_
      refine WPc.ret ?_
      exact Out.retRun (L' := _) (results_ttt Try.results33 rfl rfl rfl) (.inr ⟨_, _, ops, ps, pb, u, rfl, (fun h => ⟨by omega, of_decide_eq_true h⟩), by omega, hf, rfl⟩) (fun _ h => h)
    · skip
      have h2 : ¬ ((0 : Int) ≤ k0) := h2
      refine WP.skip rfl rfl rfl rfl rfl rfl rfl ?_
      refine WP.skip rfl rfl rfl rfl rfl rfl rfl ?_
      refine WP.val rfl rfl rfl (Val.pickF rfl rfl rfl) ?_
      refine WP.val rfl rfl rfl (Val.assign rfl rfl) ?_
      refine WP.val rfl rfl rfl (Val.assign rfl rfl) ?_
      refine WP.val rfl rfl rfl (Val.assign rfl rfl) ?_
      refine WP.nil ?_
      refine Out.next ?_
      refine WPc.ret ?_
      exact Out.retRun (L' := _) (results_ttt Try.results33 rfl rfl rfl) (.inr ⟨_, _, ops, ps, pb, u, rfl, (fun h => by cases h), by omega, hf, rfl⟩) (fun _ h => h)

set_option maxRecDepth 100000 in
set_option maxHeartbeats 2000000 in
theorem filled_row (A : HProp) (k0 k : Int) (hk : KO k0 k) (l : List Sp) (hl : l.length ≤ 9223372036854775806) (hsz : ∀ y ∈ l, szB y) (b0 o0 c0 : Nat) (hr : ∀ w, Holds A w → ∀ i x, l[i]? = some x → w.rangeAt b0 (o0 + i * 5) (Sp.cells x)) : Does Try.prog 33 [.int .i64 (k0), .slice (some ⟨b0, o0, none⟩) l.length c0] [A] (fun v L => (v = .tuple #[.slice none 0 0, .pointer none, .bool false] ∧ L = [A]) ∨ ∃ (b : Bool) (vo : Value) (ops : List TOp) (ps : List Pc) (pb : Nat) (u : Value), v = .tuple #[vo, .pointer (some ⟨pb, 0, none⟩), .bool b] ∧ (b = true → 0 ≤ k0 ∧ k0 ≤ 3) ∧ ops.length ≤ 200 ∧ Fil k ops ps ∧ L = [A, Own 60 10 vo ops.length (flatOf TOp.cells ops), Seq u ps.length (flatOf Pc.cells ps), Blk pb [.int .i64 k0, u] 33]) := by
  refine Does.enter 53 Try.func33 rfl rfl rfl fun W F => ?_
  show WPc _ _ _ _ _ [(0, .int .i64 (k0)), (1, .slice (some ⟨b0, o0, none⟩) l.length c0)] (A :: F)
  refine WPc.seq ?_
  refine WPc.region ?_
  refine WP.val rfl rfl rfl (Val.assign rfl rfl) ?_
  refine WP.val rfl rfl rfl (Val.assign rfl rfl) ?_
  refine WP.val rfl rfl rfl (Val.assign rfl rfl) ?_
  refine WP.nil ?_
  refine Out.next ?_
  refine WPc.seq ?_
  refine WPc.region ?_
  refine WP.val rfl rfl rfl (Val.move rfl rfl) ?_
  refine WP.val rfl rfl rfl (Val.mk (cs := [.int .i64 (k0), .slice none 0 0]) rfl rfl (fun _ => by kernel_rfl)) ?_
  refine WP.eff rfl rfl rfl (Eff.box (C := [.int .i64 (k0), .slice none 0 0]) rfl rfl rfl) ?_
  rintro _ _ ⟨b1, rfl, rfl⟩
  refine WP.val rfl rfl rfl (Val.assign rfl rfl) ?_
  refine WP.nil ?_
  refine Out.next ?_
  refine WPc.seq ?_
  refine WPc.conv (fun w h => Sat.seqNil h) ?_
  refine WPc.conv (fun w h => Sat.ownNil (e := 60) (k := 10) h) ?_
  show WPc _ _ _ _ _ _ (Own 60 10 (.slice none 0 0) 0 ([]) :: Seq ((.slice none 0 0)) 0 ([]) :: Blk b1 [.int .i64 (k0), .slice none 0 0] 33 :: A :: F)
  refine WPc.region ?_
  refine WP.val rfl rfl rfl (Val.assign rfl rfl) ?_
  refine WP.nil ?_
  refine Out.next ?_
  refine WPc.seq ?_
  refine WPc.seq ?_
  refine WPc.region ?_
  refine WP.val rfl rfl rfl (Val.move rfl rfl) ?_
  refine WP.val rfl rfl rfl (Val.len rfl Ty.sl57 rfl) ?_
  refine WP.val rfl rfl rfl (Val.move rfl rfl) ?_
  refine WP.nil ?_
  refine Out.next ?_
  refine WPc.block ?_
  refine WPc.perm pl2 ?_
  refine WPc.perm pl2 ?_
  refine WPc.perm pl2 ?_
  refine WPc.perm pl3 ?_
  refine WPc.loop (ι := Nat × List TOp × List Pc × Value × Value × Nat) (fun ⟨i, ops, ps, v, u, pb⟩ => i ≤ l.length ∧ i ≤ 200 ∧ ops.length ≤ i ∧ Fil k ops ps) (fun ⟨i, ops, ps, v, u, pb⟩ => [(0, .int .i64 (k0)), (4, .slice none 0 0), (5, .pointer none), (6, .bool false), (7, .pointer (some ⟨pb, 0, none⟩)), (8, v), (14, .slice (some ⟨b0, o0, none⟩) l.length c0), (15, .int .i64 (((l.length : Nat) : Int))), (16, .int .i64 (((i : Nat) : Int)))]) (fun ⟨i, ops, ps, v, u, pb⟩ => A :: Own 60 10 v ops.length (flatOf TOp.cells ops) :: Seq u ps.length ((flatOf Pc.cells ps)) :: Blk pb [.int .i64 (k0), u] 33 :: F) (fun ⟨i, ops, ps, v, u, pb⟩ => l.length - i) (0, [], [], (.slice none 0 0), (.slice none 0 0), b1) ⟨Nat.zero_le _, Nat.zero_le _, Nat.le_refl _, fil_nil k⟩ ((Sub.cons rfl (Sub.cons rfl (Sub.cons rfl (Sub.cons rfl (Sub.cons rfl (Sub.cons rfl (Sub.cons rfl (Sub.cons rfl (Sub.cons rfl Sub.nil)))))))))) (fun _ h => h) ?_
  rintro ⟨i, ops, ps, v, u, pb⟩ ⟨hi, h200, hol, hf⟩
  show WPc _ _ _ _ _ [(0, .int .i64 (k0)), (4, .slice none 0 0), (5, .pointer none), (6, .bool false), (7, .pointer (some ⟨pb, 0, none⟩)), (8, v), (14, .slice (some ⟨b0, o0, none⟩) l.length c0), (15, .int .i64 (((l.length : Nat) : Int))), (16, .int .i64 (((i : Nat) : Int)))] (A :: Own 60 10 v ops.length (flatOf TOp.cells ops) :: Seq u ps.length ((flatOf Pc.cells ps)) :: Blk pb [.int .i64 (k0), u] 33 :: F)
  replace hi : i ≤ l.length := hi
  replace h200 : i ≤ 200 := h200
  replace hol : ops.length ≤ i := hol
  replace hf : Fil k ops ps := hf
  have hpl := hf.len
  refine WPc.seq ?_
  refine WPc.region ?_
  refine WP.val rfl rfl rfl (Val.lss rfl rfl rfl) ?_
  refine WP.nil ?_
  refine Out.next ?_
  refine WPc.seq ?_
  refine WPc.ifP rfl (fun h1 => ?_) (fun h1 => ?_)
  · skip
    have h1 : (((i : Nat) : Int) < ((l.length : Nat) : Int)) := h1
    refine WPc.skip ?_
    refine Out.next ?_
    refine WPc.seq ?_
    refine WPc.block ?_
    refine WPc.seq ?_
    have hlt : i < l.length := by omega
    obtain ⟨x, hx⟩ : ∃ x, l[i]? = some x := ⟨_, List.getElem?_eq_getElem hlt⟩
    refine WPc.region ?_
    refine WP.val rfl rfl rfl (Val.move rfl rfl) ?_
    refine WP.val rfl rfl rfl (Val.indexAddr (j := i) (q := o0 + i * 5) rfl Ty.sl57 rfl rfl (by omega) (by omega) (by omega)) ?_
    refine WP.val rfl rfl rfl (Val.loadAgg (cs := (Sp.cells x)) rfl Ty.ag56 rfl (by rfl) (fun w h => hr w (h.at 0 rfl) i x hx)) ?_
    refine WP.eff rfl rfl rfl (Eff.alloc rfl Ty.z56) ?_
    rintro _ _ ⟨b2, rfl, rfl⟩
    refine WP.val rfl rfl rfl (Val.assign rfl rfl) ?_
    refine WP.eff0 rfl rfl (Eff.storeAgg (cs := [.string x.key, .string x.fin, .bool (x.one), .int .i64 (x.lo), .int .i64 (x.hi)]) (C' := [.string x.key, .string x.fin, .bool (x.one), .int .i64 (x.lo), .int .i64 (x.hi)]) rfl Ty.ag56 rfl rfl rfl rfl (by simp) rfl) ?_
    rintro _ _ rfl
    refine WP.nil ?_
    refine Out.next ?_
    refine WPc.seq ?_
    refine WPc.seq ?_
    refine WPc.region ?_
    refine WP.val rfl rfl rfl (Val.move rfl rfl) ?_
    refine WP.val rfl rfl rfl (Val.geq rfl rfl rfl) ?_
    refine WP.val rfl rfl rfl (Val.move rfl rfl) ?_
    refine WP.split 23 rfl (fun h2 => ?_) (fun h2 => ?_)
    · skip
      have h2 : ((200 : Int) ≤ ((i : Nat) : Int)) := h2
      refine WP.skip rfl rfl rfl rfl rfl rfl rfl ?_
      refine WP.skip rfl rfl rfl rfl rfl rfl rfl ?_
      refine WP.skip rfl rfl rfl rfl rfl rfl rfl ?_
      refine WP.skip rfl rfl rfl rfl rfl rfl rfl ?_
      refine WP.val rfl rfl rfl (Val.pickT rfl rfl rfl) ?_
      refine WP.nil ?_
      refine Out.next ?_
      refine WPc.condT rfl rfl ?_
      refine WPc.seq ?_
      refine WPc.region ?_
      refine WP.val rfl rfl rfl (Val.assign rfl rfl) ?_
      refine WP.val rfl rfl rfl (Val.assign rfl rfl) ?_
      refine WP.val rfl rfl rfl (Val.assign rfl rfl) ?_
      refine WP.nil ?_
      refine Out.next ?_
      refine WPc.ret ?_
      refine Out.then_ret ?_
      refine Out.block_ret ?_
      refine Out.then_ret ?_
      refine Out.then_ret ?_
      refine Out.block_ret ?_
      refine Out.then_ret ?_
      refine Out.drop ?_
      refine Out.perm pl1 ?_
      refine Out.drop ?_
      refine Out.perm pl1 ?_
      refine Out.drop ?_
      refine Out.perm pl1 ?_
      refine Out.drop ?_
      exact Out.retRun (L' := [A]) (results_ttt Try.results33 rfl rfl rfl) (.inl ⟨rfl, rfl⟩) (fun _ h => h)
    · skip
      have h2 : ¬ ((200 : Int) ≤ ((i : Nat) : Int)) := h2
      refine WP.valG rfl rfl rfl rfl rfl rfl rfl (Val.move rfl rfl) ?_
      refine WP.valG rfl rfl rfl rfl rfl rfl rfl (Val.loadAgg (cs := [.string x.key, .string x.fin, .bool (x.one), .int .i64 (x.lo), .int .i64 (x.hi)]) rfl Ty.ag56 rfl rfl (fun w h => h.range 0 rfl rfl)) ?_
      refine WP.effG rfl rfl rfl rfl rfl rfl rfl (Eff.call rfl rfl Try.call73 (spanOf_does k0 k hk x (hsz x (List.mem_of_getElem? hx)).1)) ?_
      rintro _ _ ⟨_, ⟨b, rfl, hb, rfl⟩, rfl⟩
      show WP _ _ _ _ _ _ _ (Blk b2 [.string x.key, .string x.fin, .bool (x.one), .int .i64 (x.lo), .int .i64 (x.hi)] 56 :: A :: Own 60 10 v ops.length (flatOf TOp.cells ops) :: Seq u ps.length ((flatOf Pc.cells ps)) :: Blk pb [.int .i64 (k0), u] 33 :: F)
      refine WP.valG rfl rfl rfl rfl rfl rfl rfl (Val.not rfl rfl) ?_
      refine WP.val rfl rfl rfl (Val.pickF rfl rfl rfl) ?_
      refine WP.nil ?_
      refine Out.next ?_
      refine WPc.cond rfl (fun h3 => ?_) (fun h3 => ?_)
      · skip
        have h3 : (!b) = true := h3
        refine WPc.seq ?_
        refine WPc.region ?_
        refine WP.val rfl rfl rfl (Val.assign rfl rfl) ?_
        refine WP.val rfl rfl rfl (Val.assign rfl rfl) ?_
        refine WP.val rfl rfl rfl (Val.assign rfl rfl) ?_
        refine WP.nil ?_
        refine Out.next ?_
        refine WPc.ret ?_
        refine Out.then_ret ?_
        refine Out.block_ret ?_
        refine Out.then_ret ?_
        refine Out.then_ret ?_
        refine Out.block_ret ?_
        refine Out.then_ret ?_
        refine Out.drop ?_
        refine Out.perm pl1 ?_
        refine Out.drop ?_
        refine Out.perm pl1 ?_
        refine Out.drop ?_
        refine Out.perm pl1 ?_
        refine Out.drop ?_
        exact Out.retRun (L' := [A]) (results_ttt Try.results33 rfl rfl rfl) (.inl ⟨rfl, rfl⟩) (fun _ h => h)
      · skip
        have h3 : (!b) = false := h3
        refine WPc.skip ?_
        refine Out.next ?_
        refine WPc.seq ?_
        refine WPc.seq ?_
        refine WPc.region ?_
        refine WP.val rfl rfl rfl (Val.move rfl rfl) ?_
        refine WP.val rfl rfl rfl (Val.loadAgg (cs := [.string x.key, .string x.fin, .bool (x.one), .int .i64 (x.lo), .int .i64 (x.hi)]) rfl Ty.ag56 rfl rfl (fun w h => h.range 0 rfl rfl)) ?_
        refine WP.val rfl rfl rfl (Val.mk (cs := [.int .i64 3, .string x.key, .string x.fin, .bool (x.one), .int .i64 (x.lo), .int .i64 (x.hi), .int .i64 0, .int .i64 0, .slice none 0 0, .slice none 0 0]) rfl rfl (fun _ => by kernel_rfl)) ?_
        refine WP.perm pl4 ?_
        refine WP.perm pl4 ?_
        refine WP.eff rfl rfl rfl (Eff.call rfl rfl Try.call28 (do3_spec pb k0 k hk x (hsz x (List.mem_of_getElem? hx)).1 0 0 (.slice none 0 0) (.slice none 0 0) rfl rfl ps (by omega) hf.sz u)) ?_
        rintro _ _ ⟨_, ⟨a, lv, vv, h3, rfl, rfl⟩, rfl⟩
        show WP _ _ _ _ _ _ _ (Seq u ps.length ((flatOf Pc.cells ps)) :: Blk pb [.int .i64 (k0), u] 33 :: Own 56 5 lv a.l.length (flatOf Sp.cells a.l) :: Own 3 1 vv a.vs.length (flatOf iv a.vs) :: Blk b2 [.string x.key, .string x.fin, .bool (x.one), .int .i64 (x.lo), .int .i64 (x.hi)] 56 :: A :: Own 60 10 v ops.length (flatOf TOp.cells ops) :: F)
        refine WP.val rfl rfl rfl (Val.field rfl Ty.fs62_0 rfl rfl) ?_
        refine WP.nil ?_
        refine Out.next ?_
        refine WPc.cond rfl (fun h4 => ?_) (fun h4 => ?_)
        · skip
          have h4 : (a.ok) = true := h4
          refine WPc.exit ?_
          refine Out.then_exit ?_
          refine Out.block_exit ?_
          refine Out.next ?_
          refine WPc.region ?_
          refine WP.val rfl rfl rfl (Val.add (z := ((i + 1 : Nat) : Int)) rfl rfl rfl ((w64 (by omega) (by omega)).trans (by omega))) ?_
          refine WP.val rfl rfl rfl (Val.move rfl rfl) ?_
          refine WP.nil ?_
          refine Out.perm pl2 ?_
          refine Out.drop ?_
          refine Out.perm pl2 ?_
          refine Out.drop ?_
          refine Out.perm pl2 ?_
          refine Out.drop ?_
          refine Out.perm pl1 ?_
          refine Out.perm pl1 ?_
          refine Out.perm pl3 ?_
          refine Out.perm pl3 ?_
          refine Out.again (i + 1, ops, ps, v, u, pb) ?_ ?_ ?_ ?_
          · exact ⟨by show i + 1 ≤ l.length; omega, by show i + 1 ≤ 200; omega, by show _ ≤ i + 1; omega, hf⟩
          · (first | omega | (dsimp only; omega))
          · exact (Sub.cons rfl (Sub.cons rfl (Sub.cons rfl (Sub.cons rfl (Sub.cons rfl (Sub.cons rfl (Sub.cons rfl (Sub.cons rfl (Sub.cons rfl Sub.nil)))))))))
          · exact (fun w h => h)
        · skip
          have h4 : (a.ok) = false := h4
          refine WPc.skip ?_
          refine Out.next ?_
          refine WPc.seq ?_
          refine WPc.region ?_
          refine WP.val rfl rfl rfl (Val.move rfl rfl) ?_
          refine WP.val rfl rfl rfl (Val.loadAgg (cs := [.string x.key, .string x.fin, .bool (x.one), .int .i64 (x.lo), .int .i64 (x.hi)]) rfl Ty.ag56 rfl rfl (fun w h => h.range 4 rfl rfl)) ?_
          refine WP.val rfl rfl rfl (Val.move rfl rfl) ?_
          refine WP.val rfl rfl rfl (Val.mk (cs := [.int .i64 1, .string x.key, .string x.fin, .bool (x.one), .int .i64 (x.lo), .int .i64 (x.hi), .int .i64 (((i : Nat) : Int)), .int .i64 0, .slice none 0 0, .slice none 0 0]) rfl rfl (fun _ => by kernel_rfl)) ?_
          refine WP.eff rfl rfl rfl (Eff.mkSlice (C := [.int .i64 1, .string x.key, .string x.fin, .bool (x.one), .int .i64 (x.lo), .int .i64 (x.hi), .int .i64 (((i : Nat) : Int)), .int .i64 0, .slice none 0 0, .slice none 0 0]) rfl Ty.sl47 rfl (fun _ => by kernel_rfl)) ?_
          rintro _ _ ⟨b3, rfl, rfl⟩
          refine WP.perm pl7 ?_
          refine WP.eff rfl rfl rfl (Eff.append (m := 1) (n0 := ops.length) (news := [.int .i64 1, .string x.key, .string x.fin, .bool (x.one), .int .i64 (x.lo), .int .i64 (x.hi), .int .i64 (((i : Nat) : Int)), .int .i64 0, .slice none 0 0, .slice none 0 0]) rfl Ty.sl47 Ty.z60 rfl rfl rfl (.slice Ty.sl47 rfl rfl (fun w h => cells_range (h.range 1 rfl rfl))) (by omega) (by omega)) ?_
          rintro v4 _ ⟨onev4, rfl⟩
          refine WP.val rfl rfl rfl (Val.assign rfl rfl) ?_
          refine WP.nil ?_
          refine Out.next ?_
          refine WPc.region ?_
          refine WP.val rfl rfl rfl (Val.move rfl rfl) ?_
          refine WP.val rfl rfl rfl (Val.loadAgg (cs := [.string x.key, .string x.fin, .bool (x.one), .int .i64 (x.lo), .int .i64 (x.hi)]) rfl Ty.ag56 rfl rfl (fun w h => h.range 6 rfl rfl)) ?_
          refine WP.val rfl rfl rfl (Val.move rfl rfl) ?_
          refine WP.perm pl3 ?_
          refine WP.perm pl3 ?_
          refine WP.eff rfl rfl rfl (Eff.call rfl rfl Try.call43 (put_spec pb k0 k hk x (hsz x (List.mem_of_getElem? hx)).1 (i : Int) ps (by omega) hf.sz u)) ?_
          rintro _ _ ⟨_, ⟨u2, rfl⟩, rfl⟩
          show WP _ _ _ _ _ _ _ (Seq u2 ((putP k x (i : Int) ps).length) ((flatOf Pc.cells (putP k x (i : Int) ps))) :: Blk pb [.int .i64 (k0), u2] 33 :: Own 60 10 v4 (ops.length + 1) ((flatOf TOp.cells ops) ++ ([.int .i64 1, .string x.key, .string x.fin, .bool (x.one), .int .i64 (x.lo), .int .i64 (x.hi), .int .i64 (((i : Nat) : Int)), .int .i64 0, .slice none 0 0, .slice none 0 0])) :: Blk b3 [.int .i64 1, .string x.key, .string x.fin, .bool (x.one), .int .i64 (x.lo), .int .i64 (x.hi), .int .i64 (((i : Nat) : Int)), .int .i64 0, .slice none 0 0, .slice none 0 0] 60 :: Own 56 5 lv a.l.length (flatOf Sp.cells a.l) :: Own 3 1 vv a.vs.length (flatOf iv a.vs) :: Blk b2 [.string x.key, .string x.fin, .bool (x.one), .int .i64 (x.lo), .int .i64 (x.hi)] 56 :: A :: F)
          refine WP.nil ?_
          refine Out.block ?_
          refine Out.next ?_
          refine WPc.region ?_
          refine WP.val rfl rfl rfl (Val.add (z := ((i + 1 : Nat) : Int)) rfl rfl rfl ((w64 (by omega) (by omega)).trans (by omega))) ?_
          refine WP.val rfl rfl rfl (Val.move rfl rfl) ?_
          refine WP.nil ?_
          have hss : szB x := hsz x (List.mem_of_getElem? hx)
          have hbb : spB k x := hb (by simpa using ‹(!b) = false›)
          refine Out.perm pl3 ?_
          refine Out.drop ?_
          refine Out.perm pl3 ?_
          refine Out.drop ?_
          refine Out.perm pl3 ?_
          refine Out.drop ?_
          refine Out.perm pl3 ?_
          refine Out.drop ?_
          refine Out.perm pl1 ?_
          refine Out.perm pl1 ?_
          refine Out.perm pl2 ?_
          refine Out.perm pl3 ?_
          refine Out.again (i + 1, ops ++ [⟨1, x, (i : Int), 0, (.slice none 0 0), (.slice none 0 0)⟩], putP k x (i : Int) ps, v4, u2, pb) ?_ ?_ ?_ ?_
          · exact ⟨by show i + 1 ≤ l.length; omega, by show i + 1 ≤ 200; omega, by rw [List.length_append]; show _ + 1 ≤ _; omega, fil_more hf _ (spB_ok hbb hss.1 hss.2) hbb.1⟩
          · (first | omega | (dsimp only; omega))
          · exact (Sub.cons rfl (Sub.cons rfl (Sub.cons rfl (Sub.cons rfl (Sub.cons rfl (Sub.cons rfl (Sub.cons rfl (Sub.cons rfl (Sub.cons rfl Sub.nil)))))))))
          · exact (fun w h => by dsimp only; rw [flatOf_snoc, List.length_append]; exact h)
  · skip
    have h1 : ¬ (((i : Nat) : Int) < ((l.length : Nat) : Int)) := h1
    refine WPc.exit ?_
    refine Out.then_exit ?_
    refine Out.then_exit ?_
    refine Out.block_exit ?_
    refine Out.next ?_
    refine WPc.seq ?_
    refine WPc.region ?_
    refine WP.val rfl rfl rfl (Val.move rfl rfl) ?_
    refine WP.val rfl rfl rfl (Val.move rfl rfl) ?_
    refine WP.val rfl rfl rfl (Val.move rfl rfl) ?_
    refine WP.val rfl rfl rfl (Val.geq rfl rfl rfl) ?_
    refine WP.val rfl rfl rfl (Val.move rfl rfl) ?_
    refine WP.split 49 rfl (fun h5 => ?_) (fun h5 => ?_)
    · skip
      have h5 : ((0 : Int) ≤ k0) := h5
      refine WP.valG rfl rfl rfl rfl rfl rfl rfl (Val.move rfl rfl) ?_
      refine WP.valG rfl rfl rfl rfl rfl rfl rfl (Val.leq rfl rfl rfl) ?_
      refine WP.val rfl rfl rfl (Val.pickT rfl rfl rfl) ?_
      refine WP.val rfl rfl rfl (Val.assign rfl rfl) ?_
      refine WP.val rfl rfl rfl (Val.assign rfl rfl) ?_
      refine WP.val rfl rfl rfl (Val.assign rfl rfl) ?_
      refine WP.nil ?_
      refine Out.next ?_
      refine WPc.ret ?_
      exact Out.retRun (L' := _) (results_ttt Try.results33 rfl rfl rfl) (.inr ⟨_, _, ops, ps, pb, u, rfl, (fun h => ⟨by omega, of_decide_eq_true h⟩), by omega, hf, rfl⟩) (fun _ h => h)
    · skip
      have h5 : ¬ ((0 : Int) ≤ k0) := h5
      refine WP.skip rfl rfl rfl rfl rfl rfl rfl ?_
      refine WP.skip rfl rfl rfl rfl rfl rfl rfl ?_
      refine WP.val rfl rfl rfl (Val.pickF rfl rfl rfl) ?_
      refine WP.val rfl rfl rfl (Val.assign rfl rfl) ?_
      refine WP.val rfl rfl rfl (Val.assign rfl rfl) ?_
      refine WP.val rfl rfl rfl (Val.assign rfl rfl) ?_
      refine WP.nil ?_
      refine Out.next ?_
      refine WPc.ret ?_
      exact Out.retRun (L' := _) (results_ttt Try.results33 rfl rfl rfl) (.inr ⟨_, _, ops, ps, pb, u, rfl, (fun h => by cases h), by omega, hf, rfl⟩) (fun _ h => h)

theorem filled_spec (A : HProp) (k0 k : Int) (hk : KO k0 k) (l : List Sp) (hl : l.length ≤ 9223372036854775806) (hsz : ∀ y ∈ l, szB y) (va : Value) (hva : Rd A 5 Sp.cells va l) : Does Try.prog 33 [.int .i64 (k0), va] [A] (fun v L => (v = .tuple #[.slice none 0 0, .pointer none, .bool false] ∧ L = [A]) ∨ ∃ (b : Bool) (vo : Value) (ops : List TOp) (ps : List Pc) (pb : Nat) (u : Value), v = .tuple #[vo, .pointer (some ⟨pb, 0, none⟩), .bool b] ∧ (b = true → 0 ≤ k0 ∧ k0 ≤ 3) ∧ ops.length ≤ 200 ∧ Fil k ops ps ∧ L = [A, Own 60 10 vo ops.length (flatOf TOp.cells ops), Seq u ps.length (flatOf Pc.cells ps), Blk pb [.int .i64 k0, u] 33]) := by
  rcases hva with ⟨b0, o0, c0, rfl, hr⟩ | ⟨rfl, a, c, rfl⟩
  · exact filled_row A k0 k hk l hl hsz b0 o0 c0 hr
  · exact filled_nil A k0 k hk a c

end Go.Proofs.Ytbomnihiapjmpaa.TM

namespace Go.Proofs.Ytbomnihiapjmpaa.TN
open Go.RowKit Go.Proofs.Ytbomnihiapjmpaa Go.Proofs.Ytbomnihiapjmpaa.Sl Go.Proofs.Ytbomnihiapjmpaa.TrP Go.Proofs.Ytbomnihiapjmpaa.Tb Go.Proofs.Ytbomnihiapjmpaa.Tc Go.Proofs.Ytbomnihiapjmpaa.Td Go.Proofs.Ytbomnihiapjmpaa.Tn Go.Proofs.Ytbomnihiapjmpaa.Tr Go.Proofs.Ytbomnihiapjmpaa.Ts Go.Proofs.Ytbomnihiapjmpaa.Tx Go.Proofs.Ytbomnihiapjmpaa.TC Go.Proofs.Ytbomnihiapjmpaa.TD Go.Proofs.Ytbomnihiapjmpaa.TE Go.Proofs.Ytbomnihiapjmpaa.TG Go.Proofs.Ytbomnihiapjmpaa.TH Go.Proofs.Ytbomnihiapjmpaa.TI Go.Proofs.Ytbomnihiapjmpaa.TJ Go.Proofs.Ytbomnihiapjmpaa.TK Go.Proofs.Ytbomnihiapjmpaa.TL Go.Proofs.Ytbomnihiapjmpaa.TM
set_option linter.unusedVariables false
set_option linter.unusedSimpArgs false
set_option linter.unusedSectionVars false


set_option maxRecDepth 100000 in
set_option maxHeartbeats 2000000 in
theorem proper1_does (k0 k : Int) (hk : KO k0 k) (x : Sp) (hx0 : x.key.size ≤ 2147483647) (kd val lim : Int) (h8 : kd ≠ 8) (h9 : kd ≠ 9) : Does Try.prog 34 [.int .i64 (k0), .agg #[.int .i64 (kd), .string x.key, .string x.fin, .bool (x.one), .int .i64 (x.lo), .int .i64 (x.hi), .int .i64 (val), .int .i64 (lim), .slice none 0 0, .slice none 0 0]] [] (fun v L => ∃ b, v = .bool b ∧ (b = true → spB k x) ∧ L = []) := by
  refine Does.enter 44 Try.func34 rfl rfl rfl fun W F => ?_
  show WPc _ _ _ _ _ [(0, .int .i64 (k0)), (1, .agg #[.int .i64 (kd), .string x.key, .string x.fin, .bool (x.one), .int .i64 (x.lo), .int .i64 (x.hi), .int .i64 (val), .int .i64 (lim), .slice none 0 0, .slice none 0 0])] (F)
  refine WPc.seq ?_
  refine WPc.region ?_
  refine WP.eff rfl rfl rfl (Eff.box (C := [.int .i64 (kd), .string x.key, .string x.fin, .bool (x.one), .int .i64 (x.lo), .int .i64 (x.hi), .int .i64 (val), .int .i64 (lim), .slice none 0 0, .slice none 0 0]) rfl rfl rfl) ?_
  rintro _ F ⟨b1, rfl, rfl⟩
  refine WP.val rfl rfl rfl (Val.assign rfl rfl) ?_
  refine WP.nil ?_
  refine Out.next ?_
  refine WPc.seq ?_
  refine WPc.seq ?_
  refine WPc.region ?_
  refine WP.val rfl rfl rfl (Val.fieldAddr (j := 8) rfl Ty.fo60_4 rfl rfl) ?_
  refine WP.val rfl rfl rfl (Val.load rfl Ty.sc57 rfl (fun w h => h.cell 0 rfl rfl)) ?_
  refine WP.val rfl rfl rfl (Val.len rfl Ty.sl57 rfl) ?_
  refine WP.val rfl rfl rfl (Val.boolK (q := false) (Val.gtr rfl rfl rfl) (by decide)) ?_
  refine WP.val rfl rfl rfl (Val.move rfl rfl) ?_
  refine WP.valG rfl rfl rfl rfl rfl rfl rfl (Val.fieldAddr (j := 9) rfl Ty.fo60_5 rfl rfl) ?_
  refine WP.valG rfl rfl rfl rfl rfl rfl rfl (Val.load rfl Ty.sc58 rfl (fun w h => h.cell 0 rfl rfl)) ?_
  refine WP.valG rfl rfl rfl rfl rfl rfl rfl (Val.len rfl Ty.sl58 rfl) ?_
  refine WP.valG rfl rfl rfl rfl rfl rfl rfl (Val.fieldAddr (j := 8) rfl Ty.fo60_4 rfl rfl) ?_
  refine WP.valG rfl rfl rfl rfl rfl rfl rfl (Val.load rfl Ty.sc57 rfl (fun w h => h.cell 0 rfl rfl)) ?_
  refine WP.valG rfl rfl rfl rfl rfl rfl rfl (Val.len rfl Ty.sl57 rfl) ?_
  refine WP.valG rfl rfl rfl rfl rfl rfl rfl (Val.boolK (q := false) (Val.neq rfl rfl rfl) (by decide)) ?_
  refine WP.val rfl rfl rfl (Val.pickF rfl rfl rfl) ?_
  refine WP.nil ?_
  refine Out.next ?_
  refine WPc.condF rfl rfl ?_
  refine WPc.skip ?_
  refine Out.next ?_
  refine WPc.seq ?_
  refine WPc.seq ?_
  refine WPc.region ?_
  refine WP.val rfl rfl rfl (Val.fieldAddr (j := 0) rfl Ty.fo60_0 rfl rfl) ?_
  refine WP.val rfl rfl rfl (Val.load rfl Ty.sc3 rfl (fun w h => h.cell 0 rfl rfl)) ?_
  refine WP.val rfl rfl rfl (Val.eql rfl rfl rfl) ?_
  refine WP.val rfl rfl rfl (Val.move rfl rfl) ?_
  refine WP.split 23 rfl (fun h1 => ?_) (fun h1 => ?_)
  · skip
    have h1 : (kd = (8 : Int)) := h1
    exfalso; omega
  · skip
    have h1 : ¬ (kd = (8 : Int)) := h1
    refine WP.valG rfl rfl rfl rfl rfl rfl rfl (Val.fieldAddr (j := 0) rfl Ty.fo60_0 rfl rfl) ?_
    refine WP.valG rfl rfl rfl rfl rfl rfl rfl (Val.load rfl Ty.sc3 rfl (fun w h => h.cell 0 rfl rfl)) ?_
    refine WP.valG rfl rfl rfl rfl rfl rfl rfl (Val.eql rfl rfl rfl) ?_
    refine WP.val rfl rfl rfl (Val.pickF rfl rfl rfl) ?_
    refine WP.nil ?_
    refine Out.next ?_
    refine WPc.ifP rfl (fun h2 => ?_) (fun h2 => ?_)
    · skip
      have h2 : (kd = (9 : Int)) := h2
      exfalso; omega
    · skip
      have h2 : ¬ (kd = (9 : Int)) := h2
      refine WPc.skip ?_
      refine Out.next ?_
      refine WPc.seq ?_
      refine WPc.seq ?_
      refine WPc.region ?_
      refine WP.val rfl rfl rfl (Val.fieldAddr (j := 1) rfl Ty.fo60_1 rfl rfl) ?_
      refine WP.val rfl rfl rfl (Val.loadAgg (cs := [.string x.key, .string x.fin, .bool (x.one), .int .i64 (x.lo), .int .i64 (x.hi)]) rfl Ty.ag56 rfl rfl (fun w h => h.range 0 rfl rfl)) ?_
      refine WP.eff rfl rfl rfl (Eff.mkSlice (C := [.string x.key, .string x.fin, .bool (x.one), .int .i64 (x.lo), .int .i64 (x.hi)]) rfl Ty.sl57 rfl (fun _ => by kernel_rfl)) ?_
      rintro _ _ ⟨b2, rfl, rfl⟩
      refine WP.conv (fun w h => own_one1 h) ?_
      show WP _ _ _ _ _ _ _ (Own 56 5 (.slice (some ⟨b2, 0, none⟩) 1 1) 1 ([.string x.key, .string x.fin, .bool (x.one), .int .i64 (x.lo), .int .i64 (x.hi)]) :: Blk b1 [.int .i64 (kd), .string x.key, .string x.fin, .bool (x.one), .int .i64 (x.lo), .int .i64 (x.hi), .int .i64 (val), .int .i64 (lim), .slice none 0 0, .slice none 0 0] 60 :: F)
      refine WP.val rfl rfl rfl (Val.fieldAddr (j := 8) rfl Ty.fo60_4 rfl rfl) ?_
      refine WP.val rfl rfl rfl (Val.load rfl Ty.sc57 rfl (fun w h => h.cell 1 rfl rfl)) ?_
      refine WP.eff rfl rfl rfl (Eff.append (m := 0) (n0 := 1) (news := ([] : List Value)) rfl Ty.sl57 Ty.z56 rfl rfl rfl (.nil Ty.sl57) (by omega) (by omega)) ?_
      rintro v3 _ ⟨onev3, rfl⟩
      refine WP.val rfl rfl rfl (Val.lenOwn rfl Ty.sl57 rfl (fun w h => h.at 0 rfl)) ?_
      refine WP.val rfl rfl rfl (Val.move rfl rfl) ?_
      refine WP.nil ?_
      refine Out.next ?_
      refine WPc.block ?_
      refine WPc.open (fun w h => h.ownPos (by omega)) ?_
      rintro ⟨g4, cg4, spg4⟩
      refine WPc.pure (fun hvg4 => ?_)
      obtain ⟨rfl, hng4, hlg4, hsg4, hcg4⟩ := hvg4
      dsimp only at hng4 hlg4 hsg4 hcg4
      show WPc _ _ _ _ _ _ (Blk g4 (([.string x.key, .string x.fin, .bool (x.one), .int .i64 (x.lo), .int .i64 (x.hi)]) ++ (([] : List Value)) ++ spg4) 56 :: Blk b1 [.int .i64 (kd), .string x.key, .string x.fin, .bool (x.one), .int .i64 (x.lo), .int .i64 (x.hi), .int .i64 (val), .int .i64 (lim), .slice none 0 0, .slice none 0 0] 60 :: F)
      refine WPc.loop (ι := Nat) (fun i => i ≤ 1 ∧ (i = 1 → spB k x)) (fun i => [(0, .int .i64 (k0)), (33, .slice (some ⟨g4, 0, none⟩) (1 + 0) cg4), (34, .int .i64 (((1 : Nat) : Int))), (35, .int .i64 (((i : Nat) : Int)))]) (fun i => Blk g4 (([.string x.key, .string x.fin, .bool (x.one), .int .i64 (x.lo), .int .i64 (x.hi)]) ++ (([] : List Value)) ++ spg4) 56 :: Blk b1 [.int .i64 (kd), .string x.key, .string x.fin, .bool (x.one), .int .i64 (x.lo), .int .i64 (x.hi), .int .i64 (val), .int .i64 (lim), .slice none 0 0, .slice none 0 0] 60 :: F) (fun i => 1 - i) 0 ⟨by omega, fun h => by cases h⟩ ((Sub.cons rfl (Sub.cons rfl (Sub.cons rfl (Sub.cons rfl Sub.nil))))) (fun _ h => h) ?_
      rintro i ⟨hi, hsp⟩
      show WPc _ _ _ _ _ [(0, .int .i64 (k0)), (33, .slice (some ⟨g4, 0, none⟩) (1 + 0) cg4), (34, .int .i64 (((1 : Nat) : Int))), (35, .int .i64 (((i : Nat) : Int)))] (Blk g4 (([.string x.key, .string x.fin, .bool (x.one), .int .i64 (x.lo), .int .i64 (x.hi)]) ++ (([] : List Value)) ++ spg4) 56 :: Blk b1 [.int .i64 (kd), .string x.key, .string x.fin, .bool (x.one), .int .i64 (x.lo), .int .i64 (x.hi), .int .i64 (val), .int .i64 (lim), .slice none 0 0, .slice none 0 0] 60 :: F)
      replace hi : i ≤ 1 := hi
      replace hsp : i = 1 → spB k x := hsp
      refine WPc.seq ?_
      refine WPc.region ?_
      refine WP.val rfl rfl rfl (Val.lss rfl rfl rfl) ?_
      refine WP.nil ?_
      refine Out.next ?_
      refine WPc.seq ?_
      refine WPc.ifP rfl (fun h3 => ?_) (fun h3 => ?_)
      · skip
        have h3 : (((i : Nat) : Int) < ((1 : Nat) : Int)) := h3
        refine WPc.skip ?_
        refine Out.next ?_
        refine WPc.seq ?_
        refine WPc.block ?_
        refine WPc.seq ?_
        refine WPc.region ?_
        refine WP.val rfl rfl rfl (Val.indexAddr (j := i) (q := i * 5) rfl Ty.sl57 rfl rfl (by omega) (by omega) (by omega)) ?_
        refine WP.val rfl rfl rfl (Val.loadAgg (cs := (Sp.cells x)) rfl Ty.ag56 rfl (by rfl) (fun w h => h.range 0 rfl (by have e0 : i = 0 := (by omega); subst e0; rfl))) ?_
        refine WP.eff rfl rfl rfl (Eff.alloc rfl Ty.z56) ?_
        rintro _ _ ⟨b5, rfl, rfl⟩
        refine WP.eff0 rfl rfl (Eff.storeAgg (cs := [.string x.key, .string x.fin, .bool (x.one), .int .i64 (x.lo), .int .i64 (x.hi)]) (C' := [.string x.key, .string x.fin, .bool (x.one), .int .i64 (x.lo), .int .i64 (x.hi)]) rfl Ty.ag56 rfl rfl rfl rfl (by simp) rfl) ?_
        rintro _ _ rfl
        refine WP.nil ?_
        refine Out.next ?_
        refine WPc.seq ?_
        refine WPc.region ?_
        refine WP.val rfl rfl rfl (Val.move rfl rfl) ?_
        refine WP.val rfl rfl rfl (Val.loadAgg (cs := [.string x.key, .string x.fin, .bool (x.one), .int .i64 (x.lo), .int .i64 (x.hi)]) rfl Ty.ag56 rfl rfl (fun w h => h.range 0 rfl rfl)) ?_
        refine WP.eff rfl rfl rfl (Eff.call rfl rfl Try.call73 (spanOf_does k0 k hk x hx0)) ?_
        rintro _ _ ⟨_, ⟨b, rfl, hb, rfl⟩, rfl⟩
        show WP _ _ _ _ _ _ _ (Blk b5 [.string x.key, .string x.fin, .bool (x.one), .int .i64 (x.lo), .int .i64 (x.hi)] 56 :: Blk g4 (([.string x.key, .string x.fin, .bool (x.one), .int .i64 (x.lo), .int .i64 (x.hi)]) ++ (([] : List Value)) ++ spg4) 56 :: Blk b1 [.int .i64 (kd), .string x.key, .string x.fin, .bool (x.one), .int .i64 (x.lo), .int .i64 (x.hi), .int .i64 (val), .int .i64 (lim), .slice none 0 0, .slice none 0 0] 60 :: F)
        refine WP.val rfl rfl rfl (Val.not rfl rfl) ?_
        refine WP.nil ?_
        refine Out.next ?_
        refine WPc.cond rfl (fun h4 => ?_) (fun h4 => ?_)
        · skip
          have h4 : (!b) = true := h4
          refine WPc.seq ?_
          refine WPc.region ?_
          refine WP.val rfl rfl rfl (Val.assign rfl rfl) ?_
          refine WP.nil ?_
          refine Out.next ?_
          refine WPc.ret ?_
          refine Out.block_ret ?_
          refine Out.then_ret ?_
          refine Out.then_ret ?_
          refine Out.block_ret ?_
          refine Out.then_ret ?_
          refine Out.drop ?_
          refine Out.drop ?_
          refine Out.drop ?_
          exact Out.ret1 (L' := []) Try.results34 rfl ⟨_, rfl, (fun h => by cases h), rfl⟩ (fun w h => h)
        · skip
          have h4 : (!b) = false := h4
          refine WPc.skip ?_
          refine Out.block ?_
          refine Out.next ?_
          refine WPc.region ?_
          refine WP.val rfl rfl rfl (Val.add (z := ((i + 1 : Nat) : Int)) rfl rfl rfl ((w64 (by omega) (by omega)).trans (by omega))) ?_
          refine WP.val rfl rfl rfl (Val.move rfl rfl) ?_
          refine WP.nil ?_
          refine Out.drop ?_
          refine Out.again (i + 1) ?_ ?_ ?_ ?_
          · exact ⟨by show i + 1 ≤ 1; omega, fun _ => hb (by simpa using ‹(!b) = false›)⟩
          · (first | omega | (dsimp only; omega))
          · exact (Sub.cons rfl (Sub.cons rfl (Sub.cons rfl (Sub.cons rfl Sub.nil))))
          · exact (fun _ h => h)
      · skip
        have h3 : ¬ (((i : Nat) : Int) < ((1 : Nat) : Int)) := h3
        refine WPc.exit ?_
        refine Out.then_exit ?_
        refine Out.then_exit ?_
        refine Out.block_exit ?_
        refine Out.next ?_
        refine WPc.seq ?_
        refine WPc.region ?_
        refine WP.val rfl rfl rfl (Val.assign rfl rfl) ?_
        refine WP.nil ?_
        refine Out.next ?_
        refine WPc.ret ?_
        refine Out.drop ?_
        refine Out.drop ?_
        exact Out.ret1 (L' := []) Try.results34 rfl ⟨_, rfl, (fun _ => hsp (by omega)), rfl⟩ (fun w h => h)

end Go.Proofs.Ytbomnihiapjmpaa.TN

namespace Go.Proofs.Ytbomnihiapjmpaa.TO
open Go.RowKit Go.Proofs.Ytbomnihiapjmpaa Go.Proofs.Ytbomnihiapjmpaa.Sl Go.Proofs.Ytbomnihiapjmpaa.TrP Go.Proofs.Ytbomnihiapjmpaa.Tb Go.Proofs.Ytbomnihiapjmpaa.Tc Go.Proofs.Ytbomnihiapjmpaa.Td Go.Proofs.Ytbomnihiapjmpaa.Tn Go.Proofs.Ytbomnihiapjmpaa.Tr Go.Proofs.Ytbomnihiapjmpaa.Ts Go.Proofs.Ytbomnihiapjmpaa.Tx Go.Proofs.Ytbomnihiapjmpaa.TC Go.Proofs.Ytbomnihiapjmpaa.TD Go.Proofs.Ytbomnihiapjmpaa.TE Go.Proofs.Ytbomnihiapjmpaa.TG Go.Proofs.Ytbomnihiapjmpaa.TH Go.Proofs.Ytbomnihiapjmpaa.TI Go.Proofs.Ytbomnihiapjmpaa.TJ Go.Proofs.Ytbomnihiapjmpaa.TK Go.Proofs.Ytbomnihiapjmpaa.TL Go.Proofs.Ytbomnihiapjmpaa.TM Go.Proofs.Ytbomnihiapjmpaa.TN
set_option linter.unusedVariables false
set_option linter.unusedSimpArgs false
set_option linter.unusedSectionVars false



theorem sp_one {l : List Sp} {sp : List Value} {i : Nat} {y : Sp} (h : l[i]? = some y) : (flatOf Sp.cells l ++ sp)[i * 5 + 2]? = some (.bool y.one) := by
  have hlt := (List.getElem?_eq_some_iff.1 h).1
  rw [List.getElem?_append_left (by rw [flatOf_length Sp.len]; omega), flatOf_at Sp.len l i 2 y h (by omega)]
  rfl
theorem iv_at {l : List Int} {sp : List Value} {i : Nat} {y : Int} (h : l[i]? = some y) : (flatOf iv l ++ sp)[i]? = some (.int .i64 y) := by
  have hlt := (List.getElem?_eq_some_iff.1 h).1
  have h2 := flatOf_at iv_len l i 0 y h (by omega)
  rw [Nat.mul_one, Nat.add_zero] at h2
  rw [List.getElem?_append_left (by rw [flatOf_length iv_len]; omega), h2]
  rfl
set_option maxRecDepth 100000 in
set_option maxHeartbeats 2000000 in
theorem same_ans (k0 k : Int) (hk : KO k0 k) (ok : Bool) (n m1 m2 : Int) (la lb : List Sp) (va : List Int) (lv vv lw vw : Value) (hla : la.length ≤ 1000000) (hva : va.length ≤ 1000000) (hll : la.length = lb.length) (hpt : ∀ y ∈ la, y.one = false) (hsm : ∀ (i : Nat) (y z : Sp), la[i]? = some y → lb[i]? = some z → same k y z) (hka : ∀ y ∈ la, y.key.size ≤ 2147483647) (hkb : ∀ y ∈ lb, y.key.size ≤ 2147483647) : Does Try.prog 30 [.int .i64 (k0), .agg #[.bool (ok), .int .i64 (n), .int .i64 (m1), lv, vv], .agg #[.bool (ok), .int .i64 (n), .int .i64 (m2), lw, vw]] [Seq lv la.length ((flatOf Sp.cells la)), Seq vv va.length ((flatOf iv va)), Seq lw lb.length ((flatOf Sp.cells lb)), Seq vw va.length ((flatOf iv va))] (fun v L => v = .bool true ∧ L = []) := by
  refine Does.fact (fun W w F h => seq_oneCell h) (fun h1 => ?_)
  refine Does.fact (fun W w F h => seq_oneCell (h.perm pl1)) (fun h2 => ?_)
  refine Does.fact (fun W w F h => seq_oneCell (h.perm pl2)) (fun h3 => ?_)
  refine Does.fact (fun W w F h => seq_oneCell (h.perm pl3)) (fun h4 => ?_)
  refine Does.enter 86 Try.func30 rfl rfl rfl fun W F => ?_
  show WPc _ _ _ _ _ [(0, .int .i64 (k0)), (1, .agg #[.bool (ok), .int .i64 (n), .int .i64 (m1), lv, vv]), (2, .agg #[.bool (ok), .int .i64 (n), .int .i64 (m2), lw, vw])] (Seq lv la.length ((flatOf Sp.cells la)) :: Seq vv va.length ((flatOf iv va)) :: Seq lw lb.length ((flatOf Sp.cells lb)) :: Seq vw va.length ((flatOf iv va)) :: F)
  refine WPc.seq ?_
  refine WPc.region ?_
  refine WP.eff rfl rfl rfl (Eff.box (C := [.bool (ok), .int .i64 (n), .int .i64 (m1), lv, vv]) rfl rfl rfl) ?_
  rintro _ _ ⟨b1, rfl, rfl⟩
  refine WP.eff rfl rfl rfl (Eff.box (C := [.bool (ok), .int .i64 (n), .int .i64 (m2), lw, vw]) rfl rfl rfl) ?_
  rintro _ _ ⟨b2, rfl, rfl⟩
  refine WP.val rfl rfl rfl (Val.assign rfl rfl) ?_
  refine WP.nil ?_
  refine Out.next ?_
  refine WPc.seq ?_
  refine WPc.seq ?_
  refine WPc.region ?_
  refine WP.val rfl rfl rfl (Val.fieldAddr (j := 0) rfl Ty.fo62_0 rfl rfl) ?_
  refine WP.val rfl rfl rfl (Val.load rfl Ty.sc4 rfl (fun w h => h.cell 1 rfl rfl)) ?_
  refine WP.val rfl rfl rfl (Val.fieldAddr (j := 0) rfl Ty.fo62_0 rfl rfl) ?_
  refine WP.val rfl rfl rfl (Val.load rfl Ty.sc4 rfl (fun w h => h.cell 0 rfl rfl)) ?_
  refine WP.val rfl rfl rfl (Val.neqB rfl Ty2.bo4 rfl rfl) ?_
  refine WP.val rfl rfl rfl (Val.move rfl rfl) ?_
  refine WP.splitB 14 rfl (fun h1 => ?_) (fun h1 => ?_)
  · skip
    exact absurd h1 (by simp)
  · skip
    refine WP.valG rfl rfl rfl rfl rfl rfl rfl (Val.fieldAddr (j := 1) rfl Ty.fo62_1 rfl rfl) ?_
    refine WP.valG rfl rfl rfl rfl rfl rfl rfl (Val.load rfl Ty.sc3 rfl (fun w h => h.cell 1 rfl rfl)) ?_
    refine WP.valG rfl rfl rfl rfl rfl rfl rfl (Val.fieldAddr (j := 1) rfl Ty.fo62_1 rfl rfl) ?_
    refine WP.valG rfl rfl rfl rfl rfl rfl rfl (Val.load rfl Ty.sc3 rfl (fun w h => h.cell 0 rfl rfl)) ?_
    refine WP.valG rfl rfl rfl rfl rfl rfl rfl (Val.neq rfl rfl rfl) ?_
    refine WP.val rfl rfl rfl (Val.pickF rfl rfl rfl) ?_
    refine WP.val rfl rfl rfl (Val.move rfl rfl) ?_
    refine WP.split 21 rfl (fun h2 => ?_) (fun h2 => ?_)
    · skip
      have h2 : (n ≠ n) := h2
      exact absurd rfl h2
    · skip
      have h2 : ¬ (n ≠ n) := h2
      refine WP.valG rfl rfl rfl rfl rfl rfl rfl (Val.fieldAddr (j := 3) rfl Ty.fo62_3 rfl rfl) ?_
      refine WP.valG rfl rfl rfl rfl rfl rfl rfl (Val.load rfl Ty.sc57 rfl (fun w h => h.cell 1 rfl rfl)) ?_
      refine WP.valG rfl rfl rfl rfl rfl rfl rfl (Val.lenSeq rfl Ty.sl57 rfl (fun w h => h.at 2 rfl)) ?_
      refine WP.valG rfl rfl rfl rfl rfl rfl rfl (Val.fieldAddr (j := 3) rfl Ty.fo62_3 rfl rfl) ?_
      refine WP.valG rfl rfl rfl rfl rfl rfl rfl (Val.load rfl Ty.sc57 rfl (fun w h => h.cell 0 rfl rfl)) ?_
      refine WP.valG rfl rfl rfl rfl rfl rfl rfl (Val.lenSeq rfl Ty.sl57 rfl (fun w h => h.at 4 rfl)) ?_
      refine WP.valG rfl rfl rfl rfl rfl rfl rfl (Val.neq rfl rfl rfl) ?_
      refine WP.val rfl rfl rfl (Val.pickF rfl rfl rfl) ?_
      refine WP.val rfl rfl rfl (Val.move rfl rfl) ?_
      refine WP.split 30 rfl (fun h3 => ?_) (fun h3 => ?_)
      · skip
        have h3 : (((la.length : Nat) : Int) ≠ ((lb.length : Nat) : Int)) := h3
        exfalso; omega
      · skip
        have h3 : ¬ (((la.length : Nat) : Int) ≠ ((lb.length : Nat) : Int)) := h3
        refine WP.valG rfl rfl rfl rfl rfl rfl rfl (Val.fieldAddr (j := 4) rfl Ty.fo62_4 rfl rfl) ?_
        refine WP.valG rfl rfl rfl rfl rfl rfl rfl (Val.load rfl Ty.sc58 rfl (fun w h => h.cell 1 rfl rfl)) ?_
        refine WP.valG rfl rfl rfl rfl rfl rfl rfl (Val.lenSeq rfl Ty.sl58 rfl (fun w h => h.at 3 rfl)) ?_
        refine WP.valG rfl rfl rfl rfl rfl rfl rfl (Val.fieldAddr (j := 4) rfl Ty.fo62_4 rfl rfl) ?_
        refine WP.valG rfl rfl rfl rfl rfl rfl rfl (Val.load rfl Ty.sc58 rfl (fun w h => h.cell 0 rfl rfl)) ?_
        refine WP.valG rfl rfl rfl rfl rfl rfl rfl (Val.lenSeq rfl Ty.sl58 rfl (fun w h => h.at 5 rfl)) ?_
        refine WP.valG rfl rfl rfl rfl rfl rfl rfl (Val.neq rfl rfl rfl) ?_
        refine WP.val rfl rfl rfl (Val.pickF rfl rfl rfl) ?_
        refine WP.nil ?_
        refine Out.next ?_
        refine WPc.ifP rfl (fun h4 => ?_) (fun h4 => ?_)
        · skip
          have h4 : (((va.length : Nat) : Int) ≠ ((va.length : Nat) : Int)) := h4
          exact absurd rfl h4
        · skip
          have h4 : ¬ (((va.length : Nat) : Int) ≠ ((va.length : Nat) : Int)) := h4
          refine WPc.skip ?_
          refine Out.next ?_
          refine WPc.seq ?_
          refine WPc.seq ?_
          refine WPc.region ?_
          refine WP.val rfl rfl rfl (Val.fieldAddr (j := 3) rfl Ty.fo62_3 rfl rfl) ?_
          refine WP.val rfl rfl rfl (Val.load rfl Ty.sc57 rfl (fun w h => h.cell 1 rfl rfl)) ?_
          refine WP.val rfl rfl rfl (Val.lenSeq rfl Ty.sl57 rfl (fun w h => h.at 2 rfl)) ?_
          refine WP.val rfl rfl rfl (Val.move rfl rfl) ?_
          refine WP.nil ?_
          refine Out.next ?_
          refine WPc.block ?_
          refine WPc.loop (ι := Nat) (fun i => i ≤ la.length) (fun i => [(0, .int .i64 (k0)), (4, .pointer (some ⟨b1, 0, none⟩)), (5, .pointer (some ⟨b2, 0, none⟩)), (6, .bool false), (41, .int .i64 (((la.length : Nat) : Int))), (42, .int .i64 (((i : Nat) : Int)))]) (fun i => Blk b2 [.bool (ok), .int .i64 (n), .int .i64 (m2), lw, vw] 62 :: Blk b1 [.bool (ok), .int .i64 (n), .int .i64 (m1), lv, vv] 62 :: Seq lv la.length ((flatOf Sp.cells la)) :: Seq vv va.length ((flatOf iv va)) :: Seq lw lb.length ((flatOf Sp.cells lb)) :: Seq vw va.length ((flatOf iv va)) :: F) (fun i => la.length - i) 0 (Nat.zero_le _) ((Sub.cons rfl (Sub.cons rfl (Sub.cons rfl (Sub.cons rfl (Sub.cons rfl (Sub.cons rfl Sub.nil))))))) (fun _ h => h) ?_
          rintro i hi
          show WPc _ _ _ _ _ [(0, .int .i64 (k0)), (4, .pointer (some ⟨b1, 0, none⟩)), (5, .pointer (some ⟨b2, 0, none⟩)), (6, .bool false), (41, .int .i64 (((la.length : Nat) : Int))), (42, .int .i64 (((i : Nat) : Int)))] (Blk b2 [.bool (ok), .int .i64 (n), .int .i64 (m2), lw, vw] 62 :: Blk b1 [.bool (ok), .int .i64 (n), .int .i64 (m1), lv, vv] 62 :: Seq lv la.length ((flatOf Sp.cells la)) :: Seq vv va.length ((flatOf iv va)) :: Seq lw lb.length ((flatOf Sp.cells lb)) :: Seq vw va.length ((flatOf iv va)) :: F)
          replace hi : i ≤ la.length := hi
          refine WPc.seq ?_
          refine WPc.region ?_
          refine WP.val rfl rfl rfl (Val.lss rfl rfl rfl) ?_
          refine WP.nil ?_
          refine Out.next ?_
          refine WPc.seq ?_
          refine WPc.ifP rfl (fun h5 => ?_) (fun h5 => ?_)
          · skip
            have h5 : (((i : Nat) : Int) < ((la.length : Nat) : Int)) := h5
            refine WPc.skip ?_
            refine Out.next ?_
            refine WPc.seq ?_
            refine WPc.block ?_
            refine WPc.seq ?_
            refine WPc.region ?_
            refine WP.val rfl rfl rfl (Val.move rfl rfl) ?_
            refine WP.val rfl rfl rfl (Val.assign rfl rfl) ?_
            refine WP.nil ?_
            refine Out.next ?_
            refine WPc.seq ?_
            obtain ⟨y, hy⟩ : ∃ y, la[i]? = some y := ⟨_, List.getElem?_eq_getElem (by omega)⟩
            obtain ⟨z, hz⟩ : ∃ z, lb[i]? = some z := ⟨_, List.getElem?_eq_getElem (by omega)⟩
            have hyo := hpt y (List.mem_of_getElem? hy)
            have hss := hsm i y z hy hz
            refine WPc.perm pl2 ?_
            refine WPc.open (fun w h => h.seqOpen (by omega)) ?_
            rintro ⟨g3, cg3, spg3, Tg3⟩
            refine WPc.pure (fun hvg3 => ?_)
            obtain ⟨rfl, hcg3⟩ := hvg3
            dsimp only at hcg3
            show WPc _ _ _ _ _ _ (Ro (Blk g3 ((flatOf Sp.cells la) ++ spg3) Tg3) :: Seq (.slice (some ⟨g3, 0, none⟩) la.length cg3) la.length ((flatOf Sp.cells la)) :: Blk b2 [.bool (ok), .int .i64 (n), .int .i64 (m2), lw, vw] 62 :: Blk b1 [.bool (ok), .int .i64 (n), .int .i64 (m1), .slice (some ⟨g3, 0, none⟩) la.length cg3, vv] 62 :: Seq vv va.length ((flatOf iv va)) :: Seq lw lb.length ((flatOf Sp.cells lb)) :: Seq vw va.length ((flatOf iv va)) :: F)
            refine WPc.perm pl5 ?_
            refine WPc.open (fun w h => h.seqOpen (by omega)) ?_
            rintro ⟨g4, cg4, spg4, Tg4⟩
            refine WPc.pure (fun hvg4 => ?_)
            obtain ⟨rfl, hcg4⟩ := hvg4
            dsimp only at hcg4
            show WPc _ _ _ _ _ _ (Ro (Blk g4 ((flatOf Sp.cells lb) ++ spg4) Tg4) :: Seq (.slice (some ⟨g4, 0, none⟩) lb.length cg4) lb.length ((flatOf Sp.cells lb)) :: Ro (Blk g3 ((flatOf Sp.cells la) ++ spg3) Tg3) :: Seq (.slice (some ⟨g3, 0, none⟩) la.length cg3) la.length ((flatOf Sp.cells la)) :: Blk b2 [.bool (ok), .int .i64 (n), .int .i64 (m2), .slice (some ⟨g4, 0, none⟩) lb.length cg4, vw] 62 :: Blk b1 [.bool (ok), .int .i64 (n), .int .i64 (m1), .slice (some ⟨g3, 0, none⟩) la.length cg3, vv] 62 :: Seq vv va.length ((flatOf iv va)) :: Seq vw va.length ((flatOf iv va)) :: F)
            refine WPD.start (Sat W (Ro (Blk g4 ((flatOf Sp.cells lb) ++ spg4) Tg4) :: Seq (.slice (some ⟨g4, 0, none⟩) lb.length cg4) lb.length ((flatOf Sp.cells lb)) :: Ro (Blk g3 ((flatOf Sp.cells la) ++ spg3) Tg3) :: Seq (.slice (some ⟨g3, 0, none⟩) la.length cg3) la.length ((flatOf Sp.cells la)) :: Blk b2 [.bool (ok), .int .i64 (n), .int .i64 (m2), .slice (some ⟨g4, 0, none⟩) lb.length cg4, vw] 62 :: Blk b1 [.bool (ok), .int .i64 (n), .int .i64 (m1), .slice (some ⟨g3, 0, none⟩) la.length cg3, vv] 62 :: Seq vv va.length ((flatOf iv va)) :: Seq vw va.length ((flatOf iv va)) :: F)) Ty.mixed ?_
            refine WPD.takeM 0 rfl rfl rfl rfl (by kernel_rfl) (by kernel_rfl) (by kernel_rfl) (by kernel_rfl) (fun _ _ _ h => h) (fun _ h => h) (Val.fieldAddr (j := 3) rfl Ty.fo62_3 rfl rfl) ?_
            refine WPD.take 1 rfl rfl rfl rfl (by kernel_rfl) (by kernel_rfl) (by kernel_rfl) (by kernel_rfl) (fun _ _ _ h => h) (by kernel_rfl) (fun _ h => h) (Val.load rfl Ty.sc57 rfl (fun w h => h.cell 5 rfl rfl)) ?_
            refine WPD.takeM 2 rfl rfl rfl rfl (by kernel_rfl) (by kernel_rfl) (by kernel_rfl) (by kernel_rfl) (fun _ _ _ h => h) (fun _ h => h) (Val.move rfl rfl) ?_
            refine WPD.takeM 3 rfl rfl rfl rfl (by kernel_rfl) (by kernel_rfl) (by kernel_rfl) (by kernel_rfl) (fun _ _ _ h => h) (fun _ h => h) (Val.indexAddr (j := i) (q := i * 5) rfl Ty.sl57 rfl rfl (by omega) (by omega) (by omega)) ?_
            refine WPD.takeM 4 rfl rfl rfl rfl (by kernel_rfl) (by kernel_rfl) (by kernel_rfl) (by kernel_rfl) (fun _ _ _ h => h) (fun _ h => h) (Val.fieldAddr (j := i * 5) rfl Ty.fo56_0 rfl rfl) ?_
            refine WPD.takeM 5 rfl rfl rfl rfl (by kernel_rfl) (by kernel_rfl) (by kernel_rfl) (by kernel_rfl) (fun _ _ _ h => h) (fun _ h => h) (Val.fieldAddr (j := i * 5 + 2) rfl Ty.fo54_2 rfl rfl) ?_
            refine WPD.take 6 rfl rfl rfl rfl (by kernel_rfl) (by kernel_rfl) (by kernel_rfl) (by kernel_rfl) (fun _ _ _ h => h) (by kernel_rfl) (fun _ h => h) (Val.load (v := .bool (y.one)) rfl Ty.sc4 rfl (fun w h => h.cellRo 2 rfl (sp_one hy))) ?_
            refine WPD.takeM 7 rfl rfl rfl rfl (by kernel_rfl) (by kernel_rfl) (by kernel_rfl) (by kernel_rfl) (fun _ _ _ h => h) (fun _ h => h) (Val.move rfl rfl) ?_
            refine WPD.splitB 52 rfl (fun h6 => ?_) (fun h6 => ?_)
            · skip
              exact absurd h6 (by rw [hyo]; decide)
            · skip
              refine WPD.takeGM 8 rfl rfl rfl rfl rfl rfl rfl rfl (by kernel_rfl) (by kernel_rfl) (by kernel_rfl) (by kernel_rfl) (fun _ _ _ h => h) (fun _ h => h) (Val.move rfl rfl) ?_
              refine WPD.takeGM 9 rfl rfl rfl rfl rfl rfl rfl rfl (by kernel_rfl) (by kernel_rfl) (by kernel_rfl) (by kernel_rfl) (fun _ _ _ h => h) (fun _ h => h) (Val.fieldAddr (j := 3) rfl Ty.fo62_3 rfl rfl) ?_
              refine WPD.takeG 10 rfl rfl rfl rfl rfl rfl rfl rfl (by kernel_rfl) (by kernel_rfl) (by kernel_rfl) (by kernel_rfl) (fun _ _ _ h => h) (by kernel_rfl) (fun _ h => h) (Val.load rfl Ty.sc57 rfl (fun w h => h.cell 5 rfl rfl)) ?_
              refine WPD.takeGM 11 rfl rfl rfl rfl rfl rfl rfl rfl (by kernel_rfl) (by kernel_rfl) (by kernel_rfl) (by kernel_rfl) (fun _ _ _ h => h) (fun _ h => h) (Val.move rfl rfl) ?_
              refine WPD.takeGM 12 rfl rfl rfl rfl rfl rfl rfl rfl (by kernel_rfl) (by kernel_rfl) (by kernel_rfl) (by kernel_rfl) (fun _ _ _ h => h) (fun _ h => h) (Val.indexAddr (j := i) (q := i * 5) rfl Ty.sl57 rfl rfl (by omega) (by omega) (by omega)) ?_
              refine WPD.takeG 13 rfl rfl rfl rfl rfl rfl rfl rfl (by kernel_rfl) (by kernel_rfl) (by kernel_rfl) (by kernel_rfl) (fun _ _ _ h => h) (by kernel_rfl) (fun _ h => h) (Val.loadAgg (cs := (Sp.cells y)) rfl Ty.ag56 rfl (by rfl) (fun w h => h.rangeRo 2 rfl (flatOf_range Sp.len hy))) ?_
              refine WPD.takeGM 14 rfl rfl rfl rfl rfl rfl rfl rfl (by kernel_rfl) (by kernel_rfl) (by kernel_rfl) (by kernel_rfl) (fun _ _ _ h => h) (fun _ h => h) (Val.fieldAddr (j := 3) rfl Ty.fo62_3 rfl rfl) ?_
              refine WPD.takeG 15 rfl rfl rfl rfl rfl rfl rfl rfl (by kernel_rfl) (by kernel_rfl) (by kernel_rfl) (by kernel_rfl) (fun _ _ _ h => h) (by kernel_rfl) (fun _ h => h) (Val.load rfl Ty.sc57 rfl (fun w h => h.cell 4 rfl rfl)) ?_
              refine WPD.takeGM 16 rfl rfl rfl rfl rfl rfl rfl rfl (by kernel_rfl) (by kernel_rfl) (by kernel_rfl) (by kernel_rfl) (fun _ _ _ h => h) (fun _ h => h) (Val.move rfl rfl) ?_
              refine WPD.takeGM 17 rfl rfl rfl rfl rfl rfl rfl rfl (by kernel_rfl) (by kernel_rfl) (by kernel_rfl) (by kernel_rfl) (fun _ _ _ h => h) (fun _ h => h) (Val.indexAddr (j := i) (q := i * 5) rfl Ty.sl57 rfl rfl (by omega) (by omega) (by omega)) ?_
              refine WPD.takeG 18 rfl rfl rfl rfl rfl rfl rfl rfl (by kernel_rfl) (by kernel_rfl) (by kernel_rfl) (by kernel_rfl) (fun _ _ _ h => h) (by kernel_rfl) (fun _ h => h) (Val.loadAgg (cs := (Sp.cells z)) rfl Ty.ag56 rfl (by rfl) (fun w h => h.rangeRo 0 rfl (flatOf_range Sp.len hz))) ?_
              refine WPD.stepGC 19 (by kernel_rfl) rfl rfl rfl rfl rfl rfl rfl rfl (by kernel_rfl) (Eff.call rfl rfl Try.call71 (same_does k0 k hk y z (hka y (List.mem_of_getElem? hy)) (hkb z (List.mem_of_getElem? hz)))) ?_
              rintro _ _ ⟨_, ⟨rfl, rfl⟩, rfl⟩
              refine ⟨(Sat W (Ro (Blk g4 ((flatOf Sp.cells lb) ++ spg4) Tg4) :: Seq (.slice (some ⟨g4, 0, none⟩) lb.length cg4) lb.length ((flatOf Sp.cells lb)) :: Ro (Blk g3 ((flatOf Sp.cells la) ++ spg3) Tg3) :: Seq (.slice (some ⟨g3, 0, none⟩) la.length cg3) la.length ((flatOf Sp.cells la)) :: Blk b2 [.bool (ok), .int .i64 (n), .int .i64 (m2), .slice (some ⟨g4, 0, none⟩) lb.length cg4, vw] 62 :: Blk b1 [.bool (ok), .int .i64 (n), .int .i64 (m1), .slice (some ⟨g3, 0, none⟩) la.length cg3, vv] 62 :: Seq vv va.length ((flatOf iv va)) :: Seq vw va.length ((flatOf iv va)) :: F)), (fun _ h => h), ?_⟩
              show WPD _ _ _ _ _ _ _ _ _ (Ro (Blk g4 ((flatOf Sp.cells lb) ++ spg4) Tg4) :: Seq (.slice (some ⟨g4, 0, none⟩) lb.length cg4) lb.length ((flatOf Sp.cells lb)) :: Ro (Blk g3 ((flatOf Sp.cells la) ++ spg3) Tg3) :: Seq (.slice (some ⟨g3, 0, none⟩) la.length cg3) la.length ((flatOf Sp.cells la)) :: Blk b2 [.bool (ok), .int .i64 (n), .int .i64 (m2), .slice (some ⟨g4, 0, none⟩) lb.length cg4, vw] 62 :: Blk b1 [.bool (ok), .int .i64 (n), .int .i64 (m1), .slice (some ⟨g3, 0, none⟩) la.length cg3, vv] 62 :: Seq vv va.length ((flatOf iv va)) :: Seq vw va.length ((flatOf iv va)) :: F)
              refine WPD.takeGM 20 rfl rfl rfl rfl rfl rfl rfl rfl (by kernel_rfl) (by kernel_rfl) (by kernel_rfl) (by kernel_rfl) (fun _ _ _ h => h) (fun _ h => h) (Val.notP rfl rfl) ?_
              refine WPD.takeM 21 rfl rfl rfl rfl (by kernel_rfl) (by kernel_rfl) (by kernel_rfl) (by kernel_rfl) (fun _ _ _ h => h) (fun _ h => h) (Val.pickF rfl rfl rfl) ?_
              refine WPD.done (by kernel_rfl) ?_
              refine Out.next ?_
              refine WPc.ifP rfl (fun h7 => ?_) (fun h7 => ?_)
              · skip
                have h7 : (¬ (same k y z)) := h7
                exact absurd hss h7
              · skip
                have h7 : ¬ (¬ (same k y z)) := h7
                refine WPc.skip ?_
                refine Out.block ?_
                refine Out.next ?_
                refine WPc.region ?_
                refine WP.val rfl rfl rfl (Val.add (z := ((i + 1 : Nat) : Int)) rfl rfl rfl ((w64 (by omega) (by omega)).trans (by omega))) ?_
                refine WP.val rfl rfl rfl (Val.move rfl rfl) ?_
                refine WP.nil ?_
                refine Out.drop ?_
                refine Out.perm pl1 ?_
                refine Out.drop ?_
                refine Out.perm pl5 ?_
                refine Out.perm pl1 ?_
                refine Out.perm pl5 ?_
                refine Out.perm pl3 ?_
                refine Out.perm pl5 ?_
                refine Out.perm pl5 ?_
                refine Out.again (i + 1) ?_ ?_ ?_ ?_
                · exact (by show i + 1 ≤ la.length; omega)
                · (first | omega | (dsimp only; omega))
                · exact (Sub.cons rfl (Sub.cons rfl (Sub.cons rfl (Sub.cons rfl (Sub.cons rfl (Sub.cons rfl Sub.nil))))))
                · exact (fun _ h => h)
          · skip
            have h5 : ¬ (((i : Nat) : Int) < ((la.length : Nat) : Int)) := h5
            refine WPc.exit ?_
            refine Out.then_exit ?_
            refine Out.then_exit ?_
            refine Out.block_exit ?_
            refine Out.next ?_
            refine WPc.seq ?_
            refine WPc.seq ?_
            refine WPc.region ?_
            refine WP.val rfl rfl rfl (Val.fieldAddr (j := 4) rfl Ty.fo62_4 rfl rfl) ?_
            refine WP.val rfl rfl rfl (Val.load rfl Ty.sc58 rfl (fun w h => h.cell 1 rfl rfl)) ?_
            refine WP.val rfl rfl rfl (Val.lenSeq rfl Ty.sl58 rfl (fun w h => h.at 3 rfl)) ?_
            refine WP.val rfl rfl rfl (Val.move rfl rfl) ?_
            refine WP.nil ?_
            refine Out.next ?_
            refine WPc.block ?_
            refine WPc.loop (ι := Nat) (fun i => i ≤ va.length) (fun i => [(0, .int .i64 (k0)), (4, .pointer (some ⟨b1, 0, none⟩)), (5, .pointer (some ⟨b2, 0, none⟩)), (6, .bool false), (70, .int .i64 (((va.length : Nat) : Int))), (71, .int .i64 (((i : Nat) : Int)))]) (fun i => Blk b2 [.bool (ok), .int .i64 (n), .int .i64 (m2), lw, vw] 62 :: Blk b1 [.bool (ok), .int .i64 (n), .int .i64 (m1), lv, vv] 62 :: Seq lv la.length ((flatOf Sp.cells la)) :: Seq vv va.length ((flatOf iv va)) :: Seq lw lb.length ((flatOf Sp.cells lb)) :: Seq vw va.length ((flatOf iv va)) :: F) (fun i => va.length - i) 0 (Nat.zero_le _) ((Sub.cons rfl (Sub.cons rfl (Sub.cons rfl (Sub.cons rfl (Sub.cons rfl (Sub.cons rfl Sub.nil))))))) (fun _ h => h) ?_
            rintro i hi
            show WPc _ _ _ _ _ [(0, .int .i64 (k0)), (4, .pointer (some ⟨b1, 0, none⟩)), (5, .pointer (some ⟨b2, 0, none⟩)), (6, .bool false), (70, .int .i64 (((va.length : Nat) : Int))), (71, .int .i64 (((i : Nat) : Int)))] (Blk b2 [.bool (ok), .int .i64 (n), .int .i64 (m2), lw, vw] 62 :: Blk b1 [.bool (ok), .int .i64 (n), .int .i64 (m1), lv, vv] 62 :: Seq lv la.length ((flatOf Sp.cells la)) :: Seq vv va.length ((flatOf iv va)) :: Seq lw lb.length ((flatOf Sp.cells lb)) :: Seq vw va.length ((flatOf iv va)) :: F)
            replace hi : i ≤ va.length := hi
            refine WPc.seq ?_
            refine WPc.region ?_
            refine WP.val rfl rfl rfl (Val.lss rfl rfl rfl) ?_
            refine WP.nil ?_
            refine Out.next ?_
            refine WPc.seq ?_
            refine WPc.ifP rfl (fun h8 => ?_) (fun h8 => ?_)
            · skip
              have h8 : (((i : Nat) : Int) < ((va.length : Nat) : Int)) := h8
              refine WPc.skip ?_
              refine Out.next ?_
              refine WPc.seq ?_
              refine WPc.block ?_
              refine WPc.seq ?_
              refine WPc.region ?_
              refine WP.val rfl rfl rfl (Val.move rfl rfl) ?_
              refine WP.val rfl rfl rfl (Val.assign rfl rfl) ?_
              refine WP.nil ?_
              refine Out.next ?_
              refine WPc.seq ?_
              obtain ⟨y, hy⟩ : ∃ y, va[i]? = some y := ⟨_, List.getElem?_eq_getElem (by omega)⟩
              skip
              refine WPc.perm pl3 ?_
              refine WPc.open (fun w h => h.seqOpen (by omega)) ?_
              rintro ⟨g5, cg5, spg5, Tg5⟩
              refine WPc.pure (fun hvg5 => ?_)
              obtain ⟨rfl, hcg5⟩ := hvg5
              dsimp only at hcg5
              show WPc _ _ _ _ _ _ (Ro (Blk g5 ((flatOf iv va) ++ spg5) Tg5) :: Seq (.slice (some ⟨g5, 0, none⟩) va.length cg5) va.length ((flatOf iv va)) :: Blk b2 [.bool (ok), .int .i64 (n), .int .i64 (m2), lw, vw] 62 :: Blk b1 [.bool (ok), .int .i64 (n), .int .i64 (m1), lv, .slice (some ⟨g5, 0, none⟩) va.length cg5] 62 :: Seq lv la.length ((flatOf Sp.cells la)) :: Seq lw lb.length ((flatOf Sp.cells lb)) :: Seq vw va.length ((flatOf iv va)) :: F)
              refine WPc.perm pl6 ?_
              refine WPc.open (fun w h => h.seqOpen (by omega)) ?_
              rintro ⟨g6, cg6, spg6, Tg6⟩
              refine WPc.pure (fun hvg6 => ?_)
              obtain ⟨rfl, hcg6⟩ := hvg6
              dsimp only at hcg6
              show WPc _ _ _ _ _ _ (Ro (Blk g6 ((flatOf iv va) ++ spg6) Tg6) :: Seq (.slice (some ⟨g6, 0, none⟩) va.length cg6) va.length ((flatOf iv va)) :: Ro (Blk g5 ((flatOf iv va) ++ spg5) Tg5) :: Seq (.slice (some ⟨g5, 0, none⟩) va.length cg5) va.length ((flatOf iv va)) :: Blk b2 [.bool (ok), .int .i64 (n), .int .i64 (m2), lw, .slice (some ⟨g6, 0, none⟩) va.length cg6] 62 :: Blk b1 [.bool (ok), .int .i64 (n), .int .i64 (m1), lv, .slice (some ⟨g5, 0, none⟩) va.length cg5] 62 :: Seq lv la.length ((flatOf Sp.cells la)) :: Seq lw lb.length ((flatOf Sp.cells lb)) :: F)
              refine WPD.start (Sat W (Ro (Blk g6 ((flatOf iv va) ++ spg6) Tg6) :: Seq (.slice (some ⟨g6, 0, none⟩) va.length cg6) va.length ((flatOf iv va)) :: Ro (Blk g5 ((flatOf iv va) ++ spg5) Tg5) :: Seq (.slice (some ⟨g5, 0, none⟩) va.length cg5) va.length ((flatOf iv va)) :: Blk b2 [.bool (ok), .int .i64 (n), .int .i64 (m2), lw, .slice (some ⟨g6, 0, none⟩) va.length cg6] 62 :: Blk b1 [.bool (ok), .int .i64 (n), .int .i64 (m1), lv, .slice (some ⟨g5, 0, none⟩) va.length cg5] 62 :: Seq lv la.length ((flatOf Sp.cells la)) :: Seq lw lb.length ((flatOf Sp.cells lb)) :: F)) Ty.mixed ?_
              refine WPD.takeM 0 rfl rfl rfl rfl (by kernel_rfl) (by kernel_rfl) (by kernel_rfl) (by kernel_rfl) (fun _ _ _ h => h) (fun _ h => h) (Val.fieldAddr (j := 4) rfl Ty.fo62_4 rfl rfl) ?_
              refine WPD.take 1 rfl rfl rfl rfl (by kernel_rfl) (by kernel_rfl) (by kernel_rfl) (by kernel_rfl) (fun _ _ _ h => h) (by kernel_rfl) (fun _ h => h) (Val.load rfl Ty.sc58 rfl (fun w h => h.cell 5 rfl rfl)) ?_
              refine WPD.takeM 2 rfl rfl rfl rfl (by kernel_rfl) (by kernel_rfl) (by kernel_rfl) (by kernel_rfl) (fun _ _ _ h => h) (fun _ h => h) (Val.move rfl rfl) ?_
              refine WPD.takeM 3 rfl rfl rfl rfl (by kernel_rfl) (by kernel_rfl) (by kernel_rfl) (by kernel_rfl) (fun _ _ _ h => h) (fun _ h => h) (Val.indexAddr (j := i) (q := i) rfl Ty.sl58 rfl rfl (by omega) (by omega) (by omega)) ?_
              refine WPD.take 4 rfl rfl rfl rfl (by kernel_rfl) (by kernel_rfl) (by kernel_rfl) (by kernel_rfl) (fun _ _ _ h => h) (by kernel_rfl) (fun _ h => h) (Val.load (v := .int .i64 (y)) rfl Ty.sc3 rfl (fun w h => h.cellRo 2 rfl (iv_at hy))) ?_
              refine WPD.takeM 5 rfl rfl rfl rfl (by kernel_rfl) (by kernel_rfl) (by kernel_rfl) (by kernel_rfl) (fun _ _ _ h => h) (fun _ h => h) (Val.fieldAddr (j := 4) rfl Ty.fo62_4 rfl rfl) ?_
              refine WPD.take 6 rfl rfl rfl rfl (by kernel_rfl) (by kernel_rfl) (by kernel_rfl) (by kernel_rfl) (fun _ _ _ h => h) (by kernel_rfl) (fun _ h => h) (Val.load rfl Ty.sc58 rfl (fun w h => h.cell 4 rfl rfl)) ?_
              refine WPD.takeM 7 rfl rfl rfl rfl (by kernel_rfl) (by kernel_rfl) (by kernel_rfl) (by kernel_rfl) (fun _ _ _ h => h) (fun _ h => h) (Val.move rfl rfl) ?_
              refine WPD.takeM 8 rfl rfl rfl rfl (by kernel_rfl) (by kernel_rfl) (by kernel_rfl) (by kernel_rfl) (fun _ _ _ h => h) (fun _ h => h) (Val.indexAddr (j := i) (q := i) rfl Ty.sl58 rfl rfl (by omega) (by omega) (by omega)) ?_
              refine WPD.take 9 rfl rfl rfl rfl (by kernel_rfl) (by kernel_rfl) (by kernel_rfl) (by kernel_rfl) (fun _ _ _ h => h) (by kernel_rfl) (fun _ h => h) (Val.load (v := .int .i64 (y)) rfl Ty.sc3 rfl (fun w h => h.cellRo 0 rfl (iv_at hy))) ?_
              refine WPD.take 10 rfl rfl rfl rfl (by kernel_rfl) (by kernel_rfl) (by kernel_rfl) (by kernel_rfl) (fun _ _ _ h => h) (by kernel_rfl) (fun _ h => h) (Val.neq rfl rfl rfl) ?_
              refine WPD.done (by kernel_rfl) ?_
              refine Out.next ?_
              refine WPc.ifP rfl (fun h9 => ?_) (fun h9 => ?_)
              · skip
                have h9 : (y ≠ y) := h9
                exact absurd rfl h9
              · skip
                have h9 : ¬ (y ≠ y) := h9
                refine WPc.skip ?_
                refine Out.block ?_
                refine Out.next ?_
                refine WPc.region ?_
                refine WP.val rfl rfl rfl (Val.add (z := ((i + 1 : Nat) : Int)) rfl rfl rfl ((w64 (by omega) (by omega)).trans (by omega))) ?_
                refine WP.val rfl rfl rfl (Val.move rfl rfl) ?_
                refine WP.nil ?_
                refine Out.drop ?_
                refine Out.perm pl1 ?_
                refine Out.drop ?_
                refine Out.perm pl5 ?_
                refine Out.perm pl2 ?_
                refine Out.perm pl5 ?_
                refine Out.perm pl5 ?_
                refine Out.perm pl5 ?_
                refine Out.again (i + 1) ?_ ?_ ?_ ?_
                · exact (by show i + 1 ≤ va.length; omega)
                · (first | omega | (dsimp only; omega))
                · exact (Sub.cons rfl (Sub.cons rfl (Sub.cons rfl (Sub.cons rfl (Sub.cons rfl (Sub.cons rfl Sub.nil))))))
                · exact (fun _ h => h)
            · skip
              have h8 : ¬ (((i : Nat) : Int) < ((va.length : Nat) : Int)) := h8
              refine WPc.exit ?_
              refine Out.then_exit ?_
              refine Out.then_exit ?_
              refine Out.block_exit ?_
              refine Out.next ?_
              refine WPc.seq ?_
              refine WPc.region ?_
              refine WP.val rfl rfl rfl (Val.assign rfl rfl) ?_
              refine WP.nil ?_
              refine Out.next ?_
              refine WPc.ret ?_
              refine Out.drop ?_
              refine Out.drop ?_
              exact Out.ret1 (L' := []) Try.results30 rfl ⟨rfl, rfl⟩ (fun w h => h.drop.drop.drop.drop)

end Go.Proofs.Ytbomnihiapjmpaa.TO

namespace Go.Proofs.Ytbomnihiapjmpaa.TP
open Go.RowKit Go.Proofs.Ytbomnihiapjmpaa Go.Proofs.Ytbomnihiapjmpaa.Sl Go.Proofs.Ytbomnihiapjmpaa.TrP Go.Proofs.Ytbomnihiapjmpaa.Tb Go.Proofs.Ytbomnihiapjmpaa.Tc Go.Proofs.Ytbomnihiapjmpaa.Td Go.Proofs.Ytbomnihiapjmpaa.Tk Go.Proofs.Ytbomnihiapjmpaa.Tr Go.Proofs.Ytbomnihiapjmpaa.Ts Go.Proofs.Ytbomnihiapjmpaa.Tt Go.Proofs.Ytbomnihiapjmpaa.Tv Go.Proofs.Ytbomnihiapjmpaa.Tx Go.Proofs.Ytbomnihiapjmpaa.TA Go.Proofs.Ytbomnihiapjmpaa.TB Go.Proofs.Ytbomnihiapjmpaa.TC Go.Proofs.Ytbomnihiapjmpaa.TD Go.Proofs.Ytbomnihiapjmpaa.TG Go.Proofs.Ytbomnihiapjmpaa.TH Go.Proofs.Ytbomnihiapjmpaa.TI Go.Proofs.Ytbomnihiapjmpaa.TJ Go.Proofs.Ytbomnihiapjmpaa.TK Go.Proofs.Ytbomnihiapjmpaa.TL Go.Proofs.Ytbomnihiapjmpaa.TM Go.Proofs.Ytbomnihiapjmpaa.TN Go.Proofs.Ytbomnihiapjmpaa.TO
set_option linter.unusedVariables false
set_option linter.unusedSimpArgs false
set_option linter.unusedSectionVars false

theorem klt_max {a b c : Ky} : klt a (kmax b c) ↔ klt a b ∨ klt a c := by
  unfold kmax
  split
  · rename_i h; exact ⟨.inr, fun h' => h'.elim (fun h' => klt_trans h' h) id⟩
  · rename_i h; exact ⟨.inl, fun h' => h'.elim id (fun h' => klt_of_lt_of_le h' h)⟩
theorem klt_kmo {a b : Ky} {o : Option Ky} : klt a (kmo b o) ↔ klt a b ∨ lets a o = true := by
  cases o with
  | none => simp [kmo, lets]
  | some c => simp only [kmo, lets, decide_eq_true_eq]; exact klt_max
theorem lets_iff {ib : Ky} : ∀ {t : T}, lets ib t.mx = true ↔ ∃ y ∈ t.ino, klt ib y.e.k
  | .leaf => by simp [T.mx, lets, T.ino]
  | .node i l x c r => by
    show decide (klt ib (kmo (kmo x.e.k l.mx) r.mx)) = true ↔ ∃ y ∈ l.ino ++ x :: r.ino, _
    rw [decide_eq_true_eq, klt_kmo, klt_kmo, lets_iff, lets_iff]
    constructor
    · rintro ((h | ⟨y, hy, h⟩) | ⟨y, hy, h⟩)
      · exact ⟨x, by simp, h⟩
      · exact ⟨y, by simp [hy], h⟩
      · exact ⟨y, by simp [hy], h⟩
    · rintro ⟨y, hy, h⟩
      rcases List.mem_append.1 hy with hy | hy
      · exact .inl (.inr ⟨y, hy, h⟩)
      · rcases List.mem_cons.1 hy with rfl | hy
        · exact .inl (.inl h)
        · exact .inr ⟨y, hy, h⟩
theorem icmp_iff {ib ie xb xe : Ky} (hp : klt ib ie) : icmp ib ie xb xe = 0 ↔ klt xb ie ∧ klt ib xe := by
  unfold icmp
  constructor
  · intro h
    by_cases h1 : klt ib xb ∧ ¬ klt xb ie
    · rw [if_pos h1] at h; cases h
    · rw [if_neg h1] at h
      by_cases h2 : ¬ klt ib xe
      · rw [if_pos h2] at h; cases h
      · refine ⟨?_, Decidable.byContradiction h2⟩
        by_cases h3 : klt ib xb
        · exact Decidable.byContradiction fun h4 => h1 ⟨h3, h4⟩
        · exact klt_of_le_of_lt h3 hp
  · rintro ⟨h1, h2⟩
    rw [if_neg (fun h => h.2 h1), if_neg (fun h => h h2)]
theorem le_begin {x y : It} (h : leq x y) : ¬ klt y.b.k x.b.k := fun h2 => h (.inl h2)
theorem isect_iff {ib ie : Ky} (hp : klt ib ie) : ∀ {t : T}, Srt t.ino → (isect ib ie t = true ↔ ∃ y ∈ t.ino, klt y.b.k ie ∧ klt ib y.e.k)
  | .leaf, _ => by simp [isect, T.ino]
  | .node i l x c r, hs => by
    have hs' : Srt (l.ino ++ x :: r.ino) := hs
    have hsl := (List.pairwise_append.1 hs').1
    have hsr := (List.pairwise_cons.1 (List.pairwise_append.1 hs').2.1).2
    show _ ↔ ∃ y ∈ l.ino ++ x :: r.ino, _
    by_cases h0 : icmp ib ie x.b.k x.e.k = 0
    · rw [isect_y h0]
      exact ⟨fun _ => ⟨x, by simp, (icmp_iff hp).1 h0⟩, fun _ => rfl⟩
    · have hx : ¬ (klt x.b.k ie ∧ klt ib x.e.k) := fun h => h0 ((icmp_iff hp).2 h)
      by_cases h2 : lets ib l.mx = true
      · rw [isect_l h0 h2, isect_iff hp hsl]
        constructor
        · rintro ⟨y, hy, h⟩; exact ⟨y, List.mem_append_left _ hy, h⟩
        · rintro ⟨y, hy, h⟩
          rcases List.mem_append.1 hy with hy | hy
          · exact ⟨y, hy, h⟩
          · obtain ⟨z, hz, hz2⟩ := lets_iff.1 h2
            have hle := le_begin ((List.pairwise_append.1 hs').2.2 z hz y hy)
            exact ⟨z, hz, klt_of_le_of_lt hle h.1, hz2⟩
      · have h3 : lets ib l.mx = false := by simpa using h2
        rw [isect_r h0 h3, isect_iff hp hsr]
        constructor
        · rintro ⟨y, hy, h⟩; exact ⟨y, List.mem_append_right _ (List.mem_cons_of_mem _ hy), h⟩
        · rintro ⟨y, hy, h⟩
          rcases List.mem_append.1 hy with hy | hy
          · exact absurd (lets_iff.2 ⟨y, hy, h.2⟩) h2
          · rcases List.mem_cons.1 hy with rfl | hy
            · exact absurd h hx
            · exact ⟨y, hy, h⟩
/-! the tree and the reference -/
def kIt (y : It) : Ky × Ky × Value := (y.b.k, y.e.k, y.vu)
def kPc (k : Int) (p : Pc) : Ky × Ky × Value := (kB k p.x, kE k p.x, .int .i64 p.n)
def RelT (k : Int) (t : T) (ps : List Pc) : Prop := t.ino.map kIt = ps.map (kPc k)
theorem tw_map {α β : Type} {f : α → β} {p : α → Bool} {q : β → Bool} (h : ∀ x, p x = q (f x)) (l : List α) : (l.takeWhile p).map f = (l.map f).takeWhile q ∧ (l.dropWhile p).map f = (l.map f).dropWhile q := by
  induction l with
  | nil => simp
  | cons x l ih =>
    have hx := h x
    cases hp : p x
    · rw [hp] at hx
      simp [hp, ← hx]
    · rw [hp] at hx
      simp [hp, ← hx, ih.1, ih.2]
def qK (zb ze : Ky) (t : Ky × Ky × Value) : Bool := decide (¬ goK zb ze t.1 t.2.1)
theorem rel_put {k : Int} {x : Sp} {n : Int} {y : It} {l : List It} {ps : List Pc} (h : l.map kIt = ps.map (kPc k)) (hb : y.b.k = kB k x) (he : y.e.k = kE k x) (hv : y.vu = .int .i64 n) : (putI y l).map kIt = (putP k x n ps).map (kPc k) := by
  unfold putI putP
  obtain ⟨a1, a2⟩ := tw_map (f := kIt) (p := beh y.b.k y.e.k) (q := qK y.b.k y.e.k) (fun _ => rfl) l
  obtain ⟨b1, b2⟩ := tw_map (f := kPc k) (p := fun y : Pc => decide (¬ ahd k x y.x)) (q := qK (kB k x) (kE k x)) (fun _ => rfl) ps
  rw [List.map_append, List.map_append, List.map_cons, List.map_cons, a1, a2, b1, b2, h, hb, he]
  have e : kIt y = kPc k ⟨pln x, n⟩ := by unfold kIt kPc; rw [hb, he, hv]; rfl
  rw [e]
theorem rel_ex {k : Int} {l : List It} {ps : List Pc} (h : l.map kIt = ps.map (kPc k)) (φ : Ky → Ky → Prop) : (∃ y ∈ l, φ y.b.k y.e.k) ↔ ∃ p ∈ ps, φ (kB k p.x) (kE k p.x) := by
  constructor
  · rintro ⟨y, hy, hp⟩
    have h1 : kIt y ∈ ps.map (kPc k) := by rw [← h]; exact List.mem_map_of_mem hy
    obtain ⟨p, hp1, e⟩ := List.mem_map.1 h1
    have e1 : kB k p.x = y.b.k := congrArg (·.1) e
    have e2 : kE k p.x = y.e.k := congrArg (·.2.1) e
    exact ⟨p, hp1, by rw [e1, e2]; exact hp⟩
  · rintro ⟨p, hp1, hp⟩
    have h1 : kPc k p ∈ l.map kIt := by rw [h]; exact List.mem_map_of_mem hp1
    obtain ⟨y, hy, e⟩ := List.mem_map.1 h1
    have e1 : y.b.k = kB k p.x := congrArg (·.1) e
    have e2 : y.e.k = kE k p.x := congrArg (·.2.1) e
    exact ⟨y, hy, by rw [e1, e2]; exact hp⟩
theorem isect_mts {k : Int} {x : Sp} {t : T} {ps : List Pc} (hs : Srt t.ino) (hp : prp k x) (h : RelT k t ps) : isect (kB k x) (kE k x) t = decide ((0 : Int) < (((mts k x ps).length : Nat) : Int)) := by
  have h1 : isect (kB k x) (kE k x) t = true ↔ (0 : Int) < (((mts k x ps).length : Nat) : Int) := by
    rw [isect_iff hp hs, rel_ex h (fun b e => klt b (kE k x) ∧ klt (kB k x) e)]
    constructor
    · rintro ⟨p, hp1, hm⟩
      have : p ∈ mts k x ps := List.mem_filter.2 ⟨hp1, decide_eq_true hm⟩
      have := List.length_pos_of_mem this
      omega
    · intro hl
      obtain ⟨p, hp1⟩ := List.exists_mem_of_length_pos (l := mts k x ps) (by omega)
      obtain ⟨hp1, hm⟩ := List.mem_filter.1 hp1
      exact ⟨p, hp1, of_decide_eq_true hm⟩
  rw [Bool.eq_iff_iff, h1, decide_eq_true_eq]
/-! the inserts, and a question -/
def psOf (k : Int) (ops : List TOp) : List Pc := ops.foldl (fun p o => putP k o.x o.val p) []
def Ins (k : Int) (o : TOp) : Prop := ∃ (x : Sp) (n : Int), o = ⟨1, x, n, 0, .slice none 0 0, .slice none 0 0⟩ ∧ SpOk k x ∧ prp k x
theorem psOf_more {k : Int} {ops : List TOp} {i : Nat} {o : TOp} (h : ops[i]? = some o) : psOf k (ops.take (i + 1)) = putP k o.x o.val (psOf k (ops.take i)) := by
  unfold psOf
  rw [TJ.take_more h, List.foldl_append]; rfl
theorem psOf_len {k : Int} (ops : List TOp) : (psOf k ops).length = ops.length := by
  have : ∀ (n : Nat) (ops : List TOp), ops.length = n → (psOf k ops).length = n := by
    intro n
    induction n with
    | zero => intro ops h; rw [List.eq_nil_of_length_eq_zero h]; rfl
    | succ n ih =>
      intro ops h
      rcases List.eq_nil_or_concat ops with rfl | ⟨l, a, rfl⟩
      · cases h
      · rw [List.concat_eq_append] at *
        have hl : l.length = n := by simpa using h
        have := ih l hl
        unfold psOf at *
        rw [List.foldl_append]
        show (putP k a.x a.val _).length = _
        rw [putP_len, this]
  exact this _ ops rfl
/-- behind i inserts -/
def InsI (k : Int) (ops : List TOp) (i : Nat) (q : TQ) (al : List TAns) : Prop := i ≤ ops.length ∧ al = List.replicate i noAns ∧ ∃ t, Rep k q t ∧ RelT k t (psOf k (ops.take i))
theorem insI_zero (k : Int) (ops : List TOp) (tb s : Nat) (S : St) : InsI k ops 0 ⟨tb, s, s, 0, [], [], S⟩ [] := ⟨Nat.zero_le _, rfl, .leaf, rep_new k tb s S, rfl⟩
theorem insI_step (A : HProp) (k : Int) (ops : List TOp) (hl : ops.length ≤ 1000) (i : Nat) (o : TOp) (q : TQ) (al : List TAns) (ho : ops[i]? = some o) (hi : Ins k o) (h : InsI k ops i q al) :
    Does Try.prog 66 [.iface 178 (.pointer (some ⟨q.tb, 0, none⟩)), .int .i64 k, .agg o.cells.toArray] [A, TM q] (fun v L => ∃ (q' : TQ) (a : TAns) (lv vv : Value), InsI k ops (i + 1) q' (al ++ [a]) ∧ q'.tb = q.tb ∧ v = .agg #[.bool a.ok, .int .i64 a.n, .int .i64 a.most, lv, vv] ∧ L = [A, TM q', Own 56 5 lv a.l.length (flatOf Sp.cells a.l), Own 3 1 vv a.vs.length (flatOf iv a.vs)]) := by
  obtain ⟨x, n, rfl, hx, hp⟩ := hi
  obtain ⟨h1, rfl, t, hR, hT⟩ := h
  have hlen : t.ino.length ≤ 1000 := by
    have h2 := congrArg List.length hT
    rw [List.length_map, List.length_map, psOf_len, List.length_take] at h2
    omega
  refine (step_ins A k x hx n 0 _ _ rfl rfl q t hR (by omega)).mono ?_
  rintro v L ⟨q', z, eb, ee, hR', hb, he, htb, hv, hL⟩
  refine ⟨L, ⟨q', noAns, _, _, ⟨?_, ?_, _, hR', ?_⟩, htb, hv, hL⟩, fun W w F h => h⟩
  · exact (List.getElem?_eq_some_iff.1 ho).1
  · rw [List.replicate_succ', ]
  · unfold RelT
    rw [insT_ino hR.srt, psOf_more ho]
    exact rel_put hT hb he rfl
end Go.Proofs.Ytbomnihiapjmpaa.TP

namespace Go.Proofs.Ytbomnihiapjmpaa.TQ
open Go.RowKit Go.Proofs.Ytbomnihiapjmpaa Go.Proofs.Ytbomnihiapjmpaa.Sl Go.Proofs.Ytbomnihiapjmpaa.TrP Go.Proofs.Ytbomnihiapjmpaa.Tb Go.Proofs.Ytbomnihiapjmpaa.Tc Go.Proofs.Ytbomnihiapjmpaa.Td Go.Proofs.Ytbomnihiapjmpaa.Tn Go.Proofs.Ytbomnihiapjmpaa.Tr Go.Proofs.Ytbomnihiapjmpaa.Ts Go.Proofs.Ytbomnihiapjmpaa.Tx Go.Proofs.Ytbomnihiapjmpaa.TC Go.Proofs.Ytbomnihiapjmpaa.TD Go.Proofs.Ytbomnihiapjmpaa.TE Go.Proofs.Ytbomnihiapjmpaa.TG Go.Proofs.Ytbomnihiapjmpaa.TH Go.Proofs.Ytbomnihiapjmpaa.TI Go.Proofs.Ytbomnihiapjmpaa.TJ Go.Proofs.Ytbomnihiapjmpaa.TK Go.Proofs.Ytbomnihiapjmpaa.TL Go.Proofs.Ytbomnihiapjmpaa.TM Go.Proofs.Ytbomnihiapjmpaa.TN Go.Proofs.Ytbomnihiapjmpaa.TO Go.Proofs.Ytbomnihiapjmpaa.TP
set_option linter.unusedVariables false
set_option linter.unusedSimpArgs false
set_option linter.unusedSectionVars false


/-- inserts, and a question behind them -/
def AskI (k : Int) (ops : List TOp) (Q : TAns → Prop) (i : Nat) (q : TQ) (al : List TAns) : Prop := (i ≤ ops.length ∧ InsI k ops i q al) ∨ (i = ops.length + 1 ∧ ∃ a, al = List.replicate ops.length noAns ++ [a] ∧ Q a)
theorem ask_zero (k : Int) (ops : List TOp) (Q : TAns → Prop) (tb s : Nat) (S : St) : AskI k ops Q 0 ⟨tb, s, s, 0, [], [], S⟩ [] := .inl ⟨Nat.zero_le _, insI_zero k ops tb s S⟩
theorem ask_step (A : HProp) (k : Int) (ops : List TOp) (o : TOp) (Q : TAns → Prop) (hl : ops.length ≤ 1000) (hi : ∀ p ∈ ops, Ins k p)
  (hq : ∀ (q : TQ) (t : T), Rep k q t → RelT k t (psOf k ops) → Does Try.prog 66 [.iface 178 (.pointer (some ⟨q.tb, 0, none⟩)), .int .i64 k, .agg o.cells.toArray] [A, TM q] (fun v L => ∃ (q' : TQ) (a : TAns) (lv vv : Value), Q a ∧ q'.tb = q.tb ∧ v = .agg #[.bool a.ok, .int .i64 a.n, .int .i64 a.most, lv, vv] ∧ L = [A, TM q', Own 56 5 lv a.l.length (flatOf Sp.cells a.l), Own 3 1 vv a.vs.length (flatOf iv a.vs)])) :
  TStep A k (ops ++ [o]) (AskI k ops Q) := by
 intro i p q al hp hal hI
 rcases Nat.lt_trichotomy i ops.length with h | h | h
 ·
  rw [List.getElem?_append_left h] at hp
  have hI' : InsI k ops i q al := by
   rcases hI with ⟨-, h'⟩ | ⟨h', -⟩
   ·
    exact h'
   ·
    omega
  refine (insI_step A k ops hl i p q al hp (hi p (List.mem_of_getElem? hp)) hI').mono ?_
  rintro v L ⟨q', a, lv, vv, h1, h2, h3, h4⟩
  exact ⟨L, ⟨q', a, lv, vv, .inl ⟨h, h1⟩, h2, h3, h4⟩, fun W w F h => h⟩
 ·
  subst h
  rw [List.getElem?_append_right (Nat.le_refl _), Nat.sub_self] at hp
  obtain rfl : o = p := by simpa using hp
  have hI' : InsI k ops ops.length q al := by
   rcases hI with ⟨-, h'⟩ | ⟨h', -⟩
   ·
    exact h'
   ·
    omega
  obtain ⟨-, rfl, t, hR, hT⟩ := hI'
  rw [List.take_length] at hT
  refine (hq q t hR hT).mono ?_
  rintro v L ⟨q', a, lv, vv, h1, h2, h3, h4⟩
  exact ⟨L, ⟨q', a, lv, vv, .inr ⟨rfl, a, rfl, h1⟩, h2, h3, h4⟩, fun W w F h => h⟩
 ·
  rw [List.getElem?_eq_none (by rw [List.length_append]; show ops.length + 1 ≤ i; omega)] at hp
  cases hp
theorem ask_end {k : Int} {ops : List TOp} {o : TOp} {Q : TAns → Prop} {q : TQ} {was : List WA} (h : AskI k ops Q (ops ++ [o]).length q (was.map WA.a)) : ∃ (pre : List WA) (a : TAns) (lv vv : Value), was = pre ++ [⟨a, lv, vv⟩] ∧ pre.length = ops.length ∧ Q a := by
 rcases h with ⟨h, -⟩ | ⟨-, a, h, hQ⟩
 ·
  rw [List.length_append] at h; exact absurd h (by show ¬ (ops.length + 1 ≤ ops.length); omega)
 ·
  rcases List.eq_nil_or_concat was with rfl | ⟨pre, x, rfl⟩
  ·
   exact absurd (congrArg List.length h) (by simp)
  ·
   rw [List.concat_eq_append, List.map_append] at h
   have h2 := List.append_inj' h rfl
   obtain ⟨b, lv, vv⟩ := x
   have h3 : b = a := by have := h2.2; simpa using this
   subst h3
   refine ⟨pre, b, lv, vv, List.concat_eq_append, ?_, hQ⟩
   have := congrArg List.length h2.1
   simpa using this
theorem kds_last {W w : World} {L : List HProp} {pre : List WA} {a : TAns} {lv vv : Value} (h : Sat W (Kds WAP (pre ++ [⟨a, lv, vv⟩]) :: L) w) : Sat W (Own 56 5 lv a.l.length (flatOf Sp.cells a.l) :: Own 3 1 vv a.vs.length (flatOf iv a.vs) :: L) w := by
 have h1 := (Sat.kApp h).drop
 have h2 := Sat.kCons h1
 have h3 := Sat.sep (M := [_, _]) h2
 exact (h3.perm pl2).drop
theorem wa_at {pre : List WA} {x : WA} {sp : List Value} {m : Nat} (h : pre.length = m) : ((flatOf WA.cells (pre ++ [x]) ++ sp).drop (m * 5)).take (WA.cells x).length = WA.cells x := flatOf_range WA.len (by rw [List.getElem?_append_right (by omega), h, Nat.sub_self]; rfl)
theorem snoc_rd {l : List TOp} {b c : Nat} {sp : List Value} {T : TypeId} : Rd (Blk b (flatOf TOp.cells l ++ sp) T) 10 TOp.cells (.slice (some ⟨b, 0, none⟩) l.length c) l :=
 .inl ⟨b, 0, c, rfl, fun w hw i x hx => by rw [Nat.zero_add]; exact hw.cell_range (flatOf_range TOp.len hx)⟩
theorem fil_ps {k : Int} {ops : List TOp} {ps : List Pc} (h : Fil k ops ps) : psOf k ops = ps := h.pss.symm

theorem ask6_step (A : HProp) (k : Int) (x : Sp) (hx : SpOk k x) (hp : prp k x) {ps : List Pc} (q : TQ) (t : T) (hR : Rep k q t) (hT : RelT k t ps) : Does Try.prog 66 [.iface 178 (.pointer (some ⟨q.tb, 0, none⟩)), .int .i64 k, .agg (TOp.cells ⟨6, x, 0, 0, .slice none 0 0, .slice none 0 0⟩).toArray] [A, TM q] (fun v L => ∃ (q' : TQ) (a : TAns) (lv vv : Value), a = ⟨decide ((0 : Int) < (((mts k x ps).length : Nat) : Int)), 0, 0, [], []⟩ ∧ q'.tb = q.tb ∧ v = .agg #[.bool a.ok, .int .i64 a.n, .int .i64 a.most, lv, vv] ∧ L = [A, TM q', Own 56 5 lv a.l.length (flatOf Sp.cells a.l), Own 3 1 vv a.vs.length (flatOf iv a.vs)]) := by
 refine (step_isect A k x hx 0 0 _ _ rfl rfl q t hR).mono ?_
 rintro v L ⟨q', hR', htb, hv, hL⟩
 rw [isect_mts hR.srt hp hT] at hv
 exact ⟨L, ⟨q', _, _, _, rfl, htb, hv, hL⟩, fun W w F h => h⟩

/-- what trFilled gives, in one of two ways -/
def FilR (A : HProp) (k0 k : Int) : Value → List HProp → Prop := fun v L => (v = .tuple #[.slice none 0 0, .pointer none, .bool false] ∧ L = [A]) ∨ ∃ (b : Bool) (vo : Value) (ops : List TOp) (ps : List Pc) (pb : Nat) (u : Value), v = .tuple #[vo, .pointer (some ⟨pb, 0, none⟩), .bool b] ∧ (b = true → 0 ≤ k0 ∧ k0 ≤ 3) ∧ ops.length ≤ 200 ∧ Fil k ops ps ∧ L = [A, Own 60 10 vo ops.length (flatOf TOp.cells ops), Seq u ps.length (flatOf Pc.cells ps), Blk pb [.int .i64 k0, u] 33]
set_option maxRecDepth 100000 in
set_option maxHeartbeats 2000000 in
theorem ask6_nil (A : HProp) (k0 k : Int) (hk : KO k0 k) (x : Sp) (hxs : szB x) (a : Option Addr) (c : Nat) : Does Try.prog 35 [.int .i64 (k0), .slice a 0 c, .agg #[.int .i64 6, .string x.key, .string x.fin, .bool (x.one), .int .i64 (x.lo), .int .i64 (x.hi), .int .i64 0, .int .i64 0, .slice none 0 0, .slice none 0 0]] [A] (fun v L => ∃ (a w : TAns) (lv vv lw vw : Value) (b : Bool), v = .tuple #[.agg (WA.cells ⟨a, lv, vv⟩).toArray, .agg (WA.cells ⟨w, lw, vw⟩).toArray, .bool b] ∧ (b = true → 0 ≤ k0 ∧ k0 ≤ 3 ∧ spB k0 x ∧ ∃ ps ops, Fil k0 ops ps ∧ (a = ⟨decide ((0 : Int) < (((mts k0 x ps).length : Nat) : Int)), 0, 0, [], []⟩ ∧ w = a)) ∧ L = [A, Own 56 5 lv a.l.length (flatOf Sp.cells a.l), Own 3 1 vv a.vs.length (flatOf iv a.vs), Own 56 5 lw w.l.length (flatOf Sp.cells w.l), Own 3 1 vw w.vs.length (flatOf iv w.vs)]) := by
 refine Does.enter 52 Try.func35 rfl rfl rfl fun W F => ?_
 show WPc _ _ _ _ _ [(0, .int .i64 (k0)), (1, .slice a 0 c), (2, .agg #[.int .i64 6, .string x.key, .string x.fin, .bool (x.one), .int .i64 (x.lo), .int .i64 (x.hi), .int .i64 0, .int .i64 0, .slice none 0 0, .slice none 0 0])] (A :: F)
 refine WPc.sr ?_
 refine WP.eff rfl rfl rfl (Eff.box (C := [.int .i64 6, .string x.key, .string x.fin, .bool (x.one), .int .i64 (x.lo), .int .i64 (x.hi), .int .i64 0, .int .i64 0, .slice none 0 0, .slice none 0 0]) rfl rfl rfl) ?_
 rintro _ _ ⟨b1, rfl, rfl⟩
 refine WP.eff rfl rfl rfl (Eff.alloc rfl Ty.z62) ?_
 rintro _ _ ⟨b2, rfl, rfl⟩
 refine WP.eff rfl rfl rfl (Eff.alloc rfl Ty.z62) ?_
 rintro _ _ ⟨b3, rfl, rfl⟩
 refine WP.val rfl rfl rfl (Val.assign rfl rfl) ?_
 refine WP.nx ?_
 refine WPc.sr ?_
 refine WP.val rfl rfl rfl (Val.move rfl rfl) ?_
 refine WP.val rfl rfl rfl (Val.move rfl rfl) ?_
 refine WP.perm pl3 ?_
 refine WP.eff rfl rfl rfl (Eff.call rfl rfl Try.call33 (filled_spec A k0 k hk ([] : List Sp) (Nat.zero_le _) (fun y hy => by cases hy) (.slice a 0 c) (.inr ⟨rfl, a, c, rfl⟩))) ?_
 rintro v_ _ ⟨M_, hM_, rfl⟩
 rcases hM_ with ⟨rfl, rfl⟩ | ⟨bf, vo, ops, ps, pb, u, rfl, hbf, hol, hf, rfl⟩
 ·
  show WP _ _ _ _ _ _ _ (_ :: Blk b3 [.bool false, .int .i64 0, .int .i64 0, .slice none 0 0, .slice none 0 0] 62 :: Blk b2 [.bool false, .int .i64 0, .int .i64 0, .slice none 0 0, .slice none 0 0] 62 :: Blk b1 [.int .i64 6, .string x.key, .string x.fin, .bool (x.one), .int .i64 (x.lo), .int .i64 (x.hi), .int .i64 0, .int .i64 0, .slice none 0 0, .slice none 0 0] 60 :: _)
  refine WP.val rfl rfl rfl (Val.move rfl rfl) ?_
  iterate 3 (refine WP.val rfl rfl rfl (Val.extract rfl rfl rfl) ?_)
  iterate 3 (refine WP.val rfl rfl rfl (Val.assign rfl rfl) ?_)
  refine WP.nx ?_
  refine WPc.seq ?_
  refine WPc.sr ?_
  refine WP.val rfl rfl rfl (Val.move rfl rfl) ?_
  refine WP.val rfl rfl rfl (Val.not rfl rfl) ?_
  refine WP.val rfl rfl rfl (Val.move rfl rfl) ?_
  iterate 4 (refine WP.skip rfl rfl rfl rfl rfl rfl rfl ?_)
  refine WP.val rfl rfl rfl (Val.pickT rfl rfl rfl) ?_
  refine WP.nx ?_
  refine WPc.condT rfl rfl ?_
  refine WPc.seq ?_
  refine WPD.start (Sat W [Blk b2 [.bool false, .int .i64 0, .int .i64 0, .slice none 0 0, .slice none 0 0] 62, Blk b3 [.bool false, .int .i64 0, .int .i64 0, .slice none 0 0, .slice none 0 0] 62]) Ty.mixed ?_
  refine WPD.tL 0 rfl rfl rfl rfl (fun w h => (((h.perm pl1).perm pl2)).dropEnd (L := [_, _])) (Val.loadAgg (cs := [.bool false, .int .i64 0, .int .i64 0, .slice none 0 0, .slice none 0 0]) rfl Ty.ag62 rfl rfl (fun w h => h.range 0 rfl rfl)) ?_
  refine WPD.tL 1 rfl rfl rfl rfl (fun w h => (((h.perm pl1).perm pl2)).dropEnd (L := [_, _])) (Val.loadAgg (cs := [.bool false, .int .i64 0, .int .i64 0, .slice none 0 0, .slice none 0 0]) rfl Ty.ag62 rfl rfl (fun w h => h.range 1 rfl rfl)) ?_
  refine WPD.perm pl2 ?_
  refine WPD.step0 2 (by kernel_rfl) rfl rfl rfl (Eff.storeAgg (cs := [.bool false, .int .i64 0, .int .i64 0, .slice none 0 0, .slice none 0 0]) (C' := [.bool false, .int .i64 0, .int .i64 0, .slice none 0 0, .slice none 0 0]) rfl Ty.ag62 rfl rfl rfl rfl (by simp) rfl) ?_
  rintro _ _ rfl
  refine ⟨(fun w h => (((h.perm pl2).perm pl1)).dropEnd (L := [_, _])), ?_⟩
  refine WPD.perm pl2 ?_
  refine WPD.stepC0 3 (by kernel_rfl) rfl rfl rfl (by kernel_rfl) (Eff.storeAgg (cs := [.bool false, .int .i64 0, .int .i64 0, .slice none 0 0, .slice none 0 0]) (C' := [.bool false, .int .i64 0, .int .i64 0, .slice none 0 0, .slice none 0 0]) rfl Ty.ag62 rfl rfl rfl rfl (by simp) rfl) ?_
  rintro _ _ rfl
  refine ⟨_, (fun _ h => h), ?_⟩
  refine WPD.tM 4 rfl rfl rfl rfl (Val.assign rfl rfl) ?_
  refine WPD.done (by kernel_rfl) ?_
  refine Out.next ?_
  refine WPc.ret ?_
  refine Out.then_ret ?_
  refine Out.conv (fun w h => own_nils (own_nils h)) ?_
  refine Out.perm pl7 ?_
  refine Out.drop ?_
  iterate 4 (refine Out.perm pl3 ?_)
  refine Out.perm pl6 ?_
  refine Out.perm pl5 ?_
  refine Out.perm pl6 ?_
  exact Out.retRun (L' := [A, Own 56 5 (.slice none 0 0) 0 [], Own 3 1 (.slice none 0 0) 0 [], Own 56 5 (.slice none 0 0) 0 [], Own 3 1 (.slice none 0 0) 0 []]) (results_cct (cs := [.bool false, .int .i64 0, .int .i64 0, .slice none 0 0, .slice none 0 0]) (cs' := [.bool false, .int .i64 0, .int .i64 0, .slice none 0 0, .slice none 0 0]) Try.results35 rfl rfl rfl Ty.ag62 rfl (fun w h => h.range 0 rfl rfl) Ty.ag62 rfl (fun w h => h.range 1 rfl rfl)) ⟨noAns, noAns, _, _, _, _, _, rfl, (fun h => by cases h), rfl⟩ (fun w h => h.drop.drop)
 ·
  show WP _ _ _ _ _ _ _ (_ :: Own 60 10 vo ops.length (flatOf TOp.cells ops) :: Seq u ps.length ((flatOf Pc.cells ps)) :: Blk pb [.int .i64 (k0), u] 33 :: Blk b3 [.bool false, .int .i64 0, .int .i64 0, .slice none 0 0, .slice none 0 0] 62 :: Blk b2 [.bool false, .int .i64 0, .int .i64 0, .slice none 0 0, .slice none 0 0] 62 :: Blk b1 [.int .i64 6, .string x.key, .string x.fin, .bool (x.one), .int .i64 (x.lo), .int .i64 (x.hi), .int .i64 0, .int .i64 0, .slice none 0 0, .slice none 0 0] 60 :: _)
  refine WP.perm pl1 ?_
  refine WP.fact (fun w h => own_slice h) (fun hsl4 => ?_)
  obtain ⟨a4, k4, rfl⟩ := hsl4
  show WP _ _ _ _ _ _ _ (Own 60 10 (.slice a4 ops.length k4) ops.length (flatOf TOp.cells ops) :: _)
  refine WP.val rfl rfl rfl (Val.move rfl rfl) ?_
  iterate 3 (refine WP.val rfl rfl rfl (Val.extract rfl rfl rfl) ?_)
  iterate 3 (refine WP.val rfl rfl rfl (Val.assign rfl rfl) ?_)
  refine WP.nx ?_
  refine WPc.seq ?_
  refine WPc.sr ?_
  refine WP.val rfl rfl rfl (Val.move rfl rfl) ?_
  refine WP.val rfl rfl rfl (Val.not rfl rfl) ?_
  refine WP.val rfl rfl rfl (Val.move rfl rfl) ?_
  refine WP.splitB 22 rfl (fun h1 => ?_) (fun h1 => ?_)
  ·
   iterate 4 (refine WP.skip rfl rfl rfl rfl rfl rfl rfl ?_)
   refine WP.val rfl rfl rfl (Val.pickT rfl rfl rfl) ?_
   refine WP.nx ?_
   refine WPc.condT rfl rfl ?_
   refine WPc.seq ?_
   refine WPD.start (Sat W [Blk b2 [.bool false, .int .i64 0, .int .i64 0, .slice none 0 0, .slice none 0 0] 62, Blk b3 [.bool false, .int .i64 0, .int .i64 0, .slice none 0 0, .slice none 0 0] 62]) Ty.mixed ?_
   refine WPD.tL 0 rfl rfl rfl rfl (fun w h => (((h.perm pl4).perm pl5)).dropEnd (L := [_, _])) (Val.loadAgg (cs := [.bool false, .int .i64 0, .int .i64 0, .slice none 0 0, .slice none 0 0]) rfl Ty.ag62 rfl rfl (fun w h => h.range 0 rfl rfl)) ?_
   refine WPD.tL 1 rfl rfl rfl rfl (fun w h => (((h.perm pl4).perm pl5)).dropEnd (L := [_, _])) (Val.loadAgg (cs := [.bool false, .int .i64 0, .int .i64 0, .slice none 0 0, .slice none 0 0]) rfl Ty.ag62 rfl rfl (fun w h => h.range 1 rfl rfl)) ?_
   refine WPD.perm pl5 ?_
   refine WPD.step0 2 (by kernel_rfl) rfl rfl rfl (Eff.storeAgg (cs := [.bool false, .int .i64 0, .int .i64 0, .slice none 0 0, .slice none 0 0]) (C' := [.bool false, .int .i64 0, .int .i64 0, .slice none 0 0, .slice none 0 0]) rfl Ty.ag62 rfl rfl rfl rfl (by simp) rfl) ?_
   rintro _ _ rfl
   refine ⟨(fun w h => (((h.perm pl5).perm pl1)).dropEnd (L := [_, _])), ?_⟩
   refine WPD.perm pl5 ?_
   refine WPD.stepC0 3 (by kernel_rfl) rfl rfl rfl (by kernel_rfl) (Eff.storeAgg (cs := [.bool false, .int .i64 0, .int .i64 0, .slice none 0 0, .slice none 0 0]) (C' := [.bool false, .int .i64 0, .int .i64 0, .slice none 0 0, .slice none 0 0]) rfl Ty.ag62 rfl rfl rfl rfl (by simp) rfl) ?_
   rintro _ _ rfl
   refine ⟨_, (fun _ h => h), ?_⟩
   refine WPD.tM 4 rfl rfl rfl rfl (Val.assign rfl rfl) ?_
   refine WPD.done (by kernel_rfl) ?_
   refine Out.next ?_
   refine WPc.ret ?_
   refine Out.then_ret ?_
   refine Out.conv (fun w h => own_nils (own_nils h)) ?_
   refine Out.perm pl6 ?_
   iterate 3 (refine Out.drop ?_; refine Out.perm pl7 ?_)
   refine Out.drop ?_
   iterate 4 (refine Out.perm pl3 ?_)
   refine Out.perm pl6 ?_
   refine Out.perm pl5 ?_
   refine Out.perm pl6 ?_
   exact Out.retRun (L' := [A, Own 56 5 (.slice none 0 0) 0 [], Own 3 1 (.slice none 0 0) 0 [], Own 56 5 (.slice none 0 0) 0 [], Own 3 1 (.slice none 0 0) 0 []]) (results_cct (cs := [.bool false, .int .i64 0, .int .i64 0, .slice none 0 0, .slice none 0 0]) (cs' := [.bool false, .int .i64 0, .int .i64 0, .slice none 0 0, .slice none 0 0]) Try.results35 rfl rfl rfl Ty.ag62 rfl (fun w h => h.range 0 rfl rfl) Ty.ag62 rfl (fun w h => h.range 1 rfl rfl)) ⟨noAns, noAns, _, _, _, _, _, rfl, (fun h => by cases h), rfl⟩ (fun w h => h.drop.drop)
  ·
   refine WP.valG rfl rfl rfl rfl rfl rfl rfl (Val.move rfl rfl) ?_
   refine WP.valG rfl rfl rfl rfl rfl rfl rfl (Val.loadAgg (cs := [.int .i64 6, .string x.key, .string x.fin, .bool (x.one), .int .i64 (x.lo), .int .i64 (x.hi), .int .i64 0, .int .i64 0, .slice none 0 0, .slice none 0 0]) rfl Ty.ag60 rfl rfl (fun w h => h.range 6 rfl rfl)) ?_
   refine WP.effG rfl rfl rfl rfl rfl rfl rfl (Eff.call rfl rfl Try.call34 (proper1_does k0 k hk x hxs.1 6 0 0 (by decide) (by decide))) ?_
   rintro _ _ ⟨_, ⟨bp, rfl, hbp, rfl⟩, rfl⟩
   refine WP.valG rfl rfl rfl rfl rfl rfl rfl (Val.not rfl rfl) ?_
   refine WP.val rfl rfl rfl (Val.pickF rfl rfl rfl) ?_
   refine WP.nx ?_
   refine WPc.cond rfl (fun h2 => ?_) (fun h2 => ?_)
   ·
    have h2 : (!bp) = true := h2
    refine WPc.seq ?_
    refine WPD.start (Sat W [Blk b2 [.bool false, .int .i64 0, .int .i64 0, .slice none 0 0, .slice none 0 0] 62, Blk b3 [.bool false, .int .i64 0, .int .i64 0, .slice none 0 0, .slice none 0 0] 62]) Ty.mixed ?_
    refine WPD.tL 0 rfl rfl rfl rfl (fun w h => (((h.perm pl4).perm pl5)).dropEnd (L := [_, _])) (Val.loadAgg (cs := [.bool false, .int .i64 0, .int .i64 0, .slice none 0 0, .slice none 0 0]) rfl Ty.ag62 rfl rfl (fun w h => h.range 0 rfl rfl)) ?_
    refine WPD.tL 1 rfl rfl rfl rfl (fun w h => (((h.perm pl4).perm pl5)).dropEnd (L := [_, _])) (Val.loadAgg (cs := [.bool false, .int .i64 0, .int .i64 0, .slice none 0 0, .slice none 0 0]) rfl Ty.ag62 rfl rfl (fun w h => h.range 1 rfl rfl)) ?_
    refine WPD.perm pl5 ?_
    refine WPD.step0 2 (by kernel_rfl) rfl rfl rfl (Eff.storeAgg (cs := [.bool false, .int .i64 0, .int .i64 0, .slice none 0 0, .slice none 0 0]) (C' := [.bool false, .int .i64 0, .int .i64 0, .slice none 0 0, .slice none 0 0]) rfl Ty.ag62 rfl rfl rfl rfl (by simp) rfl) ?_
    rintro _ _ rfl
    refine ⟨(fun w h => (((h.perm pl5).perm pl1)).dropEnd (L := [_, _])), ?_⟩
    refine WPD.perm pl5 ?_
    refine WPD.stepC0 3 (by kernel_rfl) rfl rfl rfl (by kernel_rfl) (Eff.storeAgg (cs := [.bool false, .int .i64 0, .int .i64 0, .slice none 0 0, .slice none 0 0]) (C' := [.bool false, .int .i64 0, .int .i64 0, .slice none 0 0, .slice none 0 0]) rfl Ty.ag62 rfl rfl rfl rfl (by simp) rfl) ?_
    rintro _ _ rfl
    refine ⟨_, (fun _ h => h), ?_⟩
    refine WPD.tM 4 rfl rfl rfl rfl (Val.assign rfl rfl) ?_
    refine WPD.done (by kernel_rfl) ?_
    refine Out.next ?_
    refine WPc.ret ?_
    refine Out.then_ret ?_
    refine Out.conv (fun w h => own_nils (own_nils h)) ?_
    refine Out.perm pl6 ?_
    iterate 3 (refine Out.drop ?_; refine Out.perm pl7 ?_)
    refine Out.drop ?_
    iterate 4 (refine Out.perm pl3 ?_)
    refine Out.perm pl6 ?_
    refine Out.perm pl5 ?_
    refine Out.perm pl6 ?_
    exact Out.retRun (L' := [A, Own 56 5 (.slice none 0 0) 0 [], Own 3 1 (.slice none 0 0) 0 [], Own 56 5 (.slice none 0 0) 0 [], Own 3 1 (.slice none 0 0) 0 []]) (results_cct (cs := [.bool false, .int .i64 0, .int .i64 0, .slice none 0 0, .slice none 0 0]) (cs' := [.bool false, .int .i64 0, .int .i64 0, .slice none 0 0, .slice none 0 0]) Try.results35 rfl rfl rfl Ty.ag62 rfl (fun w h => h.range 0 rfl rfl) Ty.ag62 rfl (fun w h => h.range 1 rfl rfl)) ⟨noAns, noAns, _, _, _, _, _, rfl, (fun h => by cases h), rfl⟩ (fun w h => h.drop.drop)
   ·
    have h2 : (!bp) = false := h2
    refine WPc.skip ?_
    refine Out.next ?_
    refine WPc.sr ?_
    refine WP.val rfl rfl rfl (Val.move rfl rfl) ?_
    refine WP.val rfl rfl rfl (Val.move rfl rfl) ?_
    refine WP.val rfl rfl rfl (Val.loadAgg (cs := [.int .i64 6, .string x.key, .string x.fin, .bool (x.one), .int .i64 (x.lo), .int .i64 (x.hi), .int .i64 0, .int .i64 0, .slice none 0 0, .slice none 0 0]) rfl Ty.ag60 rfl rfl (fun w h => h.range 6 rfl rfl)) ?_
    refine WP.eff rfl rfl rfl (Eff.mkSlice (C := [.int .i64 6, .string x.key, .string x.fin, .bool (x.one), .int .i64 (x.lo), .int .i64 (x.hi), .int .i64 0, .int .i64 0, .slice none 0 0, .slice none 0 0]) rfl Ty.sl47 rfl (fun _ => by kernel_rfl)) ?_
    rintro _ _ ⟨b5, rfl, rfl⟩
    refine WP.perm pl1 ?_
    refine WP.eff rfl rfl rfl (Eff.append (m := 1) (n0 := ops.length) (news := [.int .i64 6, .string x.key, .string x.fin, .bool (x.one), .int .i64 (x.lo), .int .i64 (x.hi), .int .i64 0, .int .i64 0, .slice none 0 0, .slice none 0 0]) rfl Ty.sl47 Ty.z60 rfl rfl rfl (.slice Ty.sl47 rfl rfl (fun w h => cells_range (h.range 1 rfl rfl))) (by omega) (by omega)) ?_
    rintro v6 _ ⟨onev6, rfl⟩
    obtain ⟨hk00, hk03⟩ := hbf (by simpa using ‹(!bf) = false›)
    have hkk : k = k0 := by rcases hk with ⟨-, -, h⟩ | ⟨h, -⟩ <;> omega
    have hsp : spB k0 x := hkk ▸ hbp (by simpa using ‹(!bp) = false›)
    replace hf : Fil k0 ops ps := hkk ▸ hf
    have hk1 : KO k0 k0 := .inl ⟨hk00, hk03, rfl⟩
    refine WP.c1 (B := Own 60 10 v6 ((ops ++ [(⟨6, x, 0, 0, (.slice none 0 0), (.slice none 0 0)⟩ : TOp)]).length) (flatOf TOp.cells (ops ++ [(⟨6, x, 0, 0, (.slice none 0 0), (.slice none 0 0)⟩ : TOp)]))) (fun w h => by rw [flatOf_snoc, List.length_append]; exact h) ?_
    refine WP.open (fun w h => h.ownPos (by rw [List.length_append]; exact Nat.succ_pos _)) ?_
    rintro ⟨g7, cg7, spg7⟩
    refine WP.pure (fun hvg7 => ?_)
    obtain ⟨rfl, hng7, hlg7, hsg7, hcg7⟩ := hvg7
    dsimp only at hng7 hlg7 hsg7 hcg7
    show WP _ _ _ _ _ _ _ (Blk g7 (flatOf TOp.cells (ops ++ [(⟨6, x, 0, 0, (.slice none 0 0), (.slice none 0 0)⟩ : TOp)]) ++ spg7) 60 :: Blk b5 [.int .i64 6, .string x.key, .string x.fin, .bool (x.one), .int .i64 (x.lo), .int .i64 (x.hi), .int .i64 0, .int .i64 0, .slice none 0 0, .slice none 0 0] 60 :: _)
    refine WP.eff rfl rfl rfl (Eff.call rfl rfl Try.call27 (tree_spec (Blk g7 (flatOf TOp.cells (ops ++ [(⟨6, x, 0, 0, (.slice none 0 0), (.slice none 0 0)⟩ : TOp)]) ++ spg7) 60) k0 (AskI k0 ops (fun a => a = ⟨decide ((0 : Int) < (((mts k0 x ps).length : Nat) : Int)), 0, 0, [], []⟩)) (ask_zero k0 ops _) (ops ++ [(⟨6, x, 0, 0, (.slice none 0 0), (.slice none 0 0)⟩ : TOp)]) (by rw [List.length_append]; show _ + 1 ≤ _; omega) (ask_step _ k0 ops (⟨6, x, 0, 0, (.slice none 0 0), (.slice none 0 0)⟩ : TOp) _ (by omega) (fun p hp => hf.good p hp) (fun q t hR hT => ask6_step _ k0 x (spB_ok hsp hxs.1 hxs.2) hsp.1 q t hR (by rw [fil_ps hf] at hT; exact hT))) (.slice (some ⟨g7, 0, none⟩) ((ops ++ [(⟨6, x, 0, 0, (.slice none 0 0), (.slice none 0 0)⟩ : TOp)]).length) cg7) snoc_rd)) ?_
    rintro v _ ⟨_, ⟨q, was, hI, rfl⟩, rfl⟩
    show WP _ _ _ _ _ _ _ (_ :: Own 62 5 v was.length (flatOf WA.cells was) :: Kds WAP was :: _)
    obtain ⟨pre, a, lv, vv, rfl, hpl, hQ⟩ := ask_end hI
    have hpl2 : (pre ++ [(⟨a, lv, vv⟩ : WA)]).length = ops.length + 1 := by rw [List.length_append, hpl]; rfl
    show WP _ _ _ _ _ _ _ (_ :: Own 62 5 v ((pre ++ [(⟨a, lv, vv⟩ : WA)]).length) (flatOf WA.cells (pre ++ [⟨a, lv, vv⟩])) :: Kds WAP (pre ++ [⟨a, lv, vv⟩]) :: _)
    refine WP.perm pl2 ?_
    refine WP.conv (fun w h => kds_last h) ?_
    show WP _ _ _ _ _ _ _ (Own 56 5 lv a.l.length (flatOf Sp.cells a.l) :: Own 3 1 vv a.vs.length (flatOf iv a.vs) :: _)
    refine WP.fact (fun w h => own_oneCell h) (fun hlv => ?_)
    refine WP.perm pl1 ?_
    refine WP.fact (fun w h => own_oneCell h) (fun hvv => ?_)
    refine WP.val rfl rfl rfl (Val.assign rfl rfl) ?_
    refine WP.nx ?_
    refine WPc.seq ?_
    refine WPc.sr ?_
    refine WP.val rfl rfl rfl (Val.move rfl rfl) ?_
    refine WP.val rfl rfl rfl (Val.lenOwn rfl Ty.sl50 rfl (fun w h => h.at 3 rfl)) ?_
    refine WP.val rfl rfl rfl (Val.move rfl rfl) ?_
    refine WP.val rfl rfl rfl (Val.len rfl Ty.sl47 rfl) ?_
    refine WP.val rfl rfl rfl (Val.add (z := ((ops.length + 1 : Nat) : Int)) rfl rfl rfl ((w64 (by omega) (by omega)).trans (by omega))) ?_
    refine WP.val rfl rfl rfl (Val.neq rfl rfl rfl) ?_
    refine WP.nx ?_
    refine WPc.ifP rfl (fun h3 => ?_) (fun h3 => ?_)
    ·
     have h3 : ((((pre ++ [(⟨a, lv, vv⟩ : WA)]).length : Nat) : Int) ≠ ((ops.length + 1 : Nat) : Int)) := h3
     exfalso; omega
    ·
     have h3 : ¬ ((((pre ++ [(⟨a, lv, vv⟩ : WA)]).length : Nat) : Int) ≠ ((ops.length + 1 : Nat) : Int)) := h3
     refine WPc.skip ?_
     refine Out.next ?_
     refine WPc.seq ?_
     refine WPc.perm pl3 ?_
     refine WPc.open (fun w h => h.ownPos (by omega)) ?_
     rintro ⟨g8, cg8, spg8⟩
     refine WPc.pure (fun hvg8 => ?_)
     obtain ⟨rfl, hng8, hlg8, hsg8, hcg8⟩ := hvg8
     dsimp only at hng8 hlg8 hsg8 hcg8
     show WPc _ _ _ _ _ _ (Blk g8 (flatOf WA.cells (pre ++ [⟨a, lv, vv⟩]) ++ spg8) 62 :: _)
     refine WPD.start (Sat W [Blk g8 (flatOf WA.cells (pre ++ [⟨a, lv, vv⟩]) ++ spg8) 62, Blk b1 [.int .i64 6, .string x.key, .string x.fin, .bool (x.one), .int .i64 (x.lo), .int .i64 (x.hi), .int .i64 0, .int .i64 0, .slice none 0 0, .slice none 0 0] 60]) Ty.mixed ?_
     refine WPD.tS 0 rfl rfl rfl rfl (fun w h => (((h.perm pl10).perm pl1)).dropEnd (L := [_, _])) (Val.move rfl rfl) ?_
     refine WPD.tS 1 rfl rfl rfl rfl (fun w h => (((h.perm pl10).perm pl1)).dropEnd (L := [_, _])) (Val.move rfl rfl) ?_
     refine WPD.tL 2 rfl rfl rfl rfl (fun w h => (((h.perm pl10).perm pl1)).dropEnd (L := [_, _])) (Val.len rfl Ty.sl47 rfl) ?_
     refine WPD.tS 3 rfl rfl rfl rfl (fun w h => (((h.perm pl10).perm pl1)).dropEnd (L := [_, _])) (Val.indexAddr (j := ops.length) (q := ops.length * 5) rfl Ty.sl50 rfl rfl (by omega) (by omega) (by omega)) ?_
     refine WPD.tL 4 rfl rfl rfl rfl (fun w h => (((h.perm pl10).perm pl1)).dropEnd (L := [_, _])) (Val.loadAgg (cs := (WA.cells ⟨a, lv, vv⟩)) rfl Ty.ag62 rfl (by rfl) (fun w h => h.range 0 rfl (wa_at hpl))) ?_
     refine WPD.tS 5 rfl rfl rfl rfl (fun w h => (((h.perm pl10).perm pl1)).dropEnd (L := [_, _])) (Val.move rfl rfl) ?_
     refine WPD.tL 6 rfl rfl rfl rfl (fun w h => (((h.perm pl10).perm pl1)).dropEnd (L := [_, _])) (Val.loadAgg (cs := [.int .i64 6, .string x.key, .string x.fin, .bool (x.one), .int .i64 (x.lo), .int .i64 (x.hi), .int .i64 0, .int .i64 0, .slice none 0 0, .slice none 0 0]) rfl Ty.ag60 rfl rfl (fun w h => h.range 1 rfl rfl)) ?_
     refine WPD.perm pl7 ?_
     refine WPD.perm pl7 ?_
     refine WPD.step 7 (by kernel_rfl) rfl rfl rfl rfl (Eff.call rfl rfl Try.call28 (do6_spec pb k0 k0 hk1 x hxs.1 0 0 (.slice none 0 0) (.slice none 0 0) rfl rfl ps (by have := hf.len; omega) hf.sz u)) ?_
     rintro _ _ ⟨_, ⟨w, lw, vw, hw, rfl, rfl⟩, rfl⟩
     refine ⟨(fun w h => (((h.perm pl12).perm pl5)).dropEnd (L := [_, _])), ?_⟩
     show WPD _ _ _ _ _ _ _ _ _ (_ :: _ :: Own 56 5 lw w.l.length (flatOf Sp.cells w.l) :: Own 3 1 vw w.vs.length (flatOf iv w.vs) :: _)
     refine WPD.perm pl2 ?_
     refine WPD.fact (fun w h => own_oneCell h) (fun hlw => ?_)
     refine WPD.perm pl3 ?_
     refine WPD.fact (fun w h => own_oneCell h) (fun hvw => ?_)
     refine WPD.perm pl11 ?_
     refine WPD.stepC0 8 (by kernel_rfl) rfl rfl rfl (by kernel_rfl) (Eff.storeAgg (cs := [.bool (a.ok), .int .i64 (a.n), .int .i64 (a.most), lv, vv]) (C' := [.bool (a.ok), .int .i64 (a.n), .int .i64 (a.most), lv, vv]) rfl Ty.ag62 rfl rfl rfl (by simp only [List.all_cons, List.all_nil, Bool.and_true, oc_int, oc_str, oc_bool, oc_ptr, oc_slice, oc_iface, oc_map, hlv, hvv]) (by simp) rfl) ?_
     rintro _ _ rfl
     refine ⟨_, (fun _ h => h), ?_⟩
     refine WPD.perm pl11 ?_
     refine WPD.stepC0 9 (by kernel_rfl) rfl rfl rfl (by kernel_rfl) (Eff.storeAgg (cs := [.bool (w.ok), .int .i64 (w.n), .int .i64 (w.most), lw, vw]) (C' := [.bool (w.ok), .int .i64 (w.n), .int .i64 (w.most), lw, vw]) rfl Ty.ag62 rfl rfl rfl (by simp only [List.all_cons, List.all_nil, Bool.and_true, oc_int, oc_str, oc_bool, oc_ptr, oc_slice, oc_iface, oc_map, hlw, hvw]) (by simp) rfl) ?_
     rintro _ _ rfl
     refine ⟨_, (fun _ h => h), ?_⟩
     refine WPD.tM 10 rfl rfl rfl rfl (Val.assign rfl rfl) ?_
     refine WPD.done (by kernel_rfl) ?_
     refine Out.next ?_
     refine WPc.ret ?_
     have hfin : a = ⟨decide ((0 : Int) < (((mts k0 x ps).length : Nat) : Int)), 0, 0, [], []⟩ ∧ w = a := ⟨hQ, hw.trans hQ.symm⟩
     iterate 3 (refine Out.perm pl4 ?_; refine Out.drop ?_)
     refine Out.perm pl6 ?_
     refine Out.drop ?_
     refine Out.perm pl6 ?_
     refine Out.drop ?_
     refine Out.perm pl7 ?_
     refine Out.drop ?_
     refine Out.perm pl2 ?_
     refine Out.perm pl3 ?_
     refine Out.perm pl4 ?_
     refine Out.perm pl5 ?_
     refine Out.perm pl6 ?_
     refine Out.perm pl5 ?_
     refine Out.perm pl6 ?_
     exact Out.retRun (L' := [A, Own 56 5 lv a.l.length (flatOf Sp.cells a.l), Own 3 1 vv a.vs.length (flatOf iv a.vs), Own 56 5 lw w.l.length (flatOf Sp.cells w.l), Own 3 1 vw w.vs.length (flatOf iv w.vs)]) (results_cct (cs := [.bool (a.ok), .int .i64 (a.n), .int .i64 (a.most), lv, vv]) (cs' := [.bool (w.ok), .int .i64 (w.n), .int .i64 (w.most), lw, vw]) Try.results35 rfl rfl rfl Ty.ag62 rfl (fun w h => h.range 0 rfl rfl) Ty.ag62 rfl (fun w h => h.range 1 rfl rfl)) ⟨a, w, _, _, _, _, _, rfl, (fun _ => ⟨hk00, hk03, hsp, ps, ops, hf, hfin⟩), rfl⟩ (fun w h => h.drop.drop)

set_option maxRecDepth 100000 in
set_option maxHeartbeats 2000000 in
theorem ask6_row (A : HProp) (k0 k : Int) (hk : KO k0 k) (x : Sp) (hxs : szB x) (l : List Sp) (hl : l.length ≤ 9223372036854775806) (hsz : ∀ y ∈ l, szB y) (b0 o0 c0 : Nat) (hr : ∀ w, Holds A w → ∀ i x, l[i]? = some x → w.rangeAt b0 (o0 + i * 5) (Sp.cells x)) : Does Try.prog 35 [.int .i64 (k0), .slice (some ⟨b0, o0, none⟩) l.length c0, .agg #[.int .i64 6, .string x.key, .string x.fin, .bool (x.one), .int .i64 (x.lo), .int .i64 (x.hi), .int .i64 0, .int .i64 0, .slice none 0 0, .slice none 0 0]] [A] (fun v L => ∃ (a w : TAns) (lv vv lw vw : Value) (b : Bool), v = .tuple #[.agg (WA.cells ⟨a, lv, vv⟩).toArray, .agg (WA.cells ⟨w, lw, vw⟩).toArray, .bool b] ∧ (b = true → 0 ≤ k0 ∧ k0 ≤ 3 ∧ spB k0 x ∧ ∃ ps ops, Fil k0 ops ps ∧ (a = ⟨decide ((0 : Int) < (((mts k0 x ps).length : Nat) : Int)), 0, 0, [], []⟩ ∧ w = a)) ∧ L = [A, Own 56 5 lv a.l.length (flatOf Sp.cells a.l), Own 3 1 vv a.vs.length (flatOf iv a.vs), Own 56 5 lw w.l.length (flatOf Sp.cells w.l), Own 3 1 vw w.vs.length (flatOf iv w.vs)]) := by
 refine Does.enter 52 Try.func35 rfl rfl rfl fun W F => ?_
 show WPc _ _ _ _ _ [(0, .int .i64 (k0)), (1, .slice (some ⟨b0, o0, none⟩) l.length c0), (2, .agg #[.int .i64 6, .string x.key, .string x.fin, .bool (x.one), .int .i64 (x.lo), .int .i64 (x.hi), .int .i64 0, .int .i64 0, .slice none 0 0, .slice none 0 0])] (A :: F)
 refine WPc.sr ?_
 refine WP.eff rfl rfl rfl (Eff.box (C := [.int .i64 6, .string x.key, .string x.fin, .bool (x.one), .int .i64 (x.lo), .int .i64 (x.hi), .int .i64 0, .int .i64 0, .slice none 0 0, .slice none 0 0]) rfl rfl rfl) ?_
 rintro _ _ ⟨b1, rfl, rfl⟩
 refine WP.eff rfl rfl rfl (Eff.alloc rfl Ty.z62) ?_
 rintro _ _ ⟨b2, rfl, rfl⟩
 refine WP.eff rfl rfl rfl (Eff.alloc rfl Ty.z62) ?_
 rintro _ _ ⟨b3, rfl, rfl⟩
 refine WP.val rfl rfl rfl (Val.assign rfl rfl) ?_
 refine WP.nx ?_
 refine WPc.sr ?_
 refine WP.val rfl rfl rfl (Val.move rfl rfl) ?_
 refine WP.val rfl rfl rfl (Val.move rfl rfl) ?_
 refine WP.perm pl3 ?_
 refine WP.eff rfl rfl rfl (Eff.call rfl rfl Try.call33 (filled_spec A k0 k hk l hl hsz (.slice (some ⟨b0, o0, none⟩) l.length c0) (.inl ⟨b0, o0, c0, rfl, hr⟩))) ?_
 rintro v_ _ ⟨M_, hM_, rfl⟩
 rcases hM_ with ⟨rfl, rfl⟩ | ⟨bf, vo, ops, ps, pb, u, rfl, hbf, hol, hf, rfl⟩
 ·
  show WP _ _ _ _ _ _ _ (_ :: Blk b3 [.bool false, .int .i64 0, .int .i64 0, .slice none 0 0, .slice none 0 0] 62 :: Blk b2 [.bool false, .int .i64 0, .int .i64 0, .slice none 0 0, .slice none 0 0] 62 :: Blk b1 [.int .i64 6, .string x.key, .string x.fin, .bool (x.one), .int .i64 (x.lo), .int .i64 (x.hi), .int .i64 0, .int .i64 0, .slice none 0 0, .slice none 0 0] 60 :: _)
  refine WP.val rfl rfl rfl (Val.move rfl rfl) ?_
  iterate 3 (refine WP.val rfl rfl rfl (Val.extract rfl rfl rfl) ?_)
  iterate 3 (refine WP.val rfl rfl rfl (Val.assign rfl rfl) ?_)
  refine WP.nx ?_
  refine WPc.seq ?_
  refine WPc.sr ?_
  refine WP.val rfl rfl rfl (Val.move rfl rfl) ?_
  refine WP.val rfl rfl rfl (Val.not rfl rfl) ?_
  refine WP.val rfl rfl rfl (Val.move rfl rfl) ?_
  iterate 4 (refine WP.skip rfl rfl rfl rfl rfl rfl rfl ?_)
  refine WP.val rfl rfl rfl (Val.pickT rfl rfl rfl) ?_
  refine WP.nx ?_
  refine WPc.condT rfl rfl ?_
  refine WPc.seq ?_
  refine WPD.start (Sat W [Blk b2 [.bool false, .int .i64 0, .int .i64 0, .slice none 0 0, .slice none 0 0] 62, Blk b3 [.bool false, .int .i64 0, .int .i64 0, .slice none 0 0, .slice none 0 0] 62]) Ty.mixed ?_
  refine WPD.tL 0 rfl rfl rfl rfl (fun w h => (((h.perm pl1).perm pl2)).dropEnd (L := [_, _])) (Val.loadAgg (cs := [.bool false, .int .i64 0, .int .i64 0, .slice none 0 0, .slice none 0 0]) rfl Ty.ag62 rfl rfl (fun w h => h.range 0 rfl rfl)) ?_
  refine WPD.tL 1 rfl rfl rfl rfl (fun w h => (((h.perm pl1).perm pl2)).dropEnd (L := [_, _])) (Val.loadAgg (cs := [.bool false, .int .i64 0, .int .i64 0, .slice none 0 0, .slice none 0 0]) rfl Ty.ag62 rfl rfl (fun w h => h.range 1 rfl rfl)) ?_
  refine WPD.perm pl2 ?_
  refine WPD.step0 2 (by kernel_rfl) rfl rfl rfl (Eff.storeAgg (cs := [.bool false, .int .i64 0, .int .i64 0, .slice none 0 0, .slice none 0 0]) (C' := [.bool false, .int .i64 0, .int .i64 0, .slice none 0 0, .slice none 0 0]) rfl Ty.ag62 rfl rfl rfl rfl (by simp) rfl) ?_
  rintro _ _ rfl
  refine ⟨(fun w h => (((h.perm pl2).perm pl1)).dropEnd (L := [_, _])), ?_⟩
  refine WPD.perm pl2 ?_
  refine WPD.stepC0 3 (by kernel_rfl) rfl rfl rfl (by kernel_rfl) (Eff.storeAgg (cs := [.bool false, .int .i64 0, .int .i64 0, .slice none 0 0, .slice none 0 0]) (C' := [.bool false, .int .i64 0, .int .i64 0, .slice none 0 0, .slice none 0 0]) rfl Ty.ag62 rfl rfl rfl rfl (by simp) rfl) ?_
  rintro _ _ rfl
  refine ⟨_, (fun _ h => h), ?_⟩
  refine WPD.tM 4 rfl rfl rfl rfl (Val.assign rfl rfl) ?_
  refine WPD.done (by kernel_rfl) ?_
  refine Out.next ?_
  refine WPc.ret ?_
  refine Out.then_ret ?_
  refine Out.conv (fun w h => own_nils (own_nils h)) ?_
  refine Out.perm pl7 ?_
  refine Out.drop ?_
  iterate 4 (refine Out.perm pl3 ?_)
  refine Out.perm pl6 ?_
  refine Out.perm pl5 ?_
  refine Out.perm pl6 ?_
  exact Out.retRun (L' := [A, Own 56 5 (.slice none 0 0) 0 [], Own 3 1 (.slice none 0 0) 0 [], Own 56 5 (.slice none 0 0) 0 [], Own 3 1 (.slice none 0 0) 0 []]) (results_cct (cs := [.bool false, .int .i64 0, .int .i64 0, .slice none 0 0, .slice none 0 0]) (cs' := [.bool false, .int .i64 0, .int .i64 0, .slice none 0 0, .slice none 0 0]) Try.results35 rfl rfl rfl Ty.ag62 rfl (fun w h => h.range 0 rfl rfl) Ty.ag62 rfl (fun w h => h.range 1 rfl rfl)) ⟨noAns, noAns, _, _, _, _, _, rfl, (fun h => by cases h), rfl⟩ (fun w h => h.drop.drop)
 ·
  show WP _ _ _ _ _ _ _ (_ :: Own 60 10 vo ops.length (flatOf TOp.cells ops) :: Seq u ps.length ((flatOf Pc.cells ps)) :: Blk pb [.int .i64 (k0), u] 33 :: Blk b3 [.bool false, .int .i64 0, .int .i64 0, .slice none 0 0, .slice none 0 0] 62 :: Blk b2 [.bool false, .int .i64 0, .int .i64 0, .slice none 0 0, .slice none 0 0] 62 :: Blk b1 [.int .i64 6, .string x.key, .string x.fin, .bool (x.one), .int .i64 (x.lo), .int .i64 (x.hi), .int .i64 0, .int .i64 0, .slice none 0 0, .slice none 0 0] 60 :: _)
  refine WP.perm pl1 ?_
  refine WP.fact (fun w h => own_slice h) (fun hsl4 => ?_)
  obtain ⟨a4, k4, rfl⟩ := hsl4
  show WP _ _ _ _ _ _ _ (Own 60 10 (.slice a4 ops.length k4) ops.length (flatOf TOp.cells ops) :: _)
  refine WP.val rfl rfl rfl (Val.move rfl rfl) ?_
  iterate 3 (refine WP.val rfl rfl rfl (Val.extract rfl rfl rfl) ?_)
  iterate 3 (refine WP.val rfl rfl rfl (Val.assign rfl rfl) ?_)
  refine WP.nx ?_
  refine WPc.seq ?_
  refine WPc.sr ?_
  refine WP.val rfl rfl rfl (Val.move rfl rfl) ?_
  refine WP.val rfl rfl rfl (Val.not rfl rfl) ?_
  refine WP.val rfl rfl rfl (Val.move rfl rfl) ?_
  refine WP.splitB 22 rfl (fun h1 => ?_) (fun h1 => ?_)
  ·
   iterate 4 (refine WP.skip rfl rfl rfl rfl rfl rfl rfl ?_)
   refine WP.val rfl rfl rfl (Val.pickT rfl rfl rfl) ?_
   refine WP.nx ?_
   refine WPc.condT rfl rfl ?_
   refine WPc.seq ?_
   refine WPD.start (Sat W [Blk b2 [.bool false, .int .i64 0, .int .i64 0, .slice none 0 0, .slice none 0 0] 62, Blk b3 [.bool false, .int .i64 0, .int .i64 0, .slice none 0 0, .slice none 0 0] 62]) Ty.mixed ?_
   refine WPD.tL 0 rfl rfl rfl rfl (fun w h => (((h.perm pl4).perm pl5)).dropEnd (L := [_, _])) (Val.loadAgg (cs := [.bool false, .int .i64 0, .int .i64 0, .slice none 0 0, .slice none 0 0]) rfl Ty.ag62 rfl rfl (fun w h => h.range 0 rfl rfl)) ?_
   refine WPD.tL 1 rfl rfl rfl rfl (fun w h => (((h.perm pl4).perm pl5)).dropEnd (L := [_, _])) (Val.loadAgg (cs := [.bool false, .int .i64 0, .int .i64 0, .slice none 0 0, .slice none 0 0]) rfl Ty.ag62 rfl rfl (fun w h => h.range 1 rfl rfl)) ?_
   refine WPD.perm pl5 ?_
   refine WPD.step0 2 (by kernel_rfl) rfl rfl rfl (Eff.storeAgg (cs := [.bool false, .int .i64 0, .int .i64 0, .slice none 0 0, .slice none 0 0]) (C' := [.bool false, .int .i64 0, .int .i64 0, .slice none 0 0, .slice none 0 0]) rfl Ty.ag62 rfl rfl rfl rfl (by simp) rfl) ?_
   rintro _ _ rfl
   refine ⟨(fun w h => (((h.perm pl5).perm pl1)).dropEnd (L := [_, _])), ?_⟩
   refine WPD.perm pl5 ?_
   refine WPD.stepC0 3 (by kernel_rfl) rfl rfl rfl (by kernel_rfl) (Eff.storeAgg (cs := [.bool false, .int .i64 0, .int .i64 0, .slice none 0 0, .slice none 0 0]) (C' := [.bool false, .int .i64 0, .int .i64 0, .slice none 0 0, .slice none 0 0]) rfl Ty.ag62 rfl rfl rfl rfl (by simp) rfl) ?_
   rintro _ _ rfl
   refine ⟨_, (fun _ h => h), ?_⟩
   refine WPD.tM 4 rfl rfl rfl rfl (Val.assign rfl rfl) ?_
   refine WPD.done (by kernel_rfl) ?_
   refine Out.next ?_
   refine WPc.ret ?_
   refine Out.then_ret ?_
   refine Out.conv (fun w h => own_nils (own_nils h)) ?_
   refine Out.perm pl6 ?_
   iterate 3 (refine Out.drop ?_; refine Out.perm pl7 ?_)
   refine Out.drop ?_
   iterate 4 (refine Out.perm pl3 ?_)
   refine Out.perm pl6 ?_
   refine Out.perm pl5 ?_
   refine Out.perm pl6 ?_
   exact Out.retRun (L' := [A, Own 56 5 (.slice none 0 0) 0 [], Own 3 1 (.slice none 0 0) 0 [], Own 56 5 (.slice none 0 0) 0 [], Own 3 1 (.slice none 0 0) 0 []]) (results_cct (cs := [.bool false, .int .i64 0, .int .i64 0, .slice none 0 0, .slice none 0 0]) (cs' := [.bool false, .int .i64 0, .int .i64 0, .slice none 0 0, .slice none 0 0]) Try.results35 rfl rfl rfl Ty.ag62 rfl (fun w h => h.range 0 rfl rfl) Ty.ag62 rfl (fun w h => h.range 1 rfl rfl)) ⟨noAns, noAns, _, _, _, _, _, rfl, (fun h => by cases h), rfl⟩ (fun w h => h.drop.drop)
  ·
   refine WP.valG rfl rfl rfl rfl rfl rfl rfl (Val.move rfl rfl) ?_
   refine WP.valG rfl rfl rfl rfl rfl rfl rfl (Val.loadAgg (cs := [.int .i64 6, .string x.key, .string x.fin, .bool (x.one), .int .i64 (x.lo), .int .i64 (x.hi), .int .i64 0, .int .i64 0, .slice none 0 0, .slice none 0 0]) rfl Ty.ag60 rfl rfl (fun w h => h.range 6 rfl rfl)) ?_
   refine WP.effG rfl rfl rfl rfl rfl rfl rfl (Eff.call rfl rfl Try.call34 (proper1_does k0 k hk x hxs.1 6 0 0 (by decide) (by decide))) ?_
   rintro _ _ ⟨_, ⟨bp, rfl, hbp, rfl⟩, rfl⟩
   refine WP.valG rfl rfl rfl rfl rfl rfl rfl (Val.not rfl rfl) ?_
   refine WP.val rfl rfl rfl (Val.pickF rfl rfl rfl) ?_
   refine WP.nx ?_
   refine WPc.cond rfl (fun h2 => ?_) (fun h2 => ?_)
   ·
    have h2 : (!bp) = true := h2
    refine WPc.seq ?_
    refine WPD.start (Sat W [Blk b2 [.bool false, .int .i64 0, .int .i64 0, .slice none 0 0, .slice none 0 0] 62, Blk b3 [.bool false, .int .i64 0, .int .i64 0, .slice none 0 0, .slice none 0 0] 62]) Ty.mixed ?_
    refine WPD.tL 0 rfl rfl rfl rfl (fun w h => (((h.perm pl4).perm pl5)).dropEnd (L := [_, _])) (Val.loadAgg (cs := [.bool false, .int .i64 0, .int .i64 0, .slice none 0 0, .slice none 0 0]) rfl Ty.ag62 rfl rfl (fun w h => h.range 0 rfl rfl)) ?_
    refine WPD.tL 1 rfl rfl rfl rfl (fun w h => (((h.perm pl4).perm pl5)).dropEnd (L := [_, _])) (Val.loadAgg (cs := [.bool false, .int .i64 0, .int .i64 0, .slice none 0 0, .slice none 0 0]) rfl Ty.ag62 rfl rfl (fun w h => h.range 1 rfl rfl)) ?_
    refine WPD.perm pl5 ?_
    refine WPD.step0 2 (by kernel_rfl) rfl rfl rfl (Eff.storeAgg (cs := [.bool false, .int .i64 0, .int .i64 0, .slice none 0 0, .slice none 0 0]) (C' := [.bool false, .int .i64 0, .int .i64 0, .slice none 0 0, .slice none 0 0]) rfl Ty.ag62 rfl rfl rfl rfl (by simp) rfl) ?_
    rintro _ _ rfl
    refine ⟨(fun w h => (((h.perm pl5).perm pl1)).dropEnd (L := [_, _])), ?_⟩
    refine WPD.perm pl5 ?_
    refine WPD.stepC0 3 (by kernel_rfl) rfl rfl rfl (by kernel_rfl) (Eff.storeAgg (cs := [.bool false, .int .i64 0, .int .i64 0, .slice none 0 0, .slice none 0 0]) (C' := [.bool false, .int .i64 0, .int .i64 0, .slice none 0 0, .slice none 0 0]) rfl Ty.ag62 rfl rfl rfl rfl (by simp) rfl) ?_
    rintro _ _ rfl
    refine ⟨_, (fun _ h => h), ?_⟩
    refine WPD.tM 4 rfl rfl rfl rfl (Val.assign rfl rfl) ?_
    refine WPD.done (by kernel_rfl) ?_
    refine Out.next ?_
    refine WPc.ret ?_
    refine Out.then_ret ?_
    refine Out.conv (fun w h => own_nils (own_nils h)) ?_
    refine Out.perm pl6 ?_
    iterate 3 (refine Out.drop ?_; refine Out.perm pl7 ?_)
    refine Out.drop ?_
    iterate 4 (refine Out.perm pl3 ?_)
    refine Out.perm pl6 ?_
    refine Out.perm pl5 ?_
    refine Out.perm pl6 ?_
    exact Out.retRun (L' := [A, Own 56 5 (.slice none 0 0) 0 [], Own 3 1 (.slice none 0 0) 0 [], Own 56 5 (.slice none 0 0) 0 [], Own 3 1 (.slice none 0 0) 0 []]) (results_cct (cs := [.bool false, .int .i64 0, .int .i64 0, .slice none 0 0, .slice none 0 0]) (cs' := [.bool false, .int .i64 0, .int .i64 0, .slice none 0 0, .slice none 0 0]) Try.results35 rfl rfl rfl Ty.ag62 rfl (fun w h => h.range 0 rfl rfl) Ty.ag62 rfl (fun w h => h.range 1 rfl rfl)) ⟨noAns, noAns, _, _, _, _, _, rfl, (fun h => by cases h), rfl⟩ (fun w h => h.drop.drop)
   ·
    have h2 : (!bp) = false := h2
    refine WPc.skip ?_
    refine Out.next ?_
    refine WPc.sr ?_
    refine WP.val rfl rfl rfl (Val.move rfl rfl) ?_
    refine WP.val rfl rfl rfl (Val.move rfl rfl) ?_
    refine WP.val rfl rfl rfl (Val.loadAgg (cs := [.int .i64 6, .string x.key, .string x.fin, .bool (x.one), .int .i64 (x.lo), .int .i64 (x.hi), .int .i64 0, .int .i64 0, .slice none 0 0, .slice none 0 0]) rfl Ty.ag60 rfl rfl (fun w h => h.range 6 rfl rfl)) ?_
    refine WP.eff rfl rfl rfl (Eff.mkSlice (C := [.int .i64 6, .string x.key, .string x.fin, .bool (x.one), .int .i64 (x.lo), .int .i64 (x.hi), .int .i64 0, .int .i64 0, .slice none 0 0, .slice none 0 0]) rfl Ty.sl47 rfl (fun _ => by kernel_rfl)) ?_
    rintro _ _ ⟨b5, rfl, rfl⟩
    refine WP.perm pl1 ?_
    refine WP.eff rfl rfl rfl (Eff.append (m := 1) (n0 := ops.length) (news := [.int .i64 6, .string x.key, .string x.fin, .bool (x.one), .int .i64 (x.lo), .int .i64 (x.hi), .int .i64 0, .int .i64 0, .slice none 0 0, .slice none 0 0]) rfl Ty.sl47 Ty.z60 rfl rfl rfl (.slice Ty.sl47 rfl rfl (fun w h => cells_range (h.range 1 rfl rfl))) (by omega) (by omega)) ?_
    rintro v6 _ ⟨onev6, rfl⟩
    obtain ⟨hk00, hk03⟩ := hbf (by simpa using ‹(!bf) = false›)
    have hkk : k = k0 := by rcases hk with ⟨-, -, h⟩ | ⟨h, -⟩ <;> omega
    have hsp : spB k0 x := hkk ▸ hbp (by simpa using ‹(!bp) = false›)
    replace hf : Fil k0 ops ps := hkk ▸ hf
    have hk1 : KO k0 k0 := .inl ⟨hk00, hk03, rfl⟩
    refine WP.c1 (B := Own 60 10 v6 ((ops ++ [(⟨6, x, 0, 0, (.slice none 0 0), (.slice none 0 0)⟩ : TOp)]).length) (flatOf TOp.cells (ops ++ [(⟨6, x, 0, 0, (.slice none 0 0), (.slice none 0 0)⟩ : TOp)]))) (fun w h => by rw [flatOf_snoc, List.length_append]; exact h) ?_
    refine WP.open (fun w h => h.ownPos (by rw [List.length_append]; exact Nat.succ_pos _)) ?_
    rintro ⟨g7, cg7, spg7⟩
    refine WP.pure (fun hvg7 => ?_)
    obtain ⟨rfl, hng7, hlg7, hsg7, hcg7⟩ := hvg7
    dsimp only at hng7 hlg7 hsg7 hcg7
    show WP _ _ _ _ _ _ _ (Blk g7 (flatOf TOp.cells (ops ++ [(⟨6, x, 0, 0, (.slice none 0 0), (.slice none 0 0)⟩ : TOp)]) ++ spg7) 60 :: Blk b5 [.int .i64 6, .string x.key, .string x.fin, .bool (x.one), .int .i64 (x.lo), .int .i64 (x.hi), .int .i64 0, .int .i64 0, .slice none 0 0, .slice none 0 0] 60 :: _)
    refine WP.eff rfl rfl rfl (Eff.call rfl rfl Try.call27 (tree_spec (Blk g7 (flatOf TOp.cells (ops ++ [(⟨6, x, 0, 0, (.slice none 0 0), (.slice none 0 0)⟩ : TOp)]) ++ spg7) 60) k0 (AskI k0 ops (fun a => a = ⟨decide ((0 : Int) < (((mts k0 x ps).length : Nat) : Int)), 0, 0, [], []⟩)) (ask_zero k0 ops _) (ops ++ [(⟨6, x, 0, 0, (.slice none 0 0), (.slice none 0 0)⟩ : TOp)]) (by rw [List.length_append]; show _ + 1 ≤ _; omega) (ask_step _ k0 ops (⟨6, x, 0, 0, (.slice none 0 0), (.slice none 0 0)⟩ : TOp) _ (by omega) (fun p hp => hf.good p hp) (fun q t hR hT => ask6_step _ k0 x (spB_ok hsp hxs.1 hxs.2) hsp.1 q t hR (by rw [fil_ps hf] at hT; exact hT))) (.slice (some ⟨g7, 0, none⟩) ((ops ++ [(⟨6, x, 0, 0, (.slice none 0 0), (.slice none 0 0)⟩ : TOp)]).length) cg7) snoc_rd)) ?_
    rintro v _ ⟨_, ⟨q, was, hI, rfl⟩, rfl⟩
    show WP _ _ _ _ _ _ _ (_ :: Own 62 5 v was.length (flatOf WA.cells was) :: Kds WAP was :: _)
    obtain ⟨pre, a, lv, vv, rfl, hpl, hQ⟩ := ask_end hI
    have hpl2 : (pre ++ [(⟨a, lv, vv⟩ : WA)]).length = ops.length + 1 := by rw [List.length_append, hpl]; rfl
    show WP _ _ _ _ _ _ _ (_ :: Own 62 5 v ((pre ++ [(⟨a, lv, vv⟩ : WA)]).length) (flatOf WA.cells (pre ++ [⟨a, lv, vv⟩])) :: Kds WAP (pre ++ [⟨a, lv, vv⟩]) :: _)
    refine WP.perm pl2 ?_
    refine WP.conv (fun w h => kds_last h) ?_
    show WP _ _ _ _ _ _ _ (Own 56 5 lv a.l.length (flatOf Sp.cells a.l) :: Own 3 1 vv a.vs.length (flatOf iv a.vs) :: _)
    refine WP.fact (fun w h => own_oneCell h) (fun hlv => ?_)
    refine WP.perm pl1 ?_
    refine WP.fact (fun w h => own_oneCell h) (fun hvv => ?_)
    refine WP.val rfl rfl rfl (Val.assign rfl rfl) ?_
    refine WP.nx ?_
    refine WPc.seq ?_
    refine WPc.sr ?_
    refine WP.val rfl rfl rfl (Val.move rfl rfl) ?_
    refine WP.val rfl rfl rfl (Val.lenOwn rfl Ty.sl50 rfl (fun w h => h.at 3 rfl)) ?_
    refine WP.val rfl rfl rfl (Val.move rfl rfl) ?_
    refine WP.val rfl rfl rfl (Val.len rfl Ty.sl47 rfl) ?_
    refine WP.val rfl rfl rfl (Val.add (z := ((ops.length + 1 : Nat) : Int)) rfl rfl rfl ((w64 (by omega) (by omega)).trans (by omega))) ?_
    refine WP.val rfl rfl rfl (Val.neq rfl rfl rfl) ?_
    refine WP.nx ?_
    refine WPc.ifP rfl (fun h3 => ?_) (fun h3 => ?_)
    ·
     have h3 : ((((pre ++ [(⟨a, lv, vv⟩ : WA)]).length : Nat) : Int) ≠ ((ops.length + 1 : Nat) : Int)) := h3
     exfalso; omega
    ·
     have h3 : ¬ ((((pre ++ [(⟨a, lv, vv⟩ : WA)]).length : Nat) : Int) ≠ ((ops.length + 1 : Nat) : Int)) := h3
     refine WPc.skip ?_
     refine Out.next ?_
     refine WPc.seq ?_
     refine WPc.perm pl3 ?_
     refine WPc.open (fun w h => h.ownPos (by omega)) ?_
     rintro ⟨g8, cg8, spg8⟩
     refine WPc.pure (fun hvg8 => ?_)
     obtain ⟨rfl, hng8, hlg8, hsg8, hcg8⟩ := hvg8
     dsimp only at hng8 hlg8 hsg8 hcg8
     show WPc _ _ _ _ _ _ (Blk g8 (flatOf WA.cells (pre ++ [⟨a, lv, vv⟩]) ++ spg8) 62 :: _)
     refine WPD.start (Sat W [Blk g8 (flatOf WA.cells (pre ++ [⟨a, lv, vv⟩]) ++ spg8) 62, Blk b1 [.int .i64 6, .string x.key, .string x.fin, .bool (x.one), .int .i64 (x.lo), .int .i64 (x.hi), .int .i64 0, .int .i64 0, .slice none 0 0, .slice none 0 0] 60]) Ty.mixed ?_
     refine WPD.tS 0 rfl rfl rfl rfl (fun w h => (((h.perm pl10).perm pl1)).dropEnd (L := [_, _])) (Val.move rfl rfl) ?_
     refine WPD.tS 1 rfl rfl rfl rfl (fun w h => (((h.perm pl10).perm pl1)).dropEnd (L := [_, _])) (Val.move rfl rfl) ?_
     refine WPD.tL 2 rfl rfl rfl rfl (fun w h => (((h.perm pl10).perm pl1)).dropEnd (L := [_, _])) (Val.len rfl Ty.sl47 rfl) ?_
     refine WPD.tS 3 rfl rfl rfl rfl (fun w h => (((h.perm pl10).perm pl1)).dropEnd (L := [_, _])) (Val.indexAddr (j := ops.length) (q := ops.length * 5) rfl Ty.sl50 rfl rfl (by omega) (by omega) (by omega)) ?_
     refine WPD.tL 4 rfl rfl rfl rfl (fun w h => (((h.perm pl10).perm pl1)).dropEnd (L := [_, _])) (Val.loadAgg (cs := (WA.cells ⟨a, lv, vv⟩)) rfl Ty.ag62 rfl (by rfl) (fun w h => h.range 0 rfl (wa_at hpl))) ?_
     refine WPD.tS 5 rfl rfl rfl rfl (fun w h => (((h.perm pl10).perm pl1)).dropEnd (L := [_, _])) (Val.move rfl rfl) ?_
     refine WPD.tL 6 rfl rfl rfl rfl (fun w h => (((h.perm pl10).perm pl1)).dropEnd (L := [_, _])) (Val.loadAgg (cs := [.int .i64 6, .string x.key, .string x.fin, .bool (x.one), .int .i64 (x.lo), .int .i64 (x.hi), .int .i64 0, .int .i64 0, .slice none 0 0, .slice none 0 0]) rfl Ty.ag60 rfl rfl (fun w h => h.range 1 rfl rfl)) ?_
     refine WPD.perm pl7 ?_
     refine WPD.perm pl7 ?_
     refine WPD.step 7 (by kernel_rfl) rfl rfl rfl rfl (Eff.call rfl rfl Try.call28 (do6_spec pb k0 k0 hk1 x hxs.1 0 0 (.slice none 0 0) (.slice none 0 0) rfl rfl ps (by have := hf.len; omega) hf.sz u)) ?_
     rintro _ _ ⟨_, ⟨w, lw, vw, hw, rfl, rfl⟩, rfl⟩
     refine ⟨(fun w h => (((h.perm pl12).perm pl5)).dropEnd (L := [_, _])), ?_⟩
     show WPD _ _ _ _ _ _ _ _ _ (_ :: _ :: Own 56 5 lw w.l.length (flatOf Sp.cells w.l) :: Own 3 1 vw w.vs.length (flatOf iv w.vs) :: _)
     refine WPD.perm pl2 ?_
     refine WPD.fact (fun w h => own_oneCell h) (fun hlw => ?_)
     refine WPD.perm pl3 ?_
     refine WPD.fact (fun w h => own_oneCell h) (fun hvw => ?_)
     refine WPD.perm pl11 ?_
     refine WPD.stepC0 8 (by kernel_rfl) rfl rfl rfl (by kernel_rfl) (Eff.storeAgg (cs := [.bool (a.ok), .int .i64 (a.n), .int .i64 (a.most), lv, vv]) (C' := [.bool (a.ok), .int .i64 (a.n), .int .i64 (a.most), lv, vv]) rfl Ty.ag62 rfl rfl rfl (by simp only [List.all_cons, List.all_nil, Bool.and_true, oc_int, oc_str, oc_bool, oc_ptr, oc_slice, oc_iface, oc_map, hlv, hvv]) (by simp) rfl) ?_
     rintro _ _ rfl
     refine ⟨_, (fun _ h => h), ?_⟩
     refine WPD.perm pl11 ?_
     refine WPD.stepC0 9 (by kernel_rfl) rfl rfl rfl (by kernel_rfl) (Eff.storeAgg (cs := [.bool (w.ok), .int .i64 (w.n), .int .i64 (w.most), lw, vw]) (C' := [.bool (w.ok), .int .i64 (w.n), .int .i64 (w.most), lw, vw]) rfl Ty.ag62 rfl rfl rfl (by simp only [List.all_cons, List.all_nil, Bool.and_true, oc_int, oc_str, oc_bool, oc_ptr, oc_slice, oc_iface, oc_map, hlw, hvw]) (by simp) rfl) ?_
     rintro _ _ rfl
     refine ⟨_, (fun _ h => h), ?_⟩
     refine WPD.tM 10 rfl rfl rfl rfl (Val.assign rfl rfl) ?_
     refine WPD.done (by kernel_rfl) ?_
     refine Out.next ?_
     refine WPc.ret ?_
     have hfin : a = ⟨decide ((0 : Int) < (((mts k0 x ps).length : Nat) : Int)), 0, 0, [], []⟩ ∧ w = a := ⟨hQ, hw.trans hQ.symm⟩
     iterate 3 (refine Out.perm pl4 ?_; refine Out.drop ?_)
     refine Out.perm pl6 ?_
     refine Out.drop ?_
     refine Out.perm pl6 ?_
     refine Out.drop ?_
     refine Out.perm pl7 ?_
     refine Out.drop ?_
     refine Out.perm pl2 ?_
     refine Out.perm pl3 ?_
     refine Out.perm pl4 ?_
     refine Out.perm pl5 ?_
     refine Out.perm pl6 ?_
     refine Out.perm pl5 ?_
     refine Out.perm pl6 ?_
     exact Out.retRun (L' := [A, Own 56 5 lv a.l.length (flatOf Sp.cells a.l), Own 3 1 vv a.vs.length (flatOf iv a.vs), Own 56 5 lw w.l.length (flatOf Sp.cells w.l), Own 3 1 vw w.vs.length (flatOf iv w.vs)]) (results_cct (cs := [.bool (a.ok), .int .i64 (a.n), .int .i64 (a.most), lv, vv]) (cs' := [.bool (w.ok), .int .i64 (w.n), .int .i64 (w.most), lw, vw]) Try.results35 rfl rfl rfl Ty.ag62 rfl (fun w h => h.range 0 rfl rfl) Ty.ag62 rfl (fun w h => h.range 1 rfl rfl)) ⟨a, w, _, _, _, _, _, rfl, (fun _ => ⟨hk00, hk03, hsp, ps, ops, hf, hfin⟩), rfl⟩ (fun w h => h.drop.drop)

theorem ask6_spec (A : HProp) (k0 k : Int) (hk : KO k0 k) (x : Sp) (hxs : szB x) (l : List Sp) (hl : l.length ≤ 9223372036854775806) (hsz : ∀ y ∈ l, szB y) (va : Value) (hva : Rd A 5 Sp.cells va l) : Does Try.prog 35 [.int .i64 (k0), va, .agg #[.int .i64 6, .string x.key, .string x.fin, .bool (x.one), .int .i64 (x.lo), .int .i64 (x.hi), .int .i64 0, .int .i64 0, .slice none 0 0, .slice none 0 0]] [A] (fun v L => ∃ (a w : TAns) (lv vv lw vw : Value) (b : Bool), v = .tuple #[.agg (WA.cells ⟨a, lv, vv⟩).toArray, .agg (WA.cells ⟨w, lw, vw⟩).toArray, .bool b] ∧ (b = true → 0 ≤ k0 ∧ k0 ≤ 3 ∧ spB k0 x ∧ ∃ ps ops, Fil k0 ops ps ∧ (a = ⟨decide ((0 : Int) < (((mts k0 x ps).length : Nat) : Int)), 0, 0, [], []⟩ ∧ w = a)) ∧ L = [A, Own 56 5 lv a.l.length (flatOf Sp.cells a.l), Own 3 1 vv a.vs.length (flatOf iv a.vs), Own 56 5 lw w.l.length (flatOf Sp.cells w.l), Own 3 1 vw w.vs.length (flatOf iv w.vs)]) := by
 rcases hva with ⟨b0, o0, c0, rfl, hr⟩ | ⟨rfl, a, c, rfl⟩
 ·
  exact ask6_row A k0 k hk x hxs l hl hsz b0 o0 c0 hr
 ·
  exact ask6_nil A k0 k hk x hxs a c

end Go.Proofs.Ytbomnihiapjmpaa.TQ

namespace Go.Proofs.Ytbomnihiapjmpaa.TR
open Go.RowKit Go.Proofs.Ytbomnihiapjmpaa Go.Proofs.Ytbomnihiapjmpaa.Sl Go.Proofs.Ytbomnihiapjmpaa.TrP Go.Proofs.Ytbomnihiapjmpaa.Tb Go.Proofs.Ytbomnihiapjmpaa.Tc Go.Proofs.Ytbomnihiapjmpaa.Td Go.Proofs.Ytbomnihiapjmpaa.Tn Go.Proofs.Ytbomnihiapjmpaa.Tr Go.Proofs.Ytbomnihiapjmpaa.Ts Go.Proofs.Ytbomnihiapjmpaa.Tx Go.Proofs.Ytbomnihiapjmpaa.TC Go.Proofs.Ytbomnihiapjmpaa.TD Go.Proofs.Ytbomnihiapjmpaa.TE Go.Proofs.Ytbomnihiapjmpaa.TG Go.Proofs.Ytbomnihiapjmpaa.TH Go.Proofs.Ytbomnihiapjmpaa.TI Go.Proofs.Ytbomnihiapjmpaa.TJ Go.Proofs.Ytbomnihiapjmpaa.TK Go.Proofs.Ytbomnihiapjmpaa.TL Go.Proofs.Ytbomnihiapjmpaa.TM Go.Proofs.Ytbomnihiapjmpaa.TN Go.Proofs.Ytbomnihiapjmpaa.TO Go.Proofs.Ytbomnihiapjmpaa.TP Go.Proofs.Ytbomnihiapjmpaa.TQ
set_option linter.unusedVariables false
set_option linter.unusedSimpArgs false
set_option linter.unusedSectionVars false


set_option maxRecDepth 100000 in
set_option maxHeartbeats 2000000 in
theorem isect_law (W0 : World) (k0 : Int) (l : List Sp) (va : Value) (hva : Rd (Old W0) 5 Sp.cells va l) (hl : l.length ≤ 9223372036854775807) (x : Sp) : Does Try.prog 8 [.int .i64 (k0), va, .agg #[.string x.key, .string x.fin, .bool (x.one), .int .i64 (x.lo), .int .i64 (x.hi)]] [Old W0] (fun v L => v = .bool true ∧ L = [Old W0]) := by
  obtain ⟨k, hk⟩ := KO.all k0
  refine Does.enter 38 Try.func8 rfl rfl rfl fun W F => ?_
  show WPc _ _ _ _ _ [(0, .int .i64 (k0)), (1, va), (2, .agg #[.string x.key, .string x.fin, .bool (x.one), .int .i64 (x.lo), .int .i64 (x.hi)])] (Old W0 :: F)
  refine WPc.seq ?_
  refine WPc.region ?_
  refine WP.eff rfl rfl rfl (Eff.box (C := [.string x.key, .string x.fin, .bool (x.one), .int .i64 (x.lo), .int .i64 (x.hi)]) rfl rfl rfl) ?_
  rintro _ _ ⟨b1, rfl, rfl⟩
  refine WP.val rfl rfl rfl (Val.assign rfl rfl) ?_
  refine WP.nil ?_
  refine Out.next ?_
  refine WPc.seq ?_
  refine WPc.seq ?_
  refine WPc.region ?_
  refine WP.val rfl rfl rfl (Val.move rfl rfl) ?_
  refine WP.perm pl1 ?_
  refine WP.eff rfl rfl rfl (Eff.call rfl rfl Try.call31 (fits38_spec (Old W0) l hl va hva)) ?_
  rintro _ _ ⟨_, ⟨q1, rfl, hb1, rfl⟩, rfl⟩
  show WP _ _ _ _ _ _ _ (Old W0 :: Blk b1 [.string x.key, .string x.fin, .bool (x.one), .int .i64 (x.lo), .int .i64 (x.hi)] 56 :: F)
  refine WP.val rfl rfl rfl (Val.not rfl rfl) ?_
  refine WP.val rfl rfl rfl (Val.move rfl rfl) ?_
  refine WP.splitB 13 rfl (fun h1 => ?_) (fun h1 => ?_)
  · skip
    refine WP.skip rfl rfl rfl rfl rfl rfl rfl ?_
    refine WP.skip rfl rfl rfl rfl rfl rfl rfl ?_
    refine WP.skip rfl rfl rfl rfl rfl rfl rfl ?_
    refine WP.val rfl rfl rfl (Val.pickT rfl rfl rfl) ?_
    refine WP.nil ?_
    refine Out.next ?_
    refine WPc.condT rfl rfl ?_
    refine WPc.seq ?_
    refine WPc.region ?_
    refine WP.val rfl rfl rfl (Val.assign rfl rfl) ?_
    refine WP.nil ?_
    refine Out.next ?_
    refine WPc.ret ?_
    refine Out.then_ret ?_
    refine Out.perm pl1 ?_
    refine Out.drop ?_
    exact Out.ret1 (L' := _) Try.results8 rfl ⟨rfl, rfl⟩ (fun _ h => h)
  · skip
    refine WP.valG rfl rfl rfl rfl rfl rfl rfl (Val.loadAgg (cs := [.string x.key, .string x.fin, .bool (x.one), .int .i64 (x.lo), .int .i64 (x.hi)]) rfl Ty.ag56 rfl rfl (fun w h => h.range 1 rfl rfl)) ?_
    refine WP.effG rfl rfl rfl rfl rfl rfl rfl (Eff.call rfl rfl Try.call32 (fits36_does x)) ?_
    rintro _ _ ⟨_, ⟨q2, rfl, hb2, rfl⟩, rfl⟩
    show WP _ _ _ _ _ _ _ (Old W0 :: Blk b1 [.string x.key, .string x.fin, .bool (x.one), .int .i64 (x.lo), .int .i64 (x.hi)] 56 :: F)
    refine WP.valG rfl rfl rfl rfl rfl rfl rfl (Val.not rfl rfl) ?_
    refine WP.val rfl rfl rfl (Val.pickF rfl rfl rfl) ?_
    refine WP.nil ?_
    refine Out.next ?_
    refine WPc.cond rfl (fun h2 => ?_) (fun h2 => ?_)
    · skip
      have h2 : (!q2) = true := h2
      refine WPc.seq ?_
      refine WPc.region ?_
      refine WP.val rfl rfl rfl (Val.assign rfl rfl) ?_
      refine WP.nil ?_
      refine Out.next ?_
      refine WPc.ret ?_
      refine Out.then_ret ?_
      refine Out.perm pl1 ?_
      refine Out.drop ?_
      exact Out.ret1 (L' := _) Try.results8 rfl ⟨rfl, rfl⟩ (fun _ h => h)
    · skip
      have h2 : (!q2) = false := h2
      refine WPc.skip ?_
      refine Out.next ?_
      refine WPc.seq ?_
      obtain ⟨hl3, hsz⟩ := hb1 (by simpa using ‹(!q1) = false›)
      have hxs := hb2 (by simpa using ‹(!q2) = false›)
      have hl2 : l.length ≤ 9223372036854775806 := by omega
      refine WPc.region ?_
      refine WP.val rfl rfl rfl (Val.move rfl rfl) ?_
      refine WP.val rfl rfl rfl (Val.move rfl rfl) ?_
      refine WP.val rfl rfl rfl (Val.loadAgg (cs := [.string x.key, .string x.fin, .bool (x.one), .int .i64 (x.lo), .int .i64 (x.hi)]) rfl Ty.ag56 rfl rfl (fun w h => h.range 1 rfl rfl)) ?_
      refine WP.val rfl rfl rfl (Val.mk (cs := [.int .i64 6, .string x.key, .string x.fin, .bool (x.one), .int .i64 (x.lo), .int .i64 (x.hi), .int .i64 0, .int .i64 0, .slice none 0 0, .slice none 0 0]) rfl rfl (fun _ => by kernel_rfl)) ?_
      refine WP.eff rfl rfl rfl (Eff.call rfl rfl Try.call35 (ask6_spec (Old W0) k0 k hk x hxs l hl2 hsz va hva)) ?_
      rintro _ _ ⟨_, ⟨a, w, lv, vv, lw, vw, q3, rfl, hb3, rfl⟩, rfl⟩
      show WP _ _ _ _ _ _ _ (Old W0 :: Own 56 5 lv a.l.length (flatOf Sp.cells a.l) :: Own 3 1 vv a.vs.length (flatOf iv a.vs) :: Own 56 5 lw w.l.length (flatOf Sp.cells w.l) :: Own 3 1 vw w.vs.length (flatOf iv w.vs) :: Blk b1 [.string x.key, .string x.fin, .bool (x.one), .int .i64 (x.lo), .int .i64 (x.hi)] 56 :: F)
      refine WP.perm pl1 ?_
      refine WP.fact (fun w h => own_oneCell h) (fun hlv => ?_)
      refine WP.perm pl2 ?_
      refine WP.fact (fun w h => own_oneCell h) (fun hvv => ?_)
      refine WP.perm pl3 ?_
      refine WP.fact (fun w h => own_oneCell h) (fun hlw => ?_)
      refine WP.perm pl4 ?_
      refine WP.fact (fun w h => own_oneCell h) (fun hvw => ?_)
      refine WP.val rfl rfl rfl (Val.move rfl rfl) ?_
      refine WP.val rfl rfl rfl (Val.extract rfl rfl rfl) ?_
      refine WP.val rfl rfl rfl (Val.extract rfl rfl rfl) ?_
      refine WP.val rfl rfl rfl (Val.extract rfl rfl rfl) ?_
      refine WP.eff rfl rfl rfl (Eff.alloc rfl Ty.z62) ?_
      rintro _ _ ⟨b2, rfl, rfl⟩
      refine WP.eff rfl rfl rfl (Eff.alloc rfl Ty.z62) ?_
      rintro _ _ ⟨b3, rfl, rfl⟩
      refine WP.perm pl1 ?_
      refine WP.eff0 rfl rfl (Eff.storeAgg (cs := [.bool (a.ok), .int .i64 (a.n), .int .i64 (a.most), lv, vv]) (C' := [.bool (a.ok), .int .i64 (a.n), .int .i64 (a.most), lv, vv]) rfl Ty.ag62 rfl rfl rfl (by simp only [List.all_cons, List.all_nil, Bool.and_true, oc_int, oc_str, oc_bool, oc_ptr, oc_slice, oc_iface, oc_map, hlv, hvv]) (by simp) rfl) ?_
      rintro _ _ rfl
      refine WP.perm pl1 ?_
      refine WP.eff0 rfl rfl (Eff.storeAgg (cs := [.bool (w.ok), .int .i64 (w.n), .int .i64 (w.most), lw, vw]) (C' := [.bool (w.ok), .int .i64 (w.n), .int .i64 (w.most), lw, vw]) rfl Ty.ag62 rfl rfl rfl (by simp only [List.all_cons, List.all_nil, Bool.and_true, oc_int, oc_str, oc_bool, oc_ptr, oc_slice, oc_iface, oc_map, hlw, hvw]) (by simp) rfl) ?_
      rintro _ _ rfl
      refine WP.val rfl rfl rfl (Val.assign rfl rfl) ?_
      refine WP.nil ?_
      refine Out.next ?_
      refine WPc.seq ?_
      refine WPc.region ?_
      refine WP.val rfl rfl rfl (Val.move rfl rfl) ?_
      refine WP.val rfl rfl rfl (Val.not rfl rfl) ?_
      refine WP.val rfl rfl rfl (Val.move rfl rfl) ?_
      refine WP.splitB 29 rfl (fun h3 => ?_) (fun h3 => ?_)
      · skip
        refine WP.skip rfl rfl rfl rfl rfl rfl rfl ?_
        refine WP.skip rfl rfl rfl rfl rfl rfl rfl ?_
        refine WP.skip rfl rfl rfl rfl rfl rfl rfl ?_
        refine WP.skip rfl rfl rfl rfl rfl rfl rfl ?_
        refine WP.val rfl rfl rfl (Val.pickT rfl rfl rfl) ?_
        refine WP.val rfl rfl rfl (Val.move rfl rfl) ?_
        refine WP.effG rfl rfl rfl rfl rfl rfl rfl (Eff.call rfl rfl Try.call26 (live_does)) ?_
        rintro _ _ ⟨_, ⟨rfl, rfl⟩, rfl⟩
        show WP _ _ _ _ _ _ _ (Blk b3 [.bool (w.ok), .int .i64 (w.n), .int .i64 (w.most), lw, vw] 62 :: Blk b2 [.bool (a.ok), .int .i64 (a.n), .int .i64 (a.most), lv, vv] 62 :: Own 3 1 vw w.vs.length (flatOf iv w.vs) :: Own 56 5 lw w.l.length (flatOf Sp.cells w.l) :: Own 3 1 vv a.vs.length (flatOf iv a.vs) :: Own 56 5 lv a.l.length (flatOf Sp.cells a.l) :: Old W0 :: Blk b1 [.string x.key, .string x.fin, .bool (x.one), .int .i64 (x.lo), .int .i64 (x.hi)] 56 :: F)
        refine WP.val rfl rfl rfl (Val.pickT rfl rfl rfl) ?_
        refine WP.val rfl rfl rfl (Val.assign rfl rfl) ?_
        refine WP.nil ?_
        refine Out.next ?_
        refine WPc.ret ?_
        refine Out.drop ?_
        refine Out.drop ?_
        refine Out.drop ?_
        refine Out.drop ?_
        refine Out.drop ?_
        refine Out.drop ?_
        refine Out.perm pl1 ?_
        refine Out.drop ?_
        exact Out.ret1 (L' := _) Try.results8 rfl ⟨rfl, rfl⟩ (fun _ h => h)
      · skip
        obtain ⟨hk0, hk3, hsp, ps, ops, hf, ha, rfl⟩ := hb3 (by simpa using ‹(!q3) = false›)
        show WP _ _ _ _ _ _ _ (Blk b3 [.bool (w.ok), .int .i64 (w.n), .int .i64 (w.most), lw, vw] 62 :: Blk b2 [.bool (w.ok), .int .i64 (w.n), .int .i64 (w.most), lv, vv] 62 :: Own 3 1 vw w.vs.length (flatOf iv w.vs) :: Own 56 5 lw w.l.length (flatOf Sp.cells w.l) :: Own 3 1 vv w.vs.length (flatOf iv w.vs) :: Own 56 5 lv w.l.length (flatOf Sp.cells w.l) :: Old W0 :: Blk b1 [.string x.key, .string x.fin, .bool (x.one), .int .i64 (x.lo), .int .i64 (x.hi)] 56 :: F)
        refine WP.perm pl2 ?_
        refine WP.conv (fun w h => h.seqMk) ?_
        refine WP.perm pl3 ?_
        refine WP.conv (fun w h => h.seqMk) ?_
        refine WP.perm pl4 ?_
        refine WP.conv (fun w h => h.seqMk) ?_
        refine WP.perm pl5 ?_
        refine WP.conv (fun w h => h.seqMk) ?_
        show WP _ _ _ _ _ _ _ (Seq lv w.l.length ((flatOf Sp.cells w.l)) :: Seq vv w.vs.length ((flatOf iv w.vs)) :: Seq lw w.l.length ((flatOf Sp.cells w.l)) :: Seq vw w.vs.length ((flatOf iv w.vs)) :: Blk b3 [.bool (w.ok), .int .i64 (w.n), .int .i64 (w.most), lw, vw] 62 :: Blk b2 [.bool (w.ok), .int .i64 (w.n), .int .i64 (w.most), lv, vv] 62 :: Old W0 :: Blk b1 [.string x.key, .string x.fin, .bool (x.one), .int .i64 (x.lo), .int .i64 (x.hi)] 56 :: F)
        refine WP.valG rfl rfl rfl rfl rfl rfl rfl (Val.move rfl rfl) ?_
        refine WP.valG rfl rfl rfl rfl rfl rfl rfl (Val.loadAgg (cs := [.bool (w.ok), .int .i64 (w.n), .int .i64 (w.most), lv, vv]) rfl Ty.ag62 rfl rfl (fun w h => h.range 5 rfl rfl)) ?_
        refine WP.valG rfl rfl rfl rfl rfl rfl rfl (Val.loadAgg (cs := [.bool (w.ok), .int .i64 (w.n), .int .i64 (w.most), lw, vw]) rfl Ty.ag62 rfl rfl (fun w h => h.range 4 rfl rfl)) ?_
        refine WP.perm pl3 ?_
        refine WP.perm pl3 ?_
        refine WP.perm pl3 ?_
        refine WP.perm pl3 ?_
        refine WP.effG rfl rfl rfl rfl rfl rfl rfl (Eff.call rfl rfl Try.call30 (same_ans k0 k hk w.ok w.n w.most w.most w.l w.l w.vs lv vv lw vw (by rw [ha]; exact Nat.zero_le _) (by rw [ha]; exact Nat.zero_le _) rfl (fun y hy => by rw [ha] at hy; cases hy) (fun i y z hy _ => by rw [ha] at hy; simp at hy) (fun y hy => by rw [ha] at hy; cases hy) (fun y hy => by rw [ha] at hy; cases hy))) ?_
        rintro _ _ ⟨_, ⟨rfl, rfl⟩, rfl⟩
        show WP _ _ _ _ _ _ _ (Blk b3 [.bool (w.ok), .int .i64 (w.n), .int .i64 (w.most), lw, vw] 62 :: Blk b2 [.bool (w.ok), .int .i64 (w.n), .int .i64 (w.most), lv, vv] 62 :: Old W0 :: Blk b1 [.string x.key, .string x.fin, .bool (x.one), .int .i64 (x.lo), .int .i64 (x.hi)] 56 :: F)
        refine WP.val rfl rfl rfl (Val.pickF rfl rfl rfl) ?_
        refine WP.val rfl rfl rfl (Val.move rfl rfl) ?_
        refine WP.effG rfl rfl rfl rfl rfl rfl rfl (Eff.call rfl rfl Try.call26 (live_does)) ?_
        rintro _ _ ⟨_, ⟨rfl, rfl⟩, rfl⟩
        show WP _ _ _ _ _ _ _ (Blk b3 [.bool (w.ok), .int .i64 (w.n), .int .i64 (w.most), lw, vw] 62 :: Blk b2 [.bool (w.ok), .int .i64 (w.n), .int .i64 (w.most), lv, vv] 62 :: Old W0 :: Blk b1 [.string x.key, .string x.fin, .bool (x.one), .int .i64 (x.lo), .int .i64 (x.hi)] 56 :: F)
        refine WP.val rfl rfl rfl (Val.pickT rfl rfl rfl) ?_
        refine WP.val rfl rfl rfl (Val.assign rfl rfl) ?_
        refine WP.nil ?_
        refine Out.next ?_
        refine WPc.ret ?_
        refine Out.drop ?_
        refine Out.drop ?_
        refine Out.perm pl1 ?_
        refine Out.drop ?_
        exact Out.ret1 (L' := _) Try.results8 rfl ⟨rfl, rfl⟩ (fun _ h => h)

end Go.Proofs.Ytbomnihiapjmpaa.TR

