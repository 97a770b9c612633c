import Derived.Test.YthmkdioafjmclaaQh
namespace Go.Proofs.Ythmkdioafjmclaa.Qh2
open Go.RowKit Go.Proofs.Ythmkdioafjmclaa Go.Proofs.Ythmkdioafjmclaa.Sl Go.Proofs.Ythmkdioafjmclaa.Qm Go.Proofs.Ythmkdioafjmclaa.Qh
set_option linter.unusedVariables false
set_option linter.unusedSimpArgs false
set_option linter.unusedSectionVars false


theorem swap_perm {α : Type} {l : List α} {i j : Nat} {a b : α} (a1 : l[i]? = some a) (a2 : l[j]? = some b) : ((l.set i b).set j a).Perm l := by
  have l1 := (List.getElem?_eq_some_iff.1 a1).1
  have l2 := (List.getElem?_eq_some_iff.1 a2).1
  have a3 : (l.set i b)[j]? = some b := by
    rw [List.getElem?_set]
    split
    · simp
    · exact a2
  have p1 := set_perm (l := l.set i b) (i := j) (by simpa using l2) a
  have p2 := erase_perm a3
  have p3 := set_perm l1 b
  have p4 := erase_perm a1
  refine List.Perm.cons_inv (a := b) ?_
  refine (p1.cons _).trans ?_
  refine (List.Perm.swap _ _ _).trans ?_
  refine (p2.symm.cons _).trans ?_
  refine (p3.cons _).trans ?_
  refine (List.Perm.swap _ _ _).trans ?_
  exact p4.symm.cons _
def s1 (q : List QI) (i j : Nat) (x y : QI) : List QI := (q.set i y).set j x
section
variable {q : List QI} {i j : Nat} {x y : QI} (hi : q[i]? = some x) (hj : q[j]? = some y)
include hi hj
theorem s1_row (sp : List Value) : (((q.map QI.ptr ++ sp).set i y.ptr).set j x.ptr) = (s1 q i j x y).map QI.ptr ++ sp := by
  have h1 := (List.getElem?_eq_some_iff.1 hi).1
  have h2 := (List.getElem?_eq_some_iff.1 hj).1
  rw [List.set_append_left _ _ (by simpa using h1), List.set_append_left _ _ (by simpa using h2)]
  simp [s1, List.map_set]
theorem s1_i : (s1 q i j x y)[i]? = some y := by
  have h1 := (List.getElem?_eq_some_iff.1 hi).1
  have h2 := (List.getElem?_eq_some_iff.1 hj).1
  unfold s1
  rw [List.getElem?_set]
  split
  · rename_i e; subst e; rw [hi] at hj; cases hj; simp [h1]
  · rw [List.getElem?_set_self h1]
theorem s1_j : (s1 q i j x y)[j]? = some x := by
  have h2 := (List.getElem?_eq_some_iff.1 hj).1
  unfold s1
  rw [List.getElem?_set_self (by simpa using h2)]
theorem s1_z : ∃ z, ((s1 q i j x y).set i { y with ix := (i : Int) })[j]? = some z ∧ z.b = x.b ∧ z.id = x.id ∧ z.t = x.t := by
  have h1 := (List.getElem?_eq_some_iff.1 hi).1
  have h2 := (List.getElem?_eq_some_iff.1 hj).1
  rw [List.getElem?_set]
  split
  · rename_i e
    subst e
    rw [hi] at hj
    cases hj
    exact ⟨{ x with ix := (i : Int) }, by simp [s1, h1], rfl, rfl, rfl⟩
  · exact ⟨x, s1_j hi hj, rfl, rfl, rfl⟩
theorem s1_sw : ((s1 q i j x y).set i { y with ix := (i : Int) }).set j { x with ix := (j : Int) } = sw q i j x y := by
  apply List.ext_getElem?
  intro k
  unfold s1 sw
  rw [List.getElem?_set, List.getElem?_set, List.getElem?_set, List.getElem?_set, List.getElem?_set, List.getElem?_set]
  simp only [List.length_set]
  by_cases e1 : j = k
  · simp [e1]
  · by_cases e2 : i = k
    · simp [e1, e2]
    · simp [e1, e2]
theorem s1_ptr (sp : List Value) : (s1 q i j x y).map QI.ptr ++ sp = (sw q i j x y).map QI.ptr ++ sp := by rw [← s1_row hi hj, ← sw_row hi hj]
end
set_option maxRecDepth 100000 in
set_option maxHeartbeats 1000000 in
theorem swap_spec (rb cap n : Nat) (q : List QI) (sp : List Value) (i j : Nat) (x y : QI) (hx : q[i]? = some x) (hy : q[j]? = some y) (hin : i < n) (hjn : j < n) (hn : n ≤ 4294967296) : Does Try.prog 166 [.slice (some ⟨rb, 0, none⟩) n cap, .int .i64 (((i : Nat) : Int)), .int .i64 (((j : Nat) : Int))] [Blk rb (q.map QI.ptr ++ sp) 90, Its q] (fun v L => v = .tuple #[] ∧ L = [Blk rb ((sw q i j x y).map QI.ptr ++ sp) 90, Its (sw q i j x y)]) := by
  refine Does.enter 34 Try.func166 rfl rfl rfl fun W F => ?_
  show WPc _ _ _ _ _ [(0, .slice (some ⟨rb, 0, none⟩) n cap), (1, .int .i64 (((i : Nat) : Int))), (2, .int .i64 (((j : Nat) : Int)))] (Blk rb (q.map QI.ptr ++ sp) 90 :: Its q :: F)
  refine WPc.seq ?_
  have hi1 := (List.getElem?_eq_some_iff.1 hx).1
  have hj1 := (List.getElem?_eq_some_iff.1 hy).1
  refine WPD.start (Sat W (Blk rb (q.map QI.ptr ++ sp) 90 :: Its q :: F)) Ty.mixed ?_
  refine WPD.takeM 0 rfl rfl rfl rfl (by kernel_rfl) (by kernel_rfl) (by kernel_rfl) (by kernel_rfl) (fun _ _ _ h => h) (fun _ h => h) (Val.move rfl rfl) ?_
  refine WPD.takeM 1 rfl rfl rfl rfl (by kernel_rfl) (by kernel_rfl) (by kernel_rfl) (by kernel_rfl) (fun _ _ _ h => h) (fun _ h => h) (Val.move rfl rfl) ?_
  refine WPD.takeM 2 rfl rfl rfl rfl (by kernel_rfl) (by kernel_rfl) (by kernel_rfl) (by kernel_rfl) (fun _ _ _ h => h) (fun _ h => h) (Val.move rfl rfl) ?_
  refine WPD.takeM 3 rfl rfl rfl rfl (by kernel_rfl) (by kernel_rfl) (by kernel_rfl) (by kernel_rfl) (fun _ _ _ h => h) (fun _ h => h) (Val.move rfl rfl) ?_
  refine WPD.takeM 4 rfl rfl rfl rfl (by kernel_rfl) (by kernel_rfl) (by kernel_rfl) (by kernel_rfl) (fun _ _ _ h => h) (fun _ h => h) (Val.move rfl rfl) ?_
  refine WPD.takeM 5 rfl rfl rfl rfl (by kernel_rfl) (by kernel_rfl) (by kernel_rfl) (by kernel_rfl) (fun _ _ _ h => h) (fun _ h => h) (Val.move rfl rfl) ?_
  refine WPD.takeM 6 rfl rfl rfl rfl (by kernel_rfl) (by kernel_rfl) (by kernel_rfl) (by kernel_rfl) (fun _ _ _ h => h) (fun _ h => h) (Val.indexAddr (j := j) (q := j) rfl Ty.sl130 rfl rfl (by omega) (by omega) (by omega)) ?_
  refine WPD.take 7 rfl rfl rfl rfl (by kernel_rfl) (by kernel_rfl) (by kernel_rfl) (by kernel_rfl) (fun _ _ _ h => h) (by kernel_rfl) (fun _ h => h) (Val.load (v := .pointer (some ⟨y.b, 0, none⟩)) rfl Ty.sc90 rfl (fun w h => h.cell 0 rfl (row_at hy sp))) ?_
  refine WPD.takeM 8 rfl rfl rfl rfl (by kernel_rfl) (by kernel_rfl) (by kernel_rfl) (by kernel_rfl) (fun _ _ _ h => h) (fun _ h => h) (Val.move rfl rfl) ?_
  refine WPD.takeM 9 rfl rfl rfl rfl (by kernel_rfl) (by kernel_rfl) (by kernel_rfl) (by kernel_rfl) (fun _ _ _ h => h) (fun _ h => h) (Val.move rfl rfl) ?_
  refine WPD.takeM 10 rfl rfl rfl rfl (by kernel_rfl) (by kernel_rfl) (by kernel_rfl) (by kernel_rfl) (fun _ _ _ h => h) (fun _ h => h) (Val.indexAddr (j := i) (q := i) rfl Ty.sl130 rfl rfl (by omega) (by omega) (by omega)) ?_
  refine WPD.take 11 rfl rfl rfl rfl (by kernel_rfl) (by kernel_rfl) (by kernel_rfl) (by kernel_rfl) (fun _ _ _ h => h) (by kernel_rfl) (fun _ h => h) (Val.load (v := .pointer (some ⟨x.b, 0, none⟩)) rfl Ty.sc90 rfl (fun w h => h.cell 0 rfl (row_at hx sp))) ?_
  refine WPD.takeM 12 rfl rfl rfl rfl (by kernel_rfl) (by kernel_rfl) (by kernel_rfl) (by kernel_rfl) (fun _ _ _ h => h) (fun _ h => h) (Val.indexAddr (j := i) (q := i) rfl Ty.sl130 rfl rfl (by omega) (by omega) (by omega)) ?_
  refine WPD.stepC0 13 (by kernel_rfl) rfl rfl rfl (by kernel_rfl) (Eff.store (C' := (q.map QI.ptr ++ sp).set i y.ptr) rfl Ty.sc90 rfl rfl rfl (by simp; omega) rfl) ?_
  rintro _ _ rfl
  refine ⟨(Sat W (Blk rb ((q.map QI.ptr ++ sp).set i y.ptr) 90 :: Its q :: F)), (fun _ h => h), ?_⟩
  refine WPD.takeM 14 rfl rfl rfl rfl (by kernel_rfl) (by kernel_rfl) (by kernel_rfl) (by kernel_rfl) (fun _ _ _ h => h) (fun _ h => h) (Val.indexAddr (j := j) (q := j) rfl Ty.sl130 rfl rfl (by omega) (by omega) (by omega)) ?_
  refine WPD.stepC0 15 (by kernel_rfl) rfl rfl rfl (by kernel_rfl) (Eff.store (C' := ((q.map QI.ptr ++ sp).set i y.ptr).set j x.ptr) rfl Ty.sc90 rfl rfl rfl (by simp; omega) rfl) ?_
  rintro _ _ rfl
  refine ⟨(Sat W (Blk rb (((q.map QI.ptr ++ sp).set i y.ptr).set j x.ptr) 90 :: Its q :: F)), (fun _ h => h), ?_⟩
  refine WPD.done (by kernel_rfl) ?_
  refine Out.next ?_
  refine WPc.seq ?_
  refine WPc.conv (M := Blk rb (((s1 q i j x y)).map QI.ptr ++ sp) 90 :: Its q :: F) (fun w h => by rw [s1_row hx hy] at h; exact h) ?_
  refine WPc.perm pl1 ?_
  refine WPc.conv (M := Its (s1 q i j x y) :: Blk rb (((s1 q i j x y)).map QI.ptr ++ sp) 90 :: F) (fun w h => its_perm (swap_perm hx hy).symm h) ?_
  refine WPc.region ?_
  refine WP.val rfl rfl rfl (Val.move rfl rfl) ?_
  refine WP.val rfl rfl rfl (Val.move rfl rfl) ?_
  refine WP.val rfl rfl rfl (Val.indexAddr (j := i) (q := i) rfl Ty.sl130 rfl rfl (by omega) (by omega) (by omega)) ?_
  refine WP.val rfl rfl rfl (Val.load (v := .pointer (some ⟨y.b, 0, none⟩)) rfl Ty.sc90 rfl (fun w h => h.cell 1 rfl (row_at (s1_i hx hy) sp))) ?_
  refine WP.val rfl rfl rfl (Val.move rfl rfl) ?_
  refine WP.val rfl rfl rfl (Val.nilCheck rfl rfl) ?_
  refine WP.val rfl rfl rfl (Val.fieldAddr (j := 4) rfl Ty.fo134_2 rfl rfl) ?_
  refine WP.conv (M := Blk y.b [.int .i64 (y.id), .int .i64 ((((y.t / 1000000000) : Nat) : Int)), .int .i64 ((((y.t % 1000000000) : Nat) : Int)), .bool true, .int .i64 (y.ix)] 134 :: Its (((s1 q i j x y)).eraseIdx i) :: Blk rb (((s1 q i j x y)).map QI.ptr ++ sp) 90 :: F) (fun w h => its_out (s1_i hx hy) h) ?_
  refine WP.eff0 rfl rfl (Eff.store rfl Ty.sc3 rfl rfl rfl (by simp) st4) ?_
  rintro _ _ rfl
  refine WP.nil ?_
  refine Out.next ?_
  refine WPc.perm pl1 ?_
  refine WPc.perm pl1 ?_
  refine WPc.conv (M := Its (((s1 q i j x y)).set i { y with ix := (i : Int) }) :: Blk rb (((s1 q i j x y)).map QI.ptr ++ sp) 90 :: F) (fun w h => its_in (q := (s1 q i j x y)) { y with ix := (i : Int) } (by first | omega | (simp [s1]; omega) | (simp; omega)) h) ?_
  obtain ⟨z, hz, hzb, hzi, hzt⟩ := s1_z hx hy
  refine WPc.region ?_
  refine WP.val rfl rfl rfl (Val.move rfl rfl) ?_
  refine WP.val rfl rfl rfl (Val.move rfl rfl) ?_
  refine WP.val rfl rfl rfl (Val.indexAddr (j := j) (q := j) rfl Ty.sl130 rfl rfl (by omega) (by omega) (by omega)) ?_
  refine WP.val rfl rfl rfl (Val.load (v := .pointer (some ⟨x.b, 0, none⟩)) rfl Ty.sc90 rfl (fun w h => h.cell 1 rfl (row_at (s1_j hx hy) sp))) ?_
  refine WP.val rfl rfl rfl (Val.move rfl rfl) ?_
  refine WP.val rfl rfl rfl (Val.nilCheck rfl rfl) ?_
  refine WP.val rfl rfl rfl (Val.fieldAddr (j := 4) rfl Ty.fo134_2 rfl rfl) ?_
  refine WP.conv (M := Blk x.b [.int .i64 (x.id), .int .i64 ((((x.t / 1000000000) : Nat) : Int)), .int .i64 ((((x.t % 1000000000) : Nat) : Int)), .bool true, .int .i64 (z.ix)] 134 :: Its ((((s1 q i j x y)).set i { y with ix := (i : Int) }).eraseIdx j) :: Blk rb (((s1 q i j x y)).map QI.ptr ++ sp) 90 :: F) (fun w h => by have h2 := its_out hz h; rw [QI.cells, hzb, hzi, hzt] at h2; exact h2) ?_
  refine WP.eff0 rfl rfl (Eff.store rfl Ty.sc3 rfl rfl rfl (by simp) st4) ?_
  rintro _ _ rfl
  refine WP.nil ?_
  refine Out.perm pl1 ?_
  refine Out.perm pl1 ?_
  refine Out.conv (M := Its (((((s1 q i j x y)).set i { y with ix := (i : Int) })).set j { x with ix := (j : Int) }) :: Blk rb (((s1 q i j x y)).map QI.ptr ++ sp) 90 :: F) (fun w h => its_in (q := (((s1 q i j x y)).set i { y with ix := (i : Int) })) { x with ix := (j : Int) } (by first | omega | (simp [s1]; omega) | (simp; omega)) h) ?_
  refine Out.perm pl1 ?_
  exact Out.end0 (L' := [Blk rb ((sw q i j x y).map QI.ptr ++ sp) 90, Its (sw q i j x y)]) Try.results166 ⟨rfl, rfl⟩ (fun w h => by rw [s1_sw hx hy, s1_ptr hx hy] at h; exact h)

end Go.Proofs.Ythmkdioafjmclaa.Qh2
