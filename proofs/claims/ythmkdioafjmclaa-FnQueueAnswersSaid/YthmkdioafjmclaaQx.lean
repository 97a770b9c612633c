import Derived.Test.YthmkdioafjmclaaQh7
namespace Go.Proofs.Ythmkdioafjmclaa.Qx
open Go.RowKit Go.Proofs.Ythmkdioafjmclaa Go.Proofs.Ythmkdioafjmclaa.Sl Go.Proofs.Ythmkdioafjmclaa.Qm Go.Proofs.Ythmkdioafjmclaa.Qh3 Go.Proofs.Ythmkdioafjmclaa.Qh4 Go.Proofs.Ythmkdioafjmclaa.Qh6 Go.Proofs.Ythmkdioafjmclaa.Qh7
set_option linter.unusedVariables false
set_option linter.unusedSimpArgs false

/-! ## the model -/
structure QOp where
  k : Int
  id : Int
  at_ : Int
def QOp.cells (x : QOp) : List Value := [.int .i64 x.k, .int .i64 x.id, .int .i64 x.at_]
structure QA where
  ok : Bool
  id : Int
  at_ : Int
  n : Int
def QA.cells (x : QA) : List Value := [.bool x.ok, .int .i64 x.id, .int .i64 x.at_, .int .i64 x.n]
theorem QA.len (x : QA) : x.cells.length = 4 := rfl
theorem QOp.len (x : QOp) : x.cells.length = 3 := rfl
/-- the model's least -/
def mn : List QOp → Option QOp
  | [] => none
  | x :: l => match mn l with
    | none => some x
    | some y => if x.at_ ≤ y.at_ then some x else some y
def without (m : List QOp) (id : Int) : List QOp := m.filter fun y => decide (y.id ≠ id)
def qstep (m : List QOp) (x : QOp) : List QOp :=
  if x.k = 1 then without m x.id ++ [x] else if x.k = 3 then (match mn m with | none => m | some y => without m y.id) else m
def qst (l : List QOp) : List QOp := l.foldl qstep []
def ansI (m : List QOp) (x : QOp) : QA :=
  if x.k = 1 then ⟨true, 0, 0, 0⟩ else if x.k = 2 ∨ x.k = 3 then (match mn m with | none => ⟨false, 0, 0, 0⟩ | some y => ⟨true, y.id, y.at_, 0⟩) else if x.k = 4 then ⟨true, 0, 0, (m.length : Nat)⟩ else ⟨false, 0, 0, 0⟩
def ansS (m : List QOp) (x : QOp) : QA :=
  if x.k = 2 ∨ x.k = 3 then (match mn m with | none => ⟨false, 0, 0, ((qstep m x).length : Nat)⟩ | some y => ⟨true, y.id, y.at_, ((qstep m x).length : Nat)⟩) else ⟨false, 0, 0, ((qstep m x).length : Nat)⟩
def answers (f : List QOp → QOp → QA) : List QOp → List QOp → List QA
  | _, [] => []
  | m, x :: l => f m x :: answers f (qstep m x) l
theorem answers_snoc (f : List QOp → QOp → QA) : ∀ (m l : List QOp) (x : QOp), answers f m (l ++ [x]) = answers f m l ++ [f (l.foldl qstep m) x]
  | m, [], x => rfl
  | m, y :: l, x => by simp only [List.cons_append, answers]; rw [answers_snoc f _ l x]; rfl
theorem answers_len (f : List QOp → QOp → QA) : ∀ (m l : List QOp), (answers f m l).length = l.length
  | _, [] => rfl
  | m, x :: l => by simp only [answers, List.length_cons]; rw [answers_len f _ l]
theorem answers_at (f : List QOp → QOp → QA) : ∀ (m l : List QOp) (i : Nat) (x : QOp), l[i]? = some x → (answers f m l)[i]? = some (f ((l.take i).foldl qstep m) x)
  | m, [], i, x, h => by simp at h
  | m, y :: l, 0, x, h => by simp at h; subst h; rfl
  | m, y :: l, i + 1, x, h => by
    simp only [List.getElem?_cons_succ] at h
    simp only [answers, List.getElem?_cons_succ, List.take_succ_cons, List.foldl_cons]
    exact answers_at f _ l i x h
theorem qst_snoc (l : List QOp) (x : QOp) : qst (l ++ [x]) = qstep (qst l) x := by simp [qst]
/-- no two leases have one time -/
def NoTie (l : List QOp) : Prop := ∀ a ∈ l, ∀ b ∈ l, a.k = 1 → b.k = 1 → a.at_ = b.at_ → a.id = b.id
structure MOk (l m : List QOp) : Prop where
  sub : ∀ y ∈ m, y ∈ l ∧ y.k = 1
  nd : (m.map (·.id)).Nodup
theorem without_sub {m : List QOp} {id : Int} {y : QOp} (h : y ∈ without m id) : y ∈ m ∧ y.id ≠ id := by
  unfold without at h
  simpa using h
theorem without_nd {m : List QOp} (h : (m.map (·.id)).Nodup) (id : Int) : ((without m id).map (·.id)).Nodup := h.sublist (List.Sublist.map _ List.filter_sublist)
theorem mok_step {l m : List QOp} {x : QOp} (h : MOk l m) (hx : x ∈ l) : MOk l (qstep m x) := by
  unfold qstep
  split
  · rename_i hk
    refine ⟨fun y hy => ?_, ?_⟩
    · rcases List.mem_append.1 hy with hy | hy
      · exact h.sub y (without_sub hy).1
      · have : y = x := by simpa using hy
        subst this; exact ⟨hx, hk⟩
    · rw [List.map_append, List.nodup_append]
      refine ⟨without_nd h.nd _, by simp, ?_⟩
      intro a ha b hb
      obtain ⟨y, hy, rfl⟩ := List.mem_map.1 ha
      have : b = x.id := by simpa using hb
      rw [this]
      exact (without_sub hy).2
  · split
    · split
      · exact h
      · exact ⟨fun y hy => h.sub y (without_sub hy).1, without_nd h.nd _⟩
    · exact h
theorem mok_st {l : List QOp} : ∀ (l' : List QOp) (m : List QOp), MOk l m → (∀ x ∈ l', x ∈ l) → MOk l (l'.foldl qstep m)
  | [], m, h, _ => h
  | x :: l', m, h, hs => mok_st l' _ (mok_step h (hs x (by simp))) fun y hy => hs y (by simp [hy])
theorem mok_qst {l l' : List QOp} (hs : ∀ x ∈ l', x ∈ l) : MOk l (qst l') := mok_st l' [] ⟨by simp, by simp⟩ hs
theorem mok_take (l : List QOp) (i : Nat) : MOk l (qst (l.take i)) := mok_qst fun _ h => List.mem_of_mem_take h
theorem mn_none {m : List QOp} (h : mn m = none) : m = [] := by
  cases m with
  | nil => rfl
  | cons x m =>
    unfold mn at h
    split at h
    · cases h
    · split at h <;> cases h
theorem mn_some : ∀ {m : List QOp} {y : QOp}, mn m = some y → y ∈ m ∧ ∀ z ∈ m, y.at_ ≤ z.at_
  | [], y, h => by cases h
  | x :: m, y, h => by
    unfold mn at h
    split at h
    · rename_i h0
      cases h
      rw [mn_none h0]
      simp
    · rename_i u hu
      obtain ⟨h1, h2⟩ := mn_some hu
      split at h
      · rename_i hle
        cases h
        refine ⟨by simp, fun z hz => ?_⟩
        rcases List.mem_cons.1 hz with rfl | hz
        · exact Int.le_refl _
        · exact Int.le_trans hle (h2 z hz)
      · rename_i hle
        cases h
        refine ⟨by simp [h1], fun z hz => ?_⟩
        rcases List.mem_cons.1 hz with rfl | hz
        · omega
        · exact h2 z hz
theorem nd_inj {m : List QOp} (h : (m.map (·.id)).Nodup) {a b : QOp} (ha : a ∈ m) (hb : b ∈ m) (he : a.id = b.id) : a = b := by
  obtain ⟨i, hi⟩ := List.getElem?_of_mem ha
  obtain ⟨j, hj⟩ := List.getElem?_of_mem hb
  have h1 : (m.map (·.id))[i]? = some a.id := by rw [List.getElem?_map, hi]; rfl
  have h2 : (m.map (·.id))[j]? = some a.id := by rw [List.getElem?_map, hj, he]; rfl
  obtain ⟨a1, a2⟩ := List.getElem?_eq_some_iff.1 h1
  obtain ⟨b1, b2⟩ := List.getElem?_eq_some_iff.1 h2
  have := (List.getElem_inj h).1 (a2.trans b2.symm)
  subst this
  rw [hi] at hj
  simpa using hj
/-- the least is one -/
theorem mn_one {l m : List QOp} (hm : MOk l m) (ht : NoTie l) {y : QOp} (hy : y ∈ m) (hmin : ∀ z ∈ m, y.at_ ≤ z.at_) : mn m = some y := by
  cases h : mn m with
  | none => rw [mn_none h] at hy; cases hy
  | some u =>
    obtain ⟨h1, h2⟩ := mn_some h
    have e : u.at_ = y.at_ := Int.le_antisymm (h2 y hy) (hmin u h1)
    have e2 := ht u (hm.sub u h1).1 y (hm.sub y hy).1 (hm.sub u h1).2 (hm.sub y hy).2 e
    rw [nd_inj hm.nd h1 hy e2]
/-! ## the heap beside the model -/
def IdT (q : List QI) : List (Int × Int) := q.map fun z => (z.id, (z.t : Int))
def Idm (m : List QOp) : List (Int × Int) := m.map fun y => (y.id, y.at_)
theorem idt_key (q : List QI) : IdT q = (q.map QI.key).map fun p => (p.2.1, (p.2.2 : Int)) := by simp [IdT, QI.key]
theorem idt_perm {q q' : List QI} (h : (q'.map QI.key).Perm (q.map QI.key)) : (IdT q').Perm (IdT q) := by rw [idt_key, idt_key]; exact h.map _
theorem filt_set {l : List (Int × Int)} {i : Nat} {a b c : Int} (h : l[i]? = some (a, b)) (hn : (l.map (·.1)).Nodup) : (l.set i (a, c)).Perm (l.filter (fun p => decide (p.1 ≠ a)) ++ [(a, c)]) := by
  have h1 := set_perm (List.getElem?_eq_some_iff.1 h).1 (a, c)
  have h2 := erase_perm h
  have h3 := h2.filter fun p => decide (p.1 ≠ a)
  have h4 : ((a, b) :: l.eraseIdx i).filter (fun p => decide (p.1 ≠ a)) = l.eraseIdx i := by
    rw [List.filter_cons_of_neg (by simp)]
    refine List.filter_eq_self.2 fun p hp => ?_
    have hn2 := (h2.map (·.1)).nodup_iff.1 hn
    rw [List.map_cons, List.nodup_cons] at hn2
    simp only [decide_eq_true_eq]
    intro e
    exact hn2.1 (e ▸ List.mem_map.2 ⟨p, hp, rfl⟩)
  rw [h4] at h3
  exact h1.trans ((h3.symm.cons _).trans (List.perm_append_singleton _ _).symm)
theorem filt_out {l e : List (Int × Int)} {a b : Int} (h : l.Perm ((a, b) :: e)) (hn : (l.map (·.1)).Nodup) : e.Perm (l.filter fun p => decide (p.1 ≠ a)) := by
  have h3 := h.filter fun p => decide (p.1 ≠ a)
  have h4 : ((a, b) :: e).filter (fun p => decide (p.1 ≠ a)) = e := by
    rw [List.filter_cons_of_neg (by simp)]
    refine List.filter_eq_self.2 fun p hp => ?_
    have hn2 := (h.map (·.1)).nodup_iff.1 hn
    rw [List.map_cons, List.nodup_cons] at hn2
    simp only [decide_eq_true_eq]
    intro e
    exact hn2.1 (e ▸ List.mem_map.2 ⟨p, hp, rfl⟩)
  rw [h4] at h3
  exact h3.symm
theorem filt_none {l : List (Int × Int)} {a : Int} (h : ∀ p ∈ l, p.1 ≠ a) : l.filter (fun p => decide (p.1 ≠ a)) = l := List.filter_eq_self.2 fun p hp => by simpa using h p hp
theorem idm_without (m : List QOp) (id : Int) : Idm (without m id) = (Idm m).filter fun p => decide (p.1 ≠ id) := by
  simp only [Idm, without, List.filter_map]
  rfl
structure QGood (q : List QI) (kvs : List (Value × Value)) (n cap : Nat) (sp : List Value) : Prop where
  len : q.length = n
  idx : Idx q
  ok : Ok (tm q) n
  map : MapQ kvs (q.map QI.key)
  c1 : n ≤ cap
  c2 : sp.length = cap - n
  c3 : cap ≤ 9223372036854775807
theorem QGood.kn {q : List QI} {kvs : List (Value × Value)} {n cap : Nat} {sp : List Value} (h : QGood q kvs n cap sp) : kvs.length = n := by
  rw [h.map.length_eq]; simp [h.len]
theorem QGood.min {q : List QI} {kvs : List (Value × Value)} {n cap : Nat} {sp : List Value} (h : QGood q kvs n cap sp) {x : QI} (hx : q[0]? = some x) : ∀ z ∈ q, x.t ≤ z.t := fun z hz => by
  obtain ⟨k, hk⟩ := List.getElem?_of_mem hz
  have := ok_min h.ok k (by have := (List.getElem?_eq_some_iff.1 hk).1; rw [← h.len]; exact this)
  rwa [tm_at hx, tm_at hk] at this
theorem reg_spec (nb mb rb cap n : Nat) (sp : List Value) (q : List QI) (kvs : List (Value × Value)) (hg : QGood q kvs n cap sp) (hn : n ≤ 1000000) (hnd : ((IdT q).map (·.1)).Nodup) (zb t : Nat) (id : Int) :
    Does Try.prog 36 [.pointer (some ⟨nb, 0, none⟩), .pointer (some ⟨zb, 0, none⟩)] [Blk nb [.map (some mb), .slice (some ⟨rb, 0, none⟩) n cap] 132, Blk rb (q.map QI.ptr ++ sp) 90, Its q, Mapk mb (.int .i64) kvs, Blk zb [.int .i64 id, .int .i64 ((t / 1000000000 : Nat) : Int), .int .i64 ((t % 1000000000 : Nat) : Int), .bool true, .int .i64 0] 134]
      (fun v L => ∃ q' kvs' n' rb' cap' sp', QGood q' kvs' n' cap' sp' ∧ n' ≤ n + 1 ∧ (IdT q').Perm ((IdT q).filter (fun p => decide (p.1 ≠ id)) ++ [(id, (t : Int))]) ∧ v = .tuple #[] ∧ L = [Blk nb [.map (some mb), .slice (some ⟨rb', 0, none⟩) n' cap'] 132, Blk rb' (q'.map QI.ptr ++ sp') 90, Its q', Mapk mb (.int .i64) kvs']) := by
  by_cases h : ∃ (i : Nat) (x : QI), q[i]? = some x ∧ x.id = id
  · obtain ⟨i, x, hx, rfl⟩ := h
    refine (reg_old nb mb rb cap n sp q kvs hg.len hn hg.idx hg.ok hg.map i x hx zb t).mono ?_
    rintro v L' ⟨q', hS, hO, rfl, rfl⟩
    refine ⟨_, ⟨q', kvs, n, rb, cap, sp, ⟨hS.len.trans (by simpa using hg.len), hS.idx, hO, ?_, hg.c1, hg.c2, hg.c3⟩, by omega, ?_, rfl, rfl⟩, fun _ _ _ h => h⟩
    · refine hg.map.trans ?_
      refine List.Perm.trans ?_ (hS.perm.symm.map pf)
      have e : ((q.set i { x with t := t }).map QI.key).map pf = (q.map QI.key).map pf := by
        rw [List.map_map, List.map_map, List.map_set]
        apply List.ext_getElem?
        intro k
        rw [List.getElem?_set]
        split
        · rename_i e
          subst e
          rw [List.getElem?_map, hx]
          simp [(List.getElem?_eq_some_iff.1 hx).1, pf, QI.key]
        · rfl
      rw [e]
    · refine (idt_perm hS.perm).trans ?_
      have e : IdT (q.set i { x with t := t }) = (IdT q).set i (x.id, (t : Int)) := by simp [IdT, List.map_set]
      rw [e]
      exact filt_set (b := (x.t : Int)) (by simp [IdT, hx]) hnd
  · have hno : ∀ x ∈ q, x.id ≠ id := fun x hx e => by
      obtain ⟨i, hi⟩ := List.getElem?_of_mem hx
      exact h ⟨i, x, hi, e⟩
    refine (reg_new nb mb rb cap n sp q kvs hg.len hn hg.idx hg.ok hg.map hg.c1 hg.c2 hg.c3 ⟨zb, id, t, 0⟩ hno).mono ?_
    rintro v L' ⟨q', rb', cap', sp', hS, hO, ⟨c1, c2, c3⟩, rfl, rfl⟩
    refine ⟨_, ⟨q', _, n + 1, rb', cap', sp', ⟨hS.len.trans (by simp [hg.len]), hS.idx, hO, ?_, c1, c2, c3⟩, Nat.le_refl _, ?_, rfl, rfl⟩, fun _ _ _ h => h⟩
    · refine List.Perm.trans ?_ (hS.perm.symm.map pf)
      rw [List.map_append, List.map_append]
      exact hg.map.append_right _
    · refine (idt_perm hS.perm).trans ?_
      rw [filt_none fun p hp => by
        obtain ⟨z, hz, rfl⟩ := List.mem_map.1 hp
        exact hno z hz]
      simp [IdT]
theorem unreg2 (nb mb rb cap n : Nat) (sp : List Value) (q : List QI) (kvs : List (Value × Value)) (hg : QGood q kvs (n + 1) cap sp) (hn : n ≤ 1000000) (hnd : ((IdT q).map (·.1)).Nodup) (x : QI) (hx : q[0]? = some x) :
    Does Try.prog 43 [.pointer (some ⟨nb, 0, none⟩)] [Blk nb [.map (some mb), .slice (some ⟨rb, 0, none⟩) (n + 1) cap] 132, Blk rb (q.map QI.ptr ++ sp) 90, Its q, Mapk mb (.int .i64) kvs]
      (fun v L => ∃ ql kvs', QGood ql kvs' n cap (x.ptr :: sp) ∧ (IdT ql).Perm ((IdT q).filter fun p => decide (p.1 ≠ x.id)) ∧ v = .pointer (some ⟨x.b, 0, none⟩) ∧ L = [Blk nb [.map (some mb), .slice (some ⟨rb, 0, none⟩) n cap] 132, Blk rb (ql.map QI.ptr ++ (x.ptr :: sp)) 90, Blk x.b [.int .i64 x.id, .int .i64 ((x.t / 1000000000 : Nat) : Int), .int .i64 ((x.t % 1000000000 : Nat) : Int), .bool true, .int .i64 (-1)] 134, Its ql, Mapk mb (.int .i64) kvs']) := by
  obtain ⟨y, hy⟩ : ∃ y, q[n]? = some y := ⟨_, List.getElem?_eq_getElem (by rw [hg.len]; omega)⟩
  obtain ⟨j, hj⟩ := List.getElem?_of_mem (mem_kvs hg.map hx)
  refine (unreg_spec nb mb rb cap n sp q kvs x y j hg.len hn hg.idx hg.ok hg.c1 hx hy hj).mono ?_
  rintro v L' ⟨ql, hl, hp, hi, ho, rfl, rfl⟩
  have hp2 : ((q.map QI.key)).Perm (x.key :: ql.map QI.key) := by
    refine hp.symm.trans ?_
    rw [List.map_append]
    exact List.perm_append_singleton _ _
  refine ⟨_, ⟨ql, kvs.eraseIdx j, ⟨hl, hi, ho, ?_, by have := hg.c1; omega, ?_, hg.c3⟩, ?_, rfl, rfl⟩, fun _ _ _ h => h⟩
  · have h1 := (erase_perm hj).symm.trans (hg.map.trans (hp2.map pf))
    exact List.Perm.cons_inv h1
  · have := hg.c1
    have := hg.c2
    simp only [List.length_cons]
    omega
  · refine filt_out (a := x.id) (b := (x.t : Int)) ?_ hnd
    have := idt_perm (q := x :: ql) (q' := q) (by rw [List.map_cons]; exact hp2)
    exact this
end Go.Proofs.Ythmkdioafjmclaa.Qx
