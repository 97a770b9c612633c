import Derived.Test.YthmkdioafjmclaaSlTerse
import Derived.Test.YthmkdioafjmclaaBtP
namespace Go.Proofs.Ythmkdioafjmclaa.Bt15
open Go.RowKit Go.Proofs.Ythmkdioafjmclaa Go.Proofs.Ythmkdioafjmclaa.Sl Go.Proofs.Ythmkdioafjmclaa.Bt Go.Proofs.Ythmkdioafjmclaa.Bt2 Go.Proofs.Ythmkdioafjmclaa.Bt3 Go.Proofs.Ythmkdioafjmclaa.Bt4 Go.Proofs.Ythmkdioafjmclaa.Bt5 Go.Proofs.Ythmkdioafjmclaa.Bt6 Go.Proofs.Ythmkdioafjmclaa.Bt7 Go.Proofs.Ythmkdioafjmclaa.Bt8 Go.Proofs.Ythmkdioafjmclaa.Bt9 Go.Proofs.Ythmkdioafjmclaa.Bt10 Go.Proofs.Ythmkdioafjmclaa.Bt11 Go.Proofs.Ythmkdioafjmclaa.Bt12 Go.Proofs.Ythmkdioafjmclaa.Bt13 Go.Proofs.Ythmkdioafjmclaa.Bt14 Go.Proofs.Ythmkdioafjmclaa.BtP
set_option linter.unusedVariables false
set_option linter.unusedSimpArgs false
set_option linter.unusedSectionVars false


structure St where
 n : Int
 r : Option (Nat × Tr)
def TreeP (c d tb : Nat) (s : St) : HProp := match s.r with
 | none => Blk tb [.int .i64 ((d : Nat) : Int), .int .i64 s.n, .pointer none, .pointer (some ⟨c, 0, none⟩)] 174
 | some k => Ex fun p : Nat => Sep [Blk tb [.int .i64 ((d : Nat) : Int), .int .i64 s.n, .pointer (some ⟨p, 0, none⟩), .pointer (some ⟨c, 0, none⟩)] 174, Nd c k.1 (p, k.2)]
theorem tp_open {W w : World} {L : List HProp} {c d tb : Nat} {n : Int} {k : Nat × Tr} (h : Sat W (TreeP c d tb ⟨n, some k⟩ :: L) w) : ∃ p : Nat, Sat W (Blk tb [.int .i64 ((d : Nat) : Int), .int .i64 n, .pointer (some ⟨p, 0, none⟩), .pointer (some ⟨c, 0, none⟩)] 174 :: Nd c k.1 (p, k.2) :: L) w := by
 obtain ⟨p, h⟩ := Sat.ex (f := fun p : Nat => Sep [Blk tb [.int .i64 ((d : Nat) : Int), .int .i64 n, .pointer (some ⟨p, 0, none⟩), .pointer (some ⟨c, 0, none⟩)] 174, Nd c k.1 (p, k.2)]) h
 exact ⟨p, h.sep⟩
theorem tp_mk {W w : World} {L : List HProp} {c d tb p : Nat} {n : Int} {k : Nat × Tr} (h : Sat W (Blk tb [.int .i64 ((d : Nat) : Int), .int .i64 n, .pointer (some ⟨p, 0, none⟩), .pointer (some ⟨c, 0, none⟩)] 174 :: Nd c k.1 (p, k.2) :: L) w) : Sat W (TreeP c d tb ⟨n, some k⟩ :: L) w :=
 Sat.ex_mk (f := fun p : Nat => Sep [Blk tb [.int .i64 ((d : Nat) : Int), .int .i64 n, .pointer (some ⟨p, 0, none⟩), .pointer (some ⟨c, 0, none⟩)] 174, Nd c k.1 (p, k.2)]) p (Sat.sep_mk h)
def elems (s : St) : List El := match s.r with
 | none => []
 | some k => ino k.1 k.2
structure Wf (d : Nat) (s : St) : Prop where
 d1 : 2 ≤ d
 d2 : d ≤ 64
 len : s.n = ((elems s).length : Int)
 bal : ∀ k, s.r = some k → Bal (d - 1) (d * 2 - 1) k.1 k.2 ∧ (0 < k.1 → 1 ≤ k.2.is.length)
def stepIns (d : Nat) (s : St) (x : El) : St × Option El := match s.r with
 | none => (⟨s.n + 1, some (0, .nd [x] [])⟩, none)
 | some k => (⟨if (rins (d * 2 - 1) k.1 k.2 x).2.isSome = true then s.n else s.n + 1, some (rins (d * 2 - 1) k.1 k.2 x).1⟩, (rins (d * 2 - 1) k.1 k.2 x).2)
def stepMin (d : Nat) (s : St) : St × Option El := match s.r with
 | none => (s, none)
 | some k => if k.2.is.length = 0 then (s, none) else (⟨s.n - 1, some (shrink k.1 (dmin (d - 1) k.1 k.2).1)⟩, (dmin (d - 1) k.1 k.2).2)
def stepMax (d : Nat) (s : St) : St × Option El := match s.r with
 | none => (s, none)
 | some k => if k.2.is.length = 0 then (s, none) else (⟨s.n - 1, some (shrink k.1 (dmax (d - 1) k.1 k.2).1)⟩, (dmax (d - 1) k.1 k.2).2)
def getS (s : St) (x : El) : Option El := match s.r with
 | none => none
 | some k => getT k.1 k.2 x
theorem ins_wf {d : Nat} {s : St} (h : Wf d s) (x : El) : Wf d (stepIns d s x).1 ∧ (elems (stepIns d s x).1).length = (elems s).length + one (stepIns d s x).2 := by
 obtain ⟨n, r⟩ := s
 have hd1 := h.d1
 cases r with
 | none =>
  have hl := h.len
  refine ⟨⟨h.d1, h.d2, ?_, fun k hk => ?_⟩, rfl⟩
  ·
   show n + 1 = 1; have : n = 0 := hl; omega
  ·
   have : k = (0, .nd [x] []) := by simpa [stepIns] using hk.symm
   subst this
   exact ⟨⟨rfl, (show 1 ≤ d * 2 - 1 by omega)⟩, fun h => absurd h (Nat.lt_irrefl 0)⟩
 | some k =>
  obtain ⟨ht, t⟩ := k
  obtain ⟨hb, hr⟩ := h.bal _ rfl
  have hM : d * 2 - 1 = 2 * (d - 1) + 1 := by omega
  have key : Bal (d - 1) (d * 2 - 1) (rins (d * 2 - 1) ht t x).1.1 (rins (d * 2 - 1) ht t x).1.2 ∧ (0 < (rins (d * 2 - 1) ht t x).1.1 → 1 ≤ (rins (d * 2 - 1) ht t x).1.2.is.length) ∧ (ino (rins (d * 2 - 1) ht t x).1.1 (rins (d * 2 - 1) ht t x).1.2).length = (ino ht t).length + one (rins (d * 2 - 1) ht t x).2 := by
   unfold rins
   split
   ·
    rename_i hl
    obtain ⟨y, hy⟩ : ∃ y, t.is[(d * 2 - 1) / 2]? = some y := ⟨_, List.getElem?_eq_getElem (by omega)⟩
    rw [getD_at hy]
    have hb2 := root_bal (y := y) (q := (d * 2 - 1) / 2) hM hb hl (by omega)
    obtain ⟨i1, i2, i3⟩ := ins_bal hM x _ _ hb2 (show 1 < d * 2 - 1 by omega)
    refine ⟨i1, fun _ => i2, ?_⟩
    show (ino (ht + 1) _).length = _ + one _
    rw [i3, ino_split hb hy]
    congr 1
    rw [ino_tl (h := ht) (t := .nd [y] [.nd (t.is.take ((d * 2 - 1) / 2)) (t.ks.take ((d * 2 - 1) / 2 + 1)), .nd (t.is.drop ((d * 2 - 1) / 2 + 1)) (t.ks.drop ((d * 2 - 1) / 2 + 1))]) (k := .nd (t.is.take ((d * 2 - 1) / 2)) (t.ks.take ((d * 2 - 1) / 2 + 1))) (ks := [.nd (t.is.drop ((d * 2 - 1) / 2 + 1)) (t.ks.drop ((d * 2 - 1) / 2 + 1))]) rfl rfl]
    simp [tl, Tr.is]
   ·
    obtain ⟨i1, i2, i3⟩ := ins_bal hM x ht t hb (by omega)
    exact ⟨i1, fun h0 => Nat.le_trans (hr h0) i2, i3⟩
  refine ⟨⟨h.d1, h.d2, ?_, fun k hk => ?_⟩, key.2.2⟩
  ·
   have hl : n = ((ino ht t).length : Int) := h.len
   show (if (rins (d * 2 - 1) ht t x).2.isSome = true then n else n + 1) = ((ino (rins (d * 2 - 1) ht t x).1.1 (rins (d * 2 - 1) ht t x).1.2).length : Int)
   rw [key.2.2]; unfold one
   split <;> omega
  ·
   have : (rins (d * 2 - 1) ht t x).1 = k := by simpa [stepIns] using hk
   subst this
   exact ⟨key.1, key.2.1⟩
theorem min_wf {d : Nat} {s : St} (h : Wf d s) : Wf d (stepMin d s).1 ∧ ((elems s = [] ∧ elems (stepMin d s).1 = [] ∧ (stepMin d s).2 = none) ∨ ∃ x, elems s = x :: elems (stepMin d s).1 ∧ (stepMin d s).2 = some x) := by
 obtain ⟨n, r⟩ := s
 have hd1 := h.d1
 cases r with
 | none => exact ⟨h, .inl ⟨rfl, rfl, rfl⟩⟩
 | some k =>
  obtain ⟨ht, t⟩ := k
  obtain ⟨hb, hr⟩ := h.bal _ rfl
  have hM : d * 2 - 1 = 2 * (d - 1) + 1 := by omega
  unfold stepMin
  dsimp only
  split
  ·
   rename_i h0
   refine ⟨h, .inl ?_⟩
   have e : elems ⟨n, some (ht, t)⟩ = [] := by
    cases ht with
    | zero => exact List.eq_nil_of_length_eq_zero h0
    | succ q => have := hr (Nat.succ_pos _); first | omega | (dsimp only at this h0; omega) | (dsimp only at this; omega) | (dsimp only at h0; omega)
   exact ⟨e, e, rfl⟩
  ·
   rename_i h0
   have h0 : 1 ≤ t.is.length := by first | omega | (dsimp only at h0; omega)
   obtain ⟨x, e1, e2⟩ := dmin_ino hM (by omega) hb h0
   obtain ⟨b1, b2⟩ := dmin_bal hM (by omega) hb h0
   obtain ⟨s1, s2, s3⟩ := shrink_ino b1 (by omega)
   refine ⟨⟨h.d1, h.d2, ?_, fun k hk => ?_⟩, .inr ⟨x, ?_, e1⟩⟩
   ·
    have hl : n = ((ino ht t).length : Int) := h.len
    show n - 1 = ((ino _ _).length : Int)
    rw [s1, hl, e2, List.length_cons]; omega
   ·
    have : shrink ht (dmin (d - 1) ht t).1 = k := by simpa using hk
    subst this
    exact ⟨s2, s3⟩
   ·
    show ino ht t = x :: ino _ _
    rw [s1, e2]
theorem max_wf {d : Nat} {s : St} (h : Wf d s) : Wf d (stepMax d s).1 ∧ ((elems s = [] ∧ elems (stepMax d s).1 = [] ∧ (stepMax d s).2 = none) ∨ ∃ x, elems s = elems (stepMax d s).1 ++ [x] ∧ (stepMax d s).2 = some x) := by
 obtain ⟨n, r⟩ := s
 have hd1 := h.d1
 cases r with
 | none => exact ⟨h, .inl ⟨rfl, rfl, rfl⟩⟩
 | some k =>
  obtain ⟨ht, t⟩ := k
  obtain ⟨hb, hr⟩ := h.bal _ rfl
  have hM : d * 2 - 1 = 2 * (d - 1) + 1 := by omega
  unfold stepMax
  dsimp only
  split
  ·
   rename_i h0
   refine ⟨h, .inl ?_⟩
   have e : elems ⟨n, some (ht, t)⟩ = [] := by
    cases ht with
    | zero => exact List.eq_nil_of_length_eq_zero h0
    | succ q => have := hr (Nat.succ_pos _); first | omega | (dsimp only at this h0; omega) | (dsimp only at this; omega) | (dsimp only at h0; omega)
   exact ⟨e, e, rfl⟩
  ·
   rename_i h0
   have h0 : 1 ≤ t.is.length := by first | omega | (dsimp only at h0; omega)
   obtain ⟨x, e1, e2⟩ := dmax_ino hM (by omega) hb h0
   obtain ⟨b1, b2⟩ := dmax_bal hM (by omega) hb h0
   obtain ⟨s1, s2, s3⟩ := shrink_ino b1 (by omega)
   refine ⟨⟨h.d1, h.d2, ?_, fun k hk => ?_⟩, .inr ⟨x, ?_, e1⟩⟩
   ·
    have hl : n = ((ino ht t).length : Int) := h.len
    show n - 1 = ((ino _ _).length : Int)
    rw [s1, hl, e2, List.length_append, List.length_singleton]; omega
   ·
    have : shrink ht (dmax (d - 1) ht t).1 = k := by simpa using hk
    subst this
    exact ⟨s2, s3⟩
   ·
    show ino ht t = ino _ _ ++ [x]
    rw [s1, e2]

theorem ins_tp (c f d tb : Nat) (s : St) (h : Wf d s) (h6 : (elems s).length < 1000000) (x : El) : Does Try.prog 74 [.pointer (some ⟨tb, 0, none⟩), .agg #[.int .i64 x.k, .int .i64 x.v]] [TreeP c d tb s, Blk c [.pointer (some ⟨f, 0, none⟩), .func (.func 53) #[] #[]] 170, FL f] (fun v L => v = opv (stepIns d s x).2 ∧ L = [TreeP c d tb (stepIns d s x).1, Blk c [.pointer (some ⟨f, 0, none⟩), .func (.func 53) #[] #[]] 170, FL f]) := by
 obtain ⟨n, r⟩ := s
 have hl := h.len
 dsimp only at hl
 have hd1 := h.d1
 have hd2 := h.d2
 cases r with
 | none =>
  refine (roi_nil c f d tb n (by omega) (by omega) x).mono ?_
  rintro v L ⟨p, rfl, rfl⟩
  exact ⟨_, ⟨rfl, rfl⟩, fun W w F hs => tp_mk hs⟩
 | some k =>
  obtain ⟨ht, t⟩ := k
  obtain ⟨hb, -⟩ := h.bal _ rfl
  refine Does.open (g := fun p => [Blk tb [.int .i64 ((d : Nat) : Int), .int .i64 n, .pointer (some ⟨p, 0, none⟩), .pointer (some ⟨c, 0, none⟩)] 174, Nd c ht (p, t), Blk c [.pointer (some ⟨f, 0, none⟩), .func (.func 53) #[] #[]] 170, FL f]) (fun W w F hs => tp_open hs) fun p => ?_
  refine (roi_some c f d tb (d - 1) (d * 2 - 1) n (by omega) (by omega) hd1 (by omega) (by omega) rfl x ht p t hb).mono ?_
  rintro v L ⟨p2, rfl, rfl⟩
  exact ⟨_, ⟨rfl, rfl⟩, fun W w F hs => tp_mk hs⟩

theorem delMin_tp (c f d tb : Nat) (s : St) (h : Wf d s) (h6 : (elems s).length < 1000000) (x : El) : Does Try.prog 104 [.pointer (some ⟨tb, 0, none⟩), .agg #[.int .i64 x.k, .int .i64 x.v], .int .i64 1] [TreeP c d tb s, Blk c [.pointer (some ⟨f, 0, none⟩), .func (.func 53) #[] #[]] 170, FL f] (fun v L => v = opv (stepMin d s).2 ∧ L = [TreeP c d tb (stepMin d s).1, Blk c [.pointer (some ⟨f, 0, none⟩), .func (.func 53) #[] #[]] 170, FL f]) := by
 obtain ⟨n, r⟩ := s
 have hl := h.len
 dsimp only at hl
 have hd1 := h.d1
 have hd2 := h.d2
 cases r with
 | none =>
  intro W F w hs
  refine ((del_nil c d tb n x 1).calls hs).mono ?_
  rintro e w' ⟨v, L, rfl, ⟨rfl, rfl⟩, hs'⟩
  exact ⟨_, _, rfl, ⟨rfl, rfl⟩, hs'⟩
 | some k =>
  obtain ⟨ht, t⟩ := k
  obtain ⟨hb, -⟩ := h.bal _ rfl
  refine Does.open (g := fun p => [Blk tb [.int .i64 ((d : Nat) : Int), .int .i64 n, .pointer (some ⟨p, 0, none⟩), .pointer (some ⟨c, 0, none⟩)] 174, Nd c ht (p, t), Blk c [.pointer (some ⟨f, 0, none⟩), .func (.func 53) #[] #[]] 170, FL f]) (fun W w F hs => tp_open hs) fun p => ?_
  by_cases h0 : t.is.length = 0
  ·
   have e : stepMin d ⟨n, some (ht, t)⟩ = (⟨n, some (ht, t)⟩, none) := by unfold stepMin; dsimp only; rw [if_pos h0]
   rw [e]
   intro W F w hs
   refine ((del_empty c d tb p ht t n x 1 h0).calls (F := Blk c [.pointer (some ⟨f, 0, none⟩), .func (.func 53) #[] #[]] 170 :: FL f :: F) hs).mono ?_
   rintro e w' ⟨v, L, rfl, ⟨rfl, rfl⟩, hs'⟩
   exact ⟨_, _, rfl, ⟨rfl, rfl⟩, tp_mk (k := (ht, t)) hs'⟩
  ·
   have e : stepMin d ⟨n, some (ht, t)⟩ = (⟨n - 1, some (shrink ht (dmin (d - 1) ht t).1)⟩, (dmin (d - 1) ht t).2) := by unfold stepMin; dsimp only; rw [if_neg h0]
   rw [e]
   have hl2 : n = ((ino ht t).length : Int) := hl
   refine (del1_some c f d tb (d - 1) (d * 2 - 1) n (by omega) (by have : (ino ht t).length < 1000000 := h6; omega) hd1 (by omega) (by omega) (by omega) (by omega) rfl x ht p t hb (by omega)).mono ?_
   rintro v L ⟨q, rfl, rfl⟩
   exact ⟨_, ⟨rfl, rfl⟩, fun W w F hs => tp_mk hs⟩

theorem delMax_tp (c f d tb : Nat) (s : St) (h : Wf d s) (h6 : (elems s).length < 1000000) (x : El) : Does Try.prog 104 [.pointer (some ⟨tb, 0, none⟩), .agg #[.int .i64 x.k, .int .i64 x.v], .int .i64 2] [TreeP c d tb s, Blk c [.pointer (some ⟨f, 0, none⟩), .func (.func 53) #[] #[]] 170, FL f] (fun v L => v = opv (stepMax d s).2 ∧ L = [TreeP c d tb (stepMax d s).1, Blk c [.pointer (some ⟨f, 0, none⟩), .func (.func 53) #[] #[]] 170, FL f]) := by
 obtain ⟨n, r⟩ := s
 have hl := h.len
 dsimp only at hl
 have hd1 := h.d1
 have hd2 := h.d2
 cases r with
 | none =>
  intro W F w hs
  refine ((del_nil c d tb n x 2).calls hs).mono ?_
  rintro e w' ⟨v, L, rfl, ⟨rfl, rfl⟩, hs'⟩
  exact ⟨_, _, rfl, ⟨rfl, rfl⟩, hs'⟩
 | some k =>
  obtain ⟨ht, t⟩ := k
  obtain ⟨hb, -⟩ := h.bal _ rfl
  refine Does.open (g := fun p => [Blk tb [.int .i64 ((d : Nat) : Int), .int .i64 n, .pointer (some ⟨p, 0, none⟩), .pointer (some ⟨c, 0, none⟩)] 174, Nd c ht (p, t), Blk c [.pointer (some ⟨f, 0, none⟩), .func (.func 53) #[] #[]] 170, FL f]) (fun W w F hs => tp_open hs) fun p => ?_
  by_cases h0 : t.is.length = 0
  ·
   have e : stepMax d ⟨n, some (ht, t)⟩ = (⟨n, some (ht, t)⟩, none) := by unfold stepMax; dsimp only; rw [if_pos h0]
   rw [e]
   intro W F w hs
   refine ((del_empty c d tb p ht t n x 2 h0).calls (F := Blk c [.pointer (some ⟨f, 0, none⟩), .func (.func 53) #[] #[]] 170 :: FL f :: F) hs).mono ?_
   rintro e w' ⟨v, L, rfl, ⟨rfl, rfl⟩, hs'⟩
   exact ⟨_, _, rfl, ⟨rfl, rfl⟩, tp_mk (k := (ht, t)) hs'⟩
  ·
   have e : stepMax d ⟨n, some (ht, t)⟩ = (⟨n - 1, some (shrink ht (dmax (d - 1) ht t).1)⟩, (dmax (d - 1) ht t).2) := by unfold stepMax; dsimp only; rw [if_neg h0]
   rw [e]
   have hl2 : n = ((ino ht t).length : Int) := hl
   refine (del2_some c f d tb (d - 1) (d * 2 - 1) n (by omega) (by have : (ino ht t).length < 1000000 := h6; omega) hd1 (by omega) (by omega) (by omega) (by omega) rfl x ht p t hb (by omega)).mono ?_
   rintro v L ⟨q, rfl, rfl⟩
   exact ⟨_, ⟨rfl, rfl⟩, fun W w F hs => tp_mk hs⟩
set_option maxRecDepth 100000 in
set_option maxHeartbeats 2000000 in
theorem dMin_spec (c f d tb : Nat) (s : St) (hwf : Wf d s) (h6 : (elems s).length < 1000000) : Does Try.prog 80 [.pointer (some ⟨tb, 0, none⟩)] [TreeP c d tb s, Blk c [.pointer (some ⟨f, 0, none⟩), .func (.func 53) #[] #[]] 170, FL f] (fun v L => v = opv (stepMin d s).2 ∧ L = [TreeP c d tb (stepMin d s).1, Blk c [.pointer (some ⟨f, 0, none⟩), .func (.func 53) #[] #[]] 170, FL f]) := by
 refine Does.enter 10 Try.func80 rfl rfl rfl fun W F => ?_
 show WPc _ _ _ _ _ [(0, .pointer (some ⟨tb, 0, none⟩))] (TreeP c d tb s :: Blk c [.pointer (some ⟨f, 0, none⟩), .func (.func 53) #[] #[]] 170 :: FL f :: F)
 refine WPc.sr ?_
 refine WP.eff rfl rfl rfl (Eff.alloc rfl Ty.z55) ?_
 rintro _ _ ⟨b1, rfl, rfl⟩
 refine WP.val rfl rfl rfl (Val.assign rfl rfl) ?_
 refine WP.nx ?_
 refine WPc.sr ?_
 refine WP.eff rfl rfl rfl (Eff.alloc rfl Ty.z55) ?_
 rintro _ _ ⟨b2, rfl, rfl⟩
 refine WP.nx ?_
 refine WPc.sr ?_
 refine WP.val rfl rfl rfl (Val.move rfl rfl) ?_
 refine WP.val rfl rfl rfl (Val.loadAgg (cs := [.int .i64 0, .int .i64 0]) rfl Ty.ag55 rfl rfl (fun w h => h.range 0 rfl rfl)) ?_
 iterate 3 (refine WP.perm pl4 ?_)
 refine WP.eff rfl rfl rfl (Eff.call rfl rfl Try.call104 (delMin_tp c f d tb s hwf h6 El0)) ?_
 rintro _ _ ⟨_, ⟨rfl, rfl⟩, rfl⟩
 show WP _ _ _ _ _ _ _ (TreeP c d tb (stepMin d s).1 :: _ :: _ :: Blk b2 [.int .i64 0, .int .i64 0] 55 :: Blk b1 [.int .i64 0, .int .i64 0] 55 :: _)
 refine WP.val rfl rfl rfl (Val.extract rfl rfl rfl) ?_
 refine WP.val rfl rfl rfl (Val.extract rfl rfl rfl) ?_
 refine WP.perm pl4 ?_
 refine WP.eff0 rfl rfl (Eff.storeAgg (cs := [.int .i64 (((stepMin d s).2.getD El0).k), .int .i64 (((stepMin d s).2.getD El0).v)]) (C' := [.int .i64 (((stepMin d s).2.getD El0).k), .int .i64 (((stepMin d s).2.getD El0).v)]) rfl Ty.ag55 rfl rfl rfl rfl (by simp) rfl) ?_
 rintro _ _ rfl
 refine WP.val rfl rfl rfl (Val.assign rfl rfl) ?_
 refine WP.nx ?_
 refine WPc.ret ?_
 refine Out.perm pl4 ?_
 refine Out.drop ?_
 exact Out.retRun (L' := _) (results_ct Try.results80 rfl Ty.ag55 rfl rfl (fun w h => h.range 0 rfl rfl)) ⟨rfl, rfl⟩ (fun w h => h.drop)
set_option maxRecDepth 100000 in
set_option maxHeartbeats 2000000 in
theorem dMax_spec (c f d tb : Nat) (s : St) (hwf : Wf d s) (h6 : (elems s).length < 1000000) : Does Try.prog 81 [.pointer (some ⟨tb, 0, none⟩)] [TreeP c d tb s, Blk c [.pointer (some ⟨f, 0, none⟩), .func (.func 53) #[] #[]] 170, FL f] (fun v L => v = opv (stepMax d s).2 ∧ L = [TreeP c d tb (stepMax d s).1, Blk c [.pointer (some ⟨f, 0, none⟩), .func (.func 53) #[] #[]] 170, FL f]) := by
 refine Does.enter 10 Try.func81 rfl rfl rfl fun W F => ?_
 show WPc _ _ _ _ _ [(0, .pointer (some ⟨tb, 0, none⟩))] (TreeP c d tb s :: Blk c [.pointer (some ⟨f, 0, none⟩), .func (.func 53) #[] #[]] 170 :: FL f :: F)
 refine WPc.sr ?_
 refine WP.eff rfl rfl rfl (Eff.alloc rfl Ty.z55) ?_
 rintro _ _ ⟨b1, rfl, rfl⟩
 refine WP.val rfl rfl rfl (Val.assign rfl rfl) ?_
 refine WP.nx ?_
 refine WPc.sr ?_
 refine WP.eff rfl rfl rfl (Eff.alloc rfl Ty.z55) ?_
 rintro _ _ ⟨b2, rfl, rfl⟩
 refine WP.nx ?_
 refine WPc.sr ?_
 refine WP.val rfl rfl rfl (Val.move rfl rfl) ?_
 refine WP.val rfl rfl rfl (Val.loadAgg (cs := [.int .i64 0, .int .i64 0]) rfl Ty.ag55 rfl rfl (fun w h => h.range 0 rfl rfl)) ?_
 iterate 3 (refine WP.perm pl4 ?_)
 refine WP.eff rfl rfl rfl (Eff.call rfl rfl Try.call104 (delMax_tp c f d tb s hwf h6 El0)) ?_
 rintro _ _ ⟨_, ⟨rfl, rfl⟩, rfl⟩
 show WP _ _ _ _ _ _ _ (TreeP c d tb (stepMax d s).1 :: _ :: _ :: Blk b2 [.int .i64 0, .int .i64 0] 55 :: Blk b1 [.int .i64 0, .int .i64 0] 55 :: _)
 refine WP.val rfl rfl rfl (Val.extract rfl rfl rfl) ?_
 refine WP.val rfl rfl rfl (Val.extract rfl rfl rfl) ?_
 refine WP.perm pl4 ?_
 refine WP.eff0 rfl rfl (Eff.storeAgg (cs := [.int .i64 (((stepMax d s).2.getD El0).k), .int .i64 (((stepMax d s).2.getD El0).v)]) (C' := [.int .i64 (((stepMax d s).2.getD El0).k), .int .i64 (((stepMax d s).2.getD El0).v)]) rfl Ty.ag55 rfl rfl rfl rfl (by simp) rfl) ?_
 rintro _ _ rfl
 refine WP.val rfl rfl rfl (Val.assign rfl rfl) ?_
 refine WP.nx ?_
 refine WPc.ret ?_
 refine Out.perm pl4 ?_
 refine Out.drop ?_
 exact Out.retRun (L' := _) (results_ct Try.results81 rfl Ty.ag55 rfl rfl (fun w h => h.range 0 rfl rfl)) ⟨rfl, rfl⟩ (fun w h => h.drop)
set_option maxRecDepth 100000 in
set_option maxHeartbeats 2000000 in
theorem len_blk (c d tb : Nat) (n : Int) (r : Value) : Does Try.prog 82 [.pointer (some ⟨tb, 0, none⟩)] [Blk tb [.int .i64 (((d : Nat) : Int)), .int .i64 (n), r, .pointer (some ⟨c, 0, none⟩)] 174] (fun v L => v = .int .i64 n ∧ L = [Blk tb [.int .i64 ((d : Nat) : Int), .int .i64 n, r, .pointer (some ⟨c, 0, none⟩)] 174]) := by
 refine Does.enter 7 Try.func82 rfl rfl rfl fun W F => ?_
 show WPc _ _ _ _ _ [(0, .pointer (some ⟨tb, 0, none⟩))] (Blk tb [.int .i64 (((d : Nat) : Int)), .int .i64 (n), r, .pointer (some ⟨c, 0, none⟩)] 174 :: F)
 refine WPc.sr ?_
 refine WP.val rfl rfl rfl (Val.assign rfl rfl) ?_
 refine WP.nx ?_
 refine WPc.sr ?_
 refine WP.val rfl rfl rfl (Val.move rfl rfl) ?_
 refine WP.val rfl rfl rfl (Val.nilCheck rfl rfl) ?_
 refine WP.val rfl rfl rfl (Val.fieldAddr (j := 1) rfl Ty.fo174_1 rfl rfl) ?_
 refine WP.val rfl rfl rfl (Val.load rfl Ty.sc3 rfl (fun w h => h.cell 0 rfl rfl)) ?_
 refine WP.val rfl rfl rfl (Val.assign rfl rfl) ?_
 refine WP.nx ?_
 refine WPc.ret ?_
 exact Out.ret1 (L' := _) Try.results82 rfl ⟨rfl, rfl⟩ (fun _ h => h)

theorem len_tp (c f d tb : Nat) (s : St) : Does Try.prog 82 [.pointer (some ⟨tb, 0, none⟩)] [TreeP c d tb s] (fun v L => v = .int .i64 s.n ∧ L = [TreeP c d tb s]) := by
 obtain ⟨n, r⟩ := s
 cases r with
 | none => exact len_blk c d tb n _
 | some k =>
  refine Does.open (g := fun p => [Blk tb [.int .i64 ((d : Nat) : Int), .int .i64 n, .pointer (some ⟨p, 0, none⟩), .pointer (some ⟨c, 0, none⟩)] 174, Nd c k.1 (p, k.2)]) (fun W w F hs => tp_open hs) fun p => ?_
  intro W F w hs
  refine ((len_blk c d tb n _).calls (F := Nd c k.1 (p, k.2) :: F) hs).mono ?_
  rintro e w' ⟨v, L, rfl, ⟨rfl, rfl⟩, hs'⟩
  exact ⟨_, _, rfl, ⟨rfl, rfl⟩, tp_mk hs'⟩
set_option maxRecDepth 100000 in
set_option maxHeartbeats 2000000 in
theorem Get_nil (c f d tb : Nat) (n : Int) (x : El) : Does Try.prog 76 [.pointer (some ⟨tb, 0, none⟩), .agg #[.int .i64 (x.k), .int .i64 (x.v)]] [Blk tb [.int .i64 (((d : Nat) : Int)), .int .i64 (n), .pointer none, .pointer (some ⟨c, 0, none⟩)] 174, Blk c [.pointer (some ⟨f, 0, none⟩), .func (.func 53) #[] #[]] 170] (fun v L => v = opv none ∧ L = [Blk tb [.int .i64 ((d : Nat) : Int), .int .i64 n, .pointer none, .pointer (some ⟨c, 0, none⟩)] 174, Blk c [.pointer (some ⟨f, 0, none⟩), .func (.func 53) #[] #[]] 170]) := by
 refine Does.enter 19 Try.func76 rfl rfl rfl fun W F => ?_
 show WPc _ _ _ _ _ [(0, .pointer (some ⟨tb, 0, none⟩)), (1, .agg #[.int .i64 (x.k), .int .i64 (x.v)])] (Blk tb [.int .i64 (((d : Nat) : Int)), .int .i64 (n), .pointer none, .pointer (some ⟨c, 0, none⟩)] 174 :: Blk c [.pointer (some ⟨f, 0, none⟩), .func (.func 53) #[] #[]] 170 :: F)
 refine WPc.sr ?_
 refine WP.eff rfl rfl rfl (Eff.box (C := [.int .i64 (x.k), .int .i64 (x.v)]) rfl rfl rfl) ?_
 rintro _ _ ⟨b1, rfl, rfl⟩
 refine WP.eff rfl rfl rfl (Eff.alloc rfl Ty.z55) ?_
 rintro _ _ ⟨b2, rfl, rfl⟩
 refine WP.val rfl rfl rfl (Val.assign rfl rfl) ?_
 refine WP.nx ?_
 refine WPc.seq ?_
 refine WPc.sr ?_
 refine WP.val rfl rfl rfl (Val.move rfl rfl) ?_
 refine WP.val rfl rfl rfl (Val.nilCheck rfl rfl) ?_
 refine WP.val rfl rfl rfl (Val.fieldAddr (j := 2) rfl Ty.fo174_2 rfl rfl) ?_
 refine WP.val rfl rfl rfl (Val.load rfl Ty.sc171 rfl (fun w h => h.cell 2 rfl rfl)) ?_
 refine WP.val rfl rfl rfl (Val.nilP rfl Ty.ip171 rfl rfl) ?_
 refine WP.nx ?_
 refine WPc.condT rfl rfl ?_
 refine WPc.ret ?_
 refine Out.then_ret ?_
 refine Out.perm pl1 ?_
 refine Out.drop ?_
 exact Out.retRun (L' := _) (results_ct Try.results76 rfl Ty.ag55 rfl rfl (fun w h => h.range 0 rfl rfl)) ⟨rfl, rfl⟩ (fun w h => h.drop)
set_option maxRecDepth 100000 in
set_option maxHeartbeats 2000000 in
theorem Get_some (A : HProp) (c f d tb m M ht p : Nat) (t : Tr) (n : Int) (x : El) (hM2 : M ≤ 1000) (hrd : RdT A (· = .pointer (some ⟨c, 0, none⟩)) ht (p, t)) (hbal : Bal m M ht t) : Does Try.prog 76 [.pointer (some ⟨tb, 0, none⟩), .agg #[.int .i64 (x.k), .int .i64 (x.v)]] [Blk tb [.int .i64 (((d : Nat) : Int)), .int .i64 (n), .pointer (some ⟨p, 0, none⟩), .pointer (some ⟨c, 0, none⟩)] 174, A, Blk c [.pointer (some ⟨f, 0, none⟩), .func (.func 53) #[] #[]] 170] (fun v L => v = opv (getT ht t x) ∧ L = [Blk tb [.int .i64 ((d : Nat) : Int), .int .i64 n, .pointer (some ⟨p, 0, none⟩), .pointer (some ⟨c, 0, none⟩)] 174, A, Blk c [.pointer (some ⟨f, 0, none⟩), .func (.func 53) #[] #[]] 170]) := by
 refine Does.enter 19 Try.func76 rfl rfl rfl fun W F => ?_
 show WPc _ _ _ _ _ [(0, .pointer (some ⟨tb, 0, none⟩)), (1, .agg #[.int .i64 (x.k), .int .i64 (x.v)])] (Blk tb [.int .i64 (((d : Nat) : Int)), .int .i64 (n), .pointer (some ⟨p, 0, none⟩), .pointer (some ⟨c, 0, none⟩)] 174 :: A :: Blk c [.pointer (some ⟨f, 0, none⟩), .func (.func 53) #[] #[]] 170 :: F)
 refine WPc.sr ?_
 refine WP.eff rfl rfl rfl (Eff.box (C := [.int .i64 (x.k), .int .i64 (x.v)]) rfl rfl rfl) ?_
 rintro _ _ ⟨b1, rfl, rfl⟩
 refine WP.eff rfl rfl rfl (Eff.alloc rfl Ty.z55) ?_
 rintro _ _ ⟨b2, rfl, rfl⟩
 refine WP.val rfl rfl rfl (Val.assign rfl rfl) ?_
 refine WP.nx ?_
 refine WPc.seq ?_
 refine WPc.sr ?_
 refine WP.val rfl rfl rfl (Val.move rfl rfl) ?_
 refine WP.val rfl rfl rfl (Val.nilCheck rfl rfl) ?_
 refine WP.val rfl rfl rfl (Val.fieldAddr (j := 2) rfl Ty.fo174_2 rfl rfl) ?_
 refine WP.val rfl rfl rfl (Val.load rfl Ty.sc171 rfl (fun w h => h.cell 2 rfl rfl)) ?_
 refine WP.val rfl rfl rfl (Val.nilP rfl Ty.ip171 rfl rfl) ?_
 refine WP.nx ?_
 refine WPc.condF rfl rfl ?_
 refine WPc.skip ?_
 refine Out.next ?_
 refine WPc.seq ?_
 refine WPD.s0 Ty.mixed ?_
 refine WPD.tM 0 rfl rfl rfl rfl (Val.move rfl rfl) ?_
 refine WPD.tM 1 rfl rfl rfl rfl (Val.nilCheck rfl rfl) ?_
 refine WPD.tM 2 rfl rfl rfl rfl (Val.fieldAddr (j := 2) rfl Ty.fo174_2 rfl rfl) ?_
 refine WPD.tL 3 rfl rfl rfl rfl (fun _ h => h) (Val.load rfl Ty.sc171 rfl (fun w h => h.cell 2 rfl rfl)) ?_
 refine WPD.tL 4 rfl rfl rfl rfl (fun _ h => h) (Val.loadAgg (cs := [.int .i64 (x.k), .int .i64 (x.v)]) rfl Ty.ag55 rfl rfl (fun w h => h.range 1 rfl rfl)) ?_
 refine WPD.perm pl4 ?_
 refine WPD.perm pl4 ?_
 refine WPD.stepC 5 (by kernel_rfl) rfl rfl rfl rfl (by kernel_rfl) (Eff.call rfl rfl Try.call105 (get_spec A c f x m M hM2 ht p t hrd hbal)) ?_
 rintro _ _ ⟨_, ⟨rfl, rfl⟩, rfl⟩
 refine ⟨_, (fun _ h => h), ?_⟩
 show WPD _ _ _ _ _ _ _ _ _ (_ :: _ :: Blk b2 [.int .i64 0, .int .i64 0] 55 :: Blk b1 [.int .i64 (x.k), .int .i64 (x.v)] 55 :: _)
 refine WPD.tM 6 rfl rfl rfl rfl (Val.extract rfl rfl rfl) ?_
 refine WPD.tM 7 rfl rfl rfl rfl (Val.extract rfl rfl rfl) ?_
 refine WPD.perm pl2 ?_
 refine WPD.stepC0 8 (by kernel_rfl) rfl rfl rfl (by kernel_rfl) (Eff.storeAgg (cs := [.int .i64 (((getT ht t x).getD El0).k), .int .i64 (((getT ht t x).getD El0).v)]) (C' := [.int .i64 (((getT ht t x).getD El0).k), .int .i64 (((getT ht t x).getD El0).v)]) rfl Ty.ag55 rfl rfl rfl rfl (by simp) rfl) ?_
 rintro _ _ rfl
 refine ⟨_, (fun _ h => h), ?_⟩
 refine WPD.tM 9 rfl rfl rfl rfl (Val.assign rfl rfl) ?_
 refine WPD.done (by kernel_rfl) ?_
 refine Out.next ?_
 refine WPc.ret ?_
 refine Out.perm pl3 ?_
 refine Out.drop ?_
 refine Out.perm pl2 ?_
 refine Out.perm pl2 ?_
 refine Out.perm pl3 ?_
 refine Out.perm pl3 ?_
 exact Out.retRun (L' := _) (results_ct Try.results76 rfl Ty.ag55 rfl rfl (fun w h => h.range 0 rfl rfl)) ⟨rfl, rfl⟩ (fun w h => h.drop)

theorem tp_rd {W w : World} {L : List HProp} {c d tb : Nat} {n : Int} {k : Nat × Tr} (h : Sat W (TreeP c d tb ⟨n, some k⟩ :: L) w) : ∃ q : Nat × HProp, Sat W (Pure (RdT q.2 (· = .pointer (some ⟨c, 0, none⟩)) k.1 (q.1, k.2) ∧ ∀ r s hh, q.2.p r s hh → (Nd c k.1 (q.1, k.2)).p r s hh) :: Blk tb [.int .i64 ((d : Nat) : Int), .int .i64 n, .pointer (some ⟨q.1, 0, none⟩), .pointer (some ⟨c, 0, none⟩)] 174 :: q.2 :: L) w := by
 obtain ⟨p, h⟩ := tp_open h
 obtain ⟨B, hB⟩ := nd_open (h.perm (List.Perm.swap _ _ _))
 exact ⟨(p, B), Sat.pure_mk hB.pure (hB.drop.perm (List.Perm.swap _ _ _))⟩
theorem tp_unrd {W w : World} {L : List HProp} {B : HProp} {c d tb p : Nat} {n : Int} {k : Nat × Tr} (hB : ∀ r s hh, B.p r s hh → (Nd c k.1 (p, k.2)).p r s hh) (h : Sat W (Blk tb [.int .i64 ((d : Nat) : Int), .int .i64 n, .pointer (some ⟨p, 0, none⟩), .pointer (some ⟨c, 0, none⟩)] 174 :: B :: L) w) : Sat W (TreeP c d tb ⟨n, some k⟩ :: L) w :=
 tp_mk (((h.perm (List.Perm.swap _ _ _)).imp hB).perm (List.Perm.swap _ _ _))
theorem get_tp (c f d tb : Nat) (s : St) (h : Wf d s) (x : El) : Does Try.prog 76 [.pointer (some ⟨tb, 0, none⟩), .agg #[.int .i64 x.k, .int .i64 x.v]] [TreeP c d tb s, Blk c [.pointer (some ⟨f, 0, none⟩), .func (.func 53) #[] #[]] 170] (fun v L => v = opv (getS s x) ∧ L = [TreeP c d tb s, Blk c [.pointer (some ⟨f, 0, none⟩), .func (.func 53) #[] #[]] 170]) := by
 obtain ⟨n, r⟩ := s
 have hd2 := h.d2
 cases r with
 | none => exact Get_nil c f d tb n x
 | some k =>
  obtain ⟨ht, t⟩ := k
  obtain ⟨hb, -⟩ := h.bal _ rfl
  intro W F w hs
  obtain ⟨⟨p, B⟩, hq⟩ := tp_rd hs
  have hp := hq.pure
  refine ((Get_some B c f d tb (d - 1) (d * 2 - 1) ht p t n x (by omega) hp.1 hb).calls (F := F) hq.drop).mono ?_
  rintro e w' ⟨v, L, rfl, ⟨rfl, rfl⟩, hs'⟩
  exact ⟨_, _, rfl, ⟨rfl, rfl⟩, tp_unrd (k := (ht, t)) hp.2 hs'⟩
theorem asc_tp (c f d tb ob pb : Nat) (s : St) (h : Wf d s) (o : Bop) (out : List El) (hsz : out.length + (elems s).length ≤ 1000000) : Does Try.prog 110 [.pointer (some ⟨tb, 0, none⟩), .func (.func 109) #[] #[.pointer (some ⟨ob, 0, none⟩), .pointer (some ⟨pb, 0, none⟩)]] [TreeP c d tb s, OutP ob out, Blk pb [.int .i64 (o.kind), .int .i64 (o.tree), .int .i64 (o.el.k), .int .i64 (o.el.v), .int .i64 (o.from_), .int .i64 (o.till), .int .i64 (o.most), .bool (o.again)] 57] (fun v L => L = [TreeP c d tb s, OutP ob (vis o.most out (elems s)).1, Blk pb [.int .i64 (o.kind), .int .i64 (o.tree), .int .i64 (o.el.k), .int .i64 (o.el.v), .int .i64 (o.from_), .int .i64 (o.till), .int .i64 (o.most), .bool (o.again)] 57]) := by
 obtain ⟨n, r⟩ := s
 have hd2 := h.d2
 cases r with
 | none => exact (asc_nil c d tb ob pb n o out).mono fun v L ⟨_, e⟩ => ⟨_, rfl, fun W w F hs => by subst e; exact hs⟩
 | some k =>
  obtain ⟨ht, t⟩ := k
  obtain ⟨hb, -⟩ := h.bal _ rfl
  intro W F w hs
  obtain ⟨⟨p, B⟩, hq⟩ := tp_rd hs
  have hp := hq.pure
  refine ((asc_some B (· = .pointer (some ⟨c, 0, none⟩)) c d tb ob pb (d - 1) (d * 2 - 1) ht p t n o out (by omega) hp.1 hb hsz).calls (F := F) hq.drop).mono ?_
  rintro e w' ⟨v, L, rfl, ⟨-, rfl⟩, hs'⟩
  exact ⟨_, _, rfl, rfl, tp_unrd (k := (ht, t)) hp.2 hs'⟩

end Go.Proofs.Ythmkdioafjmclaa.Bt15
