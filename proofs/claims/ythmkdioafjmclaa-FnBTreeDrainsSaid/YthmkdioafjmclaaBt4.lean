import Derived.Test.YthmkdioafjmclaaSlTerse
import Derived.Test.YthmkdioafjmclaaBt3
namespace Go.Proofs.Ythmkdioafjmclaa.Bt4
open Go.RowKit Go.Proofs.Ythmkdioafjmclaa Go.Proofs.Ythmkdioafjmclaa.Sl Go.Proofs.Ythmkdioafjmclaa.Bt Go.Proofs.Ythmkdioafjmclaa.Bt2 Go.Proofs.Ythmkdioafjmclaa.Bt3
set_option linter.unusedVariables false
set_option linter.unusedSimpArgs false
set_option linter.unusedSectionVars false


theorem results_ct {P : Program} {W : World} {fn : Func} {n : Nat} {l : List (Nat × Value)} {L : List HProp} {t u : Tmp} {ty : TypeId} {v : Value} {b k : Nat} {cs : List Value} (hr : fn.results = #[.cell u ty, .tmp t]) (hv : Sl.look l t = some v) (ht : aggS P ty = some k) (hu : Sl.look l u = some (.pointer (some ⟨b, 0, none⟩))) (hk : cs.length = k)
  (hc : ∀ w, Sat W L w → w.rangeAt b 0 cs) : ∀ a w, Fr n a l → Sat W L w → (results fn a.tmps).run P w = .ok (.tuple #[.agg cs.toArray, v]) w := fun a w hf hs => by
 obtain ⟨d, h1, h2, h3⟩ := aggS_row ht
 have := run_loadVar_mid (P := P) w b 0 ty cs d (hc w hs) h1 h2 (by rw [h3, hk])
 have e := hf.at_ u _ hu
 have e2 := hf.at_ t _ hv
 rw [Array.getD_eq_getD_getElem?] at e e2
 simp [results, hr, e, e2, asAddr, this]
/-- where a binary search ends -/
def srch (p : Nat → Bool) : Nat → Nat → Nat → Nat
 | 0, i, _ => i
 | n + 1, i, j => if i < j then (if p ((i + j) / 2) then srch p n i ((i + j) / 2) else srch p n ((i + j) / 2 + 1) j) else i
theorem srch_done {p : Nat → Bool} {k i j : Nat} (h : ¬ i < j) : srch p k i j = i := by cases k <;> simp [srch, h]
theorem srch_le {p : Nat → Bool} : ∀ (k i j : Nat), i ≤ j → srch p k i j ≤ j
 | 0, i, j, h => h
 | k + 1, i, j, h => by
  unfold srch
  split
  ·
   split
   ·
    exact Nat.le_trans (srch_le k _ _ (by omega)) (by omega)
   ·
    exact srch_le k _ _ (by omega)
  ·
   exact h
def lessp (xs : List El) (x : El) (j : Nat) : Bool := decide (x.k < (xs.getD j El0).k)
def findI (xs : List El) (x : El) : Nat × Bool :=
 let i := srch (lessp xs x) xs.length 0 xs.length
 if 0 < i ∧ ¬ ((xs.getD (i - 1) El0).k < x.k) then (i - 1, true) else (i, false)
theorem findI_le (xs : List El) (x : El) : (findI xs x).1 ≤ xs.length ∧ ((findI xs x).2 = true → (findI xs x).1 < xs.length) := by
 have := srch_le (p := lessp xs x) xs.length 0 xs.length (by omega)
 unfold findI
 dsimp only
 split
 ·
  exact ⟨by dsimp only; omega, fun _ => by dsimp only; omega⟩
 ·
  exact ⟨this, fun h => by cases h⟩
theorem getD_at {xs : List El} {i : Nat} {y : El} (h : xs[i]? = some y) : xs.getD i El0 = y := by rw [List.getD_eq_getElem?_getD, h]; rfl
theorem wu64 {m : Nat} (h : m ≤ 9223372036854775807) : IntKind.u64.wrap (m : Int) = (m : Int) := by simp [IntKind.wrap, IntKind.signed, IntKind.bits]; omega
theorem shr1 (m : Nat) : bshr .u64 (m : Int) 1 = ((m / 2 : Nat) : Int) := by
 unfold bshr
 have h : ((m : Int)).fdiv 2 = (m : Int) / 2 := Int.fdiv_eq_ediv_of_nonneg _ (by decide)
 have e : min (1 : Int).toNat IntKind.u64.bits = 1 := by decide
 rw [e]
 show (m : Int).fdiv 2 = _
 omega
theorem srch_step {p : Nat → Bool} {k i j : Nat} (h : i < j) (hk : j - i ≤ k) : srch p k i j = if p ((i + j) / 2) then srch p (k - 1) i ((i + j) / 2) else srch p (k - 1) ((i + j) / 2 + 1) j := by
 cases k with
 | zero => omega
 | succ k => show (if i < j then _ else _) = _; rw [if_pos h]; rfl
set_option maxRecDepth 100000 in
set_option maxHeartbeats 2000000 in
theorem less_spec (x y : El) : Does Try.prog 53 [.agg #[.int .i64 (x.k), .int .i64 (x.v)], .agg #[.int .i64 (y.k), .int .i64 (y.v)]] [] (fun v L => v = .bool (decide (x.k < y.k)) ∧ L = []) := by
 refine Does.enter 10 Try.func53 rfl rfl rfl fun W F => ?_
 show WPc _ _ _ _ _ [(0, .agg #[.int .i64 (x.k), .int .i64 (x.v)]), (1, .agg #[.int .i64 (y.k), .int .i64 (y.v)])] (F)
 refine WPc.sr ?_
 refine WP.eff rfl rfl rfl (Eff.box (C := [.int .i64 (x.k), .int .i64 (x.v)]) rfl rfl rfl) ?_
 rintro _ _ ⟨b1, rfl, rfl⟩
 refine WP.eff rfl rfl rfl (Eff.box (C := [.int .i64 (y.k), .int .i64 (y.v)]) rfl rfl rfl) ?_
 rintro _ _ ⟨b2, rfl, rfl⟩
 refine WP.val rfl rfl rfl (Val.assign rfl rfl) ?_
 refine WP.nx ?_
 refine WPc.sr ?_
 refine WP.val rfl rfl rfl (Val.fieldAddr (j := 0) rfl Ty.fo55_0 rfl rfl) ?_
 refine WP.val rfl rfl rfl (Val.load rfl Ty.sc3 rfl (fun w h => h.cell 1 rfl rfl)) ?_
 refine WP.val rfl rfl rfl (Val.fieldAddr (j := 0) rfl Ty.fo55_0 rfl rfl) ?_
 refine WP.val rfl rfl rfl (Val.load rfl Ty.sc3 rfl (fun w h => h.cell 0 rfl rfl)) ?_
 refine WP.val rfl rfl rfl (Val.lss rfl rfl rfl) ?_
 refine WP.val rfl rfl rfl (Val.assign rfl rfl) ?_
 refine WP.nx ?_
 refine WPc.ret ?_
 refine Out.drop ?_
 refine Out.drop ?_
 exact Out.ret1 (L' := []) Try.results53 rfl ⟨rfl, rfl⟩ (fun _ h => h)
set_option maxRecDepth 100000 in
set_option maxHeartbeats 2000000 in
theorem clos_spec (A : HProp) (xs : List El) (b0 o0 c0 : Nat) (hr : ∀ w, Holds A w → ∀ i y, xs[i]? = some y → w.rangeAt b0 (o0 + i * 2) (El.cells y)) (x : El) (b5 b4 b3 : Nat) (hx6 : xs.length ≤ 1000000) (j : Nat) (y : El) (hy : xs[j]? = some y) : Does Try.prog 137 [.int .i64 (((j : Nat) : Int)), .pointer (some ⟨b5, 0, none⟩), .pointer (some ⟨b4, 0, none⟩), .pointer (some ⟨b3, 0, none⟩)] [Sep [Blk b5 [.func (.func 53) #[] #[]] 117, Blk b4 [.int .i64 (x.k), .int .i64 (x.v)] 55, Blk b3 [.slice (some ⟨b0, o0, none⟩) xs.length c0] 210, A]] (fun v L => v = .bool (decide (x.k < y.k)) ∧ L = [Sep [Blk b5 [.func (.func 53) #[] #[]] 117, Blk b4 [.int .i64 (x.k), .int .i64 (x.v)] 55, Blk b3 [.slice (some ⟨b0, o0, none⟩) xs.length c0] 210, A]]) := by
 refine Does.enter 13 Try.func137 rfl rfl rfl fun W F => ?_
 show WPc _ _ _ _ _ [(0, .int .i64 (((j : Nat) : Int))), (1, .pointer (some ⟨b5, 0, none⟩)), (2, .pointer (some ⟨b4, 0, none⟩)), (3, .pointer (some ⟨b3, 0, none⟩))] (Sep [Blk b5 [.func (.func 53) #[] #[]] 117, Blk b4 [.int .i64 (x.k), .int .i64 (x.v)] 55, Blk b3 [.slice (some ⟨b0, o0, none⟩) xs.length c0] 210, A] :: F)
 refine WPc.sr ?_
 refine WP.val rfl rfl rfl (Val.assign rfl rfl) ?_
 refine WP.nx ?_
 refine WPc.seq ?_
 have hj := (List.getElem?_eq_some_iff.1 hy).1
 refine WPc.conv (fun w h => h.sep) ?_
 show WPc _ _ _ _ _ _ (Blk b5 [.func (.func 53) #[] #[]] 117 :: Blk b4 [.int .i64 (x.k), .int .i64 (x.v)] 55 :: Blk b3 [.slice (some ⟨b0, o0, none⟩) xs.length c0] 210 :: A :: _)
 refine WPD.s0 Ty.mixed ?_
 refine WPD.tL 0 rfl rfl rfl rfl (fun _ h => h) (Val.load rfl Ty.sc117 rfl (fun w h => h.cell 0 rfl rfl)) ?_
 refine WPD.tL 1 rfl rfl rfl rfl (fun _ h => h) (Val.loadAgg (cs := [.int .i64 (x.k), .int .i64 (x.v)]) rfl Ty.ag55 rfl rfl (fun w h => h.range 1 rfl rfl)) ?_
 refine WPD.tL 2 rfl rfl rfl rfl (fun _ h => h) (Val.load rfl Ty.sc210 rfl (fun w h => h.cell 2 rfl rfl)) ?_
 refine WPD.tM 3 rfl rfl rfl rfl (Val.move rfl rfl) ?_
 refine WPD.tM 4 rfl rfl rfl rfl (Val.indexAddr (j := j) (q := o0 + j * 2) rfl Ty.sl210 rfl rfl (by omega) (by omega) (by omega)) ?_
 refine WPD.tL 5 rfl rfl rfl rfl (fun _ h => h) (Val.loadAgg (cs := [.int .i64 (y.k), .int .i64 (y.v)]) rfl Ty.ag55 rfl (by rfl) (fun w h => hr w (h.at 3 rfl) j y hy)) ?_
 refine WPD.stepC 6 (by kernel_rfl) rfl rfl rfl rfl (by kernel_rfl) (Eff.callF (args' := [.agg #[.int .i64 (x.k), .int .i64 (x.v)], .agg #[.int .i64 (y.k), .int .i64 (y.v)]]) rfl rfl rfl rfl Try.call53 (less_spec x y)) ?_
 rintro _ _ ⟨_, ⟨rfl, rfl⟩, rfl⟩
 refine ⟨_, (fun _ h => h), ?_⟩
 refine WPD.tM 7 rfl rfl rfl rfl (Val.assign rfl rfl) ?_
 refine WPD.done (by kernel_rfl) ?_
 refine Out.next ?_
 refine WPc.ret ?_
 refine Out.conv (fun w h => Sat.sep_mk (M := [Blk b5 [.func (.func 53) #[] #[]] 117, Blk b4 [.int .i64 (x.k), .int .i64 (x.v)] 55, Blk b3 [.slice (some ⟨b0, o0, none⟩) xs.length c0] 210, A]) h) ?_
 exact Out.ret1 (L' := _) Try.results137 rfl ⟨rfl, rfl⟩ (fun _ h => h)
set_option maxRecDepth 100000 in
set_option maxHeartbeats 2000000 in
theorem search_spec (A : HProp) (n : Nat) (hn : n ≤ 1000000) (p : Nat → Bool) (b5 b4 b3 : Nat) (hf : ∀ j, j < n → Does Try.prog 137 [.int .i64 ((j : Nat) : Int), .pointer (some ⟨b5, 0, none⟩), .pointer (some ⟨b4, 0, none⟩), .pointer (some ⟨b3, 0, none⟩)] [A] (fun v L => v = .bool (p j) ∧ L = [A])) : Does Try.prog 136 [.int .i64 (((n : Nat) : Int)), .func (.func 137) #[] #[.pointer (some ⟨b5, 0, none⟩), .pointer (some ⟨b4, 0, none⟩), .pointer (some ⟨b3, 0, none⟩)]] [A] (fun v L => v = .int .i64 ((srch p n 0 n : Nat) : Int) ∧ L = [A]) := by
 refine Does.enter 26 Try.func136 rfl rfl rfl fun W F => ?_
 show WPc _ _ _ _ _ [(0, .int .i64 (((n : Nat) : Int))), (1, .func (.func 137) #[] #[.pointer (some ⟨b5, 0, none⟩), .pointer (some ⟨b4, 0, none⟩), .pointer (some ⟨b3, 0, none⟩)])] (A :: F)
 refine WPc.sr ?_
 refine WP.val rfl rfl rfl (Val.assign rfl rfl) ?_
 refine WP.nx ?_
 refine WPc.sr ?_
 refine WP.val rfl rfl rfl (Val.move rfl rfl) ?_
 refine WP.val rfl rfl rfl (Val.assign rfl rfl) ?_
 refine WP.val rfl rfl rfl (Val.assign rfl rfl) ?_
 refine WP.nx ?_
 refine WPc.seq ?_
 refine WPc.block ?_
 refine WPc.loop (ι := Nat × Nat × Nat) (fun ⟨i, j, k⟩ => i ≤ j ∧ j ≤ n ∧ j - i ≤ k ∧ srch p k i j = srch p n 0 n) (fun ⟨i, j, k⟩ => [(1, .func (.func 137) #[] #[.pointer (some ⟨b5, 0, none⟩), .pointer (some ⟨b4, 0, none⟩), .pointer (some ⟨b3, 0, none⟩)]), (5, .int .i64 (((i : Nat) : Int))), (6, .int .i64 (((j : Nat) : Int)))]) (fun ⟨i, j, k⟩ => A :: F) (fun ⟨i, j, k⟩ => j - i) (0, n, n) ⟨Nat.zero_le _, Nat.le_refl _, by omega, rfl⟩ ((Sub.cons rfl (Sub.cons rfl (Sub.cons rfl Sub.nil)))) (fun _ h => h) ?_
 rintro ⟨i, j, k⟩ ⟨h1, h2, h3, hs⟩
 show WPc _ _ _ _ _ [(1, _), (5, .int .i64 (((i : Nat) : Int))), (6, .int .i64 (((j : Nat) : Int)))] _
 refine WPc.seq ?_
 refine WPc.sr ?_
 refine WP.val rfl rfl rfl (Val.move rfl rfl) ?_
 refine WP.val rfl rfl rfl (Val.move rfl rfl) ?_
 refine WP.val rfl rfl rfl (Val.lss rfl rfl rfl) ?_
 refine WP.nx ?_
 refine WPc.ifP rfl (fun h1 => ?_) (fun h1 => ?_)
 ·
  have h1 : (((i : Nat) : Int) < ((j : Nat) : Int)) := h1
  refine WPc.skip ?_
  refine Out.next ?_
  refine WPc.block ?_
  refine WPc.sr ?_
  refine WP.val rfl rfl rfl (Val.move rfl rfl) ?_
  refine WP.val rfl rfl rfl (Val.move rfl rfl) ?_
  refine WP.val rfl rfl rfl (Val.add (z := ((i + j : Nat) : Int)) rfl rfl rfl ((w64 (by omega) (by omega)).trans (by omega))) ?_
  refine WP.val rfl rfl rfl (Val.conv (z := ((i + j : Nat) : Int)) rfl Ty.ik228 Ty.un3 rfl (wu64 (by omega))) ?_
  refine WP.val rfl rfl rfl (show Val _ _ _ _ _ (.int .u64 (((i + j) / 2 : Nat) : Int)) from (shr1 (i + j)) ▸ Val.shr rfl rfl rfl (by decide)) ?_
  refine WP.val rfl rfl rfl (Val.conv (z := (((i + j) / 2 : Nat) : Int)) rfl Ty.ik3 Ty.un228 rfl (w64 (by omega) (by omega))) ?_
  refine WP.val rfl rfl rfl (Val.assign rfl rfl) ?_
  refine WP.nx ?_
  refine WPc.sr ?_
  refine WP.val rfl rfl rfl (Val.move rfl rfl) ?_
  refine WP.val rfl rfl rfl (Val.move rfl rfl) ?_
  refine WP.eff rfl rfl rfl (Eff.callF (args' := [.int .i64 ((((i + j) / 2 : Nat) : Int)), .pointer (some ⟨b5, 0, none⟩), .pointer (some ⟨b4, 0, none⟩), .pointer (some ⟨b3, 0, none⟩)]) rfl rfl rfl rfl Try.call137 (hf ((i + j) / 2) (by omega))) ?_
  rintro _ _ ⟨_, ⟨rfl, rfl⟩, rfl⟩
  refine WP.val rfl rfl rfl (Val.not rfl rfl) ?_
  refine WP.nx ?_
  refine WPc.cond rfl (fun h2 => ?_) (fun h2 => ?_)
  ·
   have h2 : (!(p ((i + j) / 2))) = true := h2
   refine WPc.region ?_
   refine WP.val rfl rfl rfl (Val.move rfl rfl) ?_
   refine WP.val rfl rfl rfl (Val.add (z := ((((i + j) / 2) + 1 : Nat) : Int)) rfl rfl rfl ((w64 (by omega) (by omega)).trans (by omega))) ?_
   refine WP.val rfl rfl rfl (Val.assign rfl rfl) ?_
   refine WP.nil ?_
   refine Out.block ?_
   refine Out.again ((i + j) / 2 + 1, j, k - 1) ?_ ?_ ?_ ?_
   ·
    exact ⟨by first | omega | (dsimp only; omega), by first | omega | (dsimp only; omega), by first | omega | (dsimp only; omega), by rw [← hs, srch_step (k := k) (by omega) (by omega), if_neg (by simpa using h2)]⟩
   ·
    (first | omega | (dsimp only; omega))
   ·
    exact (Sub.cons rfl (Sub.cons rfl (Sub.cons rfl Sub.nil)))
   ·
    exact (fun _ h => h)
  ·
   have h2 : (!(p ((i + j) / 2))) = false := h2
   refine WPc.region ?_
   refine WP.val rfl rfl rfl (Val.move rfl rfl) ?_
   refine WP.val rfl rfl rfl (Val.assign rfl rfl) ?_
   refine WP.nil ?_
   refine Out.block ?_
   refine Out.again (i, (i + j) / 2, k - 1) ?_ ?_ ?_ ?_
   ·
    exact ⟨by first | omega | (dsimp only; omega), by first | omega | (dsimp only; omega), by first | omega | (dsimp only; omega), by rw [← hs, srch_step (k := k) (by omega) (by omega), if_pos (by simpa using h2)]⟩
   ·
    (first | omega | (dsimp only; omega))
   ·
    exact (Sub.cons rfl (Sub.cons rfl (Sub.cons rfl Sub.nil)))
   ·
    exact (fun _ h => h)
 ·
  have h1 : ¬ (((i : Nat) : Int) < ((j : Nat) : Int)) := h1
  refine WPc.exit ?_
  refine Out.then_exit ?_
  refine Out.then_exit ?_
  refine Out.block_exit ?_
  refine Out.next ?_
  refine WPc.sr ?_
  refine WP.val rfl rfl rfl (Val.move rfl rfl) ?_
  refine WP.val rfl rfl rfl (Val.assign rfl rfl) ?_
  refine WP.nx ?_
  refine WPc.ret ?_
  rw [srch_done (by omega)] at hs
  exact Out.ret1 (L' := _) Try.results136 rfl ⟨by rw [hs], rfl⟩ (fun _ h => h)
set_option maxRecDepth 100000 in
set_option maxHeartbeats 1000000 in
theorem find_nil (A : HProp) (x : El) (a : Option Addr) (c : Nat) : Does Try.prog 124 [.slice a 0 c, .agg #[.int .i64 (x.k), .int .i64 (x.v)], .func (.func 53) #[] #[]] [A] (fun v L => v = .tuple #[.int .i64 (((findI ([] : List El) x).1 : Nat) : Int), .bool (findI ([] : List El) x).2] ∧ L = [A]) := by
 refine Does.enter 29 Try.func124 rfl rfl rfl fun W F => ?_
 show WPc _ _ _ _ _ [(0, .slice a 0 c), (1, .agg #[.int .i64 (x.k), .int .i64 (x.v)]), (2, .func (.func 53) #[] #[])] (A :: F)
 refine WPc.sr ?_
 refine WP.eff rfl rfl rfl (Eff.box (C := [.slice a 0 c]) rfl rfl rfl) ?_
 rintro _ _ ⟨b1, rfl, rfl⟩
 refine WP.eff rfl rfl rfl (Eff.box (C := [.int .i64 (x.k), .int .i64 (x.v)]) rfl rfl rfl) ?_
 rintro _ _ ⟨b2, rfl, rfl⟩
 refine WP.eff rfl rfl rfl (Eff.box (C := [.func (.func 53) #[] #[]]) rfl rfl rfl) ?_
 rintro _ _ ⟨b3, rfl, rfl⟩
 refine WP.val rfl rfl rfl (Val.assign rfl rfl) ?_
 refine WP.val rfl rfl rfl (Val.assign rfl rfl) ?_
 refine WP.nx ?_
 refine WPc.sr ?_
 refine WP.val rfl rfl rfl (Val.load rfl Ty.sc210 rfl (fun w h => h.cell 2 rfl rfl)) ?_
 refine WP.val rfl rfl rfl (Val.len rfl Ty.sl210 rfl) ?_
 refine WP.val rfl rfl rfl (Val.mkFunc rfl rfl rfl) ?_
 refine WP.conv (fun w h => Sat.sep_mk (M := [Blk b3 [.func (.func 53) #[] #[]] 117, Blk b2 [.int .i64 (x.k), .int .i64 (x.v)] 55, Blk b1 [.slice a 0 c] 210, A]) h) ?_
 show WP _ _ _ _ _ _ _ (Sep [Blk b3 [.func (.func 53) #[] #[]] 117, Blk b2 [.int .i64 (x.k), .int .i64 (x.v)] 55, Blk b1 [.slice a 0 c] 210, A] :: _)
 refine WP.eff rfl rfl rfl (Eff.call rfl rfl Try.call136 (search_spec (Sep [Blk b3 [.func (.func 53) #[] #[]] 117, Blk b2 [.int .i64 (x.k), .int .i64 (x.v)] 55, Blk b1 [.slice a 0 c] 210, A]) (([] : List El)).length (by simp) (lessp (([] : List El)) x) b3 b2 b1 (fun j hj => by exfalso; simp at hj))) ?_
 rintro _ _ ⟨_, ⟨rfl, rfl⟩, rfl⟩
 refine WP.conv (fun w h => h.sep) ?_
 show WP _ _ _ _ _ _ _ (Blk b3 [.func (.func 53) #[] #[]] 117 :: Blk b2 [.int .i64 (x.k), .int .i64 (x.v)] 55 :: Blk b1 [.slice a 0 c] 210 :: A :: _)
 have hsl : srch (lessp (([] : List El)) x) (([] : List El)).length 0 (([] : List El)).length ≤ (([] : List El)).length := srch_le _ _ _ (Nat.zero_le _)
 refine WP.val rfl rfl rfl (Val.assign rfl rfl) ?_
 refine WP.nx ?_
 refine WPc.seq ?_
 refine WPc.seq ?_
 refine WPD.s0 Ty.mixed ?_
 refine WPD.tM 0 rfl rfl rfl rfl (Val.move rfl rfl) ?_
 refine WPD.tM 1 rfl rfl rfl rfl (Val.gtr rfl rfl rfl) ?_
 refine WPD.tM 2 rfl rfl rfl rfl (Val.move rfl rfl) ?_
 refine WPD.split 15 rfl (fun h1 => ?_) (fun h1 => ?_)
 ·
  have h1 : ((0 : Int) < ((srch (lessp (([] : List El)) x) (([] : List El)).length 0 (([] : List El)).length : Nat) : Int)) := h1
  exfalso; have h0 : ([] : List El).length = 0 := rfl; omega
 ·
  have h1 : ¬ ((0 : Int) < ((srch (lessp (([] : List El)) x) (([] : List El)).length 0 (([] : List El)).length : Nat) : Int)) := h1
  refine WPD.skip 3 rfl rfl rfl rfl rfl rfl rfl rfl (by kernel_rfl) (by kernel_rfl) (by kernel_rfl) (by kernel_rfl) (fun _ _ _ h => h) (fun _ h => h) ?_
  refine WPD.skip 4 rfl rfl rfl rfl rfl rfl rfl rfl (by kernel_rfl) (by kernel_rfl) (by kernel_rfl) (by kernel_rfl) (fun _ _ _ h => h) (fun _ h => h) ?_
  refine WPD.skip 5 rfl rfl rfl rfl rfl rfl rfl rfl (by kernel_rfl) (by kernel_rfl) (by kernel_rfl) (by kernel_rfl) (fun _ _ _ h => h) (fun _ h => h) ?_
  refine WPD.skip 6 rfl rfl rfl rfl rfl rfl rfl rfl (by kernel_rfl) (by kernel_rfl) (by kernel_rfl) (by kernel_rfl) (fun _ _ _ h => h) (fun _ h => h) ?_
  refine WPD.skip 7 rfl rfl rfl rfl rfl rfl rfl rfl (by kernel_rfl) (by kernel_rfl) (by kernel_rfl) (by kernel_rfl) (fun _ _ _ h => h) (fun _ h => h) ?_
  refine WPD.skip 8 rfl rfl rfl rfl rfl rfl rfl rfl (by kernel_rfl) (by kernel_rfl) (by kernel_rfl) (by kernel_rfl) (fun _ _ _ h => h) (fun _ h => h) ?_
  refine WPD.skip 9 rfl rfl rfl rfl rfl rfl rfl rfl (by kernel_rfl) (by kernel_rfl) (by kernel_rfl) (by kernel_rfl) (fun _ _ _ h => h) (fun _ h => h) ?_
  refine WPD.skip 10 rfl rfl rfl rfl rfl rfl rfl rfl (by kernel_rfl) (by kernel_rfl) (by kernel_rfl) (by kernel_rfl) (fun _ _ _ h => h) (fun _ h => h) ?_
  refine WPD.skip 11 rfl rfl rfl rfl rfl rfl rfl rfl (by kernel_rfl) (by kernel_rfl) (by kernel_rfl) (by kernel_rfl) (fun _ _ _ h => h) (fun _ h => h) ?_
  refine WPD.tM 12 rfl rfl rfl rfl (Val.pickF rfl rfl rfl) ?_
  refine WPD.done (by kernel_rfl) ?_
  refine Out.next ?_
  refine WPc.condF rfl rfl ?_
  refine WPc.skip ?_
  refine Out.next ?_
  refine WPc.sr ?_
  refine WP.val rfl rfl rfl (Val.move rfl rfl) ?_
  refine WP.val rfl rfl rfl (Val.assign rfl rfl) ?_
  refine WP.val rfl rfl rfl (Val.assign rfl rfl) ?_
  refine WP.nx ?_
  refine WPc.ret ?_
  have hfd : findI (([] : List El)) x = (srch (lessp (([] : List El)) x) (([] : List El)).length 0 (([] : List El)).length, false) := by unfold findI; dsimp only; rw [if_neg (by first | (rw [getD_at hy]; omega) | omega)]
  iterate 3 (refine Out.drop ?_)
  exact Out.ret2 (L' := _) Try.results124 rfl rfl ⟨by rw [hfd], rfl⟩ (fun _ h => h)

set_option maxRecDepth 100000 in
set_option maxHeartbeats 1000000 in
theorem find_row (A : HProp) (x : El) (l : List El) (hl : l.length ≤ 1000000) (b0 o0 c0 : Nat) (hr : ∀ w, Holds A w → ∀ i x, l[i]? = some x → w.rangeAt b0 (o0 + i * 2) (El.cells x)) : Does Try.prog 124 [.slice (some ⟨b0, o0, none⟩) l.length c0, .agg #[.int .i64 (x.k), .int .i64 (x.v)], .func (.func 53) #[] #[]] [A] (fun v L => v = .tuple #[.int .i64 (((findI l x).1 : Nat) : Int), .bool (findI l x).2] ∧ L = [A]) := by
 refine Does.enter 29 Try.func124 rfl rfl rfl fun W F => ?_
 show WPc _ _ _ _ _ [(0, .slice (some ⟨b0, o0, none⟩) l.length c0), (1, .agg #[.int .i64 (x.k), .int .i64 (x.v)]), (2, .func (.func 53) #[] #[])] (A :: F)
 refine WPc.sr ?_
 refine WP.eff rfl rfl rfl (Eff.box (C := [.slice (some ⟨b0, o0, none⟩) l.length c0]) rfl rfl rfl) ?_
 rintro _ _ ⟨b1, rfl, rfl⟩
 refine WP.eff rfl rfl rfl (Eff.box (C := [.int .i64 (x.k), .int .i64 (x.v)]) rfl rfl rfl) ?_
 rintro _ _ ⟨b2, rfl, rfl⟩
 refine WP.eff rfl rfl rfl (Eff.box (C := [.func (.func 53) #[] #[]]) rfl rfl rfl) ?_
 rintro _ _ ⟨b3, rfl, rfl⟩
 refine WP.val rfl rfl rfl (Val.assign rfl rfl) ?_
 refine WP.val rfl rfl rfl (Val.assign rfl rfl) ?_
 refine WP.nx ?_
 refine WPc.sr ?_
 refine WP.val rfl rfl rfl (Val.load rfl Ty.sc210 rfl (fun w h => h.cell 2 rfl rfl)) ?_
 refine WP.val rfl rfl rfl (Val.len rfl Ty.sl210 rfl) ?_
 refine WP.val rfl rfl rfl (Val.mkFunc rfl rfl rfl) ?_
 refine WP.conv (fun w h => Sat.sep_mk (M := [Blk b3 [.func (.func 53) #[] #[]] 117, Blk b2 [.int .i64 (x.k), .int .i64 (x.v)] 55, Blk b1 [.slice (some ⟨b0, o0, none⟩) l.length c0] 210, A]) h) ?_
 show WP _ _ _ _ _ _ _ (Sep [Blk b3 [.func (.func 53) #[] #[]] 117, Blk b2 [.int .i64 (x.k), .int .i64 (x.v)] 55, Blk b1 [.slice (some ⟨b0, o0, none⟩) l.length c0] 210, A] :: _)
 refine WP.eff rfl rfl rfl (Eff.call rfl rfl Try.call136 (search_spec (Sep [Blk b3 [.func (.func 53) #[] #[]] 117, Blk b2 [.int .i64 (x.k), .int .i64 (x.v)] 55, Blk b1 [.slice (some ⟨b0, o0, none⟩) l.length c0] 210, A]) (l).length (by omega) (lessp l x) b3 b2 b1 (fun j hj => by have h := clos_spec A l b0 o0 c0 hr x b3 b2 b1 hl j l[j] (List.getElem?_eq_getElem hj); rw [show decide (x.k < l[j].k) = lessp l x j from by unfold lessp; rw [getD_at (List.getElem?_eq_getElem hj)]] at h; exact h))) ?_
 rintro _ _ ⟨_, ⟨rfl, rfl⟩, rfl⟩
 refine WP.conv (fun w h => h.sep) ?_
 show WP _ _ _ _ _ _ _ (Blk b3 [.func (.func 53) #[] #[]] 117 :: Blk b2 [.int .i64 (x.k), .int .i64 (x.v)] 55 :: Blk b1 [.slice (some ⟨b0, o0, none⟩) l.length c0] 210 :: A :: _)
 have hsl : srch (lessp l x) (l).length 0 (l).length ≤ (l).length := srch_le _ _ _ (Nat.zero_le _)
 refine WP.val rfl rfl rfl (Val.assign rfl rfl) ?_
 refine WP.nx ?_
 refine WPc.seq ?_
 refine WPc.seq ?_
 refine WPD.s0 Ty.mixed ?_
 refine WPD.tM 0 rfl rfl rfl rfl (Val.move rfl rfl) ?_
 refine WPD.tM 1 rfl rfl rfl rfl (Val.gtr rfl rfl rfl) ?_
 refine WPD.tM 2 rfl rfl rfl rfl (Val.move rfl rfl) ?_
 refine WPD.split 15 rfl (fun h1 => ?_) (fun h1 => ?_)
 ·
  have h1 : ((0 : Int) < ((srch (lessp l x) (l).length 0 (l).length : Nat) : Int)) := h1
  refine WPD.takeG 3 rfl rfl rfl rfl rfl rfl rfl rfl (by kernel_rfl) (by kernel_rfl) (by kernel_rfl) (by kernel_rfl) (fun _ _ _ h => h) (by kernel_rfl) (fun _ h => h) (Val.load rfl Ty.sc117 rfl (fun w h => h.cell 0 rfl rfl)) ?_
  refine WPD.takeG 4 rfl rfl rfl rfl rfl rfl rfl rfl (by kernel_rfl) (by kernel_rfl) (by kernel_rfl) (by kernel_rfl) (fun _ _ _ h => h) (by kernel_rfl) (fun _ h => h) (Val.load rfl Ty.sc210 rfl (fun w h => h.cell 2 rfl rfl)) ?_
  refine WPD.takeGM 5 rfl rfl rfl rfl rfl rfl rfl rfl (by kernel_rfl) (by kernel_rfl) (by kernel_rfl) (by kernel_rfl) (fun _ _ _ h => h) (fun _ h => h) (Val.move rfl rfl) ?_
  refine WPD.takeGM 6 rfl rfl rfl rfl rfl rfl rfl rfl (by kernel_rfl) (by kernel_rfl) (by kernel_rfl) (by kernel_rfl) (fun _ _ _ h => h) (fun _ h => h) (Val.sub (z := (((srch (lessp l x) (l).length 0 (l).length) - 1 : Nat) : Int)) rfl rfl rfl ((w64 (by omega) (by omega)).trans (by omega))) ?_
  have hs1 : srch (lessp l x) (l).length 0 (l).length - 1 < (l).length := by omega
  obtain ⟨y, hy⟩ : ∃ y, (l)[srch (lessp l x) (l).length 0 (l).length - 1]? = some y := ⟨_, List.getElem?_eq_getElem hs1⟩
  refine WPD.takeGM 7 rfl rfl rfl rfl rfl rfl rfl rfl (by kernel_rfl) (by kernel_rfl) (by kernel_rfl) (by kernel_rfl) (fun _ _ _ h => h) (fun _ h => h) (Val.indexAddr (j := (srch (lessp l x) (l).length 0 (l).length) - 1) (q := o0 + ((srch (lessp l x) (l).length 0 (l).length) - 1) * 2) rfl Ty.sl210 rfl rfl (by omega) (by omega) (by omega)) ?_
  refine WPD.takeG 8 rfl rfl rfl rfl rfl rfl rfl rfl (by kernel_rfl) (by kernel_rfl) (by kernel_rfl) (by kernel_rfl) (fun _ _ _ h => h) (by kernel_rfl) (fun _ h => h) (Val.loadAgg (cs := [.int .i64 (y.k), .int .i64 (y.v)]) rfl Ty.ag55 rfl (by rfl) (fun w h => hr w (h.at 3 rfl) (srch (lessp l x) (l).length 0 (l).length - 1) y hy)) ?_
  refine WPD.takeG 9 rfl rfl rfl rfl rfl rfl rfl rfl (by kernel_rfl) (by kernel_rfl) (by kernel_rfl) (by kernel_rfl) (fun _ _ _ h => h) (by kernel_rfl) (fun _ h => h) (Val.loadAgg (cs := [.int .i64 (x.k), .int .i64 (x.v)]) rfl Ty.ag55 rfl rfl (fun w h => h.range 1 rfl rfl)) ?_
  refine WPD.stepGC 10 (by kernel_rfl) rfl rfl rfl rfl rfl rfl rfl rfl (by kernel_rfl) (Eff.callF (args' := [.agg #[.int .i64 (y.k), .int .i64 (y.v)], .agg #[.int .i64 (x.k), .int .i64 (x.v)]]) rfl rfl rfl rfl Try.call53 (less_spec y x)) ?_
  rintro _ _ ⟨_, ⟨rfl, rfl⟩, rfl⟩
  refine ⟨_, (fun _ h => h), ?_⟩
  refine WPD.takeGM 11 rfl rfl rfl rfl rfl rfl rfl rfl (by kernel_rfl) (by kernel_rfl) (by kernel_rfl) (by kernel_rfl) (fun _ _ _ h => h) (fun _ h => h) (Val.notP rfl rfl) ?_
  refine WPD.tM 12 rfl rfl rfl rfl (Val.pickT rfl rfl rfl) ?_
  refine WPD.done (by kernel_rfl) ?_
  refine Out.next ?_
  refine WPc.ifP rfl (fun h2 => ?_) (fun h2 => ?_)
  ·
   have h2 : (¬ (y.k < x.k)) := h2
   refine WPc.sr ?_
   refine WP.val rfl rfl rfl (Val.move rfl rfl) ?_
   refine WP.val rfl rfl rfl (Val.sub (z := (((srch (lessp l x) (l).length 0 (l).length) - 1 : Nat) : Int)) rfl rfl rfl ((w64 (by omega) (by omega)).trans (by omega))) ?_
   refine WP.val rfl rfl rfl (Val.assign rfl rfl) ?_
   refine WP.val rfl rfl rfl (Val.assign rfl rfl) ?_
   refine WP.nx ?_
   refine WPc.ret ?_
   refine Out.then_ret ?_
   have hfd : findI l x = (srch (lessp l x) (l).length 0 (l).length - 1, true) := by unfold findI; dsimp only; rw [if_pos ⟨by omega, by rw [getD_at hy]; omega⟩]
   iterate 3 (refine Out.drop ?_)
   exact Out.ret2 (L' := _) Try.results124 rfl rfl ⟨by rw [hfd], rfl⟩ (fun _ h => h)
  ·
   have h2 : ¬ (¬ (y.k < x.k)) := h2
   refine WPc.skip ?_
   refine Out.next ?_
   refine WPc.sr ?_
   refine WP.val rfl rfl rfl (Val.move rfl rfl) ?_
   refine WP.val rfl rfl rfl (Val.assign rfl rfl) ?_
   refine WP.val rfl rfl rfl (Val.assign rfl rfl) ?_
   refine WP.nx ?_
   refine WPc.ret ?_
   have hfd : findI l x = (srch (lessp l x) (l).length 0 (l).length, false) := by unfold findI; dsimp only; rw [if_neg (by first | (rw [getD_at hy]; omega) | omega)]
   iterate 3 (refine Out.drop ?_)
   exact Out.ret2 (L' := _) Try.results124 rfl rfl ⟨by rw [hfd], rfl⟩ (fun _ h => h)
 ·
  have h1 : ¬ ((0 : Int) < ((srch (lessp l x) (l).length 0 (l).length : Nat) : Int)) := h1
  refine WPD.skip 3 rfl rfl rfl rfl rfl rfl rfl rfl (by kernel_rfl) (by kernel_rfl) (by kernel_rfl) (by kernel_rfl) (fun _ _ _ h => h) (fun _ h => h) ?_
  refine WPD.skip 4 rfl rfl rfl rfl rfl rfl rfl rfl (by kernel_rfl) (by kernel_rfl) (by kernel_rfl) (by kernel_rfl) (fun _ _ _ h => h) (fun _ h => h) ?_
  refine WPD.skip 5 rfl rfl rfl rfl rfl rfl rfl rfl (by kernel_rfl) (by kernel_rfl) (by kernel_rfl) (by kernel_rfl) (fun _ _ _ h => h) (fun _ h => h) ?_
  refine WPD.skip 6 rfl rfl rfl rfl rfl rfl rfl rfl (by kernel_rfl) (by kernel_rfl) (by kernel_rfl) (by kernel_rfl) (fun _ _ _ h => h) (fun _ h => h) ?_
  refine WPD.skip 7 rfl rfl rfl rfl rfl rfl rfl rfl (by kernel_rfl) (by kernel_rfl) (by kernel_rfl) (by kernel_rfl) (fun _ _ _ h => h) (fun _ h => h) ?_
  refine WPD.skip 8 rfl rfl rfl rfl rfl rfl rfl rfl (by kernel_rfl) (by kernel_rfl) (by kernel_rfl) (by kernel_rfl) (fun _ _ _ h => h) (fun _ h => h) ?_
  refine WPD.skip 9 rfl rfl rfl rfl rfl rfl rfl rfl (by kernel_rfl) (by kernel_rfl) (by kernel_rfl) (by kernel_rfl) (fun _ _ _ h => h) (fun _ h => h) ?_
  refine WPD.skip 10 rfl rfl rfl rfl rfl rfl rfl rfl (by kernel_rfl) (by kernel_rfl) (by kernel_rfl) (by kernel_rfl) (fun _ _ _ h => h) (fun _ h => h) ?_
  refine WPD.skip 11 rfl rfl rfl rfl rfl rfl rfl rfl (by kernel_rfl) (by kernel_rfl) (by kernel_rfl) (by kernel_rfl) (fun _ _ _ h => h) (fun _ h => h) ?_
  refine WPD.tM 12 rfl rfl rfl rfl (Val.pickF rfl rfl rfl) ?_
  refine WPD.done (by kernel_rfl) ?_
  refine Out.next ?_
  refine WPc.condF rfl rfl ?_
  refine WPc.skip ?_
  refine Out.next ?_
  refine WPc.sr ?_
  refine WP.val rfl rfl rfl (Val.move rfl rfl) ?_
  refine WP.val rfl rfl rfl (Val.assign rfl rfl) ?_
  refine WP.val rfl rfl rfl (Val.assign rfl rfl) ?_
  refine WP.nx ?_
  refine WPc.ret ?_
  have hfd : findI l x = (srch (lessp l x) (l).length 0 (l).length, false) := by unfold findI; dsimp only; rw [if_neg (by first | (rw [getD_at hy]; omega) | omega)]
  iterate 3 (refine Out.drop ?_)
  exact Out.ret2 (L' := _) Try.results124 rfl rfl ⟨by rw [hfd], rfl⟩ (fun _ h => h)

theorem find_spec (A : HProp) (x : El) (l : List El) (hl : l.length ≤ 1000000) (va : Value) (hva : Rd A 2 El.cells va l) : Does Try.prog 124 [va, .agg #[.int .i64 (x.k), .int .i64 (x.v)], .func (.func 53) #[] #[]] [A] (fun v L => v = .tuple #[.int .i64 (((findI l x).1 : Nat) : Int), .bool (findI l x).2] ∧ L = [A]) := by
 rcases hva with ⟨b0, o0, c0, rfl, hr⟩ | ⟨rfl, a, c, rfl⟩
 ·
  exact find_row A x l hl b0 o0 c0 hr
 ·
  exact find_nil A x a c

end Go.Proofs.Ythmkdioafjmclaa.Bt4
