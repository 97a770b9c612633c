import Derived.Test.YthmkdioafjmclaaPg5
namespace Go.Proofs.Ythmkdioafjmclaa.Pg6
open Go.RowKit Go.Proofs.Ythmkdioafjmclaa Go.Proofs.Ythmkdioafjmclaa.Sl Go.Proofs.Ythmkdioafjmclaa.PgModel Go.Proofs.Ythmkdioafjmclaa.Pg Go.Proofs.Ythmkdioafjmclaa.Pg2 Go.Proofs.Ythmkdioafjmclaa.Pg3 Go.Proofs.Ythmkdioafjmclaa.Pg4 Go.Proofs.Ythmkdioafjmclaa.Pg5
set_option linter.unusedVariables false
set_option linter.unusedSimpArgs false


/-! ### the plain law -/
theorem answers_at (page B : Nat) : ∀ (l : List PgOp) (s : Nat × List UInt8) (i : Nat) (x : PgOp), l[i]? = some x → (answers page B s l)[i]? = some (opAns page B (behindOps page B s (l.take i)) x)
  | y :: l, s, 0, x, h => by
    obtain rfl : y = x := by simpa using h
    rfl
  | y :: l, s, i + 1, x, h => by
    simp only [answers, List.getElem?_cons_succ, List.take_succ_cons]
    rw [answers_at page B l _ i x (by simpa using h)]
    rfl
def szs (ss : List ByteArray) : Nat := (ss.map ByteArray.size).sum
theorem szs_str (l : List (List UInt8)) : szs (l.map str) = tot l := by
  unfold szs tot
  rw [List.map_map]
  rfl
theorem szs_take {ss : List ByteArray} {j : Nat} {x : ByteArray} (h : ss[j]? = some x) : szs (ss.take (j + 1)) = szs (ss.take j) + x.size := by
  rw [take_more h]
  simp [szs]
theorem szs_le (ss : List ByteArray) (j : Nat) : szs (ss.take j) ≤ szs ss := by
  have : szs (ss.take j) + szs (ss.drop j) = szs ss := by
    unfold szs
    rw [← List.sum_append, ← List.map_append, List.take_append_drop]
  omega
theorem good_all {page B : Nat} (hp : 0 < page) (hpb : page ≤ B) (hB : B ≤ 1048576) : ∀ (l : List PgOp) (s : Nat × List UInt8), PGood page B s → PGood page B (behindOps page B s l)
  | [], _, h => h
  | x :: l, _, h => good_all hp hpb hB l _ (good_step hp hpb hB h)
theorem key_at {page B off : Nat} {l : List PgOp} {an : List An} (han : an.map An.key = answers page B (off, []) l) {i : Nat} {x : PgOp} (hx : l[i]? = some x) :
    ∃ y, an[i]? = some y ∧ y.n = (opAns page B (behindOps page B (off, []) (l.take i)) x).1 ∧ y.ss = (opAns page B (behindOps page B (off, []) (l.take i)) x).2 := by
  have h := answers_at page B l (off, []) i x hx
  rw [← han, List.getElem?_map] at h
  cases hy : an[i]? with
  | none => rw [hy] at h; cases h
  | some y =>
    rw [hy] at h
    simp only [Option.map_some, Option.some.injEq] at h
    exact ⟨y, rfl, congrArg Prod.fst h, congrArg Prod.snd h⟩
theorem ans_get {W w : World} {l : List An} {y : An} {i : Nat} {L : List HProp} (hy : l[i]? = some y) (h : Sat W (Ans l :: L) w) : Sat W (Strs y.v y.ss :: Ans l :: L) w := h.allGet (f := fun x : An => Strs x.v x.ss) (x := y) (List.mem_of_getElem? hy)
set_option maxRecDepth 100000 in
set_option maxHeartbeats 1000000 in
theorem fits30_spec (x : PgOp) : Does Try.prog 31 [.agg #[.string x.text, .bool (x.fl)]] [] (fun v L => ∃ b, v = .bool b ∧ L = [] ∧ (b = true → x.text.size ≤ 2147483647)) := by
  refine Does.enter 7 Try.func31 rfl rfl rfl fun W F => ?_
  show WPc _ _ _ _ _ [(0, .agg #[.string x.text, .bool (x.fl)])] (F)
  refine WPc.seq ?_
  refine WPc.region ?_
  refine WP.eff rfl rfl rfl (Eff.box (C := [.string x.text, .bool (x.fl)]) rfl rfl rfl) ?_
  rintro _ _ ⟨b1, rfl, rfl⟩
  refine WP.val rfl rfl rfl (Val.assign rfl rfl) ?_
  refine WP.nil ?_
  refine Out.next ?_
  refine WPc.seq ?_
  refine WPc.seq ?_
  refine WPc.region ?_
  refine WP.val rfl rfl rfl (Val.fieldAddr (j := 0) rfl Ty.fo32_0 rfl rfl) ?_
  refine WP.val rfl rfl rfl (Val.load rfl Ty.sc9 rfl (fun w h => h.cell 0 rfl rfl)) ?_
  refine WP.val rfl rfl rfl (Val.lenS rfl Ty.st9 rfl) ?_
  refine WP.val rfl rfl rfl (Val.gtr rfl rfl rfl) ?_
  refine WP.nil ?_
  refine Out.next ?_
  refine WPc.ifP rfl (fun h1 => ?_) (fun h1 => ?_)
  · skip
    have h1 : ((2147483647 : Int) < (((x.text).size : Nat) : Int)) := h1
    refine WPc.seq ?_
    refine WPc.region ?_
    refine WP.val rfl rfl rfl (Val.assign rfl rfl) ?_
    refine WP.nil ?_
    refine Out.next ?_
    refine WPc.ret ?_
    refine Out.then_ret ?_
    refine Out.drop ?_
    exact Out.ret1 (L' := []) Try.results31 rfl ⟨_, rfl, rfl, fun h => by cases h⟩ (fun _ h => h)
  · skip
    have h1 : ¬ ((2147483647 : Int) < (((x.text).size : Nat) : Int)) := h1
    refine WPc.skip ?_
    refine Out.next ?_
    refine WPc.seq ?_
    refine WPc.region ?_
    refine WP.val rfl rfl rfl (Val.assign rfl rfl) ?_
    refine WP.nil ?_
    refine Out.next ?_
    refine WPc.ret ?_
    refine Out.drop ?_
    exact Out.ret1 (L' := []) Try.results31 rfl ⟨_, rfl, rfl, fun _ => by omega⟩ (fun _ h => h)
set_option maxRecDepth 100000 in
set_option maxHeartbeats 1000000 in
theorem fits29_nil (A : HProp) (a : Option Addr) (c : Nat) : Does Try.prog 9 [.slice a 0 c] [A] (fun v L => ∃ b, v = .bool b ∧ L = [A] ∧ (b = true → ∀ x ∈ ([] : List PgOp), x.text.size ≤ 2147483647)) := by
  refine Does.enter 18 Try.func9 rfl rfl rfl fun W F => ?_
  show WPc _ _ _ _ _ [(0, .slice a 0 c)] (A :: F)
  refine WPc.seq ?_
  refine WPc.region ?_
  refine WP.val rfl rfl rfl (Val.assign rfl rfl) ?_
  refine WP.nil ?_
  refine Out.next ?_
  refine WPc.seq ?_
  refine WPc.seq ?_
  refine WPc.region ?_
  refine WP.val rfl rfl rfl (Val.move rfl rfl) ?_
  refine WP.val rfl rfl rfl (Val.len rfl Ty.sl22 rfl) ?_
  refine WP.val rfl rfl rfl (Val.gtr rfl rfl rfl) ?_
  refine WP.nil ?_
  refine Out.next ?_
  refine WPc.ifP rfl (fun h1 => ?_) (fun h1 => ?_)
  · skip
    have h1 : ((2147483647 : Int) < (0 : Int)) := h1
    exfalso; omega
  · skip
    have h1 : ¬ ((2147483647 : Int) < (0 : Int)) := h1
    refine WPc.skip ?_
    refine Out.next ?_
    refine WPc.seq ?_
    refine WPc.seq ?_
    refine WPc.region ?_
    refine WP.val rfl rfl rfl (Val.move rfl rfl) ?_
    refine WP.val rfl rfl rfl (Val.len rfl Ty.sl22 rfl) ?_
    refine WP.val rfl rfl rfl (Val.move rfl rfl) ?_
    refine WP.nil ?_
    refine Out.next ?_
    refine WPc.block ?_
    refine WPc.loop (ι := Nat) (fun i => i ≤ ([] : List PgOp).length ∧ ∀ x ∈ ([] : List PgOp).take i, x.text.size ≤ 2147483647) (fun i => [(8, .slice a 0 c), (9, .int .i64 (((([] : List PgOp).length : Nat) : Int))), (10, .int .i64 (((i : Nat) : Int)))]) (fun i => A :: F) (fun i => ([] : List PgOp).length - i) 0 ⟨Nat.zero_le _, by simp⟩ ((Sub.cons rfl (Sub.cons rfl (Sub.cons rfl Sub.nil)))) (fun _ h => h) ?_
    rintro i ⟨hi, hm⟩
    show WPc _ _ _ _ _ [(8, .slice a 0 c), (9, .int .i64 (((([] : List PgOp).length : Nat) : Int))), (10, .int .i64 (((i : Nat) : Int)))] (A :: F)
    try dsimp only at hi hm
    refine WPc.seq ?_
    refine WPc.region ?_
    refine WP.val rfl rfl rfl (Val.lss rfl rfl rfl) ?_
    refine WP.nil ?_
    refine Out.next ?_
    refine WPc.seq ?_
    refine WPc.ifP rfl (fun h2 => ?_) (fun h2 => ?_)
    · skip
      have h2 : (((i : Nat) : Int) < ((([] : List PgOp).length : Nat) : Int)) := h2
      exfalso; simp at *; omega
    · skip
      have h2 : ¬ (((i : Nat) : Int) < ((([] : List PgOp).length : Nat) : Int)) := h2
      refine WPc.exit ?_
      refine Out.then_exit ?_
      refine Out.then_exit ?_
      refine Out.block_exit ?_
      refine Out.next ?_
      refine WPc.seq ?_
      refine WPc.region ?_
      refine WP.val rfl rfl rfl (Val.assign rfl rfl) ?_
      refine WP.nil ?_
      refine Out.next ?_
      refine WPc.ret ?_
      have e : i = ([] : List PgOp).length := by simp at *; omega
      subst e
      rw [List.take_length] at hm
      exact Out.ret1 (L' := [A]) Try.results9 rfl ⟨true, rfl, rfl, fun _ => hm⟩ (fun _ h => h)

set_option maxRecDepth 100000 in
set_option maxHeartbeats 1000000 in
theorem fits29_row (A : HProp) (l : List PgOp)  (b0 o0 c0 : Nat) (hr : ∀ w, Holds A w → ∀ i x, l[i]? = some x → w.rangeAt b0 (o0 + i * 2) (PgOp.cells x)) : Does Try.prog 9 [.slice (some ⟨b0, o0, none⟩) l.length c0] [A] (fun v L => ∃ b, v = .bool b ∧ L = [A] ∧ (b = true → ∀ x ∈ l, x.text.size ≤ 2147483647)) := by
  refine Does.enter 18 Try.func9 rfl rfl rfl fun W F => ?_
  show WPc _ _ _ _ _ [(0, .slice (some ⟨b0, o0, none⟩) l.length c0)] (A :: F)
  refine WPc.seq ?_
  refine WPc.region ?_
  refine WP.val rfl rfl rfl (Val.assign rfl rfl) ?_
  refine WP.nil ?_
  refine Out.next ?_
  refine WPc.seq ?_
  refine WPc.seq ?_
  refine WPc.region ?_
  refine WP.val rfl rfl rfl (Val.move rfl rfl) ?_
  refine WP.val rfl rfl rfl (Val.len rfl Ty.sl22 rfl) ?_
  refine WP.val rfl rfl rfl (Val.gtr rfl rfl rfl) ?_
  refine WP.nil ?_
  refine Out.next ?_
  refine WPc.ifP rfl (fun h1 => ?_) (fun h1 => ?_)
  · skip
    have h1 : ((2147483647 : Int) < ((l.length : Nat) : Int)) := h1
    refine WPc.seq ?_
    refine WPc.region ?_
    refine WP.val rfl rfl rfl (Val.assign rfl rfl) ?_
    refine WP.nil ?_
    refine Out.next ?_
    refine WPc.ret ?_
    refine Out.then_ret ?_
    exact Out.ret1 (L' := [A]) Try.results9 rfl ⟨false, rfl, rfl, fun h => by cases h⟩ (fun _ h => h)
  · skip
    have h1 : ¬ ((2147483647 : Int) < ((l.length : Nat) : Int)) := h1
    refine WPc.skip ?_
    refine Out.next ?_
    refine WPc.seq ?_
    refine WPc.seq ?_
    refine WPc.region ?_
    refine WP.val rfl rfl rfl (Val.move rfl rfl) ?_
    refine WP.val rfl rfl rfl (Val.len rfl Ty.sl22 rfl) ?_
    refine WP.val rfl rfl rfl (Val.move rfl rfl) ?_
    refine WP.nil ?_
    refine Out.next ?_
    refine WPc.block ?_
    refine WPc.loop (ι := Nat) (fun i => i ≤ l.length ∧ ∀ x ∈ l.take i, x.text.size ≤ 2147483647) (fun i => [(8, .slice (some ⟨b0, o0, none⟩) l.length c0), (9, .int .i64 (((l.length : Nat) : Int))), (10, .int .i64 (((i : Nat) : Int)))]) (fun i => A :: F) (fun i => l.length - i) 0 ⟨Nat.zero_le _, by simp⟩ ((Sub.cons rfl (Sub.cons rfl (Sub.cons rfl Sub.nil)))) (fun _ h => h) ?_
    rintro i ⟨hi, hm⟩
    show WPc _ _ _ _ _ [(8, .slice (some ⟨b0, o0, none⟩) l.length c0), (9, .int .i64 (((l.length : Nat) : Int))), (10, .int .i64 (((i : Nat) : Int)))] (A :: F)
    try dsimp only at hi hm
    refine WPc.seq ?_
    refine WPc.region ?_
    refine WP.val rfl rfl rfl (Val.lss rfl rfl rfl) ?_
    refine WP.nil ?_
    refine Out.next ?_
    refine WPc.seq ?_
    refine WPc.ifP rfl (fun h2 => ?_) (fun h2 => ?_)
    · skip
      have h2 : (((i : Nat) : Int) < ((l.length : Nat) : Int)) := h2
      refine WPc.skip ?_
      refine Out.next ?_
      refine WPc.seq ?_
      refine WPc.block ?_
      refine WPc.seq ?_
      have hlt : i < l.length := by omega
      obtain ⟨x, hx⟩ : ∃ x, l[i]? = some x := ⟨_, List.getElem?_eq_getElem hlt⟩
      refine WPc.region ?_
      refine WP.val rfl rfl rfl (Val.indexAddr (j := i) (q := o0 + i * 2) rfl Ty.sl22 rfl rfl (by omega) (by omega) (by omega)) ?_
      refine WP.val rfl rfl rfl (Val.loadAgg (cs := (PgOp.cells x)) rfl Ty.ag32 rfl (by rfl) (fun w h => hr w (h.at 0 rfl) i x hx)) ?_
      refine WP.eff rfl rfl rfl (Eff.alloc rfl Ty.z32) ?_
      rintro _ _ ⟨b1, rfl, rfl⟩
      refine WP.eff0 rfl rfl (Eff.storeAgg (cs := [.string x.text, .bool (x.fl)]) (C' := [.string x.text, .bool (x.fl)]) rfl Ty.ag32 rfl rfl rfl rfl (by simp) rfl) ?_
      rintro _ _ rfl
      refine WP.nil ?_
      refine Out.next ?_
      refine WPc.seq ?_
      refine WPc.region ?_
      refine WP.val rfl rfl rfl (Val.loadAgg (cs := [.string x.text, .bool (x.fl)]) rfl Ty.ag32 rfl rfl (fun w h => h.range 0 rfl rfl)) ?_
      refine WP.eff rfl rfl rfl (Eff.call rfl rfl Try.call31 (fits30_spec x)) ?_
      rintro _ _ ⟨_, ⟨bb1, rfl, rfl, hbb⟩, rfl⟩
      show WP _ _ _ _ _ _ _ (Blk b1 [.string x.text, .bool (x.fl)] 32 :: A :: F)
      refine WP.val rfl rfl rfl (Val.not rfl rfl) ?_
      refine WP.nil ?_
      refine Out.next ?_
      refine WPc.cond rfl (fun h3 => ?_) (fun h3 => ?_)
      · skip
        have h3 : (!bb1) = true := h3
        refine WPc.seq ?_
        refine WPc.region ?_
        refine WP.val rfl rfl rfl (Val.assign rfl rfl) ?_
        refine WP.nil ?_
        refine Out.next ?_
        refine WPc.ret ?_
        refine Out.block_ret ?_
        refine Out.then_ret ?_
        refine Out.then_ret ?_
        refine Out.block_ret ?_
        refine Out.then_ret ?_
        refine Out.drop ?_
        exact Out.ret1 (L' := [A]) Try.results9 rfl ⟨false, rfl, rfl, fun h => by cases h⟩ (fun _ h => h)
      · skip
        have h3 : (!bb1) = false := h3
        refine WPc.skip ?_
        refine Out.block ?_
        refine Out.next ?_
        refine WPc.region ?_
        refine WP.val rfl rfl rfl (Val.add (z := ((i + 1 : Nat) : Int)) rfl rfl rfl ((w64 (by omega) (by omega)).trans (by omega))) ?_
        refine WP.val rfl rfl rfl (Val.move rfl rfl) ?_
        refine WP.nil ?_
        have hxs := hbb (by simpa using h3)
        refine Out.drop ?_
        refine Out.again (i + 1) ?_ ?_ ?_ ?_
        · exact ⟨by omega, by rw [take_more hx]; intro y hy; rcases List.mem_append.1 hy with h | h; exact hm y h; (obtain rfl : y = x := by simpa using h); exact hxs⟩
        · first | omega | (dsimp only; omega)
        · exact (Sub.cons rfl (Sub.cons rfl (Sub.cons rfl Sub.nil)))
        · exact (fun _ h => h)
    · skip
      have h2 : ¬ (((i : Nat) : Int) < ((l.length : Nat) : Int)) := h2
      refine WPc.exit ?_
      refine Out.then_exit ?_
      refine Out.then_exit ?_
      refine Out.block_exit ?_
      refine Out.next ?_
      refine WPc.seq ?_
      refine WPc.region ?_
      refine WP.val rfl rfl rfl (Val.assign rfl rfl) ?_
      refine WP.nil ?_
      refine Out.next ?_
      refine WPc.ret ?_
      have e : i = l.length := by omega
      subst e
      rw [List.take_length] at hm
      exact Out.ret1 (L' := [A]) Try.results9 rfl ⟨true, rfl, rfl, fun _ => hm⟩ (fun _ h => h)

theorem fits29_spec (A : HProp) (l : List PgOp)  (va : Value) (hva : Rd A 2 PgOp.cells va l) : Does Try.prog 9 [va] [A] (fun v L => ∃ b, v = .bool b ∧ L = [A] ∧ (b = true → ∀ x ∈ l, x.text.size ≤ 2147483647)) := by
  rcases hva with ⟨b0, o0, c0, rfl, hr⟩ | ⟨rfl, a, c, rfl⟩
  · exact fits29_row A l  b0 o0 c0 hr
  · exact fits29_nil A a c
set_option maxRecDepth 100000 in
set_option maxHeartbeats 1000000 in
theorem good_nil (A : HProp) (B page off : Int) (a : Option Addr) (c : Nat) : Does Try.prog 10 [.int .i64 (B), .int .i64 (page), .int .i64 (off), .slice a 0 c] [A] (fun v L => ∃ b, v = .bool b ∧ L = [A] ∧ (b = true → 1 ≤ page ∧ page ≤ B ∧ B ≤ 1048576 ∧ 0 ≤ off ∧ off ≤ 1073741824 ∧ 0 ≤ 300 ∧ ∀ x ∈ ([] : List PgOp), x.text.size ≤ 1048576)) := by
  refine Does.enter 54 Try.func10 rfl rfl rfl fun W F => ?_
  show WPc _ _ _ _ _ [(0, .int .i64 (B)), (1, .int .i64 (page)), (2, .int .i64 (off)), (3, .slice a 0 c)] (A :: F)
  refine WPc.seq ?_
  refine WPc.region ?_
  refine WP.val rfl rfl rfl (Val.assign rfl rfl) ?_
  refine WP.nil ?_
  refine Out.next ?_
  refine WPc.seq ?_
  refine WPc.seq ?_
  refine WPc.region ?_
  refine WP.val rfl rfl rfl (Val.move rfl rfl) ?_
  refine WP.val rfl rfl rfl (Val.lss rfl rfl rfl) ?_
  refine WP.val rfl rfl rfl (Val.move rfl rfl) ?_
  refine WP.split 14 rfl (fun h1 => ?_) (fun h1 => ?_)
  · skip
    have h1 : (page < (1 : Int)) := h1
    refine WP.skip rfl rfl rfl rfl rfl rfl rfl ?_
    refine WP.skip rfl rfl rfl rfl rfl rfl rfl ?_
    refine WP.val rfl rfl rfl (Val.pickT rfl rfl rfl) ?_
    refine WP.val rfl rfl rfl (Val.move rfl rfl) ?_
    refine WP.skip rfl rfl rfl rfl rfl rfl rfl ?_
    refine WP.skip rfl rfl rfl rfl rfl rfl rfl ?_
    refine WP.skip rfl rfl rfl rfl rfl rfl rfl ?_
    refine WP.val rfl rfl rfl (Val.pickT rfl rfl rfl) ?_
    refine WP.val rfl rfl rfl (Val.move rfl rfl) ?_
    refine WP.skip rfl rfl rfl rfl rfl rfl rfl ?_
    refine WP.skip rfl rfl rfl rfl rfl rfl rfl ?_
    refine WP.val rfl rfl rfl (Val.pickT rfl rfl rfl) ?_
    refine WP.val rfl rfl rfl (Val.move rfl rfl) ?_
    refine WP.skip rfl rfl rfl rfl rfl rfl rfl ?_
    refine WP.skip rfl rfl rfl rfl rfl rfl rfl ?_
    refine WP.val rfl rfl rfl (Val.pickT rfl rfl rfl) ?_
    refine WP.val rfl rfl rfl (Val.move rfl rfl) ?_
    refine WP.skip rfl rfl rfl rfl rfl rfl rfl ?_
    refine WP.skip rfl rfl rfl rfl rfl rfl rfl ?_
    refine WP.val rfl rfl rfl (Val.pickT rfl rfl rfl) ?_
    refine WP.val rfl rfl rfl (Val.move rfl rfl) ?_
    refine WP.skip rfl rfl rfl rfl rfl rfl rfl ?_
    refine WP.skip rfl rfl rfl rfl rfl rfl rfl ?_
    refine WP.skip rfl rfl rfl rfl rfl rfl rfl ?_
    refine WP.val rfl rfl rfl (Val.pickT rfl rfl rfl) ?_
    refine WP.nil ?_
    refine Out.next ?_
    refine WPc.condT rfl rfl ?_
    refine WPc.seq ?_
    refine WPc.region ?_
    refine WP.val rfl rfl rfl (Val.assign rfl rfl) ?_
    refine WP.nil ?_
    refine Out.next ?_
    refine WPc.ret ?_
    refine Out.then_ret ?_
    exact Out.ret1 (L' := [A]) Try.results10 rfl ⟨false, rfl, rfl, fun h => by cases h⟩ (fun _ h => h)
  · skip
    have h1 : ¬ (page < (1 : Int)) := h1
    refine WP.valG rfl rfl rfl rfl rfl rfl rfl (Val.move rfl rfl) ?_
    refine WP.valG rfl rfl rfl rfl rfl rfl rfl (Val.gtr rfl rfl rfl) ?_
    refine WP.val rfl rfl rfl (Val.pickF rfl rfl rfl) ?_
    refine WP.val rfl rfl rfl (Val.move rfl rfl) ?_
    refine WP.split 18 rfl (fun h2 => ?_) (fun h2 => ?_)
    · skip
      have h2 : ((65536 : Int) < page) := h2
      refine WP.skip rfl rfl rfl rfl rfl rfl rfl ?_
      refine WP.skip rfl rfl rfl rfl rfl rfl rfl ?_
      refine WP.skip rfl rfl rfl rfl rfl rfl rfl ?_
      refine WP.val rfl rfl rfl (Val.pickT rfl rfl rfl) ?_
      refine WP.val rfl rfl rfl (Val.move rfl rfl) ?_
      refine WP.skip rfl rfl rfl rfl rfl rfl rfl ?_
      refine WP.skip rfl rfl rfl rfl rfl rfl rfl ?_
      refine WP.val rfl rfl rfl (Val.pickT rfl rfl rfl) ?_
      refine WP.val rfl rfl rfl (Val.move rfl rfl) ?_
      refine WP.skip rfl rfl rfl rfl rfl rfl rfl ?_
      refine WP.skip rfl rfl rfl rfl rfl rfl rfl ?_
      refine WP.val rfl rfl rfl (Val.pickT rfl rfl rfl) ?_
      refine WP.val rfl rfl rfl (Val.move rfl rfl) ?_
      refine WP.skip rfl rfl rfl rfl rfl rfl rfl ?_
      refine WP.skip rfl rfl rfl rfl rfl rfl rfl ?_
      refine WP.val rfl rfl rfl (Val.pickT rfl rfl rfl) ?_
      refine WP.val rfl rfl rfl (Val.move rfl rfl) ?_
      refine WP.skip rfl rfl rfl rfl rfl rfl rfl ?_
      refine WP.skip rfl rfl rfl rfl rfl rfl rfl ?_
      refine WP.skip rfl rfl rfl rfl rfl rfl rfl ?_
      refine WP.val rfl rfl rfl (Val.pickT rfl rfl rfl) ?_
      refine WP.nil ?_
      refine Out.next ?_
      refine WPc.condT rfl rfl ?_
      refine WPc.seq ?_
      refine WPc.region ?_
      refine WP.val rfl rfl rfl (Val.assign rfl rfl) ?_
      refine WP.nil ?_
      refine Out.next ?_
      refine WPc.ret ?_
      refine Out.then_ret ?_
      exact Out.ret1 (L' := [A]) Try.results10 rfl ⟨false, rfl, rfl, fun h => by cases h⟩ (fun _ h => h)
    · skip
      have h2 : ¬ ((65536 : Int) < page) := h2
      refine WP.valG rfl rfl rfl rfl rfl rfl rfl (Val.move rfl rfl) ?_
      refine WP.valG rfl rfl rfl rfl rfl rfl rfl (Val.move rfl rfl) ?_
      refine WP.valG rfl rfl rfl rfl rfl rfl rfl (Val.lss rfl rfl rfl) ?_
      refine WP.val rfl rfl rfl (Val.pickF rfl rfl rfl) ?_
      refine WP.val rfl rfl rfl (Val.move rfl rfl) ?_
      refine WP.split 23 rfl (fun h3 => ?_) (fun h3 => ?_)
      · skip
        have h3 : (B < page) := h3
        refine WP.skip rfl rfl rfl rfl rfl rfl rfl ?_
        refine WP.skip rfl rfl rfl rfl rfl rfl rfl ?_
        refine WP.val rfl rfl rfl (Val.pickT rfl rfl rfl) ?_
        refine WP.val rfl rfl rfl (Val.move rfl rfl) ?_
        refine WP.skip rfl rfl rfl rfl rfl rfl rfl ?_
        refine WP.skip rfl rfl rfl rfl rfl rfl rfl ?_
        refine WP.val rfl rfl rfl (Val.pickT rfl rfl rfl) ?_
        refine WP.val rfl rfl rfl (Val.move rfl rfl) ?_
        refine WP.skip rfl rfl rfl rfl rfl rfl rfl ?_
        refine WP.skip rfl rfl rfl rfl rfl rfl rfl ?_
        refine WP.val rfl rfl rfl (Val.pickT rfl rfl rfl) ?_
        refine WP.val rfl rfl rfl (Val.move rfl rfl) ?_
        refine WP.skip rfl rfl rfl rfl rfl rfl rfl ?_
        refine WP.skip rfl rfl rfl rfl rfl rfl rfl ?_
        refine WP.skip rfl rfl rfl rfl rfl rfl rfl ?_
        refine WP.val rfl rfl rfl (Val.pickT rfl rfl rfl) ?_
        refine WP.nil ?_
        refine Out.next ?_
        refine WPc.condT rfl rfl ?_
        refine WPc.seq ?_
        refine WPc.region ?_
        refine WP.val rfl rfl rfl (Val.assign rfl rfl) ?_
        refine WP.nil ?_
        refine Out.next ?_
        refine WPc.ret ?_
        refine Out.then_ret ?_
        exact Out.ret1 (L' := [A]) Try.results10 rfl ⟨false, rfl, rfl, fun h => by cases h⟩ (fun _ h => h)
      · skip
        have h3 : ¬ (B < page) := h3
        refine WP.valG rfl rfl rfl rfl rfl rfl rfl (Val.move rfl rfl) ?_
        refine WP.valG rfl rfl rfl rfl rfl rfl rfl (Val.gtr rfl rfl rfl) ?_
        refine WP.val rfl rfl rfl (Val.pickF rfl rfl rfl) ?_
        refine WP.val rfl rfl rfl (Val.move rfl rfl) ?_
        refine WP.split 27 rfl (fun h4 => ?_) (fun h4 => ?_)
        · skip
          have h4 : ((1048576 : Int) < B) := h4
          refine WP.skip rfl rfl rfl rfl rfl rfl rfl ?_
          refine WP.skip rfl rfl rfl rfl rfl rfl rfl ?_
          refine WP.val rfl rfl rfl (Val.pickT rfl rfl rfl) ?_
          refine WP.val rfl rfl rfl (Val.move rfl rfl) ?_
          refine WP.skip rfl rfl rfl rfl rfl rfl rfl ?_
          refine WP.skip rfl rfl rfl rfl rfl rfl rfl ?_
          refine WP.val rfl rfl rfl (Val.pickT rfl rfl rfl) ?_
          refine WP.val rfl rfl rfl (Val.move rfl rfl) ?_
          refine WP.skip rfl rfl rfl rfl rfl rfl rfl ?_
          refine WP.skip rfl rfl rfl rfl rfl rfl rfl ?_
          refine WP.skip rfl rfl rfl rfl rfl rfl rfl ?_
          refine WP.val rfl rfl rfl (Val.pickT rfl rfl rfl) ?_
          refine WP.nil ?_
          refine Out.next ?_
          refine WPc.condT rfl rfl ?_
          refine WPc.seq ?_
          refine WPc.region ?_
          refine WP.val rfl rfl rfl (Val.assign rfl rfl) ?_
          refine WP.nil ?_
          refine Out.next ?_
          refine WPc.ret ?_
          refine Out.then_ret ?_
          exact Out.ret1 (L' := [A]) Try.results10 rfl ⟨false, rfl, rfl, fun h => by cases h⟩ (fun _ h => h)
        · skip
          have h4 : ¬ ((1048576 : Int) < B) := h4
          refine WP.valG rfl rfl rfl rfl rfl rfl rfl (Val.move rfl rfl) ?_
          refine WP.valG rfl rfl rfl rfl rfl rfl rfl (Val.lss rfl rfl rfl) ?_
          refine WP.val rfl rfl rfl (Val.pickF rfl rfl rfl) ?_
          refine WP.val rfl rfl rfl (Val.move rfl rfl) ?_
          refine WP.split 31 rfl (fun h5 => ?_) (fun h5 => ?_)
          · skip
            have h5 : (off < (0 : Int)) := h5
            refine WP.skip rfl rfl rfl rfl rfl rfl rfl ?_
            refine WP.skip rfl rfl rfl rfl rfl rfl rfl ?_
            refine WP.val rfl rfl rfl (Val.pickT rfl rfl rfl) ?_
            refine WP.val rfl rfl rfl (Val.move rfl rfl) ?_
            refine WP.skip rfl rfl rfl rfl rfl rfl rfl ?_
            refine WP.skip rfl rfl rfl rfl rfl rfl rfl ?_
            refine WP.skip rfl rfl rfl rfl rfl rfl rfl ?_
            refine WP.val rfl rfl rfl (Val.pickT rfl rfl rfl) ?_
            refine WP.nil ?_
            refine Out.next ?_
            refine WPc.condT rfl rfl ?_
            refine WPc.seq ?_
            refine WPc.region ?_
            refine WP.val rfl rfl rfl (Val.assign rfl rfl) ?_
            refine WP.nil ?_
            refine Out.next ?_
            refine WPc.ret ?_
            refine Out.then_ret ?_
            exact Out.ret1 (L' := [A]) Try.results10 rfl ⟨false, rfl, rfl, fun h => by cases h⟩ (fun _ h => h)
          · skip
            have h5 : ¬ (off < (0 : Int)) := h5
            refine WP.valG rfl rfl rfl rfl rfl rfl rfl (Val.move rfl rfl) ?_
            refine WP.valG rfl rfl rfl rfl rfl rfl rfl (Val.gtr rfl rfl rfl) ?_
            refine WP.val rfl rfl rfl (Val.pickF rfl rfl rfl) ?_
            refine WP.val rfl rfl rfl (Val.move rfl rfl) ?_
            refine WP.split 35 rfl (fun h6 => ?_) (fun h6 => ?_)
            · skip
              have h6 : ((1073741824 : Int) < off) := h6
              refine WP.skip rfl rfl rfl rfl rfl rfl rfl ?_
              refine WP.skip rfl rfl rfl rfl rfl rfl rfl ?_
              refine WP.skip rfl rfl rfl rfl rfl rfl rfl ?_
              refine WP.val rfl rfl rfl (Val.pickT rfl rfl rfl) ?_
              refine WP.nil ?_
              refine Out.next ?_
              refine WPc.condT rfl rfl ?_
              refine WPc.seq ?_
              refine WPc.region ?_
              refine WP.val rfl rfl rfl (Val.assign rfl rfl) ?_
              refine WP.nil ?_
              refine Out.next ?_
              refine WPc.ret ?_
              refine Out.then_ret ?_
              exact Out.ret1 (L' := [A]) Try.results10 rfl ⟨false, rfl, rfl, fun h => by cases h⟩ (fun _ h => h)
            · skip
              have h6 : ¬ ((1073741824 : Int) < off) := h6
              refine WP.valG rfl rfl rfl rfl rfl rfl rfl (Val.move rfl rfl) ?_
              refine WP.valG rfl rfl rfl rfl rfl rfl rfl (Val.len rfl Ty.sl22 rfl) ?_
              refine WP.valG rfl rfl rfl rfl rfl rfl rfl (Val.gtr rfl rfl rfl) ?_
              refine WP.val rfl rfl rfl (Val.pickF rfl rfl rfl) ?_
              refine WP.nil ?_
              refine Out.next ?_
              refine WPc.ifP rfl (fun h7 => ?_) (fun h7 => ?_)
              · skip
                have h7 : ((300 : Int) < (0 : Int)) := h7
                refine WPc.seq ?_
                refine WPc.region ?_
                refine WP.val rfl rfl rfl (Val.assign rfl rfl) ?_
                refine WP.nil ?_
                refine Out.next ?_
                refine WPc.ret ?_
                refine Out.then_ret ?_
                exact Out.ret1 (L' := [A]) Try.results10 rfl ⟨false, rfl, rfl, fun h => by cases h⟩ (fun _ h => h)
              · skip
                have h7 : ¬ ((300 : Int) < (0 : Int)) := h7
                refine WPc.skip ?_
                refine Out.next ?_
                refine WPc.seq ?_
                refine WPc.region ?_
                refine WP.val rfl rfl rfl (Val.assign rfl rfl) ?_
                refine WP.nil ?_
                refine Out.next ?_
                refine WPc.seq ?_
                refine WPc.seq ?_
                refine WPc.region ?_
                refine WP.val rfl rfl rfl (Val.move rfl rfl) ?_
                refine WP.val rfl rfl rfl (Val.len rfl Ty.sl22 rfl) ?_
                refine WP.val rfl rfl rfl (Val.move rfl rfl) ?_
                refine WP.nil ?_
                refine Out.next ?_
                refine WPc.block ?_
                refine WPc.loop (ι := Nat × Nat) (fun ⟨i, m⟩ => i ≤ ([] : List PgOp).length ∧ m ≤ 1048576 ∧ ∀ x ∈ ([] : List PgOp).take i, x.text.size ≤ m) (fun ⟨i, m⟩ => [(9, .int .i64 (((m : Nat) : Int))), (40, .slice a 0 c), (41, .int .i64 (((([] : List PgOp).length : Nat) : Int))), (42, .int .i64 (((i : Nat) : Int)))]) (fun ⟨i, m⟩ => A :: F) (fun ⟨i, m⟩ => ([] : List PgOp).length - i) (0, 0) ⟨by omega, by omega, by simp⟩ ((Sub.cons rfl (Sub.cons rfl (Sub.cons rfl (Sub.cons rfl Sub.nil))))) (fun _ h => h) ?_
                rintro ⟨i, m⟩ ⟨hi, hm, hm2⟩
                show WPc _ _ _ _ _ [(9, .int .i64 (((m : Nat) : Int))), (40, .slice a 0 c), (41, .int .i64 (((([] : List PgOp).length : Nat) : Int))), (42, .int .i64 (((i : Nat) : Int)))] (A :: F)
                try dsimp only at hi hm hm2
                refine WPc.seq ?_
                refine WPc.region ?_
                refine WP.val rfl rfl rfl (Val.lss rfl rfl rfl) ?_
                refine WP.nil ?_
                refine Out.next ?_
                refine WPc.seq ?_
                refine WPc.ifP rfl (fun h8 => ?_) (fun h8 => ?_)
                · skip
                  have h8 : (((i : Nat) : Int) < ((([] : List PgOp).length : Nat) : Int)) := h8
                  exfalso; simp at *; omega
                · skip
                  have h8 : ¬ (((i : Nat) : Int) < ((([] : List PgOp).length : Nat) : Int)) := h8
                  refine WPc.exit ?_
                  refine Out.then_exit ?_
                  refine Out.then_exit ?_
                  refine Out.block_exit ?_
                  refine Out.next ?_
                  refine WPc.seq ?_
                  refine WPc.region ?_
                  refine WP.val rfl rfl rfl (Val.assign rfl rfl) ?_
                  refine WP.nil ?_
                  refine Out.next ?_
                  refine WPc.ret ?_
                  have e : i = ([] : List PgOp).length := by simp at *; omega
                  subst e
                  rw [List.take_length] at hm2
                  exact Out.ret1 (L' := [A]) Try.results10 rfl ⟨true, rfl, rfl, fun _ => ⟨by omega, by omega, by omega, by omega, by omega, by simp, fun x hx => Nat.le_trans (hm2 x hx) (by omega)⟩⟩ (fun _ h => h)

set_option maxRecDepth 100000 in
set_option maxHeartbeats 1000000 in
theorem good_row (A : HProp) (B page off : Int) (l : List PgOp) (hst : ∀ x ∈ l, x.text.size ≤ 2147483647) (b0 o0 c0 : Nat) (hr : ∀ w, Holds A w → ∀ i x, l[i]? = some x → w.rangeAt b0 (o0 + i * 2) (PgOp.cells x)) : Does Try.prog 10 [.int .i64 (B), .int .i64 (page), .int .i64 (off), .slice (some ⟨b0, o0, none⟩) l.length c0] [A] (fun v L => ∃ b, v = .bool b ∧ L = [A] ∧ (b = true → 1 ≤ page ∧ page ≤ B ∧ B ≤ 1048576 ∧ 0 ≤ off ∧ off ≤ 1073741824 ∧ l.length ≤ 300 ∧ ∀ x ∈ l, x.text.size ≤ 1048576)) := by
  refine Does.enter 54 Try.func10 rfl rfl rfl fun W F => ?_
  show WPc _ _ _ _ _ [(0, .int .i64 (B)), (1, .int .i64 (page)), (2, .int .i64 (off)), (3, .slice (some ⟨b0, o0, none⟩) l.length c0)] (A :: F)
  refine WPc.seq ?_
  refine WPc.region ?_
  refine WP.val rfl rfl rfl (Val.assign rfl rfl) ?_
  refine WP.nil ?_
  refine Out.next ?_
  refine WPc.seq ?_
  refine WPc.seq ?_
  refine WPc.region ?_
  refine WP.val rfl rfl rfl (Val.move rfl rfl) ?_
  refine WP.val rfl rfl rfl (Val.lss rfl rfl rfl) ?_
  refine WP.val rfl rfl rfl (Val.move rfl rfl) ?_
  refine WP.split 14 rfl (fun h1 => ?_) (fun h1 => ?_)
  · skip
    have h1 : (page < (1 : Int)) := h1
    refine WP.skip rfl rfl rfl rfl rfl rfl rfl ?_
    refine WP.skip rfl rfl rfl rfl rfl rfl rfl ?_
    refine WP.val rfl rfl rfl (Val.pickT rfl rfl rfl) ?_
    refine WP.val rfl rfl rfl (Val.move rfl rfl) ?_
    refine WP.skip rfl rfl rfl rfl rfl rfl rfl ?_
    refine WP.skip rfl rfl rfl rfl rfl rfl rfl ?_
    refine WP.skip rfl rfl rfl rfl rfl rfl rfl ?_
    refine WP.val rfl rfl rfl (Val.pickT rfl rfl rfl) ?_
    refine WP.val rfl rfl rfl (Val.move rfl rfl) ?_
    refine WP.skip rfl rfl rfl rfl rfl rfl rfl ?_
    refine WP.skip rfl rfl rfl rfl rfl rfl rfl ?_
    refine WP.val rfl rfl rfl (Val.pickT rfl rfl rfl) ?_
    refine WP.val rfl rfl rfl (Val.move rfl rfl) ?_
    refine WP.skip rfl rfl rfl rfl rfl rfl rfl ?_
    refine WP.skip rfl rfl rfl rfl rfl rfl rfl ?_
    refine WP.val rfl rfl rfl (Val.pickT rfl rfl rfl) ?_
    refine WP.val rfl rfl rfl (Val.move rfl rfl) ?_
    refine WP.skip rfl rfl rfl rfl rfl rfl rfl ?_
    refine WP.skip rfl rfl rfl rfl rfl rfl rfl ?_
    refine WP.val rfl rfl rfl (Val.pickT rfl rfl rfl) ?_
    refine WP.val rfl rfl rfl (Val.move rfl rfl) ?_
    refine WP.skip rfl rfl rfl rfl rfl rfl rfl ?_
    refine WP.skip rfl rfl rfl rfl rfl rfl rfl ?_
    refine WP.skip rfl rfl rfl rfl rfl rfl rfl ?_
    refine WP.val rfl rfl rfl (Val.pickT rfl rfl rfl) ?_
    refine WP.nil ?_
    refine Out.next ?_
    refine WPc.condT rfl rfl ?_
    refine WPc.seq ?_
    refine WPc.region ?_
    refine WP.val rfl rfl rfl (Val.assign rfl rfl) ?_
    refine WP.nil ?_
    refine Out.next ?_
    refine WPc.ret ?_
    refine Out.then_ret ?_
    exact Out.ret1 (L' := [A]) Try.results10 rfl ⟨false, rfl, rfl, fun h => by cases h⟩ (fun _ h => h)
  · skip
    have h1 : ¬ (page < (1 : Int)) := h1
    refine WP.valG rfl rfl rfl rfl rfl rfl rfl (Val.move rfl rfl) ?_
    refine WP.valG rfl rfl rfl rfl rfl rfl rfl (Val.gtr rfl rfl rfl) ?_
    refine WP.val rfl rfl rfl (Val.pickF rfl rfl rfl) ?_
    refine WP.val rfl rfl rfl (Val.move rfl rfl) ?_
    refine WP.split 18 rfl (fun h2 => ?_) (fun h2 => ?_)
    · skip
      have h2 : ((65536 : Int) < page) := h2
      refine WP.skip rfl rfl rfl rfl rfl rfl rfl ?_
      refine WP.skip rfl rfl rfl rfl rfl rfl rfl ?_
      refine WP.skip rfl rfl rfl rfl rfl rfl rfl ?_
      refine WP.val rfl rfl rfl (Val.pickT rfl rfl rfl) ?_
      refine WP.val rfl rfl rfl (Val.move rfl rfl) ?_
      refine WP.skip rfl rfl rfl rfl rfl rfl rfl ?_
      refine WP.skip rfl rfl rfl rfl rfl rfl rfl ?_
      refine WP.val rfl rfl rfl (Val.pickT rfl rfl rfl) ?_
      refine WP.val rfl rfl rfl (Val.move rfl rfl) ?_
      refine WP.skip rfl rfl rfl rfl rfl rfl rfl ?_
      refine WP.skip rfl rfl rfl rfl rfl rfl rfl ?_
      refine WP.val rfl rfl rfl (Val.pickT rfl rfl rfl) ?_
      refine WP.val rfl rfl rfl (Val.move rfl rfl) ?_
      refine WP.skip rfl rfl rfl rfl rfl rfl rfl ?_
      refine WP.skip rfl rfl rfl rfl rfl rfl rfl ?_
      refine WP.val rfl rfl rfl (Val.pickT rfl rfl rfl) ?_
      refine WP.val rfl rfl rfl (Val.move rfl rfl) ?_
      refine WP.skip rfl rfl rfl rfl rfl rfl rfl ?_
      refine WP.skip rfl rfl rfl rfl rfl rfl rfl ?_
      refine WP.skip rfl rfl rfl rfl rfl rfl rfl ?_
      refine WP.val rfl rfl rfl (Val.pickT rfl rfl rfl) ?_
      refine WP.nil ?_
      refine Out.next ?_
      refine WPc.condT rfl rfl ?_
      refine WPc.seq ?_
      refine WPc.region ?_
      refine WP.val rfl rfl rfl (Val.assign rfl rfl) ?_
      refine WP.nil ?_
      refine Out.next ?_
      refine WPc.ret ?_
      refine Out.then_ret ?_
      exact Out.ret1 (L' := [A]) Try.results10 rfl ⟨false, rfl, rfl, fun h => by cases h⟩ (fun _ h => h)
    · skip
      have h2 : ¬ ((65536 : Int) < page) := h2
      refine WP.valG rfl rfl rfl rfl rfl rfl rfl (Val.move rfl rfl) ?_
      refine WP.valG rfl rfl rfl rfl rfl rfl rfl (Val.move rfl rfl) ?_
      refine WP.valG rfl rfl rfl rfl rfl rfl rfl (Val.lss rfl rfl rfl) ?_
      refine WP.val rfl rfl rfl (Val.pickF rfl rfl rfl) ?_
      refine WP.val rfl rfl rfl (Val.move rfl rfl) ?_
      refine WP.split 23 rfl (fun h3 => ?_) (fun h3 => ?_)
      · skip
        have h3 : (B < page) := h3
        refine WP.skip rfl rfl rfl rfl rfl rfl rfl ?_
        refine WP.skip rfl rfl rfl rfl rfl rfl rfl ?_
        refine WP.val rfl rfl rfl (Val.pickT rfl rfl rfl) ?_
        refine WP.val rfl rfl rfl (Val.move rfl rfl) ?_
        refine WP.skip rfl rfl rfl rfl rfl rfl rfl ?_
        refine WP.skip rfl rfl rfl rfl rfl rfl rfl ?_
        refine WP.val rfl rfl rfl (Val.pickT rfl rfl rfl) ?_
        refine WP.val rfl rfl rfl (Val.move rfl rfl) ?_
        refine WP.skip rfl rfl rfl rfl rfl rfl rfl ?_
        refine WP.skip rfl rfl rfl rfl rfl rfl rfl ?_
        refine WP.val rfl rfl rfl (Val.pickT rfl rfl rfl) ?_
        refine WP.val rfl rfl rfl (Val.move rfl rfl) ?_
        refine WP.skip rfl rfl rfl rfl rfl rfl rfl ?_
        refine WP.skip rfl rfl rfl rfl rfl rfl rfl ?_
        refine WP.skip rfl rfl rfl rfl rfl rfl rfl ?_
        refine WP.val rfl rfl rfl (Val.pickT rfl rfl rfl) ?_
        refine WP.nil ?_
        refine Out.next ?_
        refine WPc.condT rfl rfl ?_
        refine WPc.seq ?_
        refine WPc.region ?_
        refine WP.val rfl rfl rfl (Val.assign rfl rfl) ?_
        refine WP.nil ?_
        refine Out.next ?_
        refine WPc.ret ?_
        refine Out.then_ret ?_
        exact Out.ret1 (L' := [A]) Try.results10 rfl ⟨false, rfl, rfl, fun h => by cases h⟩ (fun _ h => h)
      · skip
        have h3 : ¬ (B < page) := h3
        refine WP.valG rfl rfl rfl rfl rfl rfl rfl (Val.move rfl rfl) ?_
        refine WP.valG rfl rfl rfl rfl rfl rfl rfl (Val.gtr rfl rfl rfl) ?_
        refine WP.val rfl rfl rfl (Val.pickF rfl rfl rfl) ?_
        refine WP.val rfl rfl rfl (Val.move rfl rfl) ?_
        refine WP.split 27 rfl (fun h4 => ?_) (fun h4 => ?_)
        · skip
          have h4 : ((1048576 : Int) < B) := h4
          refine WP.skip rfl rfl rfl rfl rfl rfl rfl ?_
          refine WP.skip rfl rfl rfl rfl rfl rfl rfl ?_
          refine WP.val rfl rfl rfl (Val.pickT rfl rfl rfl) ?_
          refine WP.val rfl rfl rfl (Val.move rfl rfl) ?_
          refine WP.skip rfl rfl rfl rfl rfl rfl rfl ?_
          refine WP.skip rfl rfl rfl rfl rfl rfl rfl ?_
          refine WP.val rfl rfl rfl (Val.pickT rfl rfl rfl) ?_
          refine WP.val rfl rfl rfl (Val.move rfl rfl) ?_
          refine WP.skip rfl rfl rfl rfl rfl rfl rfl ?_
          refine WP.skip rfl rfl rfl rfl rfl rfl rfl ?_
          refine WP.skip rfl rfl rfl rfl rfl rfl rfl ?_
          refine WP.val rfl rfl rfl (Val.pickT rfl rfl rfl) ?_
          refine WP.nil ?_
          refine Out.next ?_
          refine WPc.condT rfl rfl ?_
          refine WPc.seq ?_
          refine WPc.region ?_
          refine WP.val rfl rfl rfl (Val.assign rfl rfl) ?_
          refine WP.nil ?_
          refine Out.next ?_
          refine WPc.ret ?_
          refine Out.then_ret ?_
          exact Out.ret1 (L' := [A]) Try.results10 rfl ⟨false, rfl, rfl, fun h => by cases h⟩ (fun _ h => h)
        · skip
          have h4 : ¬ ((1048576 : Int) < B) := h4
          refine WP.valG rfl rfl rfl rfl rfl rfl rfl (Val.move rfl rfl) ?_
          refine WP.valG rfl rfl rfl rfl rfl rfl rfl (Val.lss rfl rfl rfl) ?_
          refine WP.val rfl rfl rfl (Val.pickF rfl rfl rfl) ?_
          refine WP.val rfl rfl rfl (Val.move rfl rfl) ?_
          refine WP.split 31 rfl (fun h5 => ?_) (fun h5 => ?_)
          · skip
            have h5 : (off < (0 : Int)) := h5
            refine WP.skip rfl rfl rfl rfl rfl rfl rfl ?_
            refine WP.skip rfl rfl rfl rfl rfl rfl rfl ?_
            refine WP.val rfl rfl rfl (Val.pickT rfl rfl rfl) ?_
            refine WP.val rfl rfl rfl (Val.move rfl rfl) ?_
            refine WP.skip rfl rfl rfl rfl rfl rfl rfl ?_
            refine WP.skip rfl rfl rfl rfl rfl rfl rfl ?_
            refine WP.skip rfl rfl rfl rfl rfl rfl rfl ?_
            refine WP.val rfl rfl rfl (Val.pickT rfl rfl rfl) ?_
            refine WP.nil ?_
            refine Out.next ?_
            refine WPc.condT rfl rfl ?_
            refine WPc.seq ?_
            refine WPc.region ?_
            refine WP.val rfl rfl rfl (Val.assign rfl rfl) ?_
            refine WP.nil ?_
            refine Out.next ?_
            refine WPc.ret ?_
            refine Out.then_ret ?_
            exact Out.ret1 (L' := [A]) Try.results10 rfl ⟨false, rfl, rfl, fun h => by cases h⟩ (fun _ h => h)
          · skip
            have h5 : ¬ (off < (0 : Int)) := h5
            refine WP.valG rfl rfl rfl rfl rfl rfl rfl (Val.move rfl rfl) ?_
            refine WP.valG rfl rfl rfl rfl rfl rfl rfl (Val.gtr rfl rfl rfl) ?_
            refine WP.val rfl rfl rfl (Val.pickF rfl rfl rfl) ?_
            refine WP.val rfl rfl rfl (Val.move rfl rfl) ?_
            refine WP.split 35 rfl (fun h6 => ?_) (fun h6 => ?_)
            · skip
              have h6 : ((1073741824 : Int) < off) := h6
              refine WP.skip rfl rfl rfl rfl rfl rfl rfl ?_
              refine WP.skip rfl rfl rfl rfl rfl rfl rfl ?_
              refine WP.skip rfl rfl rfl rfl rfl rfl rfl ?_
              refine WP.val rfl rfl rfl (Val.pickT rfl rfl rfl) ?_
              refine WP.nil ?_
              refine Out.next ?_
              refine WPc.condT rfl rfl ?_
              refine WPc.seq ?_
              refine WPc.region ?_
              refine WP.val rfl rfl rfl (Val.assign rfl rfl) ?_
              refine WP.nil ?_
              refine Out.next ?_
              refine WPc.ret ?_
              refine Out.then_ret ?_
              exact Out.ret1 (L' := [A]) Try.results10 rfl ⟨false, rfl, rfl, fun h => by cases h⟩ (fun _ h => h)
            · skip
              have h6 : ¬ ((1073741824 : Int) < off) := h6
              refine WP.valG rfl rfl rfl rfl rfl rfl rfl (Val.move rfl rfl) ?_
              refine WP.valG rfl rfl rfl rfl rfl rfl rfl (Val.len rfl Ty.sl22 rfl) ?_
              refine WP.valG rfl rfl rfl rfl rfl rfl rfl (Val.gtr rfl rfl rfl) ?_
              refine WP.val rfl rfl rfl (Val.pickF rfl rfl rfl) ?_
              refine WP.nil ?_
              refine Out.next ?_
              refine WPc.ifP rfl (fun h7 => ?_) (fun h7 => ?_)
              · skip
                have h7 : ((300 : Int) < ((l.length : Nat) : Int)) := h7
                refine WPc.seq ?_
                refine WPc.region ?_
                refine WP.val rfl rfl rfl (Val.assign rfl rfl) ?_
                refine WP.nil ?_
                refine Out.next ?_
                refine WPc.ret ?_
                refine Out.then_ret ?_
                exact Out.ret1 (L' := [A]) Try.results10 rfl ⟨false, rfl, rfl, fun h => by cases h⟩ (fun _ h => h)
              · skip
                have h7 : ¬ ((300 : Int) < ((l.length : Nat) : Int)) := h7
                refine WPc.skip ?_
                refine Out.next ?_
                refine WPc.seq ?_
                refine WPc.region ?_
                refine WP.val rfl rfl rfl (Val.assign rfl rfl) ?_
                refine WP.nil ?_
                refine Out.next ?_
                refine WPc.seq ?_
                refine WPc.seq ?_
                refine WPc.region ?_
                refine WP.val rfl rfl rfl (Val.move rfl rfl) ?_
                refine WP.val rfl rfl rfl (Val.len rfl Ty.sl22 rfl) ?_
                refine WP.val rfl rfl rfl (Val.move rfl rfl) ?_
                refine WP.nil ?_
                refine Out.next ?_
                refine WPc.block ?_
                refine WPc.loop (ι := Nat × Nat) (fun ⟨i, m⟩ => i ≤ l.length ∧ m ≤ 1048576 ∧ ∀ x ∈ l.take i, x.text.size ≤ m) (fun ⟨i, m⟩ => [(9, .int .i64 (((m : Nat) : Int))), (40, .slice (some ⟨b0, o0, none⟩) l.length c0), (41, .int .i64 (((l.length : Nat) : Int))), (42, .int .i64 (((i : Nat) : Int)))]) (fun ⟨i, m⟩ => A :: F) (fun ⟨i, m⟩ => l.length - i) (0, 0) ⟨by omega, by omega, by simp⟩ ((Sub.cons rfl (Sub.cons rfl (Sub.cons rfl (Sub.cons rfl Sub.nil))))) (fun _ h => h) ?_
                rintro ⟨i, m⟩ ⟨hi, hm, hm2⟩
                show WPc _ _ _ _ _ [(9, .int .i64 (((m : Nat) : Int))), (40, .slice (some ⟨b0, o0, none⟩) l.length c0), (41, .int .i64 (((l.length : Nat) : Int))), (42, .int .i64 (((i : Nat) : Int)))] (A :: F)
                try dsimp only at hi hm hm2
                refine WPc.seq ?_
                refine WPc.region ?_
                refine WP.val rfl rfl rfl (Val.lss rfl rfl rfl) ?_
                refine WP.nil ?_
                refine Out.next ?_
                refine WPc.seq ?_
                refine WPc.ifP rfl (fun h8 => ?_) (fun h8 => ?_)
                · skip
                  have h8 : (((i : Nat) : Int) < ((l.length : Nat) : Int)) := h8
                  refine WPc.skip ?_
                  refine Out.next ?_
                  refine WPc.seq ?_
                  refine WPc.block ?_
                  refine WPc.seq ?_
                  have hlt : i < l.length := by omega
                  obtain ⟨x, hx⟩ : ∃ x, l[i]? = some x := ⟨_, List.getElem?_eq_getElem hlt⟩
                  have hsx : x.text.size ≤ 2147483647 := hst x (List.mem_of_getElem? hx)
                  refine WPc.region ?_
                  refine WP.val rfl rfl rfl (Val.indexAddr (j := i) (q := o0 + i * 2) rfl Ty.sl22 rfl rfl (by omega) (by omega) (by omega)) ?_
                  refine WP.val rfl rfl rfl (Val.loadAgg (cs := (PgOp.cells x)) rfl Ty.ag32 rfl (by rfl) (fun w h => hr w (h.at 0 rfl) i x hx)) ?_
                  refine WP.eff rfl rfl rfl (Eff.alloc rfl Ty.z32) ?_
                  rintro _ _ ⟨b1, rfl, rfl⟩
                  refine WP.eff0 rfl rfl (Eff.storeAgg (cs := [.string x.text, .bool (x.fl)]) (C' := [.string x.text, .bool (x.fl)]) rfl Ty.ag32 rfl rfl rfl rfl (by simp) rfl) ?_
                  rintro _ _ rfl
                  refine WP.nil ?_
                  refine Out.next ?_
                  refine WPc.seq ?_
                  refine WPc.region ?_
                  refine WP.val rfl rfl rfl (Val.move rfl rfl) ?_
                  refine WP.val rfl rfl rfl (Val.fieldAddr (j := 0) rfl Ty.fo32_0 rfl rfl) ?_
                  refine WP.val rfl rfl rfl (Val.load rfl Ty.sc9 rfl (fun w h => h.cell 0 rfl rfl)) ?_
                  refine WP.val rfl rfl rfl (Val.lenS rfl Ty.st9 rfl) ?_
                  refine WP.val rfl rfl rfl (Val.add (z := ((m + ((x.text).size) : Nat) : Int)) rfl rfl rfl ((w64 (by omega) (by omega)).trans (by omega))) ?_
                  refine WP.val rfl rfl rfl (Val.assign rfl rfl) ?_
                  refine WP.nil ?_
                  refine Out.next ?_
                  refine WPc.seq ?_
                  refine WPc.region ?_
                  refine WP.val rfl rfl rfl (Val.move rfl rfl) ?_
                  refine WP.val rfl rfl rfl (Val.gtr rfl rfl rfl) ?_
                  refine WP.nil ?_
                  refine Out.next ?_
                  refine WPc.ifP rfl (fun h9 => ?_) (fun h9 => ?_)
                  · skip
                    have h9 : ((1048576 : Int) < ((m + ((x.text).size) : Nat) : Int)) := h9
                    refine WPc.seq ?_
                    refine WPc.region ?_
                    refine WP.val rfl rfl rfl (Val.assign rfl rfl) ?_
                    refine WP.nil ?_
                    refine Out.next ?_
                    refine WPc.ret ?_
                    refine Out.block_ret ?_
                    refine Out.then_ret ?_
                    refine Out.then_ret ?_
                    refine Out.block_ret ?_
                    refine Out.then_ret ?_
                    refine Out.drop ?_
                    exact Out.ret1 (L' := [A]) Try.results10 rfl ⟨false, rfl, rfl, fun h => by cases h⟩ (fun _ h => h)
                  · skip
                    have h9 : ¬ ((1048576 : Int) < ((m + ((x.text).size) : Nat) : Int)) := h9
                    refine WPc.skip ?_
                    refine Out.block ?_
                    refine Out.next ?_
                    refine WPc.region ?_
                    refine WP.val rfl rfl rfl (Val.add (z := ((i + 1 : Nat) : Int)) rfl rfl rfl ((w64 (by omega) (by omega)).trans (by omega))) ?_
                    refine WP.val rfl rfl rfl (Val.move rfl rfl) ?_
                    refine WP.nil ?_
                    refine Out.drop ?_
                    refine Out.again (i + 1, m + x.text.size) ?_ ?_ ?_ ?_
                    · exact ⟨by omega, by omega, by rw [take_more hx]; intro y hy; rcases List.mem_append.1 hy with h | h; exact Nat.le_trans (hm2 y h) (by omega); (obtain rfl : y = x := by simpa using h); omega⟩
                    · first | omega | (dsimp only; omega)
                    · exact (Sub.cons rfl (Sub.cons rfl (Sub.cons rfl (Sub.cons rfl Sub.nil))))
                    · exact (fun _ h => h)
                · skip
                  have h8 : ¬ (((i : Nat) : Int) < ((l.length : Nat) : Int)) := h8
                  refine WPc.exit ?_
                  refine Out.then_exit ?_
                  refine Out.then_exit ?_
                  refine Out.block_exit ?_
                  refine Out.next ?_
                  refine WPc.seq ?_
                  refine WPc.region ?_
                  refine WP.val rfl rfl rfl (Val.assign rfl rfl) ?_
                  refine WP.nil ?_
                  refine Out.next ?_
                  refine WPc.ret ?_
                  have e : i = l.length := by omega
                  subst e
                  rw [List.take_length] at hm2
                  exact Out.ret1 (L' := [A]) Try.results10 rfl ⟨true, rfl, rfl, fun _ => ⟨by omega, by omega, by omega, by omega, by omega, by omega, fun x hx => Nat.le_trans (hm2 x hx) (by omega)⟩⟩ (fun _ h => h)

theorem good_spec (A : HProp) (B page off : Int) (l : List PgOp) (hst : ∀ x ∈ l, x.text.size ≤ 2147483647) (va : Value) (hva : Rd A 2 PgOp.cells va l) : Does Try.prog 10 [.int .i64 (B), .int .i64 (page), .int .i64 (off), va] [A] (fun v L => ∃ b, v = .bool b ∧ L = [A] ∧ (b = true → 1 ≤ page ∧ page ≤ B ∧ B ≤ 1048576 ∧ 0 ≤ off ∧ off ≤ 1073741824 ∧ l.length ≤ 300 ∧ ∀ x ∈ l, x.text.size ≤ 1048576)) := by
  rcases hva with ⟨b0, o0, c0, rfl, hr⟩ | ⟨rfl, a, c, rfl⟩
  · exact good_row A B page off l hst b0 o0 c0 hr
  · exact good_nil A B page off a c

end Go.Proofs.Ythmkdioafjmclaa.Pg6
