import Derived.Test.YthmkdioafjmclaaSlTerse
import Derived.Test.YthmkdioafjmclaaSlX
import Derived.Test.YthmkdioafjmclaaSlBits
import Derived.Test.YthmkdioafjmclaaTyBt
namespace Go.Proofs.Ythmkdioafjmclaa.Bt
open Go.RowKit Go.Proofs.Ythmkdioafjmclaa Go.Proofs.Ythmkdioafjmclaa.Sl
set_option linter.unusedVariables false
set_option linter.unusedSimpArgs false
set_option linter.unusedSectionVars false


structure El where
 k : Int
 v : Int
def El.cells (x : El) : List Value := [.int .i64 x.k, .int .i64 x.v]
theorem El.len (x : El) : x.cells.length = 2 := rfl
def El0 : El := ⟨0, 0⟩
def vcf (v : Value) : List Value := [v]
theorem vcf_len (v : Value) : (vcf v).length = 1 := rfl
def VP : Value := .pointer none
theorem flat_vcf (l : List Value) : flatOf vcf l = l := by
 induction l with
 | nil => rfl
 | cons x l ih => unfold flatOf at ih ⊢; rw [List.flatMap_cons, ih]; rfl
theorem vflat_at {l sp : List Value} {i : Nat} {x : Value} (hx : l[i]? = some x) : (flatOf vcf l ++ sp)[i]? = some x := by
 rw [flat_vcf, List.getElem?_append_left (List.getElem?_eq_some_iff.1 hx).1]; exact hx
theorem el_one (l : List El) : (flatOf El.cells l).all (·.oneCell') = true := by
 rw [List.all_eq_true]; intro v hv
 obtain ⟨x, -, hx⟩ := List.mem_flatMap.1 hv
 simp only [El.cells, List.mem_cons, List.not_mem_nil, or_false] at hx
 rcases hx with rfl | rfl <;> rfl
theorem v_one {l : List Value} (h : ∀ x ∈ l, x.oneCell' = true) : (flatOf vcf l).all (·.oneCell') = true := by
 rw [flat_vcf, List.all_eq_true]; exact h
theorem flatOf_append {α : Type} (cf : α → List Value) (l m : List α) : flatOf cf (l ++ m) = flatOf cf l ++ flatOf cf m := by simp [flatOf]
theorem flatOf_one {α : Type} (cf : α → List Value) (x : α) : flatOf cf [x] = cf x := by simp [flatOf]
/-- what is copied within one row: l2 at place i of l -/
theorem flat_copy {α : Type} {cf : α → List Value} {k : Nat} (hk : ∀ x, (cf x).length = k) {l l2 l' : List α} {sp : List Value} {i o : Nat} (ho : l2 = [] ∨ o = i * k) (hi : i + l2.length ≤ l.length) (he : l' = l.take i ++ l2 ++ l.drop (i + l2.length)) :
  (flatOf cf l ++ sp).take o ++ flatOf cf l2 ++ (flatOf cf l ++ sp).drop (o + (flatOf cf l2).length) = flatOf cf l' ++ sp := by
 subst he
 rcases ho with rfl | rfl
 ·
  simp [flatOf]
 ·
  have h1 : (flatOf cf (l.take i)).length = i * k := by rw [flatOf_length hk, List.length_take, Nat.min_eq_left (by omega)]
  have h2 : l = l.take i ++ (l.drop i).take l2.length ++ l.drop (i + l2.length) := by rw [← List.drop_drop, List.append_assoc, List.take_append_drop, List.take_append_drop]
  have h3 : ((l.drop i).take l2.length).length = l2.length := by rw [List.length_take, List.length_drop]; omega
  have h4 : flatOf cf l = flatOf cf (l.take i) ++ (flatOf cf ((l.drop i).take l2.length) ++ flatOf cf (l.drop (i + l2.length))) := by
   rw [← flatOf_append, ← flatOf_append, ← List.append_assoc, ← h2]
  have h5 : (flatOf cf ((l.drop i).take l2.length)).length = (flatOf cf l2).length := by rw [flatOf_length hk, flatOf_length hk, h3]
  rw [flatOf_append, flatOf_append, h4, ← h1, List.append_assoc, List.append_assoc, List.take_left, ← List.drop_drop, List.drop_left, ← h5, List.append_assoc, List.drop_left]
  simp [List.append_assoc]
theorem flat_range2 {α : Type} {cf : α → List Value} {k : Nat} (hk : ∀ x, (cf x).length = k) {l l2 : List α} {sp : List Value} {i o : Nat} (ho : l2 = [] ∨ o = i * k) (h : (l.drop i).take l2.length = l2) : ((flatOf cf l ++ sp).drop o).take (flatOf cf l2).length = flatOf cf l2 := by
 rcases ho with rfl | rfl
 ·
  simp [flatOf]
 ·
  by_cases hi : i ≤ l.length
  ·
   have h1 : (flatOf cf (l.take i)).length = i * k := by rw [flatOf_length hk, List.length_take, Nat.min_eq_left hi]
   have h2 : l = l.take i ++ (l2 ++ (l.drop i).drop l2.length) := by
    have := List.take_append_drop l2.length (l.drop i)
    rw [h] at this
    rw [this, List.take_append_drop]
   rw [h2, flatOf_append, flatOf_append, List.append_assoc, ← h1, List.drop_left, List.append_assoc, List.take_left]
  ·
   have : l2 = [] := by rw [← h, List.drop_eq_nil_of_le (by omega)]; simp
   subst this; simp [flatOf]
section
variable {P : Program} {W : World} {n : Nat} {l : List (Nat × Value)} {L : List HProp} {o : Oper} {Q : Exit → Act → World → Prop}
/-- copy within one row -/
theorem Eff.copyIn {dT sT e : TypeId} {k by_ b i dLen dCap os m c q : Nat} {d x : Operand} {cs C C' : List Value} {T : TypeId} (ho : o.op = .call { callee := .builtin .copy, args := #[d, x], argTypes := #[dT, sT] }) (ht : slcE P dT = some (e, k, by_))
  (hd : ev l d = some (.slice (some ⟨b, i, none⟩) dLen dCap)) (hx : ev l x = some (.slice (some ⟨b, os, none⟩) m c)) (hq : Nat.min m dLen = q) (hl : cs.length = q * k) (hcs : (C.drop os).take cs.length = cs) (h1 : cs.all (·.oneCell') = true) (hfit : i + cs.length ≤ C.length)
  (hC : C.take i ++ cs ++ C.drop (i + cs.length) = C') : Eff P W Q n l (Blk b C T :: L) o (One (.int .i64 ((q : Nat) : Int)) (Blk b C' T :: L)) := by
 subst hq hC
 exact Eff.copy (m := m) (cs := cs) (C := C) (T := T) (b := b) (i := i) (dLen := dLen) ho ht hd hx (fun w' => rfl) (fun w hs => run_firstCells_some w k (Nat.min m dLen) _ m c cs hl (cells_range (hs.head.cell_range hcs))) h1 hfit
end
theorem ins_list {α : Type} {l : List α} {i : Nat} {x z : α} (hi : i ≤ l.length) : (((l ++ [z]).take (i + 1) ++ l.drop i).set i x) = l.take i ++ x :: l.drop i := by
 apply List.ext_getElem?
 intro j
 have hl : (l.take i).length = i := by rw [List.length_take]; omega
 have hl2 : ((l ++ [z]).take (i + 1)).length = i + 1 := by rw [List.length_take, List.length_append]; simp; omega
 rw [List.getElem?_set]
 split
 ·
  rename_i e; subst e
  rw [if_pos (by rw [List.length_append, hl2]; omega), List.getElem?_append_right (by omega), hl]; simp
 ·
  rename_i e
  rcases Nat.lt_or_ge j i with h | h
  ·
   rw [List.getElem?_append_left (by omega), List.getElem?_append_left (by omega), List.getElem?_take, List.getElem?_take, if_pos (by omega), if_pos h, List.getElem?_append_left (by omega)]
  ·
   rw [List.getElem?_append_right (by omega), List.getElem?_append_right (by omega), hl, hl2]
   rw [show j - i = (j - (i + 1)) + 1 by omega, List.getElem?_cons_succ]
theorem ers_list {α : Type} {l : List α} {i : Nat} {z : α} (hi : i < l.length) : ((l.take i ++ l.drop (i + 1) ++ l.drop (l.length - 1)).set (l.length - 1) z).take (l.length - 1) = l.eraseIdx i := by
 have h1 : (l.take i ++ l.drop (i + 1)).length = l.length - 1 := by rw [List.length_append, List.length_take, List.length_drop]; omega
 rw [List.take_set_of_le (by omega), ← h1, List.take_left, List.eraseIdx_eq_take_drop_succ]
set_option maxRecDepth 100000 in
set_option maxHeartbeats 2000000 in
theorem truncE_nil (p : Nat) (vc vw : Value) (j : Nat) (xs : List El)  (hj : j ≤ xs.length) (hn : xs = []) : Does Try.prog 122 [.pointer (some ⟨p, 0, none⟩), .int .i64 (((j : Nat) : Int))] [Blk p [.slice none 0 0, vc, vw] 213] (fun v L => ∃ v2, v2.oneCell' = true ∧ L = [Blk p [v2, vc, vw] 213, Own 55 2 v2 j (flatOf El.cells (xs.take j))]) := by
 refine Does.enter 29 Try.func122 rfl rfl rfl fun W F => ?_
 show WPc _ _ _ _ _ [(0, .pointer (some ⟨p, 0, none⟩)), (1, .int .i64 (((j : Nat) : Int)))] (Blk p [.slice none 0 0, vc, vw] 213 :: F)
 refine WPc.sr ?_
 refine WP.val rfl rfl rfl (Val.assign rfl rfl) ?_
 refine WP.nx ?_
 refine WPc.seq ?_
 have hj0 : j = 0 := by rw [hn] at hj; simpa using hj
 subst hn
 refine WPD.s0 Ty.mixed ?_
 refine WPD.tM 0 rfl rfl rfl rfl (Val.move rfl rfl) ?_
 refine WPD.tM 1 rfl rfl rfl rfl (Val.move rfl rfl) ?_
 refine WPD.tM 2 rfl rfl rfl rfl (Val.nilCheck rfl rfl) ?_
 refine WPD.tL 3 rfl rfl rfl rfl (fun _ h => h) (Val.load rfl Ty.sc210 rfl (fun w h => h.cell 0 rfl rfl)) ?_
 refine WPD.tM 4 rfl rfl rfl rfl (Val.move rfl rfl) ?_
 refine WPD.tM 5 rfl rfl rfl rfl (Val.sliceNil (vlo := none) (vhi := some (.i64, ((j : Nat) : Int))) rfl Ty.sl210 rfl rfl rfl (by simp [bnd]; try omega) (by simp [bnd]; try omega)) ?_
 refine WPD.tM 6 rfl rfl rfl rfl (Val.move rfl rfl) ?_
 refine WPD.tM 7 rfl rfl rfl rfl (Val.nilCheck rfl rfl) ?_
 refine WPD.tL 8 rfl rfl rfl rfl (fun _ h => h) (Val.load rfl Ty.sc210 rfl (fun w h => h.cell 0 rfl rfl)) ?_
 refine WPD.tM 9 rfl rfl rfl rfl (Val.move rfl rfl) ?_
 refine WPD.tM 10 rfl rfl rfl rfl (Val.sliceNil (vlo := some (.i64, ((j : Nat) : Int))) (vhi := none) rfl Ty.sl210 rfl rfl rfl (by simp [bnd]; try omega) (by simp [bnd]; try omega)) ?_
 refine WPD.tM 11 rfl rfl rfl rfl (Val.nilCheck rfl rfl) ?_
 refine WPD.stepC0 12 (by kernel_rfl) rfl rfl rfl (by kernel_rfl) (Eff.store rfl Ty.sc210 rfl rfl rfl (by simp) st0) ?_
 rintro _ _ rfl
 refine ⟨_, (fun _ h => h), ?_⟩
 refine WPD.tM 13 rfl rfl rfl rfl (Val.assign rfl rfl) ?_
 refine WPD.done (by kernel_rfl) ?_
 refine Out.next ?_
 refine WPc.sr ?_
 refine WP.eff rfl rfl rfl (Eff.alloc rfl Ty.z55) ?_
 rintro _ _ ⟨b1, rfl, rfl⟩
 refine WP.nx ?_
 refine WPc.sr ?_
 refine WP.val rfl rfl rfl (Val.assign rfl rfl) ?_
 refine WP.nx ?_
 refine WPc.block ?_
 refine WPc.drop ?_
 refine WPc.loop (ι := Nat) (fun i => i = 0) (fun i => [(4, .slice none 0 0), (6, .int .i64 (((i : Nat) : Int)))]) (fun i => Blk p [.slice none 0 0, vc, vw] 213 :: F) (fun i => 0) 0 rfl ((Sub.cons rfl (Sub.cons rfl Sub.nil))) (fun _ h => h) ?_
 rintro i hi
 show WPc _ _ _ _ _ [(4, .slice none 0 0), (6, .int .i64 (((i : Nat) : Int)))] _
 refine WPc.seq ?_
 refine WPc.sr ?_
 refine WP.val rfl rfl rfl (Val.move rfl rfl) ?_
 refine WP.val rfl rfl rfl (Val.move rfl rfl) ?_
 refine WP.val rfl rfl rfl (Val.len rfl Ty.sl210 rfl) ?_
 refine WP.val rfl rfl rfl (Val.lss rfl rfl rfl) ?_
 refine WP.nx ?_
 refine WPc.ifP rfl (fun h1 => ?_) (fun h1 => ?_)
 ·
  have h1 : (((i : Nat) : Int) < (0 : Int)) := h1
  exfalso; simp at *; omega
 ·
  have h1 : ¬ (((i : Nat) : Int) < (0 : Int)) := h1
  refine WPc.exit ?_
  refine Out.then_exit ?_
  refine Out.then_exit ?_
  refine Out.block_exit ?_
  refine Out.conv (fun w h => h.ownNil (e := 55) (k := 2)) ?_
  subst hj0
  refine Out.perm pl1 ?_
  exact Out.end0 (L' := _) Try.results122 ⟨.slice none 0 0, rfl, rfl⟩ (fun _ h => h)

set_option maxRecDepth 100000 in
set_option maxHeartbeats 2000000 in
theorem truncE_row (p : Nat) (vc vw : Value) (j : Nat) (xs : List El)  (hj : j ≤ xs.length) (b cap : Nat) (sp : List Value) (hn : xs.length ≤ cap) (hsp : sp.length = (cap - xs.length) * 2) (hcap : cap ≤ maxLen) (hx6 : xs.length ≤ 1000000) : Does Try.prog 122 [.pointer (some ⟨p, 0, none⟩), .int .i64 (((j : Nat) : Int))] [Blk p [.slice (some ⟨b, 0, none⟩) xs.length cap, vc, vw] 213, Blk b (flatOf El.cells xs ++ sp) 55] (fun v L => ∃ v2, v2.oneCell' = true ∧ L = [Blk p [v2, vc, vw] 213, Own 55 2 v2 j (flatOf El.cells (xs.take j))]) := by
 refine Does.enter 29 Try.func122 rfl rfl rfl fun W F => ?_
 show WPc _ _ _ _ _ [(0, .pointer (some ⟨p, 0, none⟩)), (1, .int .i64 (((j : Nat) : Int)))] (Blk p [.slice (some ⟨b, 0, none⟩) xs.length cap, vc, vw] 213 :: Blk b (flatOf El.cells xs ++ sp) 55 :: F)
 refine WPc.sr ?_
 refine WP.val rfl rfl rfl (Val.assign rfl rfl) ?_
 refine WP.nx ?_
 refine WPc.seq ?_
 refine WPD.s0 Ty.mixed ?_
 refine WPD.tM 0 rfl rfl rfl rfl (Val.move rfl rfl) ?_
 refine WPD.tM 1 rfl rfl rfl rfl (Val.move rfl rfl) ?_
 refine WPD.tM 2 rfl rfl rfl rfl (Val.nilCheck rfl rfl) ?_
 refine WPD.tL 3 rfl rfl rfl rfl (fun _ h => h) (Val.load rfl Ty.sc210 rfl (fun w h => h.cell 0 rfl rfl)) ?_
 refine WPD.tM 4 rfl rfl rfl rfl (Val.move rfl rfl) ?_
 refine WPD.tM 5 rfl rfl rfl rfl (Val.slice (lo := 0) (hi := j) (j := 0) (vlo := none) (vhi := some (.i64, ((j : Nat) : Int))) rfl Ty.sl210 rfl rfl rfl (by simp [bnd]) (by simp [bnd]; try omega) (by omega) (by omega) (by omega) (by simp)) ?_
 refine WPD.tM 6 rfl rfl rfl rfl (Val.move rfl rfl) ?_
 refine WPD.tM 7 rfl rfl rfl rfl (Val.nilCheck rfl rfl) ?_
 refine WPD.tL 8 rfl rfl rfl rfl (fun _ h => h) (Val.load rfl Ty.sc210 rfl (fun w h => h.cell 0 rfl rfl)) ?_
 refine WPD.tM 9 rfl rfl rfl rfl (Val.move rfl rfl) ?_
 refine WPD.tM 10 rfl rfl rfl rfl (Val.slice (lo := j) (hi := xs.length) (j := (if cap = j then 0 else 0 + j * 2)) (vlo := some (.i64, ((j : Nat) : Int))) (vhi := none) rfl Ty.sl210 rfl rfl rfl (by simp [bnd]; try omega) (by simp [bnd]; try omega) (by omega) (by omega) (by omega) rfl) ?_
 refine WPD.tM 11 rfl rfl rfl rfl (Val.nilCheck rfl rfl) ?_
 refine WPD.stepC0 12 (by kernel_rfl) rfl rfl rfl (by kernel_rfl) (Eff.store rfl Ty.sc210 rfl rfl rfl (by simp) st0) ?_
 rintro _ _ rfl
 refine ⟨_, (fun _ h => h), ?_⟩
 refine WPD.tM 13 rfl rfl rfl rfl (Val.assign rfl rfl) ?_
 refine WPD.done (by kernel_rfl) ?_
 refine Out.next ?_
 refine WPc.seq ?_
 by_cases hjn : j = xs.length
 ·
  have hz : xs.length - j = 0 := by omega
  refine WPc.region ?_
  refine WP.eff rfl rfl rfl (Eff.alloc rfl Ty.z55) ?_
  rintro _ _ ⟨b1, rfl, rfl⟩
  refine WP.nx ?_
  refine WPc.sr ?_
  refine WP.val rfl rfl rfl (Val.assign rfl rfl) ?_
  refine WP.nx ?_
  refine WPc.block ?_
  refine WPc.drop ?_
  refine WPc.loop (ι := Nat) (fun i => i = 0) (fun i => [(4, .slice (some ⟨b, (if cap = j then 0 else 0 + j * 2), none⟩) (xs.length - j) (cap - j)), (6, .int .i64 (((i : Nat) : Int)))]) (fun i => Blk p [.slice (some ⟨b, 0, none⟩) j cap, vc, vw] 213 :: Blk b (flatOf El.cells xs ++ sp) 55 :: F) (fun i => 0) 0 rfl ((Sub.cons rfl (Sub.cons rfl Sub.nil))) (fun _ h => h) ?_
  rintro i hi
  show WPc _ _ _ _ _ [(4, .slice (some ⟨b, (if cap = j then 0 else 0 + j * 2), none⟩) (xs.length - j) (cap - j)), (6, .int .i64 (((i : Nat) : Int)))] (Blk p [.slice (some ⟨b, 0, none⟩) j cap, vc, vw] 213 :: _)
  refine WPc.seq ?_
  refine WPc.sr ?_
  refine WP.val rfl rfl rfl (Val.move rfl rfl) ?_
  refine WP.val rfl rfl rfl (Val.move rfl rfl) ?_
  refine WP.val rfl rfl rfl (Val.len rfl Ty.sl210 rfl) ?_
  refine WP.val rfl rfl rfl (Val.lss rfl rfl rfl) ?_
  refine WP.nx ?_
  refine WPc.ifP rfl (fun h1 => ?_) (fun h1 => ?_)
  ·
   have h1 : (((i : Nat) : Int) < ((xs.length - j : Nat) : Int)) := h1
   exfalso; omega
  ·
   have h1 : ¬ (((i : Nat) : Int) < ((xs.length - j : Nat) : Int)) := h1
   refine WPc.exit ?_
   refine Out.then_exit ?_
   refine Out.then_exit ?_
   refine Out.block_exit ?_
   refine Out.perm pl1 ?_
   subst hjn
   refine Out.conv (fun w h => h.ownMk (m := xs.length) (k := 2) hn (flatOf_length El.len _) hsp hcap) ?_
   have ht : xs.take xs.length = xs := List.take_length
   exact Out.end0 (L' := _) Try.results122 ⟨_, rfl, rfl⟩ (fun w h => by rw [ht]; exact h.perm (List.Perm.swap _ _ _))
 ·
  have hjn2 : j < xs.length := by omega
  refine WPc.know 4 (.slice (some ⟨b, j * 2, none⟩) (xs.length - j) (cap - j)) rfl (by rw [if_neg (by omega), Nat.zero_add]) ?_
  refine WPc.region ?_
  refine WP.eff rfl rfl rfl (Eff.alloc rfl Ty.z55) ?_
  rintro _ _ ⟨b2, rfl, rfl⟩
  refine WP.nx ?_
  refine WPc.sr ?_
  refine WP.val rfl rfl rfl (Val.assign rfl rfl) ?_
  refine WP.nx ?_
  refine WPc.block ?_
  refine WPc.perm pl2 ?_
  refine WPc.perm pl2 ?_
  refine WPc.loop (ι := Nat × List El) (fun ⟨i, l2⟩ => l2.length = xs.length ∧ l2.take j = xs.take j ∧ i ≤ xs.length - j) (fun ⟨i, l2⟩ => [(4, .slice (some ⟨b, j * 2, none⟩) (xs.length - j) (cap - j)), (6, .int .i64 (((i : Nat) : Int))), (5, .pointer (some ⟨b2, 0, none⟩))]) (fun ⟨i, l2⟩ => Blk p [.slice (some ⟨b, 0, none⟩) j cap, vc, vw] 213 :: Blk b (flatOf El.cells l2 ++ sp) 55 :: Blk b2 [.int .i64 0, .int .i64 0] 55 :: F) (fun ⟨i, l2⟩ => xs.length - j - i) (0, xs) ⟨rfl, rfl, Nat.zero_le _⟩ ((Sub.cons rfl (Sub.cons rfl (Sub.cons rfl Sub.nil)))) (fun _ h => h) ?_
  rintro ⟨i, l2⟩ ⟨hl2, ht2, hi⟩
  show WPc _ _ _ _ _ [(4, .slice (some ⟨b, j * 2, none⟩) (xs.length - j) (cap - j)), (6, .int .i64 (((i : Nat) : Int))), (5, .pointer (some ⟨b2, 0, none⟩))] (Blk p [.slice (some ⟨b, 0, none⟩) j cap, vc, vw] 213 :: Blk b (flatOf El.cells l2 ++ sp) 55 :: Blk b2 [.int .i64 0, .int .i64 0] 55 :: _)
  refine WPc.seq ?_
  refine WPc.sr ?_
  refine WP.val rfl rfl rfl (Val.move rfl rfl) ?_
  refine WP.val rfl rfl rfl (Val.move rfl rfl) ?_
  refine WP.val rfl rfl rfl (Val.len rfl Ty.sl210 rfl) ?_
  refine WP.val rfl rfl rfl (Val.lss rfl rfl rfl) ?_
  refine WP.nx ?_
  refine WPc.ifP rfl (fun h2 => ?_) (fun h2 => ?_)
  ·
   have h2 : (((i : Nat) : Int) < ((xs.length - j : Nat) : Int)) := h2
   refine WPc.skip ?_
   refine Out.next ?_
   refine WPc.seq ?_
   refine WPc.block ?_
   refine WPc.region ?_
   refine WP.val rfl rfl rfl (Val.move rfl rfl) ?_
   refine WP.val rfl rfl rfl (Val.move rfl rfl) ?_
   refine WP.val rfl rfl rfl (Val.loadAgg (cs := [.int .i64 0, .int .i64 0]) rfl Ty.ag55 rfl rfl (fun w h => h.range 2 rfl rfl)) ?_
   refine WP.val rfl rfl rfl (Val.indexAddr (j := i) (q := j * 2 + i * 2) rfl Ty.sl210 rfl rfl (by omega) (by omega) (by omega)) ?_
   refine WP.perm pl1 ?_
   refine WP.eff0 rfl rfl (Eff.storeAgg (cs := [.int .i64 0, .int .i64 0]) (C' := flatOf El.cells (l2.set (j + i) El0) ++ sp) rfl Ty.ag55 rfl rfl rfl rfl (by rw [List.length_append, flatOf_length El.len]; omega) (by have h9 := flat_set El.len l2 (j + i) El0 sp (by omega); rw [Nat.add_mul] at h9; exact h9)) ?_
   rintro _ _ rfl
   refine WP.nil ?_
   refine Out.block ?_
   refine Out.next ?_
   refine WPc.region ?_
   refine WP.val rfl rfl rfl (Val.move rfl rfl) ?_
   refine WP.val rfl rfl rfl (Val.add (z := ((i + 1 : Nat) : Int)) rfl rfl rfl ((w64 (by omega) (by omega)).trans (by omega))) ?_
   refine WP.val rfl rfl rfl (Val.assign rfl rfl) ?_
   refine WP.nil ?_
   refine Out.perm pl2 ?_
   refine Out.perm pl1 ?_
   refine Out.perm pl2 ?_
   refine Out.again (i + 1, l2.set (j + i) El0) ?_ ?_ ?_ ?_
   ·
    exact ⟨by rw [List.length_set]; exact hl2, by rw [List.take_set_of_le (by omega)]; exact ht2, by omega⟩
   ·
    (dsimp only; omega)
   ·
    exact (Sub.cons rfl (Sub.cons rfl (Sub.cons rfl Sub.nil)))
   ·
    exact (fun _ h => h)
  ·
   have h2 : ¬ (((i : Nat) : Int) < ((xs.length - j : Nat) : Int)) := h2
   refine WPc.exit ?_
   refine Out.then_exit ?_
   refine Out.then_exit ?_
   refine Out.block_exit ?_
   refine Out.perm pl2 ?_
   refine Out.drop ?_
   refine Out.perm pl1 ?_
   refine Out.conv (fun w h => Sat.ownMk (e := 55) (k := 2) (b := b) (m := j) (cap := cap) (xs := flatOf El.cells (xs.take j)) (sp := flatOf El.cells (l2.drop j) ++ sp) (by rw [← List.append_assoc, ← ht2, ← flatOf_append, List.take_append_drop]; exact h) (by omega) (by rw [flatOf_length El.len, List.length_take, Nat.min_eq_left hj]) (by rw [List.length_append, flatOf_length El.len, List.length_drop, hl2, hsp, ← Nat.add_mul]; congr 1; omega) hcap) ?_
   exact Out.end0 (L' := _) Try.results122 ⟨_, rfl, rfl⟩ (fun w h => h.perm (List.Perm.swap _ _ _))

theorem truncE (p : Nat) (vi vc vw : Value) (j : Nat) (xs : List El)  (hj : j ≤ xs.length) (hx6 : xs.length ≤ 1000000) : Does Try.prog 122 [.pointer (some ⟨p, 0, none⟩), .int .i64 (((j : Nat) : Int))] [Blk p [vi, vc, vw] 213, Own 55 2 vi xs.length (flatOf El.cells xs)] (fun v L => ∃ v2, v2.oneCell' = true ∧ L = [Blk p [v2, vc, vw] 213, Own 55 2 v2 j (flatOf El.cells (xs.take j))]) := by
 intro W F w hs
 rcases (hs.perm pl1).own with ⟨rfl, e0, -, h2⟩ | ⟨b, cap, sp, rfl, q1, q2, q3, q4, q5⟩
 ·
  exact truncE_nil p vc vw j xs  hj (List.eq_nil_of_length_eq_zero e0) W F w h2
 ·
  exact truncE_row p vc vw j xs  hj b cap sp q1 (by simpa using q3) q4 hx6 W F w (q5.perm pl1)
set_option maxRecDepth 100000 in
set_option maxHeartbeats 2000000 in
theorem truncP_nil (p : Nat) (vi vw : Value) (j : Nat) (xs : List Value) (hone1 : ∀ x ∈ xs, x.oneCell' = true) (hj : j ≤ xs.length) (hn : xs = []) : Does Try.prog 123 [.pointer (some ⟨p, 1, none⟩), .int .i64 (((j : Nat) : Int))] [Blk p [vi, .slice none 0 0, vw] 213] (fun v L => ∃ v2, v2.oneCell' = true ∧ L = [Blk p [vi, v2, vw] 213, Own 171 1 v2 j (flatOf vcf (xs.take j))]) := by
 refine Does.enter 29 Try.func123 rfl rfl rfl fun W F => ?_
 show WPc _ _ _ _ _ [(0, .pointer (some ⟨p, 1, none⟩)), (1, .int .i64 (((j : Nat) : Int)))] (Blk p [vi, .slice none 0 0, vw] 213 :: F)
 refine WPc.sr ?_
 refine WP.val rfl rfl rfl (Val.assign rfl rfl) ?_
 refine WP.nx ?_
 refine WPc.seq ?_
 have hj0 : j = 0 := by rw [hn] at hj; simpa using hj
 subst hn
 refine WPD.s0 Ty.mixed ?_
 refine WPD.tM 0 rfl rfl rfl rfl (Val.move rfl rfl) ?_
 refine WPD.tM 1 rfl rfl rfl rfl (Val.move rfl rfl) ?_
 refine WPD.tM 2 rfl rfl rfl rfl (Val.nilCheck rfl rfl) ?_
 refine WPD.tL 3 rfl rfl rfl rfl (fun _ h => h) (Val.load rfl Ty.sc211 rfl (fun w h => h.cell 0 rfl rfl)) ?_
 refine WPD.tM 4 rfl rfl rfl rfl (Val.move rfl rfl) ?_
 refine WPD.tM 5 rfl rfl rfl rfl (Val.sliceNil (vlo := none) (vhi := some (.i64, ((j : Nat) : Int))) rfl Ty.sl211 rfl rfl rfl (by simp [bnd]; try omega) (by simp [bnd]; try omega)) ?_
 refine WPD.tM 6 rfl rfl rfl rfl (Val.move rfl rfl) ?_
 refine WPD.tM 7 rfl rfl rfl rfl (Val.nilCheck rfl rfl) ?_
 refine WPD.tL 8 rfl rfl rfl rfl (fun _ h => h) (Val.load rfl Ty.sc211 rfl (fun w h => h.cell 0 rfl rfl)) ?_
 refine WPD.tM 9 rfl rfl rfl rfl (Val.move rfl rfl) ?_
 refine WPD.tM 10 rfl rfl rfl rfl (Val.sliceNil (vlo := some (.i64, ((j : Nat) : Int))) (vhi := none) rfl Ty.sl211 rfl rfl rfl (by simp [bnd]; try omega) (by simp [bnd]; try omega)) ?_
 refine WPD.tM 11 rfl rfl rfl rfl (Val.nilCheck rfl rfl) ?_
 refine WPD.stepC0 12 (by kernel_rfl) rfl rfl rfl (by kernel_rfl) (Eff.store rfl Ty.sc211 rfl rfl rfl (by simp) st1) ?_
 rintro _ _ rfl
 refine ⟨_, (fun _ h => h), ?_⟩
 refine WPD.tM 13 rfl rfl rfl rfl (Val.assign rfl rfl) ?_
 refine WPD.done (by kernel_rfl) ?_
 refine Out.next ?_
 refine WPc.sr ?_
 refine WP.val rfl rfl rfl (Val.assign rfl rfl) ?_
 refine WP.nx ?_
 refine WPc.sr ?_
 refine WP.val rfl rfl rfl (Val.assign rfl rfl) ?_
 refine WP.nx ?_
 refine WPc.block ?_
 refine WPc.loop (ι := Nat) (fun i => i = 0) (fun i => [(4, .slice none 0 0), (6, .int .i64 (((i : Nat) : Int)))]) (fun i => Blk p [vi, .slice none 0 0, vw] 213 :: F) (fun i => 0) 0 rfl ((Sub.cons rfl (Sub.cons rfl Sub.nil))) (fun _ h => h) ?_
 rintro i hi
 show WPc _ _ _ _ _ [(4, .slice none 0 0), (6, .int .i64 (((i : Nat) : Int)))] _
 refine WPc.seq ?_
 refine WPc.sr ?_
 refine WP.val rfl rfl rfl (Val.move rfl rfl) ?_
 refine WP.val rfl rfl rfl (Val.move rfl rfl) ?_
 refine WP.val rfl rfl rfl (Val.len rfl Ty.sl211 rfl) ?_
 refine WP.val rfl rfl rfl (Val.lss rfl rfl rfl) ?_
 refine WP.nx ?_
 refine WPc.ifP rfl (fun h1 => ?_) (fun h1 => ?_)
 ·
  have h1 : (((i : Nat) : Int) < (0 : Int)) := h1
  exfalso; simp at *; omega
 ·
  have h1 : ¬ (((i : Nat) : Int) < (0 : Int)) := h1
  refine WPc.exit ?_
  refine Out.then_exit ?_
  refine Out.then_exit ?_
  refine Out.block_exit ?_
  refine Out.conv (fun w h => h.ownNil (e := 171) (k := 1)) ?_
  subst hj0
  refine Out.perm pl1 ?_
  exact Out.end0 (L' := _) Try.results123 ⟨.slice none 0 0, rfl, rfl⟩ (fun _ h => h)

set_option maxRecDepth 100000 in
set_option maxHeartbeats 2000000 in
theorem truncP_row (p : Nat) (vi vw : Value) (j : Nat) (xs : List Value) (hone1 : ∀ x ∈ xs, x.oneCell' = true) (hj : j ≤ xs.length) (b cap : Nat) (sp : List Value) (hn : xs.length ≤ cap) (hsp : sp.length = (cap - xs.length) * 1) (hcap : cap ≤ maxLen) (hx6 : xs.length ≤ 1000000) : Does Try.prog 123 [.pointer (some ⟨p, 1, none⟩), .int .i64 (((j : Nat) : Int))] [Blk p [vi, .slice (some ⟨b, 0, none⟩) xs.length cap, vw] 213, Blk b (flatOf vcf xs ++ sp) 171] (fun v L => ∃ v2, v2.oneCell' = true ∧ L = [Blk p [vi, v2, vw] 213, Own 171 1 v2 j (flatOf vcf (xs.take j))]) := by
 refine Does.enter 29 Try.func123 rfl rfl rfl fun W F => ?_
 show WPc _ _ _ _ _ [(0, .pointer (some ⟨p, 1, none⟩)), (1, .int .i64 (((j : Nat) : Int)))] (Blk p [vi, .slice (some ⟨b, 0, none⟩) xs.length cap, vw] 213 :: Blk b (flatOf vcf xs ++ sp) 171 :: F)
 refine WPc.sr ?_
 refine WP.val rfl rfl rfl (Val.assign rfl rfl) ?_
 refine WP.nx ?_
 refine WPc.seq ?_
 refine WPD.s0 Ty.mixed ?_
 refine WPD.tM 0 rfl rfl rfl rfl (Val.move rfl rfl) ?_
 refine WPD.tM 1 rfl rfl rfl rfl (Val.move rfl rfl) ?_
 refine WPD.tM 2 rfl rfl rfl rfl (Val.nilCheck rfl rfl) ?_
 refine WPD.tL 3 rfl rfl rfl rfl (fun _ h => h) (Val.load rfl Ty.sc211 rfl (fun w h => h.cell 0 rfl rfl)) ?_
 refine WPD.tM 4 rfl rfl rfl rfl (Val.move rfl rfl) ?_
 refine WPD.tM 5 rfl rfl rfl rfl (Val.slice (lo := 0) (hi := j) (j := 0) (vlo := none) (vhi := some (.i64, ((j : Nat) : Int))) rfl Ty.sl211 rfl rfl rfl (by simp [bnd]) (by simp [bnd]; try omega) (by omega) (by omega) (by omega) (by simp)) ?_
 refine WPD.tM 6 rfl rfl rfl rfl (Val.move rfl rfl) ?_
 refine WPD.tM 7 rfl rfl rfl rfl (Val.nilCheck rfl rfl) ?_
 refine WPD.tL 8 rfl rfl rfl rfl (fun _ h => h) (Val.load rfl Ty.sc211 rfl (fun w h => h.cell 0 rfl rfl)) ?_
 refine WPD.tM 9 rfl rfl rfl rfl (Val.move rfl rfl) ?_
 refine WPD.tM 10 rfl rfl rfl rfl (Val.slice (lo := j) (hi := xs.length) (j := (if cap = j then 0 else 0 + j)) (vlo := some (.i64, ((j : Nat) : Int))) (vhi := none) rfl Ty.sl211 rfl rfl rfl (by simp [bnd]; try omega) (by simp [bnd]; try omega) (by omega) (by omega) (by omega) (by simp)) ?_
 refine WPD.tM 11 rfl rfl rfl rfl (Val.nilCheck rfl rfl) ?_
 refine WPD.stepC0 12 (by kernel_rfl) rfl rfl rfl (by kernel_rfl) (Eff.store rfl Ty.sc211 rfl rfl rfl (by simp) st1) ?_
 rintro _ _ rfl
 refine ⟨_, (fun _ h => h), ?_⟩
 refine WPD.tM 13 rfl rfl rfl rfl (Val.assign rfl rfl) ?_
 refine WPD.done (by kernel_rfl) ?_
 refine Out.next ?_
 refine WPc.seq ?_
 by_cases hjn : j = xs.length
 ·
  have hz : xs.length - j = 0 := by omega
  refine WPc.region ?_
  refine WP.val rfl rfl rfl (Val.assign rfl rfl) ?_
  refine WP.nx ?_
  refine WPc.sr ?_
  refine WP.val rfl rfl rfl (Val.assign rfl rfl) ?_
  refine WP.nx ?_
  refine WPc.block ?_
  refine WPc.loop (ι := Nat) (fun i => i = 0) (fun i => [(4, .slice (some ⟨b, (if cap = j then 0 else 0 + j), none⟩) (xs.length - j) (cap - j)), (6, .int .i64 (((i : Nat) : Int)))]) (fun i => Blk p [vi, .slice (some ⟨b, 0, none⟩) j cap, vw] 213 :: Blk b (flatOf vcf xs ++ sp) 171 :: F) (fun i => 0) 0 rfl ((Sub.cons rfl (Sub.cons rfl Sub.nil))) (fun _ h => h) ?_
  rintro i hi
  show WPc _ _ _ _ _ [(4, .slice (some ⟨b, (if cap = j then 0 else 0 + j), none⟩) (xs.length - j) (cap - j)), (6, .int .i64 (((i : Nat) : Int)))] (Blk p [vi, .slice (some ⟨b, 0, none⟩) j cap, vw] 213 :: _)
  refine WPc.seq ?_
  refine WPc.sr ?_
  refine WP.val rfl rfl rfl (Val.move rfl rfl) ?_
  refine WP.val rfl rfl rfl (Val.move rfl rfl) ?_
  refine WP.val rfl rfl rfl (Val.len rfl Ty.sl211 rfl) ?_
  refine WP.val rfl rfl rfl (Val.lss rfl rfl rfl) ?_
  refine WP.nx ?_
  refine WPc.ifP rfl (fun h1 => ?_) (fun h1 => ?_)
  ·
   have h1 : (((i : Nat) : Int) < ((xs.length - j : Nat) : Int)) := h1
   exfalso; omega
  ·
   have h1 : ¬ (((i : Nat) : Int) < ((xs.length - j : Nat) : Int)) := h1
   refine WPc.exit ?_
   refine Out.then_exit ?_
   refine Out.then_exit ?_
   refine Out.block_exit ?_
   refine Out.perm pl1 ?_
   subst hjn
   refine Out.conv (fun w h => h.ownMk (m := xs.length) (k := 1) hn (flatOf_length vcf_len _) hsp hcap) ?_
   have ht : xs.take xs.length = xs := List.take_length
   exact Out.end0 (L' := _) Try.results123 ⟨_, rfl, rfl⟩ (fun w h => by rw [ht]; exact h.perm (List.Perm.swap _ _ _))
 ·
  have hjn2 : j < xs.length := by omega
  refine WPc.know 4 (.slice (some ⟨b, j, none⟩) (xs.length - j) (cap - j)) rfl (by rw [if_neg (by omega), Nat.zero_add]) ?_
  refine WPc.region ?_
  refine WP.val rfl rfl rfl (Val.assign rfl rfl) ?_
  refine WP.nx ?_
  refine WPc.sr ?_
  refine WP.val rfl rfl rfl (Val.assign rfl rfl) ?_
  refine WP.nx ?_
  refine WPc.block ?_
  refine WPc.loop (ι := Nat × List Value) (fun ⟨i, l2⟩ => l2.length = xs.length ∧ l2.take j = xs.take j ∧ i ≤ xs.length - j) (fun ⟨i, l2⟩ => [(4, .slice (some ⟨b, j, none⟩) (xs.length - j) (cap - j)), (6, .int .i64 (((i : Nat) : Int))), (5, .pointer none)]) (fun ⟨i, l2⟩ => Blk p [vi, .slice (some ⟨b, 0, none⟩) j cap, vw] 213 :: Blk b (flatOf vcf l2 ++ sp) 171 :: F) (fun ⟨i, l2⟩ => xs.length - j - i) (0, xs) ⟨rfl, rfl, Nat.zero_le _⟩ ((Sub.cons rfl (Sub.cons rfl (Sub.cons rfl Sub.nil)))) (fun _ h => h) ?_
  rintro ⟨i, l2⟩ ⟨hl2, ht2, hi⟩
  show WPc _ _ _ _ _ [(4, .slice (some ⟨b, j, none⟩) (xs.length - j) (cap - j)), (6, .int .i64 (((i : Nat) : Int))), (5, .pointer none)] (Blk p [vi, .slice (some ⟨b, 0, none⟩) j cap, vw] 213 :: Blk b (flatOf vcf l2 ++ sp) 171 :: _)
  refine WPc.seq ?_
  refine WPc.sr ?_
  refine WP.val rfl rfl rfl (Val.move rfl rfl) ?_
  refine WP.val rfl rfl rfl (Val.move rfl rfl) ?_
  refine WP.val rfl rfl rfl (Val.len rfl Ty.sl211 rfl) ?_
  refine WP.val rfl rfl rfl (Val.lss rfl rfl rfl) ?_
  refine WP.nx ?_
  refine WPc.ifP rfl (fun h2 => ?_) (fun h2 => ?_)
  ·
   have h2 : (((i : Nat) : Int) < ((xs.length - j : Nat) : Int)) := h2
   refine WPc.skip ?_
   refine Out.next ?_
   refine WPc.seq ?_
   refine WPc.block ?_
   refine WPc.region ?_
   iterate 3 (refine WP.val rfl rfl rfl (Val.move rfl rfl) ?_)
   refine WP.val rfl rfl rfl (Val.indexAddr (j := i) (q := j + i) rfl Ty.sl211 rfl rfl (by omega) (by omega) (by omega)) ?_
   refine WP.perm pl1 ?_
   refine WP.eff0 rfl rfl (Eff.store (C' := flatOf vcf (l2.set (j + i) VP) ++ sp) rfl Ty.sc171 rfl rfl rfl (by rw [List.length_append, flatOf_length vcf_len]; omega) (by rw [List.set_append_left _ _ (by rw [flat_vcf]; omega), flat_vcf, flat_vcf]; rfl)) ?_
   rintro _ _ rfl
   refine WP.nil ?_
   refine Out.block ?_
   refine Out.next ?_
   refine WPc.region ?_
   refine WP.val rfl rfl rfl (Val.move rfl rfl) ?_
   refine WP.val rfl rfl rfl (Val.add (z := ((i + 1 : Nat) : Int)) rfl rfl rfl ((w64 (by omega) (by omega)).trans (by omega))) ?_
   refine WP.val rfl rfl rfl (Val.assign rfl rfl) ?_
   refine WP.nil ?_
   refine Out.perm pl1 ?_
   refine Out.again (i + 1, l2.set (j + i) VP) ?_ ?_ ?_ ?_
   ·
    exact ⟨by rw [List.length_set]; exact hl2, by rw [List.take_set_of_le (by omega)]; exact ht2, by omega⟩
   ·
    (dsimp only; omega)
   ·
    exact (Sub.cons rfl (Sub.cons rfl (Sub.cons rfl Sub.nil)))
   ·
    exact (fun _ h => h)
  ·
   have h2 : ¬ (((i : Nat) : Int) < ((xs.length - j : Nat) : Int)) := h2
   refine WPc.exit ?_
   refine Out.then_exit ?_
   refine Out.then_exit ?_
   refine Out.block_exit ?_
   refine Out.perm pl1 ?_
   refine Out.conv (fun w h => Sat.ownMk (e := 171) (k := 1) (b := b) (m := j) (cap := cap) (xs := flatOf vcf (xs.take j)) (sp := flatOf vcf (l2.drop j) ++ sp) (by rw [← List.append_assoc, ← ht2, ← flatOf_append, List.take_append_drop]; exact h) (by omega) (by rw [flatOf_length vcf_len, List.length_take, Nat.min_eq_left hj]) (by rw [List.length_append, flatOf_length vcf_len, List.length_drop, hl2, hsp, ← Nat.add_mul]; congr 1; omega) hcap) ?_
   exact Out.end0 (L' := _) Try.results123 ⟨_, rfl, rfl⟩ (fun w h => h.perm (List.Perm.swap _ _ _))

theorem truncP (p : Nat) (vi vc vw : Value) (j : Nat) (xs : List Value) (hone1 : ∀ x ∈ xs, x.oneCell' = true) (hj : j ≤ xs.length) (hx6 : xs.length ≤ 1000000) : Does Try.prog 123 [.pointer (some ⟨p, 1, none⟩), .int .i64 (((j : Nat) : Int))] [Blk p [vi, vc, vw] 213, Own 171 1 vc xs.length (flatOf vcf xs)] (fun v L => ∃ v2, v2.oneCell' = true ∧ L = [Blk p [vi, v2, vw] 213, Own 171 1 v2 j (flatOf vcf (xs.take j))]) := by
 intro W F w hs
 rcases (hs.perm pl1).own with ⟨rfl, e0, -, h2⟩ | ⟨b, cap, sp, rfl, q1, q2, q3, q4, q5⟩
 ·
  exact truncP_nil p vi vw j xs hone1 hj (List.eq_nil_of_length_eq_zero e0) W F w h2
 ·
  exact truncP_row p vi vw j xs hone1 hj b cap sp q1 (by simpa using q3) q4 hx6 W F w (q5.perm pl1)
set_option maxRecDepth 100000 in
set_option maxHeartbeats 2000000 in
theorem insatE (p : Nat) (vi vc vw : Value) (xs : List El)  (x : El)  (i : Nat) (hi : i ≤ xs.length) (hx6 : xs.length ≤ 1000000) : Does Try.prog 125 [.pointer (some ⟨p, 0, none⟩), .int .i64 (((i : Nat) : Int)), .agg #[.int .i64 (x.k), .int .i64 (x.v)]] [Blk p [vi, vc, vw] 213, Own 55 2 vi xs.length (flatOf El.cells xs)] (fun v L => ∃ v2, v2.oneCell' = true ∧ L = [Blk p [v2, vc, vw] 213, Own 55 2 v2 (xs.length + 1) (flatOf El.cells (xs.take i ++ x :: xs.drop i))]) := by
 refine Does.enter 39 Try.func125 rfl rfl rfl fun W F => ?_
 show WPc _ _ _ _ _ [(0, .pointer (some ⟨p, 0, none⟩)), (1, .int .i64 (((i : Nat) : Int))), (2, .agg #[.int .i64 (x.k), .int .i64 (x.v)])] (Blk p [vi, vc, vw] 213 :: Own 55 2 vi xs.length (flatOf El.cells xs) :: F)
 refine WPc.sr ?_
 refine WP.eff rfl rfl rfl (Eff.box (C := [.int .i64 (x.k), .int .i64 (x.v)]) rfl rfl rfl) ?_
 rintro _ _ ⟨b1, rfl, rfl⟩
 refine WP.nx ?_
 refine WPc.sr ?_
 refine WP.eff rfl rfl rfl (Eff.alloc rfl Ty.z55) ?_
 rintro _ _ ⟨b2, rfl, rfl⟩
 refine WP.nx ?_
 refine WPc.seq ?_
 refine WPD.start (Sat W [Blk p [vi, vc, vw] 213, Blk b2 [.int .i64 0, .int .i64 0] 55]) Ty.mixed ?_
 refine WPD.tS 0 rfl rfl rfl rfl (fun w h => ((h.perm pl2)).dropEnd (L := [_, _])) (Val.move rfl rfl) ?_
 refine WPD.tS 1 rfl rfl rfl rfl (fun w h => ((h.perm pl2)).dropEnd (L := [_, _])) (Val.move rfl rfl) ?_
 refine WPD.tS 2 rfl rfl rfl rfl (fun w h => ((h.perm pl2)).dropEnd (L := [_, _])) (Val.nilCheck rfl rfl) ?_
 refine WPD.tL 3 rfl rfl rfl rfl (fun w h => ((h.perm pl2)).dropEnd (L := [_, _])) (Val.load rfl Ty.sc210 rfl (fun w h => h.cell 0 rfl rfl)) ?_
 refine WPD.tL 4 rfl rfl rfl rfl (fun w h => ((h.perm pl2)).dropEnd (L := [_, _])) (Val.loadAgg (cs := [.int .i64 0, .int .i64 0]) rfl Ty.ag55 rfl rfl (fun w h => h.range 1 rfl rfl)) ?_
 refine WPD.step 5 (by kernel_rfl) rfl rfl rfl rfl (Eff.mkSlice (C := [.int .i64 0, .int .i64 0]) rfl Ty.sl210 rfl (fun _ => by kernel_rfl)) ?_
 rintro _ _ ⟨b3, rfl, rfl⟩
 refine ⟨(fun w h => (((h.perm pl1).perm pl3)).dropEnd (L := [_, _])), ?_⟩
 refine WPD.perm pl4 ?_
 refine WPD.stepC 6 (by kernel_rfl) rfl rfl rfl rfl (by kernel_rfl) (Eff.append (m := 1) (n0 := xs.length) (news := [.int .i64 0, .int .i64 0]) rfl Ty.sl210 Ty.z55 rfl rfl rfl (.slice Ty.sl210 rfl rfl (fun w h => cells_range (h.range 1 rfl rfl))) (by omega) (by omega)) ?_
 rintro v4 _ ⟨onev4, rfl⟩
 refine ⟨_, (fun _ h => h), ?_⟩
 refine WPD.tM 7 rfl rfl rfl rfl (Val.nilCheck rfl rfl) ?_
 refine WPD.perm pl4 ?_
 refine WPD.stepC0 8 (by kernel_rfl) rfl rfl rfl (by kernel_rfl) (Eff.store rfl Ty.sc210 rfl rfl onev4 (by simp) st0) ?_
 rintro _ _ rfl
 refine ⟨_, (fun _ h => h), ?_⟩
 refine WPD.done (by kernel_rfl) ?_
 refine Out.next ?_
 refine WPc.seq ?_
 refine WPc.seq ?_
 refine WPc.perm pl1 ?_
 refine WPc.c1 (B := Own 55 2 v4 (xs.length + 1) (flatOf El.cells (xs ++ [El0]))) (fun w h => by rw [flatOf_append, flatOf_one]; exact h) ?_
 refine WPc.open (fun w h => h.ownPos (by omega)) ?_
 rintro ⟨g5, cg5, spg5⟩
 refine WPc.pure (fun hvg5 => ?_)
 obtain ⟨rfl, hng5, hlg5, hsg5, hcg5⟩ := hvg5
 dsimp only at hng5 hlg5 hsg5 hcg5
 show WPc _ _ _ _ _ _ (Blk g5 (flatOf El.cells (xs ++ [El0]) ++ spg5) 55 :: Blk p [.slice (some ⟨g5, 0, none⟩) (xs.length + 1) cg5, vc, vw] 213 :: Blk b3 [.int .i64 0, .int .i64 0] 55 :: Blk b2 [.int .i64 0, .int .i64 0] 55 :: Blk b1 [.int .i64 (x.k), .int .i64 (x.v)] 55 :: _)
 refine WPc.region ?_
 refine WP.val rfl rfl rfl (Val.move rfl rfl) ?_
 refine WP.val rfl rfl rfl (Val.move rfl rfl) ?_
 refine WP.val rfl rfl rfl (Val.nilCheck rfl rfl) ?_
 refine WP.val rfl rfl rfl (Val.load rfl Ty.sc210 rfl (fun w h => h.cell 1 rfl rfl)) ?_
 refine WP.val rfl rfl rfl (Val.len rfl Ty.sl210 rfl) ?_
 refine WP.val rfl rfl rfl (Val.lss rfl rfl rfl) ?_
 refine WP.nx ?_
 refine WPc.ifP rfl (fun h1 => ?_) (fun h1 => ?_)
 ·
  have h1 : (((i : Nat) : Int) < ((xs.length + 1 : Nat) : Int)) := h1
  refine WPD.s0 Ty.mixed ?_
  refine WPD.tM 0 rfl rfl rfl rfl (Val.move rfl rfl) ?_
  refine WPD.tM 1 rfl rfl rfl rfl (Val.nilCheck rfl rfl) ?_
  refine WPD.tL 2 rfl rfl rfl rfl (fun _ h => h) (Val.load rfl Ty.sc210 rfl (fun w h => h.cell 1 rfl rfl)) ?_
  refine WPD.tM 3 rfl rfl rfl rfl (Val.move rfl rfl) ?_
  refine WPD.tM 4 rfl rfl rfl rfl (Val.add (z := ((i + 1 : Nat) : Int)) rfl rfl rfl ((w64 (by omega) (by omega)).trans (by omega))) ?_
  refine WPD.tM 5 rfl rfl rfl rfl (Val.slice (lo := i + 1) (hi := xs.length + 1) (j := (if cg5 = i + 1 then 0 else 0 + (i + 1) * 2)) (vlo := some (.i64, ((i + 1 : Nat) : Int))) (vhi := none) rfl Ty.sl210 rfl rfl rfl (by simp [bnd]; try omega) (by simp [bnd]; try omega) (by omega) (by omega) (by omega) rfl) ?_
  refine WPD.tM 6 rfl rfl rfl rfl (Val.move rfl rfl) ?_
  refine WPD.tM 7 rfl rfl rfl rfl (Val.nilCheck rfl rfl) ?_
  refine WPD.tL 8 rfl rfl rfl rfl (fun _ h => h) (Val.load rfl Ty.sc210 rfl (fun w h => h.cell 1 rfl rfl)) ?_
  refine WPD.tM 9 rfl rfl rfl rfl (Val.move rfl rfl) ?_
  refine WPD.tM 10 rfl rfl rfl rfl (Val.slice (lo := i) (hi := xs.length + 1) (j := (if cg5 = i then 0 else 0 + i * 2)) (vlo := some (.i64, ((i : Nat) : Int))) (vhi := none) rfl Ty.sl210 rfl rfl rfl (by simp [bnd]; try omega) (by simp [bnd]; try omega) (by omega) (by omega) (by omega) rfl) ?_
  refine WPD.stepC 11 (by kernel_rfl) rfl rfl rfl rfl (by kernel_rfl) (Eff.copyIn (q := xs.length - i) (cs := flatOf El.cells (xs.drop i)) (C' := flatOf El.cells ((xs ++ [El0]).take (i + 1) ++ xs.drop i) ++ spg5) rfl Ty.sl210 rfl rfl ((Nat.min_eq_right (by omega)).trans (by omega)) ((flatOf_length El.len _).trans (by rw [List.length_drop])) (flat_range2 El.len (show xs.drop i = [] ∨ (if cg5 = i then 0 else 0 + i * 2) = i * 2 from .inr (by rw [if_neg (by omega)]; omega)) (by rw [List.drop_append_of_le_length hi, List.take_left])) (el_one _) (by rw [List.length_append, flatOf_length El.len, flatOf_length El.len, List.length_append, List.length_drop, List.length_singleton]; split <;> omega) (flat_copy El.len (show xs.drop i = [] ∨ (if cg5 = i + 1 then 0 else 0 + (i + 1) * 2) = (i + 1) * 2 by by_cases hq : cg5 = i + 1; exact .inl (List.drop_eq_nil_of_le (by omega)); exact .inr (by rw [if_neg hq]; omega)) (by rw [List.length_append, List.length_drop, List.length_singleton]; omega) (by rw [show (xs ++ [El0]).drop (i + 1 + (xs.drop i).length) = [] from List.drop_eq_nil_of_le (by rw [List.length_append, List.length_drop, List.length_singleton]; omega), List.append_nil]))) ?_
  rintro _ _ ⟨rfl, rfl⟩
  refine ⟨_, (fun _ h => h), ?_⟩
  refine WPD.done (by kernel_rfl) ?_
  refine Out.next ?_
  refine WPD.s0 Ty.mixed ?_
  refine WPD.tM 0 rfl rfl rfl rfl (Val.move rfl rfl) ?_
  refine WPD.tM 1 rfl rfl rfl rfl (Val.nilCheck rfl rfl) ?_
  refine WPD.tL 2 rfl rfl rfl rfl (fun _ h => h) (Val.load rfl Ty.sc210 rfl (fun w h => h.cell 1 rfl rfl)) ?_
  refine WPD.tM 3 rfl rfl rfl rfl (Val.move rfl rfl) ?_
  refine WPD.tL 4 rfl rfl rfl rfl (fun _ h => h) (Val.loadAgg (cs := [.int .i64 (x.k), .int .i64 (x.v)]) rfl Ty.ag55 rfl rfl (fun w h => h.range 4 rfl rfl)) ?_
  refine WPD.tM 5 rfl rfl rfl rfl (Val.indexAddr (j := i) (q := i * 2) rfl Ty.sl210 rfl rfl (by omega) (by omega) (by omega)) ?_
  refine WPD.stepC0 6 (by kernel_rfl) rfl rfl rfl (by kernel_rfl) (Eff.storeAgg (cs := [.int .i64 (x.k), .int .i64 (x.v)]) (C' := flatOf El.cells (xs.take i ++ x :: xs.drop i) ++ spg5) rfl Ty.ag55 rfl rfl rfl rfl (by rw [List.length_append, flatOf_length El.len, List.length_append, List.length_take, List.length_append, List.length_drop, List.length_singleton]; omega) (by have h9 := flat_set El.len ((xs ++ [El0]).take (i + 1) ++ xs.drop i) i x spg5 (by rw [List.length_append, List.length_take, List.length_append, List.length_drop, List.length_singleton]; omega); rw [ins_list hi] at h9; exact h9)) ?_
  rintro _ _ rfl
  refine ⟨_, (fun _ h => h), ?_⟩
  refine WPD.done (by kernel_rfl) ?_
  refine Out.conv (fun w h => Sat.ownMk (e := 55) (k := 2) (b := g5) (m := (xs.length + 1)) (cap := cg5) (xs := flatOf El.cells (xs.take i ++ x :: xs.drop i)) (sp := spg5) (by exact h) (by omega) (by rw [flatOf_length El.len, List.length_append, List.length_take, List.length_cons, List.length_drop, Nat.min_eq_left hi]; congr 1; omega) hsg5 hcg5) ?_
  iterate 3 (refine Out.perm pl2 ?_; refine Out.drop ?_)
  refine Out.perm pl1 ?_
  exact Out.end0 (L' := _) Try.results125 ⟨_, rfl, rfl⟩ (fun _ h => h)
 ·
  have h1 : ¬ (((i : Nat) : Int) < ((xs.length + 1 : Nat) : Int)) := h1
  exfalso; omega
set_option maxRecDepth 100000 in
set_option maxHeartbeats 2000000 in
theorem insatP (p : Nat) (vi vc vw : Value) (xs : List Value) (hone1 : ∀ x ∈ xs, x.oneCell' = true) (x : Value) (hx1 : x.oneCell' = true) (i : Nat) (hi : i ≤ xs.length) (hx6 : xs.length ≤ 1000000) : Does Try.prog 138 [.pointer (some ⟨p, 1, none⟩), .int .i64 (((i : Nat) : Int)), x] [Blk p [vi, vc, vw] 213, Own 171 1 vc xs.length (flatOf vcf xs)] (fun v L => ∃ v2, v2.oneCell' = true ∧ L = [Blk p [vi, v2, vw] 213, Own 171 1 v2 (xs.length + 1) (flatOf vcf (xs.take i ++ x :: xs.drop i))]) := by
 refine Does.enter 39 Try.func138 rfl rfl rfl fun W F => ?_
 show WPc _ _ _ _ _ [(0, .pointer (some ⟨p, 1, none⟩)), (1, .int .i64 (((i : Nat) : Int))), (2, x)] (Blk p [vi, vc, vw] 213 :: Own 171 1 vc xs.length (flatOf vcf xs) :: F)
 refine WPc.sr ?_
 refine WP.val rfl rfl rfl (Val.assign rfl rfl) ?_
 refine WP.nx ?_
 refine WPc.sr ?_
 refine WP.val rfl rfl rfl (Val.move rfl rfl) ?_
 refine WP.val rfl rfl rfl (Val.move rfl rfl) ?_
 refine WP.val rfl rfl rfl (Val.nilCheck rfl rfl) ?_
 refine WP.val rfl rfl rfl (Val.load rfl Ty.sc211 rfl (fun w h => h.cell 0 rfl rfl)) ?_
 refine WP.val rfl rfl rfl (Val.move rfl rfl) ?_
 refine WP.eff rfl rfl rfl (Eff.mkSlice (C := [.pointer none]) rfl Ty.sl211 rfl (fun _ => by kernel_rfl)) ?_
 rintro _ _ ⟨b1, rfl, rfl⟩
 refine WP.perm pl2 ?_
 refine WP.eff rfl rfl rfl (Eff.append (m := 1) (n0 := xs.length) (news := [.pointer none]) rfl Ty.sl211 Ty.z171 rfl rfl rfl (.slice Ty.sl211 rfl rfl (fun w h => cells_range (h.range 1 rfl rfl))) (by omega) (by omega)) ?_
 rintro v2 _ ⟨onev2, rfl⟩
 refine WP.val rfl rfl rfl (Val.nilCheck rfl rfl) ?_
 refine WP.perm pl2 ?_
 refine WP.eff0 rfl rfl (Eff.store rfl Ty.sc211 rfl rfl onev2 (by simp) st1) ?_
 rintro _ _ rfl
 refine WP.nx ?_
 refine WPc.seq ?_
 refine WPc.seq ?_
 refine WPc.perm pl1 ?_
 refine WPc.c1 (B := Own 171 1 v2 (xs.length + 1) (flatOf vcf (xs ++ [VP]))) (fun w h => by rw [flatOf_append, flatOf_one]; exact h) ?_
 refine WPc.open (fun w h => h.ownPos (by omega)) ?_
 rintro ⟨g3, cg3, spg3⟩
 refine WPc.pure (fun hvg3 => ?_)
 obtain ⟨rfl, hng3, hlg3, hsg3, hcg3⟩ := hvg3
 dsimp only at hng3 hlg3 hsg3 hcg3
 show WPc _ _ _ _ _ _ (Blk g3 (flatOf vcf (xs ++ [VP]) ++ spg3) 171 :: Blk p [vi, .slice (some ⟨g3, 0, none⟩) (xs.length + 1) cg3, vw] 213 :: Blk b1 [.pointer none] 171 :: _)
 refine WPc.region ?_
 refine WP.val rfl rfl rfl (Val.move rfl rfl) ?_
 refine WP.val rfl rfl rfl (Val.move rfl rfl) ?_
 refine WP.val rfl rfl rfl (Val.nilCheck rfl rfl) ?_
 refine WP.val rfl rfl rfl (Val.load rfl Ty.sc211 rfl (fun w h => h.cell 1 rfl rfl)) ?_
 refine WP.val rfl rfl rfl (Val.len rfl Ty.sl211 rfl) ?_
 refine WP.val rfl rfl rfl (Val.lss rfl rfl rfl) ?_
 refine WP.nx ?_
 refine WPc.ifP rfl (fun h1 => ?_) (fun h1 => ?_)
 ·
  have h1 : (((i : Nat) : Int) < ((xs.length + 1 : Nat) : Int)) := h1
  refine WPD.s0 Ty.mixed ?_
  refine WPD.tM 0 rfl rfl rfl rfl (Val.move rfl rfl) ?_
  refine WPD.tM 1 rfl rfl rfl rfl (Val.nilCheck rfl rfl) ?_
  refine WPD.tL 2 rfl rfl rfl rfl (fun _ h => h) (Val.load rfl Ty.sc211 rfl (fun w h => h.cell 1 rfl rfl)) ?_
  refine WPD.tM 3 rfl rfl rfl rfl (Val.move rfl rfl) ?_
  refine WPD.tM 4 rfl rfl rfl rfl (Val.add (z := ((i + 1 : Nat) : Int)) rfl rfl rfl ((w64 (by omega) (by omega)).trans (by omega))) ?_
  refine WPD.tM 5 rfl rfl rfl rfl (Val.slice (lo := i + 1) (hi := xs.length + 1) (j := (if cg3 = i + 1 then 0 else 0 + (i + 1))) (vlo := some (.i64, ((i + 1 : Nat) : Int))) (vhi := none) rfl Ty.sl211 rfl rfl rfl (by simp [bnd]; try omega) (by simp [bnd]; try omega) (by omega) (by omega) (by omega) (by simp)) ?_
  refine WPD.tM 6 rfl rfl rfl rfl (Val.move rfl rfl) ?_
  refine WPD.tM 7 rfl rfl rfl rfl (Val.nilCheck rfl rfl) ?_
  refine WPD.tL 8 rfl rfl rfl rfl (fun _ h => h) (Val.load rfl Ty.sc211 rfl (fun w h => h.cell 1 rfl rfl)) ?_
  refine WPD.tM 9 rfl rfl rfl rfl (Val.move rfl rfl) ?_
  refine WPD.tM 10 rfl rfl rfl rfl (Val.slice (lo := i) (hi := xs.length + 1) (j := (if cg3 = i then 0 else 0 + i)) (vlo := some (.i64, ((i : Nat) : Int))) (vhi := none) rfl Ty.sl211 rfl rfl rfl (by simp [bnd]; try omega) (by simp [bnd]; try omega) (by omega) (by omega) (by omega) (by simp)) ?_
  refine WPD.stepC 11 (by kernel_rfl) rfl rfl rfl rfl (by kernel_rfl) (Eff.copyIn (q := xs.length - i) (cs := flatOf vcf (xs.drop i)) (C' := flatOf vcf ((xs ++ [VP]).take (i + 1) ++ xs.drop i) ++ spg3) rfl Ty.sl211 rfl rfl ((Nat.min_eq_right (by omega)).trans (by omega)) ((flatOf_length vcf_len _).trans (by rw [List.length_drop])) (flat_range2 vcf_len (show xs.drop i = [] ∨ (if cg3 = i then 0 else 0 + i) = i * 1 from .inr (by rw [if_neg (by omega)]; omega)) (by rw [List.drop_append_of_le_length hi, List.take_left])) (v_one (fun x hx => hone1 x (List.mem_of_mem_drop hx))) (by rw [List.length_append, flatOf_length vcf_len, flatOf_length vcf_len, List.length_append, List.length_drop, List.length_singleton]; split <;> omega) (flat_copy vcf_len (show xs.drop i = [] ∨ (if cg3 = i + 1 then 0 else 0 + (i + 1)) = (i + 1) * 1 by by_cases hq : cg3 = i + 1; exact .inl (List.drop_eq_nil_of_le (by omega)); exact .inr (by rw [if_neg hq]; omega)) (by rw [List.length_append, List.length_drop, List.length_singleton]; omega) (by rw [show (xs ++ [VP]).drop (i + 1 + (xs.drop i).length) = [] from List.drop_eq_nil_of_le (by rw [List.length_append, List.length_drop, List.length_singleton]; omega), List.append_nil]))) ?_
  rintro _ _ ⟨rfl, rfl⟩
  refine ⟨_, (fun _ h => h), ?_⟩
  refine WPD.done (by kernel_rfl) ?_
  refine Out.next ?_
  refine WPc.region ?_
  refine WP.val rfl rfl rfl (Val.move rfl rfl) ?_
  refine WP.val rfl rfl rfl (Val.nilCheck rfl rfl) ?_
  refine WP.val rfl rfl rfl (Val.load rfl Ty.sc211 rfl (fun w h => h.cell 1 rfl rfl)) ?_
  refine WP.val rfl rfl rfl (Val.move rfl rfl) ?_
  refine WP.val rfl rfl rfl (Val.move rfl rfl) ?_
  refine WP.val rfl rfl rfl (Val.indexAddr (j := i) (q := i) rfl Ty.sl211 rfl rfl (by omega) (by omega) (by omega)) ?_
  refine WP.eff0 rfl rfl (Eff.store (C' := flatOf vcf (xs.take i ++ x :: xs.drop i) ++ spg3) rfl Ty.sc171 rfl rfl hx1 (by rw [List.length_append, flatOf_length vcf_len, List.length_append, List.length_take, List.length_append, List.length_drop, List.length_singleton]; omega) (by rw [List.set_append_left _ _ (by rw [flat_vcf, List.length_append, List.length_take, List.length_append, List.length_drop, List.length_singleton]; omega), flat_vcf, flat_vcf, ins_list hi])) ?_
  rintro _ _ rfl
  refine WP.nil ?_
  refine Out.conv (fun w h => Sat.ownMk (e := 171) (k := 1) (b := g3) (m := (xs.length + 1)) (cap := cg3) (xs := flatOf vcf (xs.take i ++ x :: xs.drop i)) (sp := spg3) (by exact h) (by omega) (by rw [flatOf_length vcf_len, List.length_append, List.length_take, List.length_cons, List.length_drop, Nat.min_eq_left hi]; congr 1; omega) hsg3 hcg3) ?_
  refine Out.perm pl2 ?_
  refine Out.drop ?_
  refine Out.perm pl1 ?_
  exact Out.end0 (L' := _) Try.results138 ⟨_, rfl, rfl⟩ (fun _ h => h)
 ·
  have h1 : ¬ (((i : Nat) : Int) < ((xs.length + 1 : Nat) : Int)) := h1
  exfalso; omega

end Go.Proofs.Ythmkdioafjmclaa.Bt
