import Derived.Test.YthmkdioafjmclaaHt
import Derived.Test.YthmkdioafjmclaaSlX
namespace Go.Proofs.Ythmkdioafjmclaa.Hu
open Go.RowKit Go.Proofs.Ythmkdioafjmclaa Go.Proofs.Ythmkdioafjmclaa.Sl Go.Proofs.Ythmkdioafjmclaa.Hc Go.Proofs.Ythmkdioafjmclaa.Hp Go.Proofs.Ythmkdioafjmclaa.Hm Go.Proofs.Ythmkdioafjmclaa.Hb Go.Proofs.Ythmkdioafjmclaa.Hk Go.Proofs.Ythmkdioafjmclaa.Hr Go.Proofs.Ythmkdioafjmclaa.Hy Go.Proofs.Ythmkdioafjmclaa.Hn Go.Proofs.Ythmkdioafjmclaa.Hw Go.Proofs.Ythmkdioafjmclaa.Hl Go.Proofs.Ythmkdioafjmclaa.Hz Go.Proofs.Ythmkdioafjmclaa.Ho Go.Proofs.Ythmkdioafjmclaa.Hx Go.Proofs.Ythmkdioafjmclaa.Hs Go.Proofs.Ythmkdioafjmclaa.Hh Go.Proofs.Ythmkdioafjmclaa.Hi Go.Proofs.Ythmkdioafjmclaa.Hj Go.Proofs.Ythmkdioafjmclaa.Ht
set_option linter.unusedVariables false
set_option linter.unusedSimpArgs false
set_option linter.unusedSectionVars false


def kk (l : List Rv) : Nat → List Rv
  | 0 => []
  | i + 1 => kk l i ++ l
theorem kk_len (l : List Rv) : ∀ i, (kk l i).length = i * l.length
  | 0 => by simp [kk]
  | i + 1 => by simp only [kk, List.length_append, kk_len l i, Nat.add_mul]; omega
theorem flat_kk (l : List Rv) (i : Nat) : flatOf Rv.cells (kk l (i + 1)) = flatOf Rv.cells (kk l i) ++ flatOf Rv.cells l := by simp [kk, flatOf]
theorem rv_one (l : List Rv) : (flatOf Rv.cells l).all (·.oneCell') = true := by
  rw [List.all_eq_true]; intro v hv
  obtain ⟨x, -, hx⟩ := List.mem_flatMap.1 hv
  simp only [Rv.cells, List.mem_cons, List.not_mem_nil, or_false] at hx
  rcases hx with rfl | rfl <;> rfl
theorem own_fresh {W w : World} {b cap n : Nat} {sp : List Value} {L : List HProp} (hc : cap ≤ maxLen) (hl : sp.length = cap * 2) (h : Sat W (Blk b sp 47 :: L) w) : Sat W (Own 47 2 (.slice (some ⟨b, 0, none⟩) 0 cap) 0 [] :: L) w :=
  Sat.ownMk (xs := []) (sp := sp) h (Nat.zero_le _) (by simp) (by simpa using hl) hc
set_option maxRecDepth 100000 in
set_option maxHeartbeats 1000000 in
theorem grow_spec (n : Nat) (h0 : 0 < n) (hn : n ≤ 100000) : Does Try.prog 48 [.slice none 0 0, .int .i64 (((n : Nat) : Int))] [] (fun v L => v = v ∧ L = [Own 47 2 v 0 []]) := by
  refine Does.enter 27 Try.func48 rfl rfl rfl fun W F => ?_
  show WPc _ _ _ _ _ [(0, .slice none 0 0), (1, .int .i64 (((n : Nat) : Int)))] (F)
  refine WPc.seq ?_
  refine WPc.region ?_
  refine WP.val rfl rfl rfl (Val.assign rfl rfl) ?_
  refine WP.nil ?_
  refine Out.next ?_
  refine WPc.seq ?_
  refine WPc.seq ?_
  refine WPc.region ?_
  refine WP.val rfl rfl rfl (Val.move rfl rfl) ?_
  refine WP.val rfl rfl rfl (Val.lss rfl rfl rfl) ?_
  refine WP.nil ?_
  refine Out.next ?_
  refine WPc.ifP rfl (fun h1 => ?_) (fun h1 => ?_)
  · skip
    have h1 : (((n : Nat) : Int) < (0 : Int)) := h1
    exfalso; omega
  · skip
    have h1 : ¬ (((n : Nat) : Int) < (0 : Int)) := h1
    refine WPc.skip ?_
    refine Out.next ?_
    refine WPc.seq ?_
    refine WPc.seq ?_
    refine WPc.region ?_
    refine WP.val rfl rfl rfl (Val.move rfl rfl) ?_
    refine WP.val rfl rfl rfl (Val.move rfl rfl) ?_
    refine WP.val rfl rfl rfl (Val.cap rfl Ty.sl41 rfl) ?_
    refine WP.val rfl rfl rfl (Val.move rfl rfl) ?_
    refine WP.val rfl rfl rfl (Val.len rfl Ty.sl41 rfl) ?_
    refine WP.val rfl rfl rfl (Val.sub (z := 0) rfl rfl rfl (by rfl)) ?_
    refine WP.val rfl rfl rfl (Val.sub (z := ((n - 0 : Nat) : Int)) rfl rfl rfl ((w64 (by omega) (by omega)).trans (by omega))) ?_
    refine WP.val rfl rfl rfl (Val.assign rfl rfl) ?_
    refine WP.nil ?_
    refine Out.next ?_
    refine WPc.seq ?_
    refine WPc.region ?_
    refine WP.val rfl rfl rfl (Val.move rfl rfl) ?_
    refine WP.val rfl rfl rfl (Val.gtr rfl rfl rfl) ?_
    refine WP.nil ?_
    refine Out.next ?_
    refine WPc.ifP rfl (fun h2 => ?_) (fun h2 => ?_)
    · skip
      have h2 : ((0 : Int) < ((n - 0 : Nat) : Int)) := h2
      refine WPc.region ?_
      refine WP.val rfl rfl rfl (Val.move rfl rfl) ?_
      refine WP.val rfl rfl rfl (Val.move rfl rfl) ?_
      refine WP.val rfl rfl rfl (Val.cap rfl Ty.sl41 rfl) ?_
      refine WP.val rfl rfl rfl (Val.sliceNil (vlo := none) (vhi := some (.i64, (0 : Int))) rfl Ty.sl41 rfl rfl rfl (by simp [bnd]; try omega) (by simp [bnd]; try omega)) ?_
      refine WP.val rfl rfl rfl (Val.move rfl rfl) ?_
      refine WP.eff rfl rfl rfl (Eff.appendZeros (m := n - 0) rfl Ty.sl41 Ty.z47 rfl Ty.ik3 rfl rfl rfl (by omega) (by omega) (by omega) (by omega)) ?_
      rintro _ _ ⟨b1, capb1, spb1, rfl, hmb1, hcb1, hlb1, rfl⟩
      refine WP.val rfl rfl rfl (Val.move rfl rfl) ?_
      refine WP.val rfl rfl rfl (Val.len rfl Ty.sl41 rfl) ?_
      refine WP.val rfl rfl rfl (Val.slice (lo := 0) (hi := 0) (j := 0) (vlo := none) (vhi := some (.i64, (0 : Int))) rfl Ty.sl41 rfl rfl rfl (by simp [bnd]) (by simp [bnd]; try omega) (by omega) (by omega) (by omega) (by simp)) ?_
      refine WP.val rfl rfl rfl (Val.assign rfl rfl) ?_
      refine WP.nil ?_
      refine Out.next ?_
      refine WPc.seq ?_
      refine WPc.region ?_
      refine WP.val rfl rfl rfl (Val.move rfl rfl) ?_
      refine WP.val rfl rfl rfl (Val.assign rfl rfl) ?_
      refine WP.nil ?_
      refine Out.next ?_
      refine WPc.ret ?_
      refine Out.conv (fun w h => own_fresh (n := 0) hcb1 hlb1 h) ?_
      exact Out.ret1 (L' := _) Try.results48 rfl ⟨rfl, rfl⟩ (fun _ h => h)
    · skip
      have h2 : ¬ ((0 : Int) < ((n - 0 : Nat) : Int)) := h2
      exfalso; omega
set_option maxRecDepth 100000 in
set_option maxHeartbeats 1000000 in
theorem concat_spec (A : HProp) (l : List Rv) (hl0 : 0 < l.length) (hl : l.length ≤ 1000) (b0 o0 c0 : Nat) (hr : ∀ w, Holds A w → ∀ i x, l[i]? = some x → w.rangeAt b0 (o0 + i * 2) (Rv.cells x)) (bb : Nat) : Does Try.prog 20 [.slice (some ⟨bb, 0, none⟩) 2 2] [Blk bb [.slice (some ⟨b0, o0, none⟩) l.length c0, .slice (some ⟨b0, o0, none⟩) l.length c0] 41, A] (fun v L => v = v ∧ L = [Own 47 2 v (kk l 2).length (flatOf Rv.cells (kk l 2)), A]) := by
  refine Does.enter 36 Try.func20 rfl rfl rfl fun W F => ?_
  show WPc _ _ _ _ _ [(0, .slice (some ⟨bb, 0, none⟩) 2 2)] (Blk bb [.slice (some ⟨b0, o0, none⟩) l.length c0, .slice (some ⟨b0, o0, none⟩) l.length c0] 41 :: A :: F)
  refine WPc.seq ?_
  refine WPc.region ?_
  refine WP.val rfl rfl rfl (Val.assign rfl rfl) ?_
  refine WP.nil ?_
  refine Out.next ?_
  refine WPc.seq ?_
  refine WPc.region ?_
  refine WP.val rfl rfl rfl (Val.assign rfl rfl) ?_
  refine WP.nil ?_
  refine Out.next ?_
  refine WPc.seq ?_
  refine WPc.seq ?_
  refine WPc.region ?_
  refine WP.val rfl rfl rfl (Val.move rfl rfl) ?_
  refine WP.val rfl rfl rfl (Val.len rfl Ty.sl108 rfl) ?_
  refine WP.val rfl rfl rfl (Val.move rfl rfl) ?_
  refine WP.nil ?_
  refine Out.next ?_
  refine WPc.block ?_
  refine WPc.loop (ι := Nat) (fun i => i ≤ 2) (fun i => [(0, .slice (some ⟨bb, 0, none⟩) 2 2), (3, .int .i64 (((i * l.length : Nat) : Int))), (9, .slice (some ⟨bb, 0, none⟩) 2 2), (10, .int .i64 2), (11, .int .i64 (((i : Nat) : Int)))]) (fun i => Blk bb [.slice (some ⟨b0, o0, none⟩) l.length c0, .slice (some ⟨b0, o0, none⟩) l.length c0] 41 :: A :: F) (fun i => 2 - i) 0 (Nat.zero_le _) ((Sub.cons rfl (Sub.cons (congrArg some (congrArg (Value.int .i64) (by simp))) (Sub.cons rfl (Sub.cons rfl (Sub.cons rfl Sub.nil)))))) (fun _ h => h) ?_
  rintro i hi
  show WPc _ _ _ _ _ [(0, .slice (some ⟨bb, 0, none⟩) 2 2), (3, .int .i64 (((i * l.length : Nat) : Int))), (9, .slice (some ⟨bb, 0, none⟩) 2 2), (10, .int .i64 2), (11, .int .i64 (((i : Nat) : Int)))] (Blk bb [.slice (some ⟨b0, o0, none⟩) l.length c0, .slice (some ⟨b0, o0, none⟩) l.length c0] 41 :: A :: F)
  replace hi : i ≤ 2 := hi
  have hil : i * l.length ≤ 2 * l.length := Nat.mul_le_mul_right _ hi
  refine WPc.seq ?_
  refine WPc.region ?_
  refine WP.val rfl rfl rfl (Val.lss rfl rfl rfl) ?_
  refine WP.nil ?_
  refine Out.next ?_
  refine WPc.seq ?_
  refine WPc.ifP rfl (fun h1 => ?_) (fun h1 => ?_)
  · skip
    have h1 : (((i : Nat) : Int) < (2 : Int)) := h1
    refine WPc.skip ?_
    refine Out.next ?_
    refine WPc.seq ?_
    refine WPc.block ?_
    refine WPc.seq ?_
    refine WPc.region ?_
    refine WP.val rfl rfl rfl (Val.indexAddr (j := i) (q := i) rfl Ty.sl108 rfl rfl (by omega) (by omega) (by omega)) ?_
    refine WP.val rfl rfl rfl (Val.load (v := .slice (some ⟨b0, o0, none⟩) l.length c0) rfl Ty.sc41 rfl (fun w h => (h.at 0 rfl).cell i |>.trans (by rcases (show i = 0 ∨ i = 1 by omega) with rfl | rfl <;> rfl))) ?_
    refine WP.val rfl rfl rfl (Val.assign rfl rfl) ?_
    refine WP.nil ?_
    refine Out.next ?_
    refine WPc.seq ?_
    refine WPc.region ?_
    refine WP.val rfl rfl rfl (Val.move rfl rfl) ?_
    refine WP.val rfl rfl rfl (Val.move rfl rfl) ?_
    refine WP.val rfl rfl rfl (Val.len rfl Ty.sl41 rfl) ?_
    refine WP.val rfl rfl rfl (Val.add (z := (((i * l.length) + l.length : Nat) : Int)) rfl rfl rfl ((w64 (by omega) (by omega)).trans (by omega))) ?_
    refine WP.val rfl rfl rfl (Val.assign rfl rfl) ?_
    refine WP.nil ?_
    refine Out.next ?_
    refine WPc.seq ?_
    refine WPc.region ?_
    refine WP.val rfl rfl rfl (Val.move rfl rfl) ?_
    refine WP.val rfl rfl rfl (Val.lss rfl rfl rfl) ?_
    refine WP.nil ?_
    refine Out.next ?_
    refine WPc.ifP rfl (fun h2 => ?_) (fun h2 => ?_)
    · skip
      have h2 : ((((i * l.length) + l.length : Nat) : Int) < (0 : Int)) := h2
      exfalso; omega
    · skip
      have h2 : ¬ ((((i * l.length) + l.length : Nat) : Int) < (0 : Int)) := h2
      refine WPc.skip ?_
      refine Out.block ?_
      refine Out.next ?_
      refine WPc.region ?_
      refine WP.val rfl rfl rfl (Val.add (z := ((i + 1 : Nat) : Int)) rfl rfl rfl ((w64 (by omega) (by omega)).trans (by omega))) ?_
      refine WP.val rfl rfl rfl (Val.move rfl rfl) ?_
      refine WP.nil ?_
      refine Out.again (i + 1) ?_ ?_ ?_ ?_
      · exact (by omega)
      · first | omega | (dsimp only; omega)
      · exact (Sub.cons rfl (Sub.cons (congrArg some (congrArg (Value.int .i64) (by rw [Nat.add_mul]; omega))) (Sub.cons rfl (Sub.cons rfl (Sub.cons rfl Sub.nil)))))
      · exact (fun _ h => h)
  · skip
    have h1 : ¬ (((i : Nat) : Int) < (2 : Int)) := h1
    refine WPc.exit ?_
    refine Out.then_exit ?_
    refine Out.then_exit ?_
    refine Out.block_exit ?_
    refine Out.next ?_
    refine WPc.seq ?_
    refine WPc.region ?_
    refine WP.val rfl rfl rfl (Val.move rfl rfl) ?_
    refine WP.eff rfl rfl rfl (Eff.call rfl rfl Try.call48 (grow_spec (i * l.length) (by rw [show i = 2 by omega]; omega) (by omega))) ?_
    rintro vg _ ⟨_, ⟨-, rfl⟩, rfl⟩
    show WP _ _ _ _ _ _ _ (Own 47 2 vg 0 ([]) :: Blk bb [.slice (some ⟨b0, o0, none⟩) l.length c0, .slice (some ⟨b0, o0, none⟩) l.length c0] 41 :: A :: F)
    refine WP.val rfl rfl rfl (Val.assign rfl rfl) ?_
    refine WP.nil ?_
    refine Out.next ?_
    refine WPc.seq ?_
    refine WPc.seq ?_
    refine WPc.region ?_
    refine WP.val rfl rfl rfl (Val.move rfl rfl) ?_
    refine WP.val rfl rfl rfl (Val.len rfl Ty.sl108 rfl) ?_
    refine WP.val rfl rfl rfl (Val.move rfl rfl) ?_
    refine WP.nil ?_
    refine Out.next ?_
    refine WPc.block ?_
    refine WPc.loop (ι := Nat × Value) (fun ⟨i, v⟩ => i ≤ 2) (fun ⟨i, v⟩ => [(6, v), (25, .slice (some ⟨bb, 0, none⟩) 2 2), (26, .int .i64 2), (27, .int .i64 (((i : Nat) : Int)))]) (fun ⟨i, v⟩ => Own 47 2 v ((kk l i).length) (flatOf Rv.cells (kk l i)) :: Blk bb [.slice (some ⟨b0, o0, none⟩) l.length c0, .slice (some ⟨b0, o0, none⟩) l.length c0] 41 :: A :: F) (fun ⟨i, v⟩ => 2 - i) (0, vg) (Nat.zero_le _) ((Sub.cons rfl (Sub.cons rfl (Sub.cons rfl (Sub.cons rfl Sub.nil))))) (fun _ h => h) ?_
    rintro ⟨i, v⟩ hi
    show WPc _ _ _ _ _ [(6, v), (25, .slice (some ⟨bb, 0, none⟩) 2 2), (26, .int .i64 2), (27, .int .i64 (((i : Nat) : Int)))] (Own 47 2 v ((kk l i).length) (flatOf Rv.cells (kk l i)) :: Blk bb [.slice (some ⟨b0, o0, none⟩) l.length c0, .slice (some ⟨b0, o0, none⟩) l.length c0] 41 :: A :: F)
    replace hi : i ≤ 2 := hi
    have hkl := kk_len l i
    have hil : i * l.length ≤ 2 * l.length := Nat.mul_le_mul_right _ hi
    refine WPc.seq ?_
    refine WPc.region ?_
    refine WP.val rfl rfl rfl (Val.lss rfl rfl rfl) ?_
    refine WP.nil ?_
    refine Out.next ?_
    refine WPc.seq ?_
    refine WPc.ifP rfl (fun h3 => ?_) (fun h3 => ?_)
    · skip
      have h3 : (((i : Nat) : Int) < (2 : Int)) := h3
      refine WPc.skip ?_
      refine Out.next ?_
      refine WPc.seq ?_
      refine WPc.block ?_
      refine WPc.seq ?_
      refine WPc.region ?_
      refine WP.val rfl rfl rfl (Val.indexAddr (j := i) (q := i) rfl Ty.sl108 rfl rfl (by omega) (by omega) (by omega)) ?_
      refine WP.val rfl rfl rfl (Val.load (v := .slice (some ⟨b0, o0, none⟩) l.length c0) rfl Ty.sc41 rfl (fun w h => (h.at 1 rfl).cell i |>.trans (by rcases (show i = 0 ∨ i = 1 by omega) with rfl | rfl <;> rfl))) ?_
      refine WP.val rfl rfl rfl (Val.assign rfl rfl) ?_
      refine WP.nil ?_
      refine Out.next ?_
      refine WPc.region ?_
      refine WP.val rfl rfl rfl (Val.move rfl rfl) ?_
      refine WP.val rfl rfl rfl (Val.move rfl rfl) ?_
      refine WP.eff rfl rfl rfl (Eff.append (m := l.length) (n0 := (kk l i).length) (news := flatOf Rv.cells l) rfl Ty.sl41 Ty.z47 rfl rfl rfl (Srcs.rd Ty.sl41 Rv.len (rv_one l) hr 2 rfl) (by omega) (by omega)) ?_
      rintro v1 _ ⟨onev1, rfl⟩
      refine WP.val rfl rfl rfl (Val.assign rfl rfl) ?_
      refine WP.nil ?_
      refine Out.block ?_
      refine Out.next ?_
      refine WPc.region ?_
      refine WP.val rfl rfl rfl (Val.add (z := ((i + 1 : Nat) : Int)) rfl rfl rfl ((w64 (by omega) (by omega)).trans (by omega))) ?_
      refine WP.val rfl rfl rfl (Val.move rfl rfl) ?_
      refine WP.nil ?_
      refine Out.again (i + 1, v1) ?_ ?_ ?_ ?_
      · exact (by omega)
      · (dsimp only; omega)
      · exact (Sub.cons rfl (Sub.cons rfl (Sub.cons rfl (Sub.cons rfl Sub.nil))))
      · exact (fun w h => by dsimp only; rw [flat_kk, kk, List.length_append]; exact h)
    · skip
      have h3 : ¬ (((i : Nat) : Int) < (2 : Int)) := h3
      refine WPc.exit ?_
      refine Out.then_exit ?_
      refine Out.then_exit ?_
      refine Out.block_exit ?_
      refine Out.next ?_
      refine WPc.seq ?_
      refine WPc.region ?_
      refine WP.val rfl rfl rfl (Val.move rfl rfl) ?_
      refine WP.val rfl rfl rfl (Val.assign rfl rfl) ?_
      refine WP.nil ?_
      refine Out.next ?_
      refine WPc.ret ?_
      have hi2 : i = 2 := by omega
      subst hi2
      refine Out.perm pl1 ?_
      refine Out.drop ?_
      exact Out.ret1 (L' := _) Try.results20 rfl ⟨rfl, rfl⟩ (fun _ h => h)

def Same (zs ys : List Rv) : Prop := zs.length = ys.length ∧ ∀ x, x ∈ zs ↔ x ∈ ys
theorem swap_mem {α : Type} {l : List α} {i j : Nat} {a b : α} (ha : l[i]? = some a) (hb : l[j]? = some b) (x : α) : x ∈ (l.set i b).set j a ↔ x ∈ l := by
  have hi := (List.getElem?_eq_some_iff.1 ha).1
  have hj := (List.getElem?_eq_some_iff.1 hb).1
  simp only [List.mem_iff_getElem?]
  constructor
  · rintro ⟨k, hk⟩
    rw [List.getElem?_set] at hk
    split at hk
    · rw [if_pos (by simpa using hj)] at hk; exact ⟨i, by rw [ha]; exact hk⟩
    · rw [List.getElem?_set] at hk
      split at hk
      · exact ⟨j, by rw [hb]; first | exact hk | (rw [if_pos hi] at hk; exact hk)⟩
      · exact ⟨k, hk⟩
  · rintro ⟨k, hk⟩
    by_cases e1 : k = i
    · subst e1
      refine ⟨j, ?_⟩
      rw [List.getElem?_set_self (by simpa using hj), ← ha, hk]
    · by_cases e2 : k = j
      · subst e2
        refine ⟨i, ?_⟩
        rw [List.getElem?_set_ne (by omega), List.getElem?_set_self hi, ← hb, hk]
      · refine ⟨k, ?_⟩
        rw [List.getElem?_set_ne (by omega), List.getElem?_set_ne (by omega), hk]
theorem same_swap {zs ys : List Rv} {i j : Nat} {a b : Rv} (h : Same zs ys) (ha : zs[i]? = some a) (hb : zs[j]? = some b) : Same ((zs.set i b).set j a) ys :=
  ⟨by simpa using h.1, fun x => (swap_mem ha hb x).trans (h.2 x)⟩
set_option maxRecDepth 100000 in
set_option maxHeartbeats 1000000 in
theorem reverse_spec (ys : List Rv) (g cg : Nat) (sp : List Value) (hy0 : 0 < ys.length) (hyc : ys.length ≤ cg) (hyl : ys.length ≤ 100000) : Does Try.prog 21 [.slice (some ⟨g, 0, none⟩) ys.length cg] [Blk g (flatOf Rv.cells ys ++ sp) 47] (fun v L => ∃ zs, Same zs ys ∧ L = [Blk g (flatOf Rv.cells zs ++ sp) 47]) := by
  refine Does.enter 28 Try.func21 rfl rfl rfl fun W F => ?_
  show WPc _ _ _ _ _ [(0, .slice (some ⟨g, 0, none⟩) ys.length cg)] (Blk g (flatOf Rv.cells ys ++ sp) 47 :: F)
  refine WPc.seq ?_
  refine WPc.region ?_
  refine WP.val rfl rfl rfl (Val.move rfl rfl) ?_
  refine WP.val rfl rfl rfl (Val.len rfl Ty.sl41 rfl) ?_
  refine WP.val rfl rfl rfl (Val.sub (z := ((ys.length - 1 : Nat) : Int)) rfl rfl rfl ((w64 (by omega) (by omega)).trans (by omega))) ?_
  refine WP.val rfl rfl rfl (Val.assign rfl rfl) ?_
  refine WP.val rfl rfl rfl (Val.assign rfl rfl) ?_
  refine WP.nil ?_
  refine Out.next ?_
  refine WPc.block ?_
  refine WPc.loop (ι := Nat × List Rv) (fun ⟨i, zs⟩ => Same zs ys ∧ i + 1 ≤ ys.length) (fun ⟨i, zs⟩ => [(0, .slice (some ⟨g, 0, none⟩) ys.length cg), (2, .int .i64 (((i : Nat) : Int))), (3, .int .i64 (((ys.length - 1 - i : Nat) : Int)))]) (fun ⟨i, zs⟩ => Blk g (flatOf Rv.cells zs ++ sp) 47 :: F) (fun ⟨i, zs⟩ => ys.length - i) (0, ys) ⟨⟨rfl, fun _ => Iff.rfl⟩, by omega⟩ ((Sub.cons rfl (Sub.cons rfl (Sub.cons rfl Sub.nil)))) (fun _ h => h) ?_
  rintro ⟨i, zs⟩ ⟨hs, hi⟩
  show WPc _ _ _ _ _ [(0, .slice (some ⟨g, 0, none⟩) ys.length cg), (2, .int .i64 (((i : Nat) : Int))), (3, .int .i64 (((ys.length - 1 - i : Nat) : Int)))] (Blk g (flatOf Rv.cells zs ++ sp) 47 :: F)
  refine WPc.seq ?_
  refine WPc.seq ?_
  refine WPc.region ?_
  refine WP.val rfl rfl rfl (Val.move rfl rfl) ?_
  refine WP.val rfl rfl rfl (Val.move rfl rfl) ?_
  refine WP.val rfl rfl rfl (Val.lss rfl rfl rfl) ?_
  refine WP.nil ?_
  refine Out.next ?_
  refine WPc.ifP rfl (fun h1 => ?_) (fun h1 => ?_)
  · skip
    have h1 : (((i : Nat) : Int) < ((ys.length - 1 - i : Nat) : Int)) := h1
    refine WPc.skip ?_
    refine Out.next ?_
    refine WPc.seq ?_
    refine WPc.block ?_
    have hz := hs.1
    obtain ⟨a, ha⟩ : ∃ a, zs[i]? = some a := ⟨_, List.getElem?_eq_getElem (by omega)⟩
    obtain ⟨b, hb⟩ : ∃ b, zs[ys.length - 1 - i]? = some b := ⟨_, List.getElem?_eq_getElem (by omega)⟩
    refine WPD.start (Sat W (Blk g (flatOf Rv.cells zs ++ sp) 47 :: F)) Ty.mixed ?_
    refine WPD.takeM 0 rfl rfl rfl rfl (by kernel_rfl) (by kernel_rfl) (by kernel_rfl) (by kernel_rfl) (fun _ _ _ h => h) (fun _ h => h) (Val.move rfl rfl) ?_
    refine WPD.takeM 1 rfl rfl rfl rfl (by kernel_rfl) (by kernel_rfl) (by kernel_rfl) (by kernel_rfl) (fun _ _ _ h => h) (fun _ h => h) (Val.move rfl rfl) ?_
    refine WPD.takeM 2 rfl rfl rfl rfl (by kernel_rfl) (by kernel_rfl) (by kernel_rfl) (by kernel_rfl) (fun _ _ _ h => h) (fun _ h => h) (Val.move rfl rfl) ?_
    refine WPD.takeM 3 rfl rfl rfl rfl (by kernel_rfl) (by kernel_rfl) (by kernel_rfl) (by kernel_rfl) (fun _ _ _ h => h) (fun _ h => h) (Val.move rfl rfl) ?_
    refine WPD.takeM 4 rfl rfl rfl rfl (by kernel_rfl) (by kernel_rfl) (by kernel_rfl) (by kernel_rfl) (fun _ _ _ h => h) (fun _ h => h) (Val.move rfl rfl) ?_
    refine WPD.takeM 5 rfl rfl rfl rfl (by kernel_rfl) (by kernel_rfl) (by kernel_rfl) (by kernel_rfl) (fun _ _ _ h => h) (fun _ h => h) (Val.move rfl rfl) ?_
    refine WPD.takeM 6 rfl rfl rfl rfl (by kernel_rfl) (by kernel_rfl) (by kernel_rfl) (by kernel_rfl) (fun _ _ _ h => h) (fun _ h => h) (Val.indexAddr (j := ys.length - 1 - i) (q := (ys.length - 1 - i) * 2) rfl Ty.sl41 rfl rfl (by omega) (by omega) (by omega)) ?_
    refine WPD.take 7 rfl rfl rfl rfl (by kernel_rfl) (by kernel_rfl) (by kernel_rfl) (by kernel_rfl) (fun _ _ _ h => h) (by kernel_rfl) (fun _ h => h) (Val.loadAgg (cs := [.int .i64 (b.m), .int .i64 (b.s)]) rfl Ty.ag47 rfl (by rfl) (fun w h => (h.at 0 rfl).cell_range (flatOf_range Rv.len hb))) ?_
    refine WPD.takeM 8 rfl rfl rfl rfl (by kernel_rfl) (by kernel_rfl) (by kernel_rfl) (by kernel_rfl) (fun _ _ _ h => h) (fun _ h => h) (Val.move rfl rfl) ?_
    refine WPD.takeM 9 rfl rfl rfl rfl (by kernel_rfl) (by kernel_rfl) (by kernel_rfl) (by kernel_rfl) (fun _ _ _ h => h) (fun _ h => h) (Val.move rfl rfl) ?_
    refine WPD.takeM 10 rfl rfl rfl rfl (by kernel_rfl) (by kernel_rfl) (by kernel_rfl) (by kernel_rfl) (fun _ _ _ h => h) (fun _ h => h) (Val.indexAddr (j := i) (q := i * 2) rfl Ty.sl41 rfl rfl (by omega) (by omega) (by omega)) ?_
    refine WPD.take 11 rfl rfl rfl rfl (by kernel_rfl) (by kernel_rfl) (by kernel_rfl) (by kernel_rfl) (fun _ _ _ h => h) (by kernel_rfl) (fun _ h => h) (Val.loadAgg (cs := [.int .i64 (a.m), .int .i64 (a.s)]) rfl Ty.ag47 rfl (by rfl) (fun w h => (h.at 0 rfl).cell_range (flatOf_range Rv.len ha))) ?_
    refine WPD.takeM 12 rfl rfl rfl rfl (by kernel_rfl) (by kernel_rfl) (by kernel_rfl) (by kernel_rfl) (fun _ _ _ h => h) (fun _ h => h) (Val.indexAddr (j := i) (q := i * 2) rfl Ty.sl41 rfl rfl (by omega) (by omega) (by omega)) ?_
    refine WPD.stepC0 13 (by kernel_rfl) rfl rfl rfl (by kernel_rfl) (Eff.storeAgg (cs := [.int .i64 (b.m), .int .i64 (b.s)]) (C' := flatOf Rv.cells (zs.set i b) ++ sp) rfl Ty.ag47 rfl rfl rfl rfl (by rw [List.length_append, flatOf_length Rv.len]; omega) (flat_set Rv.len zs i b sp (by omega))) ?_
    rintro _ _ rfl
    refine ⟨(Sat W (Blk g (flatOf Rv.cells (zs.set i b) ++ sp) 47 :: F)), (fun _ h => h), ?_⟩
    refine WPD.takeM 14 rfl rfl rfl rfl (by kernel_rfl) (by kernel_rfl) (by kernel_rfl) (by kernel_rfl) (fun _ _ _ h => h) (fun _ h => h) (Val.indexAddr (j := ys.length - 1 - i) (q := (ys.length - 1 - i) * 2) rfl Ty.sl41 rfl rfl (by omega) (by omega) (by omega)) ?_
    refine WPD.stepC0 15 (by kernel_rfl) rfl rfl rfl (by kernel_rfl) (Eff.storeAgg (cs := [.int .i64 (a.m), .int .i64 (a.s)]) (C' := flatOf Rv.cells ((zs.set i b).set (ys.length - 1 - i) a) ++ sp) rfl Ty.ag47 rfl rfl rfl rfl (by rw [List.length_append, flatOf_length Rv.len, List.length_set]; omega) (flat_set Rv.len (zs.set i b) (ys.length - 1 - i) a sp (by rw [List.length_set]; omega))) ?_
    rintro _ _ rfl
    refine ⟨(Sat W (Blk g (flatOf Rv.cells ((zs.set i b).set (ys.length - 1 - i) a) ++ sp) 47 :: F)), (fun _ h => h), ?_⟩
    refine WPD.done (by kernel_rfl) ?_
    refine Out.block ?_
    refine Out.next ?_
    refine WPc.region ?_
    refine WP.val rfl rfl rfl (Val.move rfl rfl) ?_
    refine WP.val rfl rfl rfl (Val.add (z := ((i + 1 : Nat) : Int)) rfl rfl rfl ((w64 (by omega) (by omega)).trans (by omega))) ?_
    refine WP.val rfl rfl rfl (Val.move rfl rfl) ?_
    refine WP.val rfl rfl rfl (Val.sub (z := (((ys.length - 1 - i) - 1 : Nat) : Int)) rfl rfl rfl ((w64 (by omega) (by omega)).trans (by omega))) ?_
    refine WP.val rfl rfl rfl (Val.assign rfl rfl) ?_
    refine WP.val rfl rfl rfl (Val.assign rfl rfl) ?_
    refine WP.nil ?_
    refine Out.again (i + 1, (zs.set i b).set (ys.length - 1 - i) a) ?_ ?_ ?_ ?_
    · exact ⟨same_swap hs ha hb, by omega⟩
    · (dsimp only; omega)
    · exact (Sub.cons rfl (Sub.cons rfl (Sub.cons (congrArg some (congrArg (Value.int .i64) (by first | omega | (dsimp only; omega)))) Sub.nil)))
    · exact (fun _ h => h)
  · skip
    have h1 : ¬ (((i : Nat) : Int) < ((ys.length - 1 - i : Nat) : Int)) := h1
    refine WPc.exit ?_
    refine Out.then_exit ?_
    refine Out.then_exit ?_
    refine Out.block_exit ?_
    exact Out.end0 (L' := _) Try.results21 ⟨zs, hs, rfl⟩ (fun _ h => h)

end Go.Proofs.Ythmkdioafjmclaa.Hu
