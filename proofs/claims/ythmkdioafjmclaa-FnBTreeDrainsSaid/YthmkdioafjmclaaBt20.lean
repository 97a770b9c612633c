import Derived.Test.YthmkdioafjmclaaSlTerse
import Derived.Test.YthmkdioafjmclaaBt19
namespace Go.Proofs.Ythmkdioafjmclaa.Bt20
open Go.RowKit Go.Proofs.Ythmkdioafjmclaa Go.Proofs.Ythmkdioafjmclaa.Sl Go.Proofs.Ythmkdioafjmclaa.Bt Go.Proofs.Ythmkdioafjmclaa.Bt2 Go.Proofs.Ythmkdioafjmclaa.Bt3 Go.Proofs.Ythmkdioafjmclaa.Bt4 Go.Proofs.Ythmkdioafjmclaa.Bt5 Go.Proofs.Ythmkdioafjmclaa.Bt6 Go.Proofs.Ythmkdioafjmclaa.Bt7 Go.Proofs.Ythmkdioafjmclaa.Bt8 Go.Proofs.Ythmkdioafjmclaa.Bt9 Go.Proofs.Ythmkdioafjmclaa.Bt10 Go.Proofs.Ythmkdioafjmclaa.Bt11 Go.Proofs.Ythmkdioafjmclaa.Bt12 Go.Proofs.Ythmkdioafjmclaa.Bt13 Go.Proofs.Ythmkdioafjmclaa.Bt14 Go.Proofs.Ythmkdioafjmclaa.BtP Go.Proofs.Ythmkdioafjmclaa.Bt15 Go.Proofs.Ythmkdioafjmclaa.Bt16 Go.Proofs.Ythmkdioafjmclaa.Bt17 Go.Proofs.Ythmkdioafjmclaa.Bt18 Go.Proofs.Ythmkdioafjmclaa.Bt19
set_option linter.unusedVariables false
set_option linter.unusedSimpArgs false
set_option linter.unusedSectionVars false


theorem tail_at {d : Nat} {l : List El} {ol : List Bop} {ans : List (BAns × Value)} {i : Nat} {a : BAns} (h : ans.map (·.1) = (runS d (l.map putB ++ ol)).2) (ha : (runF d (runS d (l.map putB)).1 ol).2[i]? = some a) : ∃ lv, (ans.drop l.length)[i]? = some (a, lv) := by
 have h1 : (ans.drop l.length).map (·.1) = (runF d (runS d (l.map putB)).1 ol).2 := by
  rw [List.map_drop, h, ← run_drop, List.length_map]
 have h2 : ((ans.drop l.length).map (·.1))[i]? = some a := by rw [h1]; exact ha
 rw [List.getElem?_map] at h2
 cases hq : (ans.drop l.length)[i]? with
 | none => rw [hq] at h2; cases h2
 | some x => obtain ⟨a', lv⟩ := x; rw [hq] at h2; simp at h2; subst h2; exact ⟨lv, rfl⟩
theorem ans_len {d : Nat} {l : List El} {ol : List Bop} {ans : List (BAns × Value)} (h : ans.map (·.1) = (runS d (l.map putB ++ ol)).2) : ans.length = l.length + ol.length := by
 have := congrArg List.length h
 rw [List.length_map] at this
 rw [this]
 exact (runF_len _ _).trans (by rw [List.length_append, List.length_map])
theorem tail_el {b n : Nat} {sp : List Value} {ans : List (BAns × Value)} {w : World} (hn : n ≤ ans.length) (hw : Holds (Blk b (flatOf ARc ans ++ sp) 62) w) {i : Nat} {a : BAns} {lv : Value} (hx : (ans.drop n)[i]? = some (a, lv)) : w.rangeAt b (n * 6 + i * 6 + 3) [.int .i64 a.el.k, .int .i64 a.el.v] := fun j v hj => by
 have h0 := tail_rd hn w hw i _ hx
 rw [Nat.add_assoc (n * 6 + i * 6)]
 refine h0 (3 + j) v ?_
 match j, hj with
 | 0, hj => exact hj
 | 1, hj => exact hj
 | j + 2, hj => simp at hj
theorem known_rep {k i : Nat} (hk : k = 7 ∨ k = 8) : ∀ x ∈ List.replicate i (bop (k : Int)) ++ [bop 9], Known x := known_app (fun x hx => by
 have := List.eq_of_mem_replicate hx
 subst this
 exact ⟨rfl, by rcases hk with rfl | rfl; exact .inr (.inr (.inl rfl)); exact .inr (.inr (.inr (.inl rfl)))⟩) (fun x hx => by
 have : x = bop 9 := by simpa using hx
 subst this
 exact ⟨rfl, .inr (.inr (.inr (.inr (.inl rfl))))⟩)
theorem known_ten : ∀ x ∈ [bop 10], Known x := fun x hx => by
 have : x = bop 10 := by simpa using hx
 subst this
 exact ⟨rfl, .inr (.inr (.inr (.inr (.inr rfl))))⟩
theorem put_wf {d : Nat} (h1 : 2 ≤ d) (h2 : d ≤ 64) (l : List El) : Wf d (runS d (l.map putB)).1 ∧ (elems (runS d (l.map putB)).1).length ≤ l.length := by
 obtain ⟨a, b, -⟩ := run_wf h1 h2 (l.map putB) l.length (by rw [List.length_map]; exact Nat.le_refl _)
 rw [List.take_of_length_le (by rw [List.length_map]; exact Nat.le_refl _)] at a b
 exact ⟨a, b⟩
set_option maxRecDepth 100000 in
set_option maxHeartbeats 2000000 in
theorem law_spec (W0 : World) (a0 : Int) (l : List El) (hl : l.length ≤ 9223372036854775807) (va : Value) (hva : Rd (Old W0) 2 El.cells va l) : Does Try.prog 6 [.int .i64 (a0), va] [Old W0] (fun v L => v = .bool true ∧ L = [Old W0]) := by
 refine Does.enter 173 Try.func6 rfl rfl rfl fun W F => ?_
 show WPc _ _ _ _ _ [(0, .int .i64 (a0)), (1, va)] (Old W0 :: F)
 refine WPc.sr ?_
 refine WP.val rfl rfl rfl (Val.assign rfl rfl) ?_
 refine WP.nx ?_
 refine WPc.seq ?_
 refine WPc.sr ?_
 refine WP.val rfl rfl rfl (Val.move rfl rfl) ?_
 refine WP.val rfl rfl rfl (Rd.len hva rfl Ty.sl52 rfl) ?_
 refine WP.val rfl rfl rfl (Val.gtr rfl rfl rfl) ?_
 refine WP.nx ?_
 refine WPc.ifP rfl (fun h1 => ?_) (fun h1 => ?_)
 ·
  have h1 : ((2147483647 : Int) < ((l.length : Nat) : Int)) := h1
  refine WPc.sr ?_
  refine WP.val rfl rfl rfl (Val.assign rfl rfl) ?_
  refine WP.nx ?_
  refine WPc.ret ?_
  refine Out.then_ret ?_
  exact Out.ret1 (L' := _) Try.results6 rfl ⟨rfl, rfl⟩ (fun _ h => h)
 ·
  have h1 : ¬ ((2147483647 : Int) < ((l.length : Nat) : Int)) := h1
  refine WPc.skip ?_
  refine Out.next ?_
  refine WPc.seq ?_
  refine WPc.sr ?_
  refine WP.val rfl rfl rfl (Val.move rfl rfl) ?_
  refine WP.val rfl rfl rfl (Val.lss rfl rfl rfl) ?_
  refine WP.val rfl rfl rfl (Val.move rfl rfl) ?_
  refine WP.split 20 rfl (fun h2 => ?_) (fun h2 => ?_)
  ·
   have h2 : (a0 < (2 : Int)) := h2
   refine WP.skip rfl rfl rfl rfl rfl rfl rfl ?_
   refine WP.skip rfl rfl rfl rfl rfl rfl rfl ?_
   refine WP.val rfl rfl rfl (Val.pickT rfl rfl rfl) ?_
   refine WP.val rfl rfl rfl (Val.move rfl rfl) ?_
   iterate 3 (refine WP.skip rfl rfl rfl rfl rfl rfl rfl ?_)
   refine WP.val rfl rfl rfl (Val.pickT rfl rfl rfl) ?_
   refine WP.nx ?_
   refine WPc.condT rfl rfl ?_
   refine WPc.sr ?_
   refine WP.eff rfl rfl rfl (Eff.call rfl rfl Try.call23 (live_spec 0)) ?_
   rintro _ _ ⟨_, ⟨rfl, rfl⟩, rfl⟩
   refine WP.val rfl rfl rfl (Val.assign rfl rfl) ?_
   refine WP.nx ?_
   refine WPc.ret ?_
   refine Out.then_ret ?_
   exact Out.ret1 (L' := _) Try.results6 rfl ⟨rfl, rfl⟩ (fun _ h => h)
  ·
   have h2 : ¬ (a0 < (2 : Int)) := h2
   refine WP.valG rfl rfl rfl rfl rfl rfl rfl (Val.move rfl rfl) ?_
   refine WP.valG rfl rfl rfl rfl rfl rfl rfl (Val.gtr rfl rfl rfl) ?_
   refine WP.val rfl rfl rfl (Val.pickF rfl rfl rfl) ?_
   refine WP.val rfl rfl rfl (Val.move rfl rfl) ?_
   refine WP.split 24 rfl (fun h3 => ?_) (fun h3 => ?_)
   ·
    have h3 : ((64 : Int) < a0) := h3
    iterate 3 (refine WP.skip rfl rfl rfl rfl rfl rfl rfl ?_)
    refine WP.val rfl rfl rfl (Val.pickT rfl rfl rfl) ?_
    refine WP.nx ?_
    refine WPc.condT rfl rfl ?_
    refine WPc.sr ?_
    refine WP.eff rfl rfl rfl (Eff.call rfl rfl Try.call23 (live_spec 0)) ?_
    rintro _ _ ⟨_, ⟨rfl, rfl⟩, rfl⟩
    refine WP.val rfl rfl rfl (Val.assign rfl rfl) ?_
    refine WP.nx ?_
    refine WPc.ret ?_
    refine Out.then_ret ?_
    exact Out.ret1 (L' := _) Try.results6 rfl ⟨rfl, rfl⟩ (fun _ h => h)
   ·
    have h3 : ¬ ((64 : Int) < a0) := h3
    refine WP.valG rfl rfl rfl rfl rfl rfl rfl (Val.move rfl rfl) ?_
    refine WP.valG rfl rfl rfl rfl rfl rfl rfl (Rd.len hva rfl Ty.sl52 rfl) ?_
    refine WP.valG rfl rfl rfl rfl rfl rfl rfl (Val.gtr rfl rfl rfl) ?_
    refine WP.val rfl rfl rfl (Val.pickF rfl rfl rfl) ?_
    refine WP.nx ?_
    refine WPc.ifP rfl (fun h4 => ?_) (fun h4 => ?_)
    ·
     have h4 : ((600 : Int) < ((l.length : Nat) : Int)) := h4
     refine WPc.sr ?_
     refine WP.eff rfl rfl rfl (Eff.call rfl rfl Try.call23 (live_spec 0)) ?_
     rintro _ _ ⟨_, ⟨rfl, rfl⟩, rfl⟩
     refine WP.val rfl rfl rfl (Val.assign rfl rfl) ?_
     refine WP.nx ?_
     refine WPc.ret ?_
     refine Out.then_ret ?_
     exact Out.ret1 (L' := _) Try.results6 rfl ⟨rfl, rfl⟩ (fun _ h => h)
    ·
     have h4 : ¬ ((600 : Int) < ((l.length : Nat) : Int)) := h4
     refine WPc.skip ?_
     refine Out.next ?_
     refine WPc.seq ?_
     obtain ⟨d, rfl⟩ : ∃ d : Nat, a0 = (d : Int) := ⟨a0.toNat, by omega⟩
     have hd1 : 2 ≤ d := by omega
     have hd2 : d ≤ 64 := by omega
     have hl6 : l.length ≤ 600 := by omega
     refine WPc.region ?_
     refine WP.val rfl rfl rfl (Val.assign rfl rfl) ?_
     refine WP.val rfl rfl rfl (Val.assign rfl rfl) ?_
     refine WP.nx ?_
     refine WPc.seq ?_
     refine WPc.seq ?_
     refine WPc.conv (fun w h => own_nil8 h) ?_
     refine WPc.conv (fun w h => own_nil8 h) ?_
     show WPc _ _ _ _ _ _ (Own 57 8 (.slice none 0 0) 0 ([]) :: Own 57 8 (.slice none 0 0) 0 ([]) :: _)
     refine WPc.region ?_
     refine WP.val rfl rfl rfl (Val.move rfl rfl) ?_
     refine WP.val rfl rfl rfl (Rd.len hva rfl Ty.sl52 rfl) ?_
     refine WP.val rfl rfl rfl (Val.add (z := ((l.length + 1 : Nat) : Int)) rfl rfl rfl ((w64 (by omega) (by omega)).trans (by omega))) ?_
     refine WP.val rfl rfl rfl (Val.move rfl rfl) ?_
     refine WP.nx ?_
     refine WPc.block ?_
     refine WPc.perm pl1 ?_
     refine WPc.perm pl1 ?_
     refine WPc.perm pl2 ?_
     refine WPc.loop (ι := Nat × Value × Value) (fun ⟨i, v5, v6⟩ => i ≤ l.length + 1) (fun ⟨i, v5, v6⟩ => [(0, .int .i64 (((d : Nat) : Int))), (1, va), (5, v5), (6, v6), (32, .int .i64 (((l.length + 1 : Nat) : Int))), (33, .int .i64 (((i : Nat) : Int)))]) (fun ⟨i, v5, v6⟩ => Old W0 :: Own 57 8 v5 i (flatOf Bop.cells (List.replicate i (bop 7))) :: Own 57 8 v6 i (flatOf Bop.cells (List.replicate i (bop 8))) :: F) (fun ⟨i, v5, v6⟩ => l.length + 1 - i) (0, .slice none 0 0, .slice none 0 0) (Nat.zero_le _) ((Sub.cons rfl (Sub.cons rfl (Sub.cons rfl (Sub.cons rfl (Sub.cons rfl (Sub.cons rfl Sub.nil))))))) (fun _ h => h) ?_
     rintro ⟨i, v5, v6⟩ hi
     show WPc _ _ _ _ _ [(0, .int .i64 (((d : Nat) : Int))), (1, _), (5, v5), (6, v6), (32, .int .i64 (((l.length + 1 : Nat) : Int))), (33, .int .i64 (((i : Nat) : Int)))] (_ :: Own 57 8 v5 i (flatOf Bop.cells (List.replicate i (bop 7))) :: Own 57 8 v6 i (flatOf Bop.cells (List.replicate i (bop 8))) :: _)
     replace hi : i ≤ l.length + 1 := hi
     refine WPc.sr ?_
     refine WP.val rfl rfl rfl (Val.lss rfl rfl rfl) ?_
     refine WP.nx ?_
     refine WPc.seq ?_
     refine WPc.ifP rfl (fun h5 => ?_) (fun h5 => ?_)
     ·
      have h5 : (((i : Nat) : Int) < ((l.length + 1 : Nat) : Int)) := h5
      refine WPc.skip ?_
      refine Out.next ?_
      refine WPc.seq ?_
      refine WPc.block ?_
      refine WPc.region ?_
      refine WP.val rfl rfl rfl (Val.move rfl rfl) ?_
      refine WP.val rfl rfl rfl (Val.mk (cs := [.int .i64 7, .int .i64 0, .int .i64 0, .int .i64 0, .int .i64 0, .int .i64 0, .int .i64 0, .bool false]) rfl rfl (fun _ => by kernel_rfl)) ?_
      refine WP.eff rfl rfl rfl (Eff.mkSlice (C := [.int .i64 7, .int .i64 0, .int .i64 0, .int .i64 0, .int .i64 0, .int .i64 0, .int .i64 0, .bool false]) rfl Ty.sl53 rfl (fun _ => by kernel_rfl)) ?_
      rintro _ _ ⟨b1, rfl, rfl⟩
      refine WP.perm pl2 ?_
      refine WP.eff rfl rfl rfl (Eff.append (m := 1) (n0 := i) (news := [.int .i64 7, .int .i64 0, .int .i64 0, .int .i64 0, .int .i64 0, .int .i64 0, .int .i64 0, .bool false]) rfl Ty.sl53 Ty.z57 rfl rfl rfl (.slice Ty.sl53 rfl rfl (fun w h => cells_range (h.range 1 rfl rfl))) (by omega) (by omega)) ?_
      rintro v2 _ ⟨onev2, rfl⟩
      refine WP.val rfl rfl rfl (Val.move rfl rfl) ?_
      refine WP.val rfl rfl rfl (Val.mk (cs := [.int .i64 8, .int .i64 0, .int .i64 0, .int .i64 0, .int .i64 0, .int .i64 0, .int .i64 0, .bool false]) rfl rfl (fun _ => by kernel_rfl)) ?_
      refine WP.eff rfl rfl rfl (Eff.mkSlice (C := [.int .i64 8, .int .i64 0, .int .i64 0, .int .i64 0, .int .i64 0, .int .i64 0, .int .i64 0, .bool false]) rfl Ty.sl53 rfl (fun _ => by kernel_rfl)) ?_
      rintro _ _ ⟨b3, rfl, rfl⟩
      refine WP.perm pl4 ?_
      refine WP.eff rfl rfl rfl (Eff.append (m := 1) (n0 := i) (news := [.int .i64 8, .int .i64 0, .int .i64 0, .int .i64 0, .int .i64 0, .int .i64 0, .int .i64 0, .bool false]) rfl Ty.sl53 Ty.z57 rfl rfl rfl (.slice Ty.sl53 rfl rfl (fun w h => cells_range (h.range 1 rfl rfl))) (by omega) (by omega)) ?_
      rintro v4 _ ⟨onev4, rfl⟩
      refine WP.val rfl rfl rfl (Val.assign rfl rfl) ?_
      refine WP.val rfl rfl rfl (Val.assign rfl rfl) ?_
      refine WP.nil ?_
      refine Out.block ?_
      refine Out.next ?_
      refine WPc.region ?_
      refine WP.val rfl rfl rfl (Val.add (z := ((i + 1 : Nat) : Int)) rfl rfl rfl ((w64 (by omega) (by omega)).trans (by omega))) ?_
      refine WP.val rfl rfl rfl (Val.move rfl rfl) ?_
      refine WP.nil ?_
      refine Out.perm pl1 ?_
      refine Out.drop ?_
      refine Out.perm pl2 ?_
      refine Out.drop ?_
      refine Out.perm pl1 ?_
      refine Out.perm pl2 ?_
      refine Out.again (i + 1, v2, v4) ?_ ?_ ?_ ?_
      ·
       exact (by first | omega | (dsimp only; omega))
      ·
       (first | omega | (dsimp only; omega))
      ·
       exact (Sub.cons rfl (Sub.cons rfl (Sub.cons rfl (Sub.cons rfl (Sub.cons rfl (Sub.cons rfl Sub.nil))))))
      ·
       exact (fun w h => by dsimp only; rw [List.replicate_succ', List.replicate_succ', flatOf_append, flatOf_append, flatOf_one, flatOf_one]; exact h)
     ·
      have h5 : ¬ (((i : Nat) : Int) < ((l.length + 1 : Nat) : Int)) := h5
      refine WPc.exit ?_
      refine Out.then_exit ?_
      refine Out.then_exit ?_
      refine Out.block_exit ?_
      refine Out.next ?_
      refine WPc.seq ?_
      have hin : i = l.length + 1 := by omega
      refine WPc.region ?_
      refine WP.val rfl rfl rfl (Val.move rfl rfl) ?_
      refine WP.val rfl rfl rfl (Val.move rfl rfl) ?_
      refine WP.val rfl rfl rfl (Val.mk (cs := [.int .i64 10, .int .i64 0, .int .i64 0, .int .i64 0, .int .i64 0, .int .i64 0, .int .i64 0, .bool false]) rfl rfl (fun _ => by kernel_rfl)) ?_
      refine WP.eff rfl rfl rfl (Eff.mkSlice (C := [.int .i64 10, .int .i64 0, .int .i64 0, .int .i64 0, .int .i64 0, .int .i64 0, .int .i64 0, .bool false]) rfl Ty.sl53 rfl (fun _ => by kernel_rfl)) ?_
      rintro _ _ ⟨b5, rfl, rfl⟩
      refine WP.conv (fun w h => own_ops (o := bop 10) h) ?_
      show WP _ _ _ _ _ _ _ (Own 57 8 (.slice (some ⟨b5, 0, none⟩) 1 1) ([bop 10].length) (flatOf Bop.cells [bop 10]) :: _)
      refine WP.perm pl1 ?_
      refine WP.eff rfl rfl rfl (Eff.call rfl rfl Try.call24 (tail_spec (Old W0) d hd1 hd2 l (by omega) va hva [bop 10] (by simp) (by simp; try omega) known_ten (.slice (some ⟨b5, 0, none⟩) 1 1))) ?_
      rintro _ _ ⟨_, ⟨bL, cL, spL, ansL, hansL, rfl, rfl⟩, rfl⟩
      show WP _ _ _ _ _ _ _ (Blk bL (flatOf ARc ansL ++ spL) 62 :: Kds AnsP ansL :: _)
      refine WP.val rfl rfl rfl (Val.move rfl rfl) ?_
      refine WP.val rfl rfl rfl (Val.extract rfl rfl rfl) ?_
      refine WP.val rfl rfl rfl (Val.extract rfl rfl rfl) ?_
      refine WP.val rfl rfl rfl (Val.assign rfl rfl) ?_
      refine WP.val rfl rfl rfl (Val.assign rfl rfl) ?_
      refine WP.nx ?_
      refine WPc.sr ?_
      iterate 3 (refine WP.val rfl rfl rfl (Val.move rfl rfl) ?_)
      refine WP.val rfl rfl rfl (Val.mk (cs := [.int .i64 9, .int .i64 0, .int .i64 0, .int .i64 0, .int .i64 0, .int .i64 0, .int .i64 0, .bool false]) rfl rfl (fun _ => by kernel_rfl)) ?_
      refine WP.eff rfl rfl rfl (Eff.mkSlice (C := [.int .i64 9, .int .i64 0, .int .i64 0, .int .i64 0, .int .i64 0, .int .i64 0, .int .i64 0, .bool false]) rfl Ty.sl53 rfl (fun _ => by kernel_rfl)) ?_
      rintro _ _ ⟨b6, rfl, rfl⟩
      refine WP.perm pl4 ?_
      refine WP.eff rfl rfl rfl (Eff.append (m := 1) (n0 := i) (news := [.int .i64 9, .int .i64 0, .int .i64 0, .int .i64 0, .int .i64 0, .int .i64 0, .int .i64 0, .bool false]) rfl Ty.sl53 Ty.z57 rfl rfl rfl (.slice Ty.sl53 rfl rfl (fun w h => cells_range (h.range 1 rfl rfl))) (by omega) (by omega)) ?_
      rintro v7 _ ⟨onev7, rfl⟩
      refine WP.c1 (B := Own 57 8 v7 ((List.replicate i (bop 7) ++ [bop 9]).length) (flatOf Bop.cells (List.replicate i (bop 7) ++ [bop 9]))) (fun w h => by rw [flatOf_append, flatOf_one, List.length_append, List.length_replicate]; exact h) ?_
      refine WP.perm pl4 ?_
      refine WP.eff rfl rfl rfl (Eff.call rfl rfl Try.call24 (tail_spec (Old W0) d hd1 hd2 l (by omega) va hva (List.replicate i (bop 7) ++ [bop 9]) (by simp) (by simp; try omega) (known_rep (k := 7) (by decide)) v7)) ?_
      rintro _ _ ⟨_, ⟨bA, cA, spA, ansA, hansA, rfl, rfl⟩, rfl⟩
      show WP _ _ _ _ _ _ _ (Blk bA (flatOf ARc ansA ++ spA) 62 :: Kds AnsP ansA :: _ :: Blk b6 [.int .i64 9, .int .i64 0, .int .i64 0, .int .i64 0, .int .i64 0, .int .i64 0, .int .i64 0, .bool false] 57 :: _)
      refine WP.val rfl rfl rfl (Val.move rfl rfl) ?_
      refine WP.val rfl rfl rfl (Val.extract rfl rfl rfl) ?_
      refine WP.val rfl rfl rfl (Val.extract rfl rfl rfl) ?_
      refine WP.val rfl rfl rfl (Val.assign rfl rfl) ?_
      refine WP.val rfl rfl rfl (Val.assign rfl rfl) ?_
      refine WP.nx ?_
      refine WPc.sr ?_
      iterate 3 (refine WP.val rfl rfl rfl (Val.move rfl rfl) ?_)
      refine WP.val rfl rfl rfl (Val.mk (cs := [.int .i64 9, .int .i64 0, .int .i64 0, .int .i64 0, .int .i64 0, .int .i64 0, .int .i64 0, .bool false]) rfl rfl (fun _ => by kernel_rfl)) ?_
      refine WP.eff rfl rfl rfl (Eff.mkSlice (C := [.int .i64 9, .int .i64 0, .int .i64 0, .int .i64 0, .int .i64 0, .int .i64 0, .int .i64 0, .bool false]) rfl Ty.sl53 rfl (fun _ => by kernel_rfl)) ?_
      rintro _ _ ⟨b8, rfl, rfl⟩
      refine WP.perm pl7 ?_
      refine WP.eff rfl rfl rfl (Eff.append (m := 1) (n0 := i) (news := [.int .i64 9, .int .i64 0, .int .i64 0, .int .i64 0, .int .i64 0, .int .i64 0, .int .i64 0, .bool false]) rfl Ty.sl53 Ty.z57 rfl rfl rfl (.slice Ty.sl53 rfl rfl (fun w h => cells_range (h.range 1 rfl rfl))) (by omega) (by omega)) ?_
      rintro v9 _ ⟨onev9, rfl⟩
      refine WP.c1 (B := Own 57 8 v9 ((List.replicate i (bop 8) ++ [bop 9]).length) (flatOf Bop.cells (List.replicate i (bop 8) ++ [bop 9]))) (fun w h => by rw [flatOf_append, flatOf_one, List.length_append, List.length_replicate]; exact h) ?_
      refine WP.perm pl4 ?_
      refine WP.eff rfl rfl rfl (Eff.call rfl rfl Try.call24 (tail_spec (Old W0) d hd1 hd2 l (by omega) va hva (List.replicate i (bop 8) ++ [bop 9]) (by simp) (by simp; try omega) (known_rep (k := 8) (by decide)) v9)) ?_
      rintro _ _ ⟨_, ⟨bB, cB, spB, ansB, hansB, rfl, rfl⟩, rfl⟩
      show WP _ _ _ _ _ _ _ (Blk bB (flatOf ARc ansB ++ spB) 62 :: Kds AnsP ansB :: _ :: Blk b8 [.int .i64 9, .int .i64 0, .int .i64 0, .int .i64 0, .int .i64 0, .int .i64 0, .int .i64 0, .bool false] 57 :: _)
      refine WP.val rfl rfl rfl (Val.move rfl rfl) ?_
      refine WP.val rfl rfl rfl (Val.extract rfl rfl rfl) ?_
      refine WP.val rfl rfl rfl (Val.extract rfl rfl rfl) ?_
      refine WP.val rfl rfl rfl (Val.assign rfl rfl) ?_
      refine WP.val rfl rfl rfl (Val.assign rfl rfl) ?_
      refine WP.nx ?_
      refine WPc.seq ?_
      refine WPc.seq ?_
      obtain ⟨s, hs⟩ : ∃ s, s = (runS d (l.map putB)).1 := ⟨_, rfl⟩
      have hwf := put_wf hd1 hd2 l
      rw [← hs] at hwf
      obtain ⟨hwf, hEl⟩ := hwf
      obtain ⟨hmn, an, an1, an2⟩ := drain_min i s hwf
      obtain ⟨hmx, bn, bn1, bn2⟩ := drain_max i s hwf
      have hasc := asc_ans d s
      obtain ⟨E, hE⟩ : ∃ E, E = elems s := ⟨_, rfl⟩
      rw [← hE] at hEl hmn hmx an2 bn2 hasc
      rw [hs] at an1 bn1 hasc hmn hmx
      obtain ⟨la, hla⟩ := tail_at hansA an1
      obtain ⟨lb, hlb⟩ := tail_at hansB bn1
      obtain ⟨lL, hlL⟩ := tail_at (i := 0) hansL (by rw [hasc]; rfl)
      have hnA := ans_len hansA
      have hnB := ans_len hansB
      have hnL := ans_len hansL
      rw [List.length_append, List.length_replicate, List.length_singleton] at hnA hnB
      rw [List.length_singleton] at hnL
      have han0 : an.n = 0 := by rw [an2]; omega
      have hbn0 : bn.n = 0 := by rw [bn2]; omega
      refine WPc.region ?_
      refine WP.val rfl rfl rfl (Val.move rfl rfl) ?_
      refine WP.val rfl rfl rfl (Val.not rfl rfl) ?_
      refine WP.val rfl rfl rfl (Val.move rfl rfl) ?_
      refine WP.valG rfl rfl rfl rfl rfl rfl rfl (Val.move rfl rfl) ?_
      refine WP.valG rfl rfl rfl rfl rfl rfl rfl (Val.not rfl rfl) ?_
      refine WP.val rfl rfl rfl (Val.pickF rfl rfl rfl) ?_
      refine WP.val rfl rfl rfl (Val.move rfl rfl) ?_
      refine WP.valG rfl rfl rfl rfl rfl rfl rfl (Val.move rfl rfl) ?_
      refine WP.valG rfl rfl rfl rfl rfl rfl rfl (Val.not rfl rfl) ?_
      refine WP.val rfl rfl rfl (Val.pickF rfl rfl rfl) ?_
      refine WP.val rfl rfl rfl (Val.move rfl rfl) ?_
      refine WP.valG rfl rfl rfl rfl rfl rfl rfl (Val.move rfl rfl) ?_
      refine WP.valG rfl rfl rfl rfl rfl rfl rfl (Val.move rfl rfl) ?_
      refine WP.valG rfl rfl rfl rfl rfl rfl rfl (Rd.len hva rfl Ty.sl52 rfl) ?_
      refine WP.valG rfl rfl rfl rfl rfl rfl rfl (Val.add (z := ((l.length + 1 : Nat) : Int)) rfl rfl rfl ((w64 (by omega) (by omega)).trans (by omega))) ?_
      refine WP.valG rfl rfl rfl rfl rfl rfl rfl (Val.indexAddr (j := l.length + 1) (q := l.length * 6 + (l.length + 1) * 6) rfl Ty.sl58 rfl rfl (by omega) (by omega) (by omega)) ?_
      refine WP.valG rfl rfl rfl rfl rfl rfl rfl (Val.fieldAddr (j := l.length * 6 + (l.length + 1) * 6 + 2) rfl Ty.fo62_2 rfl rfl) ?_
      refine WP.valG rfl rfl rfl rfl rfl rfl rfl (Val.load (v := .int .i64 (an.n)) rfl Ty.sc3 rfl (fun w h => (by have h9 : w.cell? ⟨bA, l.length * 6 + i * 6 + 2, none⟩ = some (.int .i64 an.n) := tail_rd (by omega) w (h.at 4 rfl) i _ hla 2 _ rfl; rw [hin] at h9; exact h9))) ?_
      refine WP.valG rfl rfl rfl rfl rfl rfl rfl (Val.neq rfl rfl rfl) ?_
      refine WP.val rfl rfl rfl (Val.pickF rfl rfl rfl) ?_
      refine WP.val rfl rfl rfl (Val.move rfl rfl) ?_
      refine WP.split 92 rfl (fun h6 => ?_) (fun h6 => ?_)
      ·
       have h6 : (an.n ≠ (0 : Int)) := h6
       exfalso; omega
      ·
       have h6 : ¬ (an.n ≠ (0 : Int)) := h6
       refine WP.valG rfl rfl rfl rfl rfl rfl rfl (Val.move rfl rfl) ?_
       refine WP.valG rfl rfl rfl rfl rfl rfl rfl (Val.move rfl rfl) ?_
       refine WP.valG rfl rfl rfl rfl rfl rfl rfl (Rd.len hva rfl Ty.sl52 rfl) ?_
       refine WP.valG rfl rfl rfl rfl rfl rfl rfl (Val.add (z := ((l.length + 1 : Nat) : Int)) rfl rfl rfl ((w64 (by omega) (by omega)).trans (by omega))) ?_
       refine WP.valG rfl rfl rfl rfl rfl rfl rfl (Val.indexAddr (j := l.length + 1) (q := l.length * 6 + (l.length + 1) * 6) rfl Ty.sl58 rfl rfl (by omega) (by omega) (by omega)) ?_
       refine WP.valG rfl rfl rfl rfl rfl rfl rfl (Val.fieldAddr (j := l.length * 6 + (l.length + 1) * 6 + 2) rfl Ty.fo62_2 rfl rfl) ?_
       refine WP.valG rfl rfl rfl rfl rfl rfl rfl (Val.load (v := .int .i64 (bn.n)) rfl Ty.sc3 rfl (fun w h => (by have h9 : w.cell? ⟨bB, l.length * 6 + i * 6 + 2, none⟩ = some (.int .i64 bn.n) := tail_rd (by omega) w (h.at 0 rfl) i _ hlb 2 _ rfl; rw [hin] at h9; exact h9))) ?_
       refine WP.valG rfl rfl rfl rfl rfl rfl rfl (Val.neq rfl rfl rfl) ?_
       refine WP.val rfl rfl rfl (Val.pickF rfl rfl rfl) ?_
       refine WP.nx ?_
       refine WPc.ifP rfl (fun h7 => ?_) (fun h7 => ?_)
       ·
        have h7 : (bn.n ≠ (0 : Int)) := h7
        exfalso; omega
       ·
        have h7 : ¬ (bn.n ≠ (0 : Int)) := h7
        refine WPc.skip ?_
        refine Out.next ?_
        refine WPc.seq ?_
        refine WPc.perm pl8 ?_
        have hlL2 : ansL[l.length]? = some (BAns.mk 0 false 0 El0 E, lL) := by rw [List.getElem?_drop] at hlL; exact hlL
        refine WPc.conv (fun w h => (Sat.kOut hlL2 h).sep.drop) ?_
        show WPc _ _ _ _ _ _ (Own 55 2 lL E.length (flatOf El.cells E) :: Kds AnsP (ansL.take l.length ++ ansL.drop (l.length + 1)) :: _)
        refine WPc.region ?_
        refine WP.val rfl rfl rfl (Val.move rfl rfl) ?_
        refine WP.val rfl rfl rfl (Val.indexAddr (j := 0) (q := l.length * 6 + 0 * 6) rfl Ty.sl58 rfl rfl (by omega) (by omega) (by omega)) ?_
        refine WP.val rfl rfl rfl (Val.fieldAddr (j := l.length * 6 + 0 * 6 + 5) rfl Ty.fo62_4 rfl rfl) ?_
        refine WP.val rfl rfl rfl (Val.load (v := lL) rfl Ty.sc52 rfl (fun w h => (show w.cell? ⟨bL, l.length * 6 + 0 * 6 + 5, none⟩ = some lL from tail_rd (by omega) w (h.at 9 rfl) 0 _ hlL 5 _ rfl))) ?_
        refine WP.val rfl rfl rfl (Val.lenOwn rfl Ty.sl52 rfl (fun w h => h.at 0 rfl)) ?_
        refine WP.val rfl rfl rfl (Val.assign rfl rfl) ?_
        refine WP.nx ?_
        refine WPc.seq ?_
        refine WPc.seq ?_
        by_cases hE0 : 0 < E.length
        ·
         refine WPc.open (fun w h => h.ownPos hE0) ?_
         rintro ⟨g10, cg10, spg10⟩
         refine WPc.pure (fun hvg10 => ?_)
         obtain ⟨rfl, hng10, hlg10, hsg10, hcg10⟩ := hvg10
         dsimp only at hng10 hlg10 hsg10 hcg10
         show WPc _ _ _ _ _ _ (Blk g10 (flatOf El.cells E ++ spg10) 55 :: _)
         refine WPc.region ?_
         refine WP.val rfl rfl rfl (Val.move rfl rfl) ?_
         refine WP.val rfl rfl rfl (Rd.len hva rfl Ty.sl52 rfl) ?_
         refine WP.val rfl rfl rfl (Val.add (z := ((l.length + 1 : Nat) : Int)) rfl rfl rfl ((w64 (by omega) (by omega)).trans (by omega))) ?_
         refine WP.val rfl rfl rfl (Val.move rfl rfl) ?_
         refine WP.nx ?_
         refine WPc.block ?_
         refine WPc.perm pl1 ?_
         refine WPc.drop ?_
         refine WPc.perm pl2 ?_
         refine WPc.drop ?_
         refine WPc.perm pl3 ?_
         refine WPc.drop ?_
         refine WPc.perm pl4 ?_
         refine WPc.drop ?_
         refine WPc.perm pl4 ?_
         refine WPc.drop ?_
         refine WPc.perm pl1 ?_
         refine WPc.perm pl3 ?_
         refine WPc.perm pl4 ?_
         refine WPc.perm pl4 ?_
         refine WPc.loop (ι := Nat) (fun q => q ≤ l.length + 1) (fun q => [(7, .slice (some ⟨bL, l.length * 6, none⟩) (ansL.length - l.length) cL), (9, .slice (some ⟨bA, l.length * 6, none⟩) (ansA.length - l.length) cA), (11, .slice (some ⟨bB, l.length * 6, none⟩) (ansB.length - l.length) cB), (13, .int .i64 (((E.length : Nat) : Int))), (109, .int .i64 (((l.length + 1 : Nat) : Int))), (110, .int .i64 (((q : Nat) : Int)))]) (fun q => Old W0 :: Blk bL (flatOf ARc ansL ++ spL) 62 :: Blk bA (flatOf ARc ansA ++ spA) 62 :: Blk bB (flatOf ARc ansB ++ spB) 62 :: Blk g10 (flatOf El.cells E ++ spg10) 55 :: F) (fun q => l.length + 1 - q) 0 (Nat.zero_le _) ((Sub.cons rfl (Sub.cons rfl (Sub.cons rfl (Sub.cons rfl (Sub.cons rfl (Sub.cons rfl Sub.nil))))))) (fun _ h => h) ?_
         rintro q hq
         show WPc _ _ _ _ _ [(7, .slice (some ⟨bL, l.length * 6, none⟩) (ansL.length - l.length) cL), (9, .slice (some ⟨bA, l.length * 6, none⟩) (ansA.length - l.length) cA), (11, .slice (some ⟨bB, l.length * 6, none⟩) (ansB.length - l.length) cB), (13, .int .i64 (((E.length : Nat) : Int))), (109, .int .i64 (((l.length + 1 : Nat) : Int))), (110, .int .i64 (((q : Nat) : Int)))] _
         replace hq : q ≤ l.length + 1 := hq
         refine WPc.sr ?_
         refine WP.val rfl rfl rfl (Val.lss rfl rfl rfl) ?_
         refine WP.nx ?_
         refine WPc.seq ?_
         refine WPc.ifP rfl (fun h8 => ?_) (fun h8 => ?_)
         ·
          have h8 : (((q : Nat) : Int) < ((l.length + 1 : Nat) : Int)) := h8
          refine WPc.skip ?_
          refine Out.next ?_
          refine WPc.seq ?_
          refine WPc.block ?_
          refine WPc.sr ?_
          refine WP.val rfl rfl rfl (Val.move rfl rfl) ?_
          refine WP.val rfl rfl rfl (Val.assign rfl rfl) ?_
          refine WP.nx ?_
          refine WPc.seq ?_
          obtain ⟨a, ha1, ha2, ha3⟩ := hmn q (by omega)
          obtain ⟨b, hb1, hb2, hb3⟩ := hmx q (by omega)
          obtain ⟨qa, hqa⟩ := tail_at hansA ha1
          obtain ⟨qb, hqb⟩ := tail_at hansB hb1
          have ha2' : a.ok = decide (((q : Nat) : Int) < ((E.length : Nat) : Int)) := ha2.trans (decide_eq_decide.2 (by omega))
          have hb2' : b.ok = decide (((q : Nat) : Int) < ((E.length : Nat) : Int)) := hb2.trans (decide_eq_decide.2 (by omega))
          refine WPD.s0 Ty.mixed ?_
          refine WPD.tM 0 rfl rfl rfl rfl (Val.move rfl rfl) ?_
          refine WPD.tM 1 rfl rfl rfl rfl (Val.move rfl rfl) ?_
          refine WPD.tM 2 rfl rfl rfl rfl (Val.indexAddr (j := q) (q := l.length * 6 + q * 6) rfl Ty.sl58 rfl rfl (by omega) (by omega) (by omega)) ?_
          refine WPD.tM 3 rfl rfl rfl rfl (Val.fieldAddr (j := l.length * 6 + q * 6 + 1) rfl Ty.fo62_1 rfl rfl) ?_
          refine WPD.tL 4 rfl rfl rfl rfl (fun _ h => h) (Val.load (v := .bool (decide (((q : Nat) : Int) < ((E.length : Nat) : Int)))) rfl Ty.sc4 rfl (fun w h => (by have h9 : w.cell? ⟨bA, l.length * 6 + q * 6 + 1, none⟩ = some (.bool a.ok) := tail_rd (by omega) w (h.at 2 rfl) q _ hqa 1 _ rfl; rw [ha2'] at h9; exact h9))) ?_
          refine WPD.tM 5 rfl rfl rfl rfl (Val.move rfl rfl) ?_
          refine WPD.tM 6 rfl rfl rfl rfl (Val.move rfl rfl) ?_
          refine WPD.tM 7 rfl rfl rfl rfl (Val.lss rfl rfl rfl) ?_
          refine WPD.tM 8 rfl rfl rfl rfl (Val.neqSameB rfl Ty2.bo4 rfl rfl rfl) ?_
          refine WPD.tM 9 rfl rfl rfl rfl (Val.move rfl rfl) ?_
          refine WPD.takeGM 10 rfl rfl rfl rfl rfl rfl rfl rfl (by kernel_rfl) (by kernel_rfl) (by kernel_rfl) (by kernel_rfl) (fun _ _ _ h => h) (fun _ h => h) (Val.move rfl rfl) ?_
          refine WPD.takeGM 11 rfl rfl rfl rfl rfl rfl rfl rfl (by kernel_rfl) (by kernel_rfl) (by kernel_rfl) (by kernel_rfl) (fun _ _ _ h => h) (fun _ h => h) (Val.move rfl rfl) ?_
          refine WPD.takeGM 12 rfl rfl rfl rfl rfl rfl rfl rfl (by kernel_rfl) (by kernel_rfl) (by kernel_rfl) (by kernel_rfl) (fun _ _ _ h => h) (fun _ h => h) (Val.indexAddr (j := q) (q := l.length * 6 + q * 6) rfl Ty.sl58 rfl rfl (by omega) (by omega) (by omega)) ?_
          refine WPD.takeGM 13 rfl rfl rfl rfl rfl rfl rfl rfl (by kernel_rfl) (by kernel_rfl) (by kernel_rfl) (by kernel_rfl) (fun _ _ _ h => h) (fun _ h => h) (Val.fieldAddr (j := l.length * 6 + q * 6 + 1) rfl Ty.fo62_1 rfl rfl) ?_
          refine WPD.takeG 14 rfl rfl rfl rfl rfl rfl rfl rfl (by kernel_rfl) (by kernel_rfl) (by kernel_rfl) (by kernel_rfl) (fun _ _ _ h => h) (by kernel_rfl) (fun _ h => h) (Val.load (v := .bool (decide (((q : Nat) : Int) < ((E.length : Nat) : Int)))) rfl Ty.sc4 rfl (fun w h => (by have h9 : w.cell? ⟨bB, l.length * 6 + q * 6 + 1, none⟩ = some (.bool b.ok) := tail_rd (by omega) w (h.at 3 rfl) q _ hqb 1 _ rfl; rw [hb2'] at h9; exact h9))) ?_
          refine WPD.takeGM 15 rfl rfl rfl rfl rfl rfl rfl rfl (by kernel_rfl) (by kernel_rfl) (by kernel_rfl) (by kernel_rfl) (fun _ _ _ h => h) (fun _ h => h) (Val.move rfl rfl) ?_
          refine WPD.takeGM 16 rfl rfl rfl rfl rfl rfl rfl rfl (by kernel_rfl) (by kernel_rfl) (by kernel_rfl) (by kernel_rfl) (fun _ _ _ h => h) (fun _ h => h) (Val.move rfl rfl) ?_
          refine WPD.takeGM 17 rfl rfl rfl rfl rfl rfl rfl rfl (by kernel_rfl) (by kernel_rfl) (by kernel_rfl) (by kernel_rfl) (fun _ _ _ h => h) (fun _ h => h) (Val.lss rfl rfl rfl) ?_
          refine WPD.takeGM 18 rfl rfl rfl rfl rfl rfl rfl rfl (by kernel_rfl) (by kernel_rfl) (by kernel_rfl) (by kernel_rfl) (fun _ _ _ h => h) (fun _ h => h) (Val.neqSameB rfl Ty2.bo4 rfl rfl rfl) ?_
          refine WPD.tM 19 rfl rfl rfl rfl (Val.pickF rfl rfl rfl) ?_
          refine WPD.tM 20 rfl rfl rfl rfl (Val.move rfl rfl) ?_
          refine WPD.takeGM 21 rfl rfl rfl rfl rfl rfl rfl rfl (by kernel_rfl) (by kernel_rfl) (by kernel_rfl) (by kernel_rfl) (fun _ _ _ h => h) (fun _ h => h) (Val.move rfl rfl) ?_
          refine WPD.takeGM 22 rfl rfl rfl rfl rfl rfl rfl rfl (by kernel_rfl) (by kernel_rfl) (by kernel_rfl) (by kernel_rfl) (fun _ _ _ h => h) (fun _ h => h) (Val.move rfl rfl) ?_
          refine WPD.takeGM 23 rfl rfl rfl rfl rfl rfl rfl rfl (by kernel_rfl) (by kernel_rfl) (by kernel_rfl) (by kernel_rfl) (fun _ _ _ h => h) (fun _ h => h) (Val.lss rfl rfl rfl) ?_
          refine WPD.takeGM 24 rfl rfl rfl rfl rfl rfl rfl rfl (by kernel_rfl) (by kernel_rfl) (by kernel_rfl) (by kernel_rfl) (fun _ _ _ h => h) (fun _ h => h) (Val.move rfl rfl) ?_
          refine WPD.split 137 rfl (fun h9 => ?_) (fun h9 => ?_)
          ·
           have h9 : (((q : Nat) : Int) < ((E.length : Nat) : Int)) := h9
           obtain ⟨e, he⟩ : ∃ e, E[q]? = some e := ⟨_, List.getElem?_eq_getElem (by omega)⟩
           obtain ⟨e2, he2⟩ : ∃ e, E[E.length - 1 - q]? = some e := ⟨_, List.getElem?_eq_getElem (by omega)⟩
           have hae := ha3 e he
           have hbe := hb3 e2 (by omega) he2
           refine WPD.takeGM 25 rfl rfl rfl rfl rfl rfl rfl rfl (by kernel_rfl) (by kernel_rfl) (by kernel_rfl) (by kernel_rfl) (fun _ _ _ h => h) (fun _ h => h) (Val.move rfl rfl) ?_
           refine WPD.takeGM 26 rfl rfl rfl rfl rfl rfl rfl rfl (by kernel_rfl) (by kernel_rfl) (by kernel_rfl) (by kernel_rfl) (fun _ _ _ h => h) (fun _ h => h) (Val.move rfl rfl) ?_
           refine WPD.takeGM 27 rfl rfl rfl rfl rfl rfl rfl rfl (by kernel_rfl) (by kernel_rfl) (by kernel_rfl) (by kernel_rfl) (fun _ _ _ h => h) (fun _ h => h) (Val.indexAddr (j := q) (q := l.length * 6 + q * 6) rfl Ty.sl58 rfl rfl (by omega) (by omega) (by omega)) ?_
           refine WPD.takeGM 28 rfl rfl rfl rfl rfl rfl rfl rfl (by kernel_rfl) (by kernel_rfl) (by kernel_rfl) (by kernel_rfl) (fun _ _ _ h => h) (fun _ h => h) (Val.fieldAddr (j := l.length * 6 + q * 6 + 3) rfl Ty.fo62_3 rfl rfl) ?_
           refine WPD.takeG 29 rfl rfl rfl rfl rfl rfl rfl rfl (by kernel_rfl) (by kernel_rfl) (by kernel_rfl) (by kernel_rfl) (fun _ _ _ h => h) (by kernel_rfl) (fun _ h => h) (Val.loadAgg (cs := [.int .i64 (e.k), .int .i64 (e.v)]) rfl Ty.ag55 rfl (by rfl) (fun w h => (by have h9 := tail_el (by omega) (h.at 2 rfl) hqa; rw [hae] at h9; exact h9))) ?_
           refine WPD.takeGM 30 rfl rfl rfl rfl rfl rfl rfl rfl (by kernel_rfl) (by kernel_rfl) (by kernel_rfl) (by kernel_rfl) (fun _ _ _ h => h) (fun _ h => h) (Val.move rfl rfl) ?_
           refine WPD.takeGM 31 rfl rfl rfl rfl rfl rfl rfl rfl (by kernel_rfl) (by kernel_rfl) (by kernel_rfl) (by kernel_rfl) (fun _ _ _ h => h) (fun _ h => h) (Val.indexAddr (j := 0) (q := l.length * 6 + 0 * 6) rfl Ty.sl58 rfl rfl (by omega) (by omega) (by omega)) ?_
           refine WPD.takeGM 32 rfl rfl rfl rfl rfl rfl rfl rfl (by kernel_rfl) (by kernel_rfl) (by kernel_rfl) (by kernel_rfl) (fun _ _ _ h => h) (fun _ h => h) (Val.fieldAddr (j := l.length * 6 + 0 * 6 + 5) rfl Ty.fo62_4 rfl rfl) ?_
           refine WPD.takeG 33 rfl rfl rfl rfl rfl rfl rfl rfl (by kernel_rfl) (by kernel_rfl) (by kernel_rfl) (by kernel_rfl) (fun _ _ _ h => h) (by kernel_rfl) (fun _ h => h) (Val.load (v := .slice (some ⟨g10, 0, none⟩) E.length cg10) rfl Ty.sc52 rfl (fun w h => (show w.cell? ⟨bL, l.length * 6 + 0 * 6 + 5, none⟩ = some (.slice (some ⟨g10, 0, none⟩) E.length cg10) from tail_rd (by omega) w (h.at 1 rfl) 0 _ hlL 5 _ rfl))) ?_
           refine WPD.takeGM 34 rfl rfl rfl rfl rfl rfl rfl rfl (by kernel_rfl) (by kernel_rfl) (by kernel_rfl) (by kernel_rfl) (fun _ _ _ h => h) (fun _ h => h) (Val.move rfl rfl) ?_
           refine WPD.takeGM 35 rfl rfl rfl rfl rfl rfl rfl rfl (by kernel_rfl) (by kernel_rfl) (by kernel_rfl) (by kernel_rfl) (fun _ _ _ h => h) (fun _ h => h) (Val.indexAddr (j := q) (q := q * 2) rfl Ty.sl52 rfl rfl (by omega) (by omega) (by omega)) ?_
           refine WPD.takeG 36 rfl rfl rfl rfl rfl rfl rfl rfl (by kernel_rfl) (by kernel_rfl) (by kernel_rfl) (by kernel_rfl) (fun _ _ _ h => h) (by kernel_rfl) (fun _ h => h) (Val.loadAgg (cs := [.int .i64 (e.k), .int .i64 (e.v)]) rfl Ty.ag55 rfl (by rfl) (fun w h => (h.at 4 rfl).cell_range (flatOf_range El.len he))) ?_
           refine WPD.takeGM 37 rfl rfl rfl rfl rfl rfl rfl rfl (by kernel_rfl) (by kernel_rfl) (by kernel_rfl) (by kernel_rfl) (fun _ _ _ h => h) (fun _ h => h) (Val.eqEl (bo := false) rfl rfl rfl ⟨rfl, rfl⟩) ?_
           refine WPD.takeGM 38 rfl rfl rfl rfl rfl rfl rfl rfl (by kernel_rfl) (by kernel_rfl) (by kernel_rfl) (by kernel_rfl) (fun _ _ _ h => h) (fun _ h => h) (Val.move rfl rfl) ?_
           refine WPD.takeGM 39 rfl rfl rfl rfl rfl rfl rfl rfl (by kernel_rfl) (by kernel_rfl) (by kernel_rfl) (by kernel_rfl) (fun _ _ _ h => h) (fun _ h => h) (Val.move rfl rfl) ?_
           refine WPD.takeGM 40 rfl rfl rfl rfl rfl rfl rfl rfl (by kernel_rfl) (by kernel_rfl) (by kernel_rfl) (by kernel_rfl) (fun _ _ _ h => h) (fun _ h => h) (Val.move rfl rfl) ?_
           refine WPD.takeGM 41 rfl rfl rfl rfl rfl rfl rfl rfl (by kernel_rfl) (by kernel_rfl) (by kernel_rfl) (by kernel_rfl) (fun _ _ _ h => h) (fun _ h => h) (Val.indexAddr (j := q) (q := l.length * 6 + q * 6) rfl Ty.sl58 rfl rfl (by omega) (by omega) (by omega)) ?_
           refine WPD.takeGM 42 rfl rfl rfl rfl rfl rfl rfl rfl (by kernel_rfl) (by kernel_rfl) (by kernel_rfl) (by kernel_rfl) (fun _ _ _ h => h) (fun _ h => h) (Val.fieldAddr (j := l.length * 6 + q * 6 + 3) rfl Ty.fo62_3 rfl rfl) ?_
           refine WPD.takeG 43 rfl rfl rfl rfl rfl rfl rfl rfl (by kernel_rfl) (by kernel_rfl) (by kernel_rfl) (by kernel_rfl) (fun _ _ _ h => h) (by kernel_rfl) (fun _ h => h) (Val.loadAgg (cs := [.int .i64 (e2.k), .int .i64 (e2.v)]) rfl Ty.ag55 rfl (by rfl) (fun w h => (by have h9 := tail_el (by omega) (h.at 3 rfl) hqb; rw [hbe] at h9; exact h9))) ?_
           refine WPD.takeGM 44 rfl rfl rfl rfl rfl rfl rfl rfl (by kernel_rfl) (by kernel_rfl) (by kernel_rfl) (by kernel_rfl) (fun _ _ _ h => h) (fun _ h => h) (Val.move rfl rfl) ?_
           refine WPD.takeGM 45 rfl rfl rfl rfl rfl rfl rfl rfl (by kernel_rfl) (by kernel_rfl) (by kernel_rfl) (by kernel_rfl) (fun _ _ _ h => h) (fun _ h => h) (Val.indexAddr (j := 0) (q := l.length * 6 + 0 * 6) rfl Ty.sl58 rfl rfl (by omega) (by omega) (by omega)) ?_
           refine WPD.takeGM 46 rfl rfl rfl rfl rfl rfl rfl rfl (by kernel_rfl) (by kernel_rfl) (by kernel_rfl) (by kernel_rfl) (fun _ _ _ h => h) (fun _ h => h) (Val.fieldAddr (j := l.length * 6 + 0 * 6 + 5) rfl Ty.fo62_4 rfl rfl) ?_
           refine WPD.takeG 47 rfl rfl rfl rfl rfl rfl rfl rfl (by kernel_rfl) (by kernel_rfl) (by kernel_rfl) (by kernel_rfl) (fun _ _ _ h => h) (by kernel_rfl) (fun _ h => h) (Val.load (v := .slice (some ⟨g10, 0, none⟩) E.length cg10) rfl Ty.sc52 rfl (fun w h => (show w.cell? ⟨bL, l.length * 6 + 0 * 6 + 5, none⟩ = some (.slice (some ⟨g10, 0, none⟩) E.length cg10) from tail_rd (by omega) w (h.at 1 rfl) 0 _ hlL 5 _ rfl))) ?_
           refine WPD.takeGM 48 rfl rfl rfl rfl rfl rfl rfl rfl (by kernel_rfl) (by kernel_rfl) (by kernel_rfl) (by kernel_rfl) (fun _ _ _ h => h) (fun _ h => h) (Val.move rfl rfl) ?_
           refine WPD.takeGM 49 rfl rfl rfl rfl rfl rfl rfl rfl (by kernel_rfl) (by kernel_rfl) (by kernel_rfl) (by kernel_rfl) (fun _ _ _ h => h) (fun _ h => h) (Val.sub (z := ((E.length - 1 : Nat) : Int)) rfl rfl rfl ((w64 (by omega) (by omega)).trans (by omega))) ?_
           refine WPD.takeGM 50 rfl rfl rfl rfl rfl rfl rfl rfl (by kernel_rfl) (by kernel_rfl) (by kernel_rfl) (by kernel_rfl) (fun _ _ _ h => h) (fun _ h => h) (Val.move rfl rfl) ?_
           refine WPD.takeGM 51 rfl rfl rfl rfl rfl rfl rfl rfl (by kernel_rfl) (by kernel_rfl) (by kernel_rfl) (by kernel_rfl) (fun _ _ _ h => h) (fun _ h => h) (Val.sub (z := (((E.length - 1) - q : Nat) : Int)) rfl rfl rfl ((w64 (by omega) (by omega)).trans (by omega))) ?_
           refine WPD.takeGM 52 rfl rfl rfl rfl rfl rfl rfl rfl (by kernel_rfl) (by kernel_rfl) (by kernel_rfl) (by kernel_rfl) (fun _ _ _ h => h) (fun _ h => h) (Val.indexAddr (j := (E.length - 1) - q) (q := ((E.length - 1) - q) * 2) rfl Ty.sl52 rfl rfl (by omega) (by omega) (by omega)) ?_
           refine WPD.takeG 53 rfl rfl rfl rfl rfl rfl rfl rfl (by kernel_rfl) (by kernel_rfl) (by kernel_rfl) (by kernel_rfl) (fun _ _ _ h => h) (by kernel_rfl) (fun _ h => h) (Val.loadAgg (cs := [.int .i64 (e2.k), .int .i64 (e2.v)]) rfl Ty.ag55 rfl (by rfl) (fun w h => (h.at 4 rfl).cell_range (flatOf_range El.len he2))) ?_
           refine WPD.takeGM 54 rfl rfl rfl rfl rfl rfl rfl rfl (by kernel_rfl) (by kernel_rfl) (by kernel_rfl) (by kernel_rfl) (fun _ _ _ h => h) (fun _ h => h) (Val.eqEl (bo := false) rfl rfl rfl ⟨rfl, rfl⟩) ?_
           refine WPD.takeGM 55 rfl rfl rfl rfl rfl rfl rfl rfl (by kernel_rfl) (by kernel_rfl) (by kernel_rfl) (by kernel_rfl) (fun _ _ _ h => h) (fun _ h => h) (Val.pickF rfl rfl rfl) ?_
           refine WPD.takeGM 56 rfl rfl rfl rfl rfl rfl rfl rfl (by kernel_rfl) (by kernel_rfl) (by kernel_rfl) (by kernel_rfl) (fun _ _ _ h => h) (fun _ h => h) (Val.pickT rfl rfl rfl) ?_
           refine WPD.tM 57 rfl rfl rfl rfl (Val.pickF rfl rfl rfl) ?_
           refine WPD.done (by kernel_rfl) ?_
           refine Out.next ?_
           refine WPc.condF rfl rfl ?_
           refine WPc.skip ?_
           refine Out.block ?_
           refine Out.next ?_
           refine WPc.region ?_
           refine WP.val rfl rfl rfl (Val.add (z := ((q + 1 : Nat) : Int)) rfl rfl rfl ((w64 (by omega) (by omega)).trans (by omega))) ?_
           refine WP.val rfl rfl rfl (Val.move rfl rfl) ?_
           refine WP.nil ?_
           refine Out.again (q + 1) ?_ ?_ ?_ ?_
           ·
            exact (by first | omega | (dsimp only; omega))
           ·
            (first | omega | (dsimp only; omega))
           ·
            exact (Sub.cons rfl (Sub.cons rfl (Sub.cons rfl (Sub.cons rfl (Sub.cons rfl (Sub.cons rfl Sub.nil))))))
           ·
            exact (fun _ h => h)
          ·
           have h9 : ¬ (((q : Nat) : Int) < ((E.length : Nat) : Int)) := h9
           refine WPD.skip 25 rfl rfl rfl rfl rfl rfl rfl rfl (by kernel_rfl) (by kernel_rfl) (by kernel_rfl) (by kernel_rfl) (fun _ _ _ h => h) (fun _ h => h) ?_
           refine WPD.skip 26 rfl rfl rfl rfl rfl rfl rfl rfl (by kernel_rfl) (by kernel_rfl) (by kernel_rfl) (by kernel_rfl) (fun _ _ _ h => h) (fun _ h => h) ?_
           refine WPD.skip 27 rfl rfl rfl rfl rfl rfl rfl rfl (by kernel_rfl) (by kernel_rfl) (by kernel_rfl) (by kernel_rfl) (fun _ _ _ h => h) (fun _ h => h) ?_
           refine WPD.skip 28 rfl rfl rfl rfl rfl rfl rfl rfl (by kernel_rfl) (by kernel_rfl) (by kernel_rfl) (by kernel_rfl) (fun _ _ _ h => h) (fun _ h => h) ?_
           refine WPD.skip 29 rfl rfl rfl rfl rfl rfl rfl rfl (by kernel_rfl) (by kernel_rfl) (by kernel_rfl) (by kernel_rfl) (fun _ _ _ h => h) (fun _ h => h) ?_
           refine WPD.skip 30 rfl rfl rfl rfl rfl rfl rfl rfl (by kernel_rfl) (by kernel_rfl) (by kernel_rfl) (by kernel_rfl) (fun _ _ _ h => h) (fun _ h => h) ?_
           refine WPD.skip 31 rfl rfl rfl rfl rfl rfl rfl rfl (by kernel_rfl) (by kernel_rfl) (by kernel_rfl) (by kernel_rfl) (fun _ _ _ h => h) (fun _ h => h) ?_
           refine WPD.skip 32 rfl rfl rfl rfl rfl rfl rfl rfl (by kernel_rfl) (by kernel_rfl) (by kernel_rfl) (by kernel_rfl) (fun _ _ _ h => h) (fun _ h => h) ?_
           refine WPD.skip 33 rfl rfl rfl rfl rfl rfl rfl rfl (by kernel_rfl) (by kernel_rfl) (by kernel_rfl) (by kernel_rfl) (fun _ _ _ h => h) (fun _ h => h) ?_
           refine WPD.skip 34 rfl rfl rfl rfl rfl rfl rfl rfl (by kernel_rfl) (by kernel_rfl) (by kernel_rfl) (by kernel_rfl) (fun _ _ _ h => h) (fun _ h => h) ?_
           refine WPD.skip 35 rfl rfl rfl rfl rfl rfl rfl rfl (by kernel_rfl) (by kernel_rfl) (by kernel_rfl) (by kernel_rfl) (fun _ _ _ h => h) (fun _ h => h) ?_
           refine WPD.skip 36 rfl rfl rfl rfl rfl rfl rfl rfl (by kernel_rfl) (by kernel_rfl) (by kernel_rfl) (by kernel_rfl) (fun _ _ _ h => h) (fun _ h => h) ?_
           refine WPD.skip 37 rfl rfl rfl rfl rfl rfl rfl rfl (by kernel_rfl) (by kernel_rfl) (by kernel_rfl) (by kernel_rfl) (fun _ _ _ h => h) (fun _ h => h) ?_
           refine WPD.skip 38 rfl rfl rfl rfl rfl rfl rfl rfl (by kernel_rfl) (by kernel_rfl) (by kernel_rfl) (by kernel_rfl) (fun _ _ _ h => h) (fun _ h => h) ?_
           refine WPD.skipU 39 rfl rfl rfl rfl rfl rfl rfl (by kernel_rfl) (by kernel_rfl) (by kernel_rfl) (by kernel_rfl) (fun _ _ _ h => h) (fun _ h => h) ?_
           refine WPD.skipU 40 rfl rfl rfl rfl rfl rfl rfl (by kernel_rfl) (by kernel_rfl) (by kernel_rfl) (by kernel_rfl) (fun _ _ _ h => h) (fun _ h => h) ?_
           refine WPD.skipU 41 rfl rfl rfl rfl rfl rfl rfl (by kernel_rfl) (by kernel_rfl) (by kernel_rfl) (by kernel_rfl) (fun _ _ _ h => h) (fun _ h => h) ?_
           refine WPD.skipU 42 rfl rfl rfl rfl rfl rfl rfl (by kernel_rfl) (by kernel_rfl) (by kernel_rfl) (by kernel_rfl) (fun _ _ _ h => h) (fun _ h => h) ?_
           refine WPD.skipU 43 rfl rfl rfl rfl rfl rfl rfl (by kernel_rfl) (by kernel_rfl) (by kernel_rfl) (by kernel_rfl) (fun _ _ _ h => h) (fun _ h => h) ?_
           refine WPD.skipU 44 rfl rfl rfl rfl rfl rfl rfl (by kernel_rfl) (by kernel_rfl) (by kernel_rfl) (by kernel_rfl) (fun _ _ _ h => h) (fun _ h => h) ?_
           refine WPD.skipU 45 rfl rfl rfl rfl rfl rfl rfl (by kernel_rfl) (by kernel_rfl) (by kernel_rfl) (by kernel_rfl) (fun _ _ _ h => h) (fun _ h => h) ?_
           refine WPD.skipU 46 rfl rfl rfl rfl rfl rfl rfl (by kernel_rfl) (by kernel_rfl) (by kernel_rfl) (by kernel_rfl) (fun _ _ _ h => h) (fun _ h => h) ?_
           refine WPD.skipU 47 rfl rfl rfl rfl rfl rfl rfl (by kernel_rfl) (by kernel_rfl) (by kernel_rfl) (by kernel_rfl) (fun _ _ _ h => h) (fun _ h => h) ?_
           refine WPD.skipU 48 rfl rfl rfl rfl rfl rfl rfl (by kernel_rfl) (by kernel_rfl) (by kernel_rfl) (by kernel_rfl) (fun _ _ _ h => h) (fun _ h => h) ?_
           refine WPD.skipU 49 rfl rfl rfl rfl rfl rfl rfl (by kernel_rfl) (by kernel_rfl) (by kernel_rfl) (by kernel_rfl) (fun _ _ _ h => h) (fun _ h => h) ?_
           refine WPD.skipU 50 rfl rfl rfl rfl rfl rfl rfl (by kernel_rfl) (by kernel_rfl) (by kernel_rfl) (by kernel_rfl) (fun _ _ _ h => h) (fun _ h => h) ?_
           refine WPD.skipU 51 rfl rfl rfl rfl rfl rfl rfl (by kernel_rfl) (by kernel_rfl) (by kernel_rfl) (by kernel_rfl) (fun _ _ _ h => h) (fun _ h => h) ?_
           refine WPD.skipU 52 rfl rfl rfl rfl rfl rfl rfl (by kernel_rfl) (by kernel_rfl) (by kernel_rfl) (by kernel_rfl) (fun _ _ _ h => h) (fun _ h => h) ?_
           refine WPD.skipU 53 rfl rfl rfl rfl rfl rfl rfl (by kernel_rfl) (by kernel_rfl) (by kernel_rfl) (by kernel_rfl) (fun _ _ _ h => h) (fun _ h => h) ?_
           refine WPD.skipU 54 rfl rfl rfl rfl rfl rfl rfl (by kernel_rfl) (by kernel_rfl) (by kernel_rfl) (by kernel_rfl) (fun _ _ _ h => h) (fun _ h => h) ?_
           refine WPD.skip 55 rfl rfl rfl rfl rfl rfl rfl rfl (by kernel_rfl) (by kernel_rfl) (by kernel_rfl) (by kernel_rfl) (fun _ _ _ h => h) (fun _ h => h) ?_
           refine WPD.takeGM 56 rfl rfl rfl rfl rfl rfl rfl rfl (by kernel_rfl) (by kernel_rfl) (by kernel_rfl) (by kernel_rfl) (fun _ _ _ h => h) (fun _ h => h) (Val.pickF rfl rfl rfl) ?_
           refine WPD.tM 57 rfl rfl rfl rfl (Val.pickF rfl rfl rfl) ?_
           refine WPD.done (by kernel_rfl) ?_
           refine Out.next ?_
           refine WPc.condF rfl rfl ?_
           refine WPc.skip ?_
           refine Out.block ?_
           refine Out.next ?_
           refine WPc.region ?_
           refine WP.val rfl rfl rfl (Val.add (z := ((q + 1 : Nat) : Int)) rfl rfl rfl ((w64 (by omega) (by omega)).trans (by omega))) ?_
           refine WP.val rfl rfl rfl (Val.move rfl rfl) ?_
           refine WP.nil ?_
           refine Out.again (q + 1) ?_ ?_ ?_ ?_
           ·
            exact (by first | omega | (dsimp only; omega))
           ·
            (first | omega | (dsimp only; omega))
           ·
            exact (Sub.cons rfl (Sub.cons rfl (Sub.cons rfl (Sub.cons rfl (Sub.cons rfl (Sub.cons rfl Sub.nil))))))
           ·
            exact (fun _ h => h)
         ·
          have h8 : ¬ (((q : Nat) : Int) < ((l.length + 1 : Nat) : Int)) := h8
          refine WPc.exit ?_
          refine Out.then_exit ?_
          refine Out.then_exit ?_
          refine Out.block_exit ?_
          refine Out.next ?_
          refine WPc.sr ?_
          refine WP.eff rfl rfl rfl (Eff.call rfl rfl Try.call23 (live_spec 0)) ?_
          rintro _ _ ⟨_, ⟨rfl, rfl⟩, rfl⟩
          refine WP.val rfl rfl rfl (Val.assign rfl rfl) ?_
          refine WP.nx ?_
          refine WPc.ret ?_
          iterate 4 (refine Out.perm pl1 ?_; refine Out.drop ?_)
          exact Out.ret1 (L' := _) Try.results6 rfl ⟨rfl, rfl⟩ (fun _ h => h)
        ·
         refine WPc.region ?_
         refine WP.val rfl rfl rfl (Val.move rfl rfl) ?_
         refine WP.val rfl rfl rfl (Rd.len hva rfl Ty.sl52 rfl) ?_
         refine WP.val rfl rfl rfl (Val.add (z := ((l.length + 1 : Nat) : Int)) rfl rfl rfl ((w64 (by omega) (by omega)).trans (by omega))) ?_
         refine WP.val rfl rfl rfl (Val.move rfl rfl) ?_
         refine WP.nx ?_
         refine WPc.block ?_
         refine WPc.perm pl1 ?_
         refine WPc.drop ?_
         refine WPc.perm pl2 ?_
         refine WPc.drop ?_
         refine WPc.perm pl3 ?_
         refine WPc.drop ?_
         refine WPc.perm pl4 ?_
         refine WPc.drop ?_
         refine WPc.perm pl4 ?_
         refine WPc.drop ?_
         refine WPc.perm pl1 ?_
         refine WPc.perm pl3 ?_
         refine WPc.perm pl4 ?_
         refine WPc.perm pl4 ?_
         refine WPc.loop (ι := Nat) (fun q => q ≤ l.length + 1) (fun q => [(7, .slice (some ⟨bL, l.length * 6, none⟩) (ansL.length - l.length) cL), (9, .slice (some ⟨bA, l.length * 6, none⟩) (ansA.length - l.length) cA), (11, .slice (some ⟨bB, l.length * 6, none⟩) (ansB.length - l.length) cB), (13, .int .i64 (((E.length : Nat) : Int))), (109, .int .i64 (((l.length + 1 : Nat) : Int))), (110, .int .i64 (((q : Nat) : Int)))]) (fun q => Old W0 :: Blk bL (flatOf ARc ansL ++ spL) 62 :: Blk bA (flatOf ARc ansA ++ spA) 62 :: Blk bB (flatOf ARc ansB ++ spB) 62 :: Own 55 2 lL E.length (flatOf El.cells E) :: F) (fun q => l.length + 1 - q) 0 (Nat.zero_le _) ((Sub.cons rfl (Sub.cons rfl (Sub.cons rfl (Sub.cons rfl (Sub.cons rfl (Sub.cons rfl Sub.nil))))))) (fun _ h => h) ?_
         rintro q hq
         show WPc _ _ _ _ _ [(7, .slice (some ⟨bL, l.length * 6, none⟩) (ansL.length - l.length) cL), (9, .slice (some ⟨bA, l.length * 6, none⟩) (ansA.length - l.length) cA), (11, .slice (some ⟨bB, l.length * 6, none⟩) (ansB.length - l.length) cB), (13, .int .i64 (((E.length : Nat) : Int))), (109, .int .i64 (((l.length + 1 : Nat) : Int))), (110, .int .i64 (((q : Nat) : Int)))] _
         replace hq : q ≤ l.length + 1 := hq
         refine WPc.sr ?_
         refine WP.val rfl rfl rfl (Val.lss rfl rfl rfl) ?_
         refine WP.nx ?_
         refine WPc.seq ?_
         refine WPc.ifP rfl (fun h10 => ?_) (fun h10 => ?_)
         ·
          have h10 : (((q : Nat) : Int) < ((l.length + 1 : Nat) : Int)) := h10
          refine WPc.skip ?_
          refine Out.next ?_
          refine WPc.seq ?_
          refine WPc.block ?_
          refine WPc.sr ?_
          refine WP.val rfl rfl rfl (Val.move rfl rfl) ?_
          refine WP.val rfl rfl rfl (Val.assign rfl rfl) ?_
          refine WP.nx ?_
          refine WPc.seq ?_
          obtain ⟨a, ha1, ha2, ha3⟩ := hmn q (by omega)
          obtain ⟨b, hb1, hb2, hb3⟩ := hmx q (by omega)
          obtain ⟨qa, hqa⟩ := tail_at hansA ha1
          obtain ⟨qb, hqb⟩ := tail_at hansB hb1
          have ha2' : a.ok = decide (((q : Nat) : Int) < ((E.length : Nat) : Int)) := ha2.trans (decide_eq_decide.2 (by omega))
          have hb2' : b.ok = decide (((q : Nat) : Int) < ((E.length : Nat) : Int)) := hb2.trans (decide_eq_decide.2 (by omega))
          refine WPD.s0 Ty.mixed ?_
          refine WPD.tM 0 rfl rfl rfl rfl (Val.move rfl rfl) ?_
          refine WPD.tM 1 rfl rfl rfl rfl (Val.move rfl rfl) ?_
          refine WPD.tM 2 rfl rfl rfl rfl (Val.indexAddr (j := q) (q := l.length * 6 + q * 6) rfl Ty.sl58 rfl rfl (by omega) (by omega) (by omega)) ?_
          refine WPD.tM 3 rfl rfl rfl rfl (Val.fieldAddr (j := l.length * 6 + q * 6 + 1) rfl Ty.fo62_1 rfl rfl) ?_
          refine WPD.tL 4 rfl rfl rfl rfl (fun _ h => h) (Val.load (v := .bool (decide (((q : Nat) : Int) < ((E.length : Nat) : Int)))) rfl Ty.sc4 rfl (fun w h => (by have h9 : w.cell? ⟨bA, l.length * 6 + q * 6 + 1, none⟩ = some (.bool a.ok) := tail_rd (by omega) w (h.at 2 rfl) q _ hqa 1 _ rfl; rw [ha2'] at h9; exact h9))) ?_
          refine WPD.tM 5 rfl rfl rfl rfl (Val.move rfl rfl) ?_
          refine WPD.tM 6 rfl rfl rfl rfl (Val.move rfl rfl) ?_
          refine WPD.tM 7 rfl rfl rfl rfl (Val.lss rfl rfl rfl) ?_
          refine WPD.tM 8 rfl rfl rfl rfl (Val.neqSameB rfl Ty2.bo4 rfl rfl rfl) ?_
          refine WPD.tM 9 rfl rfl rfl rfl (Val.move rfl rfl) ?_
          refine WPD.takeGM 10 rfl rfl rfl rfl rfl rfl rfl rfl (by kernel_rfl) (by kernel_rfl) (by kernel_rfl) (by kernel_rfl) (fun _ _ _ h => h) (fun _ h => h) (Val.move rfl rfl) ?_
          refine WPD.takeGM 11 rfl rfl rfl rfl rfl rfl rfl rfl (by kernel_rfl) (by kernel_rfl) (by kernel_rfl) (by kernel_rfl) (fun _ _ _ h => h) (fun _ h => h) (Val.move rfl rfl) ?_
          refine WPD.takeGM 12 rfl rfl rfl rfl rfl rfl rfl rfl (by kernel_rfl) (by kernel_rfl) (by kernel_rfl) (by kernel_rfl) (fun _ _ _ h => h) (fun _ h => h) (Val.indexAddr (j := q) (q := l.length * 6 + q * 6) rfl Ty.sl58 rfl rfl (by omega) (by omega) (by omega)) ?_
          refine WPD.takeGM 13 rfl rfl rfl rfl rfl rfl rfl rfl (by kernel_rfl) (by kernel_rfl) (by kernel_rfl) (by kernel_rfl) (fun _ _ _ h => h) (fun _ h => h) (Val.fieldAddr (j := l.length * 6 + q * 6 + 1) rfl Ty.fo62_1 rfl rfl) ?_
          refine WPD.takeG 14 rfl rfl rfl rfl rfl rfl rfl rfl (by kernel_rfl) (by kernel_rfl) (by kernel_rfl) (by kernel_rfl) (fun _ _ _ h => h) (by kernel_rfl) (fun _ h => h) (Val.load (v := .bool (decide (((q : Nat) : Int) < ((E.length : Nat) : Int)))) rfl Ty.sc4 rfl (fun w h => (by have h9 : w.cell? ⟨bB, l.length * 6 + q * 6 + 1, none⟩ = some (.bool b.ok) := tail_rd (by omega) w (h.at 3 rfl) q _ hqb 1 _ rfl; rw [hb2'] at h9; exact h9))) ?_
          refine WPD.takeGM 15 rfl rfl rfl rfl rfl rfl rfl rfl (by kernel_rfl) (by kernel_rfl) (by kernel_rfl) (by kernel_rfl) (fun _ _ _ h => h) (fun _ h => h) (Val.move rfl rfl) ?_
          refine WPD.takeGM 16 rfl rfl rfl rfl rfl rfl rfl rfl (by kernel_rfl) (by kernel_rfl) (by kernel_rfl) (by kernel_rfl) (fun _ _ _ h => h) (fun _ h => h) (Val.move rfl rfl) ?_
          refine WPD.takeGM 17 rfl rfl rfl rfl rfl rfl rfl rfl (by kernel_rfl) (by kernel_rfl) (by kernel_rfl) (by kernel_rfl) (fun _ _ _ h => h) (fun _ h => h) (Val.lss rfl rfl rfl) ?_
          refine WPD.takeGM 18 rfl rfl rfl rfl rfl rfl rfl rfl (by kernel_rfl) (by kernel_rfl) (by kernel_rfl) (by kernel_rfl) (fun _ _ _ h => h) (fun _ h => h) (Val.neqSameB rfl Ty2.bo4 rfl rfl rfl) ?_
          refine WPD.tM 19 rfl rfl rfl rfl (Val.pickF rfl rfl rfl) ?_
          refine WPD.tM 20 rfl rfl rfl rfl (Val.move rfl rfl) ?_
          refine WPD.takeGM 21 rfl rfl rfl rfl rfl rfl rfl rfl (by kernel_rfl) (by kernel_rfl) (by kernel_rfl) (by kernel_rfl) (fun _ _ _ h => h) (fun _ h => h) (Val.move rfl rfl) ?_
          refine WPD.takeGM 22 rfl rfl rfl rfl rfl rfl rfl rfl (by kernel_rfl) (by kernel_rfl) (by kernel_rfl) (by kernel_rfl) (fun _ _ _ h => h) (fun _ h => h) (Val.move rfl rfl) ?_
          refine WPD.takeGM 23 rfl rfl rfl rfl rfl rfl rfl rfl (by kernel_rfl) (by kernel_rfl) (by kernel_rfl) (by kernel_rfl) (fun _ _ _ h => h) (fun _ h => h) (Val.lss rfl rfl rfl) ?_
          refine WPD.takeGM 24 rfl rfl rfl rfl rfl rfl rfl rfl (by kernel_rfl) (by kernel_rfl) (by kernel_rfl) (by kernel_rfl) (fun _ _ _ h => h) (fun _ h => h) (Val.move rfl rfl) ?_
          refine WPD.split 137 rfl (fun h11 => ?_) (fun h11 => ?_)
          ·
           have h11 : (((q : Nat) : Int) < ((E.length : Nat) : Int)) := h11
           exfalso; omega
          ·
           have h11 : ¬ (((q : Nat) : Int) < ((E.length : Nat) : Int)) := h11
           refine WPD.skip 25 rfl rfl rfl rfl rfl rfl rfl rfl (by kernel_rfl) (by kernel_rfl) (by kernel_rfl) (by kernel_rfl) (fun _ _ _ h => h) (fun _ h => h) ?_
           refine WPD.skip 26 rfl rfl rfl rfl rfl rfl rfl rfl (by kernel_rfl) (by kernel_rfl) (by kernel_rfl) (by kernel_rfl) (fun _ _ _ h => h) (fun _ h => h) ?_
           refine WPD.skip 27 rfl rfl rfl rfl rfl rfl rfl rfl (by kernel_rfl) (by kernel_rfl) (by kernel_rfl) (by kernel_rfl) (fun _ _ _ h => h) (fun _ h => h) ?_
           refine WPD.skip 28 rfl rfl rfl rfl rfl rfl rfl rfl (by kernel_rfl) (by kernel_rfl) (by kernel_rfl) (by kernel_rfl) (fun _ _ _ h => h) (fun _ h => h) ?_
           refine WPD.skip 29 rfl rfl rfl rfl rfl rfl rfl rfl (by kernel_rfl) (by kernel_rfl) (by kernel_rfl) (by kernel_rfl) (fun _ _ _ h => h) (fun _ h => h) ?_
           refine WPD.skip 30 rfl rfl rfl rfl rfl rfl rfl rfl (by kernel_rfl) (by kernel_rfl) (by kernel_rfl) (by kernel_rfl) (fun _ _ _ h => h) (fun _ h => h) ?_
           refine WPD.skip 31 rfl rfl rfl rfl rfl rfl rfl rfl (by kernel_rfl) (by kernel_rfl) (by kernel_rfl) (by kernel_rfl) (fun _ _ _ h => h) (fun _ h => h) ?_
           refine WPD.skip 32 rfl rfl rfl rfl rfl rfl rfl rfl (by kernel_rfl) (by kernel_rfl) (by kernel_rfl) (by kernel_rfl) (fun _ _ _ h => h) (fun _ h => h) ?_
           refine WPD.skip 33 rfl rfl rfl rfl rfl rfl rfl rfl (by kernel_rfl) (by kernel_rfl) (by kernel_rfl) (by kernel_rfl) (fun _ _ _ h => h) (fun _ h => h) ?_
           refine WPD.skip 34 rfl rfl rfl rfl rfl rfl rfl rfl (by kernel_rfl) (by kernel_rfl) (by kernel_rfl) (by kernel_rfl) (fun _ _ _ h => h) (fun _ h => h) ?_
           refine WPD.skip 35 rfl rfl rfl rfl rfl rfl rfl rfl (by kernel_rfl) (by kernel_rfl) (by kernel_rfl) (by kernel_rfl) (fun _ _ _ h => h) (fun _ h => h) ?_
           refine WPD.skip 36 rfl rfl rfl rfl rfl rfl rfl rfl (by kernel_rfl) (by kernel_rfl) (by kernel_rfl) (by kernel_rfl) (fun _ _ _ h => h) (fun _ h => h) ?_
           refine WPD.skip 37 rfl rfl rfl rfl rfl rfl rfl rfl (by kernel_rfl) (by kernel_rfl) (by kernel_rfl) (by kernel_rfl) (fun _ _ _ h => h) (fun _ h => h) ?_
           refine WPD.skip 38 rfl rfl rfl rfl rfl rfl rfl rfl (by kernel_rfl) (by kernel_rfl) (by kernel_rfl) (by kernel_rfl) (fun _ _ _ h => h) (fun _ h => h) ?_
           refine WPD.skipU 39 rfl rfl rfl rfl rfl rfl rfl (by kernel_rfl) (by kernel_rfl) (by kernel_rfl) (by kernel_rfl) (fun _ _ _ h => h) (fun _ h => h) ?_
           refine WPD.skipU 40 rfl rfl rfl rfl rfl rfl rfl (by kernel_rfl) (by kernel_rfl) (by kernel_rfl) (by kernel_rfl) (fun _ _ _ h => h) (fun _ h => h) ?_
           refine WPD.skipU 41 rfl rfl rfl rfl rfl rfl rfl (by kernel_rfl) (by kernel_rfl) (by kernel_rfl) (by kernel_rfl) (fun _ _ _ h => h) (fun _ h => h) ?_
           refine WPD.skipU 42 rfl rfl rfl rfl rfl rfl rfl (by kernel_rfl) (by kernel_rfl) (by kernel_rfl) (by kernel_rfl) (fun _ _ _ h => h) (fun _ h => h) ?_
           refine WPD.skipU 43 rfl rfl rfl rfl rfl rfl rfl (by kernel_rfl) (by kernel_rfl) (by kernel_rfl) (by kernel_rfl) (fun _ _ _ h => h) (fun _ h => h) ?_
           refine WPD.skipU 44 rfl rfl rfl rfl rfl rfl rfl (by kernel_rfl) (by kernel_rfl) (by kernel_rfl) (by kernel_rfl) (fun _ _ _ h => h) (fun _ h => h) ?_
           refine WPD.skipU 45 rfl rfl rfl rfl rfl rfl rfl (by kernel_rfl) (by kernel_rfl) (by kernel_rfl) (by kernel_rfl) (fun _ _ _ h => h) (fun _ h => h) ?_
           refine WPD.skipU 46 rfl rfl rfl rfl rfl rfl rfl (by kernel_rfl) (by kernel_rfl) (by kernel_rfl) (by kernel_rfl) (fun _ _ _ h => h) (fun _ h => h) ?_
           refine WPD.skipU 47 rfl rfl rfl rfl rfl rfl rfl (by kernel_rfl) (by kernel_rfl) (by kernel_rfl) (by kernel_rfl) (fun _ _ _ h => h) (fun _ h => h) ?_
           refine WPD.skipU 48 rfl rfl rfl rfl rfl rfl rfl (by kernel_rfl) (by kernel_rfl) (by kernel_rfl) (by kernel_rfl) (fun _ _ _ h => h) (fun _ h => h) ?_
           refine WPD.skipU 49 rfl rfl rfl rfl rfl rfl rfl (by kernel_rfl) (by kernel_rfl) (by kernel_rfl) (by kernel_rfl) (fun _ _ _ h => h) (fun _ h => h) ?_
           refine WPD.skipU 50 rfl rfl rfl rfl rfl rfl rfl (by kernel_rfl) (by kernel_rfl) (by kernel_rfl) (by kernel_rfl) (fun _ _ _ h => h) (fun _ h => h) ?_
           refine WPD.skipU 51 rfl rfl rfl rfl rfl rfl rfl (by kernel_rfl) (by kernel_rfl) (by kernel_rfl) (by kernel_rfl) (fun _ _ _ h => h) (fun _ h => h) ?_
           refine WPD.skipU 52 rfl rfl rfl rfl rfl rfl rfl (by kernel_rfl) (by kernel_rfl) (by kernel_rfl) (by kernel_rfl) (fun _ _ _ h => h) (fun _ h => h) ?_
           refine WPD.skipU 53 rfl rfl rfl rfl rfl rfl rfl (by kernel_rfl) (by kernel_rfl) (by kernel_rfl) (by kernel_rfl) (fun _ _ _ h => h) (fun _ h => h) ?_
           refine WPD.skipU 54 rfl rfl rfl rfl rfl rfl rfl (by kernel_rfl) (by kernel_rfl) (by kernel_rfl) (by kernel_rfl) (fun _ _ _ h => h) (fun _ h => h) ?_
           refine WPD.skip 55 rfl rfl rfl rfl rfl rfl rfl rfl (by kernel_rfl) (by kernel_rfl) (by kernel_rfl) (by kernel_rfl) (fun _ _ _ h => h) (fun _ h => h) ?_
           refine WPD.takeGM 56 rfl rfl rfl rfl rfl rfl rfl rfl (by kernel_rfl) (by kernel_rfl) (by kernel_rfl) (by kernel_rfl) (fun _ _ _ h => h) (fun _ h => h) (Val.pickF rfl rfl rfl) ?_
           refine WPD.tM 57 rfl rfl rfl rfl (Val.pickF rfl rfl rfl) ?_
           refine WPD.done (by kernel_rfl) ?_
           refine Out.next ?_
           refine WPc.condF rfl rfl ?_
           refine WPc.skip ?_
           refine Out.block ?_
           refine Out.next ?_
           refine WPc.region ?_
           refine WP.val rfl rfl rfl (Val.add (z := ((q + 1 : Nat) : Int)) rfl rfl rfl ((w64 (by omega) (by omega)).trans (by omega))) ?_
           refine WP.val rfl rfl rfl (Val.move rfl rfl) ?_
           refine WP.nil ?_
           refine Out.again (q + 1) ?_ ?_ ?_ ?_
           ·
            exact (by first | omega | (dsimp only; omega))
           ·
            (first | omega | (dsimp only; omega))
           ·
            exact (Sub.cons rfl (Sub.cons rfl (Sub.cons rfl (Sub.cons rfl (Sub.cons rfl (Sub.cons rfl Sub.nil))))))
           ·
            exact (fun _ h => h)
         ·
          have h10 : ¬ (((q : Nat) : Int) < ((l.length + 1 : Nat) : Int)) := h10
          refine WPc.exit ?_
          refine Out.then_exit ?_
          refine Out.then_exit ?_
          refine Out.block_exit ?_
          refine Out.next ?_
          refine WPc.sr ?_
          refine WP.eff rfl rfl rfl (Eff.call rfl rfl Try.call23 (live_spec 0)) ?_
          rintro _ _ ⟨_, ⟨rfl, rfl⟩, rfl⟩
          refine WP.val rfl rfl rfl (Val.assign rfl rfl) ?_
          refine WP.nx ?_
          refine WPc.ret ?_
          iterate 4 (refine Out.perm pl1 ?_; refine Out.drop ?_)
          exact Out.ret1 (L' := _) Try.results6 rfl ⟨rfl, rfl⟩ (fun _ h => h)

end Go.Proofs.Ythmkdioafjmclaa.Bt20
