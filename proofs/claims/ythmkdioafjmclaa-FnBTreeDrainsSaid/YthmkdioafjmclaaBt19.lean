import Derived.Test.YthmkdioafjmclaaSlTerse
import Derived.Test.YthmkdioafjmclaaBt18
namespace Go.Proofs.Ythmkdioafjmclaa.Bt19
open Go.RowKit Go.Proofs.Ythmkdioafjmclaa Go.Proofs.Ythmkdioafjmclaa.Sl Go.Proofs.Ythmkdioafjmclaa.Bt Go.Proofs.Ythmkdioafjmclaa.Bt2 Go.Proofs.Ythmkdioafjmclaa.Bt3 Go.Proofs.Ythmkdioafjmclaa.Bt4 Go.Proofs.Ythmkdioafjmclaa.Bt5 Go.Proofs.Ythmkdioafjmclaa.Bt6 Go.Proofs.Ythmkdioafjmclaa.Bt7 Go.Proofs.Ythmkdioafjmclaa.Bt8 Go.Proofs.Ythmkdioafjmclaa.Bt9 Go.Proofs.Ythmkdioafjmclaa.Bt10 Go.Proofs.Ythmkdioafjmclaa.Bt11 Go.Proofs.Ythmkdioafjmclaa.Bt12 Go.Proofs.Ythmkdioafjmclaa.Bt13 Go.Proofs.Ythmkdioafjmclaa.Bt14 Go.Proofs.Ythmkdioafjmclaa.BtP Go.Proofs.Ythmkdioafjmclaa.Bt15 Go.Proofs.Ythmkdioafjmclaa.Bt16 Go.Proofs.Ythmkdioafjmclaa.Bt17 Go.Proofs.Ythmkdioafjmclaa.Bt18
set_option linter.unusedVariables false
set_option linter.unusedSimpArgs false
set_option linter.unusedSectionVars false


theorem puts_known (l : List El) : ∀ x ∈ l.map putB, Known x := fun x hx => by obtain ⟨y, -, rfl⟩ := List.mem_map.1 hx; exact ⟨rfl, .inl rfl⟩
theorem known_app {a b : List Bop} (ha : ∀ x ∈ a, Known x) (hb : ∀ x ∈ b, Known x) : ∀ x ∈ a ++ b, Known x := fun x hx => (List.mem_append.1 hx).elim (ha x) (hb x)
/-- what stands in an answers' row behind the n-th -/
theorem tail_rd {b : Nat} {sp : List Value} {ans : List (BAns × Value)} {n : Nat} (hn : n ≤ ans.length) : ∀ w, Holds (Blk b (flatOf ARc ans ++ sp) 62) w → ∀ i x, (ans.drop n)[i]? = some x → w.rangeAt b (n * 6 + i * 6) (ARc x) := fun w hw i x hx => by
 rw [← Nat.add_mul]
 rw [List.getElem?_drop] at hx
 exact hw.cell_range (flatOf_range ARc_len hx)
set_option maxRecDepth 100000 in
set_option maxHeartbeats 2000000 in
theorem tail_spec (A : HProp) (d : Nat) (hd1 : 2 ≤ d) (hd2 : d ≤ 64) (l : List El) (hl : l.length ≤ 1000) (va : Value) (hva : Rd A 2 El.cells va l) (ol : List Bop) (ho1 : 0 < ol.length) (ho2 : ol.length ≤ 10000) (hkn : ∀ x ∈ ol, Known x) (vb : Value) : Does Try.prog 24 [.int .i64 (((d : Nat) : Int)), va, vb] [A, Own 57 8 vb ol.length (flatOf Bop.cells ol)] (fun v L => ∃ (b c : Nat) (sp : List Value) (ans : List (BAns × Value)), ans.map (·.1) = (runS d (l.map putB ++ ol)).2 ∧ v = .tuple #[.slice (some ⟨b, l.length * 6, none⟩) (ans.length - l.length) c, .bool true] ∧ L = [Blk b (flatOf ARc ans ++ sp) 62, Kds AnsP ans, A]) := by
 have hml : (l.map putB).length = l.length := List.length_map _
 refine Does.enter 27 Try.func24 rfl rfl rfl fun W F => ?_
 show WPc _ _ _ _ _ [(0, .int .i64 (((d : Nat) : Int))), (1, va), (2, vb)] (A :: Own 57 8 vb ol.length (flatOf Bop.cells ol) :: F)
 refine WPc.sr ?_
 refine WP.val rfl rfl rfl (Val.assign rfl rfl) ?_
 refine WP.val rfl rfl rfl (Val.assign rfl rfl) ?_
 refine WP.nx ?_
 refine WPc.sr ?_
 refine WP.val rfl rfl rfl (Val.move rfl rfl) ?_
 refine WP.val rfl rfl rfl (Val.move rfl rfl) ?_
 refine WP.eff rfl rfl rfl (Eff.call rfl rfl Try.call29 (put_spec A l (by omega) va hva)) ?_
 rintro vp _ ⟨_, rfl, rfl⟩
 show WP _ _ _ _ _ _ _ (Own 57 8 vp ((l.map putB).length) (flatOf Bop.cells (l.map putB)) :: _)
 refine WP.val rfl rfl rfl (Val.move rfl rfl) ?_
 refine WP.eff rfl rfl rfl (Eff.append (m := ol.length) (n0 := (l.map putB).length) (news := flatOf Bop.cells ol) rfl Ty.sl53 Ty.z57 rfl rfl rfl (Srcs.ownAt Ty.sl53 (bop_one _) 2 rfl) (by omega) (by omega)) ?_
 rintro v1 _ ⟨onev1, rfl⟩
 refine WP.c1 (B := Own 57 8 v1 ((l.map putB ++ ol).length) (flatOf Bop.cells (l.map putB ++ ol))) (fun w h => by rw [flatOf_append, List.length_append]; exact h) ?_
 refine WP.open (fun w h => own_rdG (l := (l.map putB ++ ol)) Bop.len h) ?_
 rintro RB
 refine WP.pure (fun hRB => ?_)
 show WP _ _ _ _ _ _ _ (RB :: _)
 refine WP.eff rfl rfl rfl (Eff.call rfl rfl Try.call26 (btree_spec RB d hd1 hd2 (l.map putB ++ ol) (by rw [List.length_append, List.length_map]; omega) (known_app (puts_known l) hkn) v1 hRB)) ?_
 rintro vr _ ⟨_, ⟨ans, hans, rfl⟩, rfl⟩
 show WP _ _ _ _ _ _ _ (Own 62 6 vr ans.length (flatOf ARc ans) :: Kds AnsP ans :: _)
 refine WP.val rfl rfl rfl (Val.assign rfl rfl) ?_
 refine WP.nx ?_
 refine WPc.seq ?_
 refine WPc.seq ?_
 have hal : ans.length = l.length + ol.length := by have := congrArg List.length hans; rw [List.length_map] at this; rw [this]; exact (runF_len _ _).trans (by rw [List.length_append, List.length_map])
 refine WPc.region ?_
 refine WP.val rfl rfl rfl (Val.move rfl rfl) ?_
 refine WP.val rfl rfl rfl (Val.lenOwn rfl Ty.sl58 rfl (fun w h => h.at 0 rfl)) ?_
 refine WP.val rfl rfl rfl (Val.move rfl rfl) ?_
 refine WP.val rfl rfl rfl (Rd.len hva rfl Ty.sl52 rfl) ?_
 refine WP.val rfl rfl rfl (Val.move rfl rfl) ?_
 refine WP.val rfl rfl rfl (Val.lenOwn rfl Ty.sl53 rfl (fun w h => h.at 4 rfl)) ?_
 refine WP.val rfl rfl rfl (Val.add (z := ((l.length + ol.length : Nat) : Int)) rfl rfl rfl ((w64 (by omega) (by omega)).trans (by omega))) ?_
 refine WP.val rfl rfl rfl (Val.neq rfl rfl rfl) ?_
 refine WP.nx ?_
 refine WPc.ifP rfl (fun h1 => ?_) (fun h1 => ?_)
 ·
  have h1 : (((ans.length : Nat) : Int) ≠ ((l.length + ol.length : Nat) : Int)) := h1
  exfalso; omega
 ·
  have h1 : ¬ (((ans.length : Nat) : Int) ≠ ((l.length + ol.length : Nat) : Int)) := h1
  refine WPc.skip ?_
  refine Out.next ?_
  refine WPc.seq ?_
  refine WPc.open (fun w h => h.ownPos (by omega)) ?_
  rintro ⟨g2, cg2, spg2⟩
  refine WPc.pure (fun hvg2 => ?_)
  obtain ⟨rfl, hng2, hlg2, hsg2, hcg2⟩ := hvg2
  dsimp only at hng2 hlg2 hsg2 hcg2
  show WPc _ _ _ _ _ _ (Blk g2 (flatOf ARc ans ++ spg2) 62 :: _)
  refine WPc.region ?_
  refine WP.val rfl rfl rfl (Val.move rfl rfl) ?_
  refine WP.val rfl rfl rfl (Val.move rfl rfl) ?_
  refine WP.val rfl rfl rfl (Rd.len hva rfl Ty.sl52 rfl) ?_
  refine WP.val rfl rfl rfl (Val.slice (lo := l.length) (hi := ans.length) (j := (if cg2 = l.length then 0 else 0 + l.length * 6)) (vlo := some (.i64, ((l.length : Nat) : Int))) (vhi := none) rfl Ty.sl58 rfl rfl rfl (by simp [bnd]; try omega) (by simp [bnd]; try omega) (by omega) (by omega) (by omega) rfl) ?_
  refine WP.val rfl rfl rfl (Val.assign rfl rfl) ?_
  refine WP.val rfl rfl rfl (Val.assign rfl rfl) ?_
  refine WP.nx ?_
  refine WPc.ret ?_
  have hoff : (if cg2 = l.length then 0 else 0 + l.length * 6) = l.length * 6 := by rw [if_neg (by omega)]; omega
  refine Out.perm pl2 ?_
  refine Out.drop ?_
  refine Out.perm pl3 ?_
  refine Out.drop ?_
  exact Out.ret2 (L' := _) Try.results24 rfl rfl ⟨g2, cg2 - l.length, spg2, ans, hans, by rw [hoff], rfl⟩ (fun _ h => h)

def liveOps : List Bop := [⟨1, 0, ⟨4, 7⟩, 0, 0, 0, false⟩, ⟨3, 0, ⟨4, 0⟩, 0, 0, 0, false⟩]
theorem live_run : (runS 2 liveOps).2 = [⟨0, false, 0, El0, []⟩, ⟨0, true, 0, ⟨4, 7⟩, []⟩] := by rfl
theorem live_known : ∀ x ∈ liveOps, Known x := fun x hx => by
 simp only [liveOps, List.mem_cons, List.not_mem_nil, or_false] at hx
 rcases hx with rfl | rfl
 ·
  exact ⟨rfl, .inl rfl⟩
 ·
  exact ⟨rfl, .inr (.inl rfl)⟩
theorem two_ans {ans : List (BAns × Value)} (h : ans.map (·.1) = (runS 2 liveOps).2) : ∃ u v, ans = [(⟨0, false, 0, El0, []⟩, u), (⟨0, true, 0, ⟨4, 7⟩, []⟩, v)] := by
 rw [live_run] at h
 match ans, h with
 | [(a, u), (b, v)], h =>
  simp only [List.map_cons, List.map_nil, List.cons.injEq, and_true] at h
  obtain ⟨rfl, rfl⟩ := h
  exact ⟨u, v, rfl⟩
set_option maxRecDepth 100000 in
set_option maxHeartbeats 2000000 in
theorem live_spec (z : Nat) : Does Try.prog 23 [] [] (fun v L => v = .bool true ∧ L = []) := by
 refine Does.enter 25 Try.func23 rfl rfl rfl fun W F => ?_
 show WPc _ _ _ _ _ [] (F)
 refine WPc.sr ?_
 refine WP.val rfl rfl rfl (Val.assign rfl rfl) ?_
 refine WP.nx ?_
 refine WPc.sr ?_
 refine WP.val rfl rfl rfl (Val.mk (cs := [.int .i64 4, .int .i64 7]) rfl rfl (fun _ => by kernel_rfl)) ?_
 refine WP.val rfl rfl rfl (Val.mk (cs := [.int .i64 1, .int .i64 0, .int .i64 4, .int .i64 7, .int .i64 0, .int .i64 0, .int .i64 0, .bool false]) rfl rfl (fun _ => by kernel_rfl)) ?_
 refine WP.val rfl rfl rfl (Val.mk (cs := [.int .i64 4, .int .i64 0]) rfl rfl (fun _ => by kernel_rfl)) ?_
 refine WP.val rfl rfl rfl (Val.mk (cs := [.int .i64 3, .int .i64 0, .int .i64 4, .int .i64 0, .int .i64 0, .int .i64 0, .int .i64 0, .bool false]) rfl rfl (fun _ => by kernel_rfl)) ?_
 refine WP.eff rfl rfl rfl (Eff.mkSlice (C := [.int .i64 1, .int .i64 0, .int .i64 4, .int .i64 7, .int .i64 0, .int .i64 0, .int .i64 0, .bool false, .int .i64 3, .int .i64 0, .int .i64 4, .int .i64 0, .int .i64 0, .int .i64 0, .int .i64 0, .bool false]) rfl Ty.sl53 rfl (fun _ => by kernel_rfl)) ?_
 rintro _ _ ⟨b1, rfl, rfl⟩
 refine WP.eff rfl rfl rfl (Eff.call rfl rfl Try.call26 (btree_spec (Blk b1 (flatOf Bop.cells liveOps) 57) 2 (by decide) (by decide) liveOps (by decide) live_known (.slice (some ⟨b1, 0, none⟩) 2 2) (rd_blk (cf := Bop.cells) (k := 8) Bop.len b1 2 57 liveOps))) ?_
 rintro vr _ ⟨_, ⟨ans, hans, rfl⟩, rfl⟩
 show WP _ _ _ _ _ _ _ (Own 62 6 vr ans.length (flatOf ARc ans) :: Kds AnsP ans :: Blk b1 (flatOf Bop.cells liveOps) 57 :: _)
 refine WP.val rfl rfl rfl (Val.assign rfl rfl) ?_
 refine WP.nx ?_
 refine WPc.seq ?_
 obtain ⟨lu, lv, rfl⟩ := two_ans hans
 show WPc _ _ _ _ _ _ (Own 62 6 vr 2 (flatOf ARc [(BAns.mk 0 false 0 El0 [], lu), (BAns.mk 0 true 0 ⟨4, 7⟩ [], lv)]) :: Kds AnsP [(BAns.mk 0 false 0 El0 [], lu), (BAns.mk 0 true 0 ⟨4, 7⟩ [], lv)] :: _)
 refine WPc.open (fun w h => h.ownPos (by decide)) ?_
 rintro ⟨g2, cg2, spg2⟩
 refine WPc.pure (fun hvg2 => ?_)
 obtain ⟨rfl, hng2, hlg2, hsg2, hcg2⟩ := hvg2
 dsimp only at hng2 hlg2 hsg2 hcg2
 show WPc _ _ _ _ _ _ (Blk g2 (flatOf ARc [(BAns.mk 0 false 0 El0 [], lu), (BAns.mk 0 true 0 ⟨4, 7⟩ [], lv)] ++ spg2) 62 :: _)
 refine WPc.region ?_
 refine WP.val rfl rfl rfl (Val.move rfl rfl) ?_
 refine WP.val rfl rfl rfl (Val.len rfl Ty.sl58 rfl) ?_
 refine WP.val rfl rfl rfl (Val.eqlK rfl rfl rfl rfl) ?_
 refine WP.val rfl rfl rfl (Val.move rfl rfl) ?_
 refine WP.valG rfl rfl rfl rfl rfl rfl rfl (Val.move rfl rfl) ?_
 refine WP.valG rfl rfl rfl rfl rfl rfl rfl (Val.indexAddr (j := 1) (q := 6) rfl Ty.sl58 rfl rfl (by omega) (by omega) (by omega)) ?_
 refine WP.valG rfl rfl rfl rfl rfl rfl rfl (Val.fieldAddr (j := 7) rfl Ty.fo62_1 rfl rfl) ?_
 refine WP.valG rfl rfl rfl rfl rfl rfl rfl (Val.load (v := .bool true) rfl Ty.sc4 rfl (fun w h => ((h.at 0 rfl).cell 7).trans rfl)) ?_
 refine WP.val rfl rfl rfl (Val.pickT rfl rfl rfl) ?_
 refine WP.val rfl rfl rfl (Val.move rfl rfl) ?_
 refine WP.valG rfl rfl rfl rfl rfl rfl rfl (Val.move rfl rfl) ?_
 refine WP.valG rfl rfl rfl rfl rfl rfl rfl (Val.indexAddr (j := 1) (q := 6) rfl Ty.sl58 rfl rfl (by omega) (by omega) (by omega)) ?_
 refine WP.valG rfl rfl rfl rfl rfl rfl rfl (Val.fieldAddr (j := 9) rfl Ty.fo62_3 rfl rfl) ?_
 refine WP.valG rfl rfl rfl rfl rfl rfl rfl (Val.loadAgg (cs := [.int .i64 4, .int .i64 7]) rfl Ty.ag55 rfl (by rfl) (fun w h => (h.at 0 rfl).cell_range rfl)) ?_
 refine WP.valG rfl rfl rfl rfl rfl rfl rfl (Val.mk (cs := [.int .i64 4, .int .i64 7]) rfl rfl (fun _ => by kernel_rfl)) ?_
 refine WP.valG rfl rfl rfl rfl rfl rfl rfl (Val.eqEl (bo := true) rfl rfl rfl ⟨rfl, rfl⟩) ?_
 refine WP.val rfl rfl rfl (Val.pickT rfl rfl rfl) ?_
 refine WP.val rfl rfl rfl (Val.assign rfl rfl) ?_
 refine WP.nx ?_
 refine WPc.ret ?_
 iterate 3 (refine Out.drop ?_)
 exact Out.ret1 (L' := []) Try.results23 rfl ⟨rfl, rfl⟩ (fun _ h => h)

end Go.Proofs.Ythmkdioafjmclaa.Bt19
