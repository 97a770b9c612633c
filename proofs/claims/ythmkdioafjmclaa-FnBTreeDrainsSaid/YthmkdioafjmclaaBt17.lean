import Derived.Test.YthmkdioafjmclaaSlTerse
import Derived.Test.YthmkdioafjmclaaBt16
namespace Go.Proofs.Ythmkdioafjmclaa.Bt17
open Go.RowKit Go.Proofs.Ythmkdioafjmclaa Go.Proofs.Ythmkdioafjmclaa.Sl Go.Proofs.Ythmkdioafjmclaa.Bt Go.Proofs.Ythmkdioafjmclaa.Bt2 Go.Proofs.Ythmkdioafjmclaa.Bt3 Go.Proofs.Ythmkdioafjmclaa.Bt4 Go.Proofs.Ythmkdioafjmclaa.Bt5 Go.Proofs.Ythmkdioafjmclaa.Bt6 Go.Proofs.Ythmkdioafjmclaa.Bt7 Go.Proofs.Ythmkdioafjmclaa.Bt8 Go.Proofs.Ythmkdioafjmclaa.Bt9 Go.Proofs.Ythmkdioafjmclaa.Bt10 Go.Proofs.Ythmkdioafjmclaa.Bt11 Go.Proofs.Ythmkdioafjmclaa.Bt12 Go.Proofs.Ythmkdioafjmclaa.Bt13 Go.Proofs.Ythmkdioafjmclaa.Bt14 Go.Proofs.Ythmkdioafjmclaa.BtP Go.Proofs.Ythmkdioafjmclaa.Bt15 Go.Proofs.Ythmkdioafjmclaa.Bt16
set_option linter.unusedVariables false
set_option linter.unusedSimpArgs false
set_option linter.unusedSectionVars false


def runS (d : Nat) (ol : List Bop) : St × List BAns := ol.foldl (fun p o => ((stepB d p.1 o).1, p.2 ++ [(stepB d p.1 o).2])) (⟨0, none⟩, [])
theorem run_more {d : Nat} {ol : List Bop} {i : Nat} {x : Bop} (hx : ol[i]? = some x) : runS d (ol.take (i + 1)) = ((stepB d (runS d (ol.take i)).1 x).1, (runS d (ol.take i)).2 ++ [(stepB d (runS d (ol.take i)).1 x).2]) := by
 rw [take_more hx]; simp [runS, List.foldl_append]
theorem step_wf {d : Nat} {s : St} (h : Wf d s) (o : Bop) : Wf d (stepB d s o).1 ∧ (elems (stepB d s o).1).length ≤ (elems s).length + 1 := by
 unfold stepB
 split
 ·
  obtain ⟨h1, h2⟩ := ins_wf h o.el
  refine ⟨h1, ?_⟩
  show (elems (stepIns d s o.el).1).length ≤ _
  rw [h2]; unfold one; split <;> omega
 ·
  split
  ·
   exact ⟨h, Nat.le_succ _⟩
  ·
   split
   ·
    obtain ⟨h1, h2⟩ := min_wf h
    refine ⟨h1, ?_⟩
    show (elems (stepMin d s).1).length ≤ _
    rcases h2 with ⟨e1, e2, -⟩ | ⟨x, e1, -⟩
    ·
     rw [e2]; simp
    ·
     rw [e1, List.length_cons]; omega
   ·
    split
    ·
     obtain ⟨h1, h2⟩ := max_wf h
     refine ⟨h1, ?_⟩
     show (elems (stepMax d s).1).length ≤ _
     rcases h2 with ⟨e1, e2, -⟩ | ⟨x, e1, -⟩
     ·
      rw [e2]; simp
     ·
      rw [e1, List.length_append]; omega
    ·
     split <;> exact ⟨h, Nat.le_succ _⟩
theorem wf_new {d : Nat} (h1 : 2 ≤ d) (h2 : d ≤ 64) : Wf d ⟨0, none⟩ := ⟨h1, h2, rfl, fun k hk => by cases hk⟩
theorem run_wf {d : Nat} (h1 : 2 ≤ d) (h2 : d ≤ 64) (ol : List Bop) : ∀ i, i ≤ ol.length → Wf d (runS d (ol.take i)).1 ∧ (elems (runS d (ol.take i)).1).length ≤ i ∧ (runS d (ol.take i)).2.length = i
 | 0, _ => ⟨wf_new h1 h2, Nat.le_refl _, rfl⟩
 | i + 1, hi => by
  obtain ⟨w, hl, hn⟩ := run_wf h1 h2 ol i (by omega)
  have hx : ol[i]? = some ol[i] := List.getElem?_eq_getElem (by omega)
  obtain ⟨w2, hl2⟩ := step_wf w ol[i]
  rw [run_more hx]
  exact ⟨w2, by show (elems (stepB d (runS d (ol.take i)).1 ol[i]).1).length ≤ i + 1; omega, by show (_ ++ [_]).length = _; rw [List.length_append, hn]; rfl⟩
theorem kds_snoc {α : Type} {R : α → HProp} {W w : World} {L : List HProp} {x : α} {l : List α} (h : Sat W (R x :: Kds R l :: L) w) : Sat W (Kds R (l ++ [x]) :: L) w := Sat.kPerm (List.perm_append_comm (l₁ := [x]) (l₂ := l)) h.kConsMk
theorem own_nil6 {W w : World} {L : List HProp} (h : Sat W L w) : Sat W (Own 62 6 (.slice none 0 0) 0 [] :: L) w := h.ownNil
set_option maxRecDepth 100000 in
set_option maxHeartbeats 1000000 in
theorem btree_nil (A : HProp) (d : Nat) (hd1 : 2 ≤ d) (hd2 : d ≤ 64) (a : Option Addr) (c : Nat) : Does Try.prog 26 [.int .i64 (((d : Nat) : Int)), .slice a 0 c] [A] (fun v L => ∃ ans : List (BAns × Value), ans.map (·.1) = (runS d ([] : List Bop)).2 ∧ L = [Own 62 6 v ans.length (flatOf ARc ans), Kds AnsP ans, A]) := by
 refine Does.enter 68 Try.func26 rfl rfl rfl fun W F => ?_
 show WPc _ _ _ _ _ [(0, .int .i64 (((d : Nat) : Int))), (1, .slice a 0 c)] (A :: F)
 refine WPc.sr ?_
 refine WP.val rfl rfl rfl (Val.assign rfl rfl) ?_
 refine WP.nx ?_
 refine WPc.sr ?_
 refine WP.val rfl rfl rfl (Val.move rfl rfl) ?_
 refine WP.val rfl rfl rfl (Val.max2 (z := ((d : Nat) : Int)) rfl rfl rfl (by split <;> omega)) ?_
 refine WP.val rfl rfl rfl (Val.min2 (z := ((d : Nat) : Int)) rfl rfl rfl (by split <;> omega)) ?_
 refine WP.eff rfl rfl rfl (Eff.call rfl rfl Try.call52 (new_spec d hd1)) ?_
 rintro _ _ ⟨_, ⟨tb, qc, qf, rfl, rfl⟩, rfl⟩
 show WP _ _ _ _ _ _ _ (TreeP qc d tb ⟨0, none⟩ :: Blk qc [.pointer (some ⟨qf, 0, none⟩), .func (.func 53) #[] #[]] 170 :: FL qf :: _)
 refine WP.eff rfl rfl rfl (Eff.mkSlice (C := [.pointer (some ⟨tb, 0, none⟩)]) rfl Ty.sl118 rfl (fun _ => by kernel_rfl)) ?_
 rintro _ _ ⟨b1, rfl, rfl⟩
 refine WP.val rfl rfl rfl (Val.assign rfl rfl) ?_
 refine WP.nx ?_
 refine WPc.sr ?_
 refine WP.val rfl rfl rfl (Val.assign rfl rfl) ?_
 refine WP.nx ?_
 refine WPc.seq ?_
 refine WPc.seq ?_
 refine WPc.conv (fun w h => own_nil6 h) ?_
 refine WPc.conv (fun w h => Sat.kNil (R := AnsP) h) ?_
 show WPc _ _ _ _ _ _ (Kds AnsP [] :: Own 62 6 (.slice none 0 0) 0 ([]) :: Blk b1 [.pointer (some ⟨tb, 0, none⟩)] 115 :: _)
 refine WPc.region ?_
 refine WP.val rfl rfl rfl (Val.assign rfl rfl) ?_
 refine WP.nx ?_
 refine WPc.block ?_
 refine WPc.perm pl1 ?_
 refine WPc.perm pl2 ?_
 iterate 3 (refine WPc.perm pl5 ?_)
 refine WPc.perm pl6 ?_
 refine WPc.loop (ι := Nat × List (BAns × Value) × Value) (fun ⟨i, ans, v⟩ => i ≤ (([] : List Bop)).length ∧ ans.map (·.1) = (runS d ((([] : List Bop)).take i)).2) (fun ⟨i, ans, v⟩ => [(1, .slice a 0 c), (5, .slice (some ⟨b1, 0, none⟩) 1 1), (6, v), (7, .int .i64 (((i : Nat) : Int)))]) (fun ⟨i, ans, v⟩ => A :: TreeP qc d tb (runS d ((([] : List Bop)).take i)).1 :: Blk qc [.pointer (some ⟨qf, 0, none⟩), .func (.func 53) #[] #[]] 170 :: FL qf :: Blk b1 [.pointer (some ⟨tb, 0, none⟩)] 115 :: Own 62 6 v ans.length (flatOf ARc ans) :: Kds AnsP ans :: F) (fun ⟨i, ans, v⟩ => (([] : List Bop)).length - i) (0, [], .slice none 0 0) ⟨Nat.zero_le _, rfl⟩ ((Sub.cons rfl (Sub.cons rfl (Sub.cons rfl (Sub.cons rfl Sub.nil))))) (fun _ h => h) ?_
 rintro ⟨i, ans, v⟩ ⟨hi, has⟩
 show WPc _ _ _ _ _ [(1, _), (5, .slice (some ⟨b1, 0, none⟩) 1 1), (6, v), (7, .int .i64 (((i : Nat) : Int)))] (_ :: TreeP qc d tb (runS d ((([] : List Bop)).take i)).1 :: _ :: _ :: _ :: Own 62 6 v ans.length (flatOf ARc ans) :: Kds AnsP ans :: _)
 refine WPc.seq ?_
 refine WPc.sr ?_
 refine WP.val rfl rfl rfl (Val.move rfl rfl) ?_
 refine WP.val rfl rfl rfl (Val.move rfl rfl) ?_
 refine WP.val rfl rfl rfl (Val.len rfl Ty.sl53 rfl) ?_
 refine WP.val rfl rfl rfl (Val.lss rfl rfl rfl) ?_
 refine WP.nx ?_
 refine WPc.ifP rfl (fun h1 => ?_) (fun h1 => ?_)
 ·
  have h1 : (((i : Nat) : Int) < (0 : Int)) := h1
  exfalso; simp at *; omega
 ·
  have h1 : ¬ (((i : Nat) : Int) < (0 : Int)) := h1
  refine WPc.exit ?_
  refine Out.then_exit ?_
  refine Out.then_exit ?_
  refine Out.block_exit ?_
  refine Out.next ?_
  refine WPc.sr ?_
  refine WP.val rfl rfl rfl (Val.move rfl rfl) ?_
  refine WP.val rfl rfl rfl (Val.assign rfl rfl) ?_
  refine WP.nx ?_
  refine WPc.ret ?_
  have hti2 : (([] : List Bop)).take i = ([] : List Bop) := List.take_of_length_le (by first | omega | (simp at *; try omega))
  iterate 4 (refine Out.perm pl1 ?_; refine Out.drop ?_)
  refine Out.perm pl2 ?_
  refine Out.perm pl2 ?_
  exact Out.ret1 (L' := _) Try.results26 rfl ⟨ans, by rw [has, hti2], rfl⟩ (fun _ h => h)

set_option maxRecDepth 100000 in
set_option maxHeartbeats 1000000 in
theorem btree_row (A : HProp) (d : Nat) (hd1 : 2 ≤ d) (hd2 : d ≤ 64) (l : List Bop) (hl : l.length ≤ 100000) (hkn : ∀ x ∈ l, Known x) (b0 o0 c0 : Nat) (hr : ∀ w, Holds A w → ∀ i x, l[i]? = some x → w.rangeAt b0 (o0 + i * 8) (Bop.cells x)) : Does Try.prog 26 [.int .i64 (((d : Nat) : Int)), .slice (some ⟨b0, o0, none⟩) l.length c0] [A] (fun v L => ∃ ans : List (BAns × Value), ans.map (·.1) = (runS d l).2 ∧ L = [Own 62 6 v ans.length (flatOf ARc ans), Kds AnsP ans, A]) := by
 refine Does.enter 68 Try.func26 rfl rfl rfl fun W F => ?_
 show WPc _ _ _ _ _ [(0, .int .i64 (((d : Nat) : Int))), (1, .slice (some ⟨b0, o0, none⟩) l.length c0)] (A :: F)
 refine WPc.sr ?_
 refine WP.val rfl rfl rfl (Val.assign rfl rfl) ?_
 refine WP.nx ?_
 refine WPc.sr ?_
 refine WP.val rfl rfl rfl (Val.move rfl rfl) ?_
 refine WP.val rfl rfl rfl (Val.max2 (z := ((d : Nat) : Int)) rfl rfl rfl (by split <;> omega)) ?_
 refine WP.val rfl rfl rfl (Val.min2 (z := ((d : Nat) : Int)) rfl rfl rfl (by split <;> omega)) ?_
 refine WP.eff rfl rfl rfl (Eff.call rfl rfl Try.call52 (new_spec d hd1)) ?_
 rintro _ _ ⟨_, ⟨tb, qc, qf, rfl, rfl⟩, rfl⟩
 show WP _ _ _ _ _ _ _ (TreeP qc d tb ⟨0, none⟩ :: Blk qc [.pointer (some ⟨qf, 0, none⟩), .func (.func 53) #[] #[]] 170 :: FL qf :: _)
 refine WP.eff rfl rfl rfl (Eff.mkSlice (C := [.pointer (some ⟨tb, 0, none⟩)]) rfl Ty.sl118 rfl (fun _ => by kernel_rfl)) ?_
 rintro _ _ ⟨b1, rfl, rfl⟩
 refine WP.val rfl rfl rfl (Val.assign rfl rfl) ?_
 refine WP.nx ?_
 refine WPc.sr ?_
 refine WP.val rfl rfl rfl (Val.assign rfl rfl) ?_
 refine WP.nx ?_
 refine WPc.seq ?_
 refine WPc.seq ?_
 refine WPc.conv (fun w h => own_nil6 h) ?_
 refine WPc.conv (fun w h => Sat.kNil (R := AnsP) h) ?_
 show WPc _ _ _ _ _ _ (Kds AnsP [] :: Own 62 6 (.slice none 0 0) 0 ([]) :: Blk b1 [.pointer (some ⟨tb, 0, none⟩)] 115 :: _)
 refine WPc.region ?_
 refine WP.val rfl rfl rfl (Val.assign rfl rfl) ?_
 refine WP.nx ?_
 refine WPc.block ?_
 refine WPc.perm pl1 ?_
 refine WPc.perm pl2 ?_
 iterate 3 (refine WPc.perm pl5 ?_)
 refine WPc.perm pl6 ?_
 refine WPc.loop (ι := Nat × List (BAns × Value) × Value) (fun ⟨i, ans, v⟩ => i ≤ (l).length ∧ ans.map (·.1) = (runS d ((l).take i)).2) (fun ⟨i, ans, v⟩ => [(1, .slice (some ⟨b0, o0, none⟩) l.length c0), (5, .slice (some ⟨b1, 0, none⟩) 1 1), (6, v), (7, .int .i64 (((i : Nat) : Int)))]) (fun ⟨i, ans, v⟩ => A :: TreeP qc d tb (runS d ((l).take i)).1 :: Blk qc [.pointer (some ⟨qf, 0, none⟩), .func (.func 53) #[] #[]] 170 :: FL qf :: Blk b1 [.pointer (some ⟨tb, 0, none⟩)] 115 :: Own 62 6 v ans.length (flatOf ARc ans) :: Kds AnsP ans :: F) (fun ⟨i, ans, v⟩ => (l).length - i) (0, [], .slice none 0 0) ⟨Nat.zero_le _, rfl⟩ ((Sub.cons rfl (Sub.cons rfl (Sub.cons rfl (Sub.cons rfl Sub.nil))))) (fun _ h => h) ?_
 rintro ⟨i, ans, v⟩ ⟨hi, has⟩
 show WPc _ _ _ _ _ [(1, _), (5, .slice (some ⟨b1, 0, none⟩) 1 1), (6, v), (7, .int .i64 (((i : Nat) : Int)))] (_ :: TreeP qc d tb (runS d ((l).take i)).1 :: _ :: _ :: _ :: Own 62 6 v ans.length (flatOf ARc ans) :: Kds AnsP ans :: _)
 refine WPc.seq ?_
 refine WPc.sr ?_
 refine WP.val rfl rfl rfl (Val.move rfl rfl) ?_
 refine WP.val rfl rfl rfl (Val.move rfl rfl) ?_
 refine WP.val rfl rfl rfl (Val.len rfl Ty.sl53 rfl) ?_
 refine WP.val rfl rfl rfl (Val.lss rfl rfl rfl) ?_
 refine WP.nx ?_
 refine WPc.ifP rfl (fun h1 => ?_) (fun h1 => ?_)
 ·
  have h1 : (((i : Nat) : Int) < ((l.length : Nat) : Int)) := h1
  refine WPc.skip ?_
  refine Out.next ?_
  refine WPc.seq ?_
  refine WPc.block ?_
  refine WPc.seq ?_
  have hlt : i < l.length := by omega
  obtain ⟨x, hx⟩ : ∃ x, l[i]? = some x := ⟨_, List.getElem?_eq_getElem hlt⟩
  obtain ⟨htr, hkd⟩ := hkn x (List.mem_of_getElem? hx)
  obtain ⟨hwf, hel, hrl⟩ := run_wf hd1 hd2 (l) i (by omega)
  have hal : ans.length = i := by have := congrArg List.length has; rw [List.length_map, hrl] at this; exact this
  refine WPc.region ?_
  refine WP.val rfl rfl rfl (Val.move rfl rfl) ?_
  refine WP.val rfl rfl rfl (Val.move rfl rfl) ?_
  refine WP.val rfl rfl rfl (Val.indexAddr (j := i) (q := o0 + i * 8) rfl Ty.sl53 rfl rfl (by omega) (by omega) (by omega)) ?_
  refine WP.val rfl rfl rfl (Val.loadAgg (cs := (Bop.cells x)) rfl Ty.ag57 rfl (by rfl) (fun w h => hr w (h.at 0 rfl) i x hx)) ?_
  refine WP.eff rfl rfl rfl (Eff.alloc rfl Ty.z57) ?_
  rintro _ _ ⟨b2, rfl, rfl⟩
  refine WP.eff0 rfl rfl (Eff.storeAgg (cs := [.int .i64 (x.kind), .int .i64 (x.tree), .int .i64 (x.el.k), .int .i64 (x.el.v), .int .i64 (x.from_), .int .i64 (x.till), .int .i64 (x.most), .bool (x.again)]) (C' := [.int .i64 (x.kind), .int .i64 (x.tree), .int .i64 (x.el.k), .int .i64 (x.el.v), .int .i64 (x.from_), .int .i64 (x.till), .int .i64 (x.most), .bool (x.again)]) rfl Ty.ag57 rfl rfl rfl rfl (by simp) rfl) ?_
  rintro _ _ rfl
  refine WP.nx ?_
  refine WPc.seq ?_
  refine WPc.sr ?_
  refine WP.val rfl rfl rfl (Val.fieldAddr (j := 1) rfl Ty.fo57_1 rfl rfl) ?_
  refine WP.val rfl rfl rfl (Val.load rfl Ty.sc3 rfl (fun w h => h.cell 0 rfl rfl)) ?_
  refine WP.val rfl rfl rfl (Val.lss rfl rfl rfl) ?_
  refine WP.val rfl rfl rfl (Val.move rfl rfl) ?_
  refine WP.split 27 rfl (fun h2 => ?_) (fun h2 => ?_)
  ·
   have h2 : (x.tree < (0 : Int)) := h2
   exfalso; omega
  ·
   have h2 : ¬ (x.tree < (0 : Int)) := h2
   refine WP.valG rfl rfl rfl rfl rfl rfl rfl (Val.fieldAddr (j := 1) rfl Ty.fo57_1 rfl rfl) ?_
   refine WP.valG rfl rfl rfl rfl rfl rfl rfl (Val.load rfl Ty.sc3 rfl (fun w h => h.cell 0 rfl rfl)) ?_
   refine WP.valG rfl rfl rfl rfl rfl rfl rfl (Val.move rfl rfl) ?_
   refine WP.valG rfl rfl rfl rfl rfl rfl rfl (Val.len rfl Ty.sl118 rfl) ?_
   refine WP.valG rfl rfl rfl rfl rfl rfl rfl (Val.geq rfl rfl rfl) ?_
   refine WP.val rfl rfl rfl (Val.pickF rfl rfl rfl) ?_
   refine WP.nx ?_
   refine WPc.ifP rfl (fun h3 => ?_) (fun h3 => ?_)
   ·
    have h3 : ((1 : Int) ≤ x.tree) := h3
    exfalso; omega
   ·
    have h3 : ¬ ((1 : Int) ≤ x.tree) := h3
    refine WPc.skip ?_
    refine Out.next ?_
    refine WPc.seq ?_
    refine WPc.sr ?_
    refine WP.val rfl rfl rfl (Val.fieldAddr (j := 0) rfl Ty.fo57_0 rfl rfl) ?_
    refine WP.val rfl rfl rfl (Val.load rfl Ty.sc3 rfl (fun w h => h.cell 0 rfl rfl)) ?_
    refine WP.val rfl rfl rfl (Val.eql rfl rfl rfl) ?_
    refine WP.nx ?_
    refine WPc.ifP rfl (fun h4 => ?_) (fun h4 => ?_)
    ·
     have h4 : (x.kind = (18 : Int)) := h4
     exfalso; omega
    ·
     have h4 : ¬ (x.kind = (18 : Int)) := h4
     refine WPc.skip ?_
     refine Out.next ?_
     refine WPD.s0 Ty.mixed ?_
     refine WPD.tM 0 rfl rfl rfl rfl (Val.move rfl rfl) ?_
     refine WPD.tM 1 rfl rfl rfl rfl (Val.move rfl rfl) ?_
     refine WPD.tM 2 rfl rfl rfl rfl (Val.fieldAddr (j := 1) rfl Ty.fo57_1 rfl rfl) ?_
     refine WPD.tL 3 rfl rfl rfl rfl (fun _ h => h) (Val.load rfl Ty.sc3 rfl (fun w h => h.cell 0 rfl rfl)) ?_
     refine WPD.tM 4 rfl rfl rfl rfl (Val.indexAddr (j := 0) (q := 0) rfl Ty.sl118 rfl rfl (by omega) (by omega) (by omega)) ?_
     refine WPD.tL 5 rfl rfl rfl rfl (fun _ h => h) (Val.load rfl Ty.sc115 rfl (fun w h => h.cell 5 rfl rfl)) ?_
     refine WPD.tL 6 rfl rfl rfl rfl (fun _ h => h) (Val.loadAgg (cs := [.int .i64 (x.kind), .int .i64 (x.tree), .int .i64 (x.el.k), .int .i64 (x.el.v), .int .i64 (x.from_), .int .i64 (x.till), .int .i64 (x.most), .bool (x.again)]) rfl Ty.ag57 rfl rfl (fun w h => h.range 0 rfl rfl)) ?_
     iterate 3 (refine WPD.perm pl4 ?_)
     refine WPD.stepC 7 (by kernel_rfl) rfl rfl rfl rfl (by kernel_rfl) (Eff.call rfl rfl Try.call55 (grown_spec qc qf d tb (runS d ((l).take i)).1 hwf (by omega) x ⟨htr, hkd⟩)) ?_
     rintro _ _ ⟨_, ⟨lv, hlv, rfl, rfl⟩, rfl⟩
     refine ⟨_, (fun _ h => h), ?_⟩
     show WPD _ _ _ _ _ _ _ _ _ (TreeP qc d tb (stepB d (runS d ((l).take i)).1 x).1 :: _ :: _ :: Own 55 2 lv ((stepB d (runS d ((l).take i)).1 x).2.l.length) (flatOf El.cells (stepB d (runS d ((l).take i)).1 x).2.l) :: Blk b2 [.int .i64 (x.kind), .int .i64 (x.tree), .int .i64 (x.el.k), .int .i64 (x.el.v), .int .i64 (x.from_), .int .i64 (x.till), .int .i64 (x.most), .bool (x.again)] 57 :: _)
     refine WPD.stepC 8 (by kernel_rfl) rfl rfl rfl rfl (by kernel_rfl) (Eff.mkSlice (C := [.int .i64 ((stepB d (runS d ((l).take i)).1 x).2.err), .bool ((stepB d (runS d ((l).take i)).1 x).2.ok), .int .i64 ((stepB d (runS d ((l).take i)).1 x).2.n), .int .i64 ((stepB d (runS d ((l).take i)).1 x).2.el.k), .int .i64 ((stepB d (runS d ((l).take i)).1 x).2.el.v), lv]) rfl Ty.sl58 rfl (fun _ => by kernel_rfl)) ?_
     rintro _ _ ⟨b3, rfl, rfl⟩
     refine ⟨_, (fun _ h => h), ?_⟩
     refine WPD.perm pl8 ?_
     refine WPD.stepC 9 (by kernel_rfl) rfl rfl rfl rfl (by kernel_rfl) (Eff.append (m := 1) (n0 := ans.length) (news := [.int .i64 ((stepB d (runS d ((l).take i)).1 x).2.err), .bool ((stepB d (runS d ((l).take i)).1 x).2.ok), .int .i64 ((stepB d (runS d ((l).take i)).1 x).2.n), .int .i64 ((stepB d (runS d ((l).take i)).1 x).2.el.k), .int .i64 ((stepB d (runS d ((l).take i)).1 x).2.el.v), lv]) rfl Ty.sl58 Ty.z62 rfl rfl rfl (.slice Ty.sl58 rfl (by simp only [List.all_cons, List.all_nil, Bool.and_true, oc_int, oc_str, oc_bool, oc_ptr, oc_slice, oc_iface, oc_map, hlv]) (fun w h => cells_range (h.range 1 rfl rfl))) (by omega) (by omega)) ?_
     rintro v4 _ ⟨onev4, rfl⟩
     refine ⟨_, (fun _ h => h), ?_⟩
     refine WPD.tM 10 rfl rfl rfl rfl (Val.assign rfl rfl) ?_
     refine WPD.done (by kernel_rfl) ?_
     refine Out.block ?_
     refine Out.next ?_
     refine WPc.perm pl5 ?_
     refine WPc.conv (fun w h => ansP_mk (a := (stepB d (runS d ((l).take i)).1 x).2) hlv h) ?_
     refine WPc.perm pl9 ?_
     refine WPc.perm pl1 ?_
     refine WPc.conv (fun w h => kds_snoc h) ?_
     show WPc _ _ _ _ _ _ (Kds AnsP (ans ++ [((stepB d (runS d ((l).take i)).1 x).2, lv)]) :: Own 62 6 v4 (ans.length + 1) ((flatOf ARc ans) ++ ([.int .i64 ((stepB d (runS d ((l).take i)).1 x).2.err), .bool ((stepB d (runS d ((l).take i)).1 x).2.ok), .int .i64 ((stepB d (runS d ((l).take i)).1 x).2.n), .int .i64 ((stepB d (runS d ((l).take i)).1 x).2.el.k), .int .i64 ((stepB d (runS d ((l).take i)).1 x).2.el.v), lv])) :: Blk b3 [.int .i64 ((stepB d (runS d ((l).take i)).1 x).2.err), .bool ((stepB d (runS d ((l).take i)).1 x).2.ok), .int .i64 ((stepB d (runS d ((l).take i)).1 x).2.n), .int .i64 ((stepB d (runS d ((l).take i)).1 x).2.el.k), .int .i64 ((stepB d (runS d ((l).take i)).1 x).2.el.v), lv] 62 :: _)
     refine WPc.region ?_
     refine WP.val rfl rfl rfl (Val.move rfl rfl) ?_
     refine WP.val rfl rfl rfl (Val.add (z := ((i + 1 : Nat) : Int)) rfl rfl rfl ((w64 (by omega) (by omega)).trans (by omega))) ?_
     refine WP.val rfl rfl rfl (Val.assign rfl rfl) ?_
     refine WP.nil ?_
     refine Out.perm pl2 ?_
     refine Out.drop ?_
     refine Out.perm pl5 ?_
     refine Out.drop ?_
     refine Out.perm pl1 ?_
     refine Out.perm pl6 ?_
     iterate 3 (refine Out.perm pl5 ?_)
     refine Out.perm pl6 ?_
     refine Out.again (i + 1, ans ++ [((stepB d (runS d ((l).take i)).1 x).2, lv)], v4) ?_ ?_ ?_ ?_
     ·
      exact ⟨by omega, by rw [run_more hx, List.map_append, has]; rfl⟩
     ·
      (first | omega | (dsimp only; omega))
     ·
      exact (Sub.cons rfl (Sub.cons rfl (Sub.cons rfl (Sub.cons rfl Sub.nil))))
     ·
      exact (fun w h => by dsimp only; rw [run_more hx, flatOf_append, flatOf_one, List.length_append]; exact h)
 ·
  have h1 : ¬ (((i : Nat) : Int) < ((l.length : Nat) : Int)) := h1
  refine WPc.exit ?_
  refine Out.then_exit ?_
  refine Out.then_exit ?_
  refine Out.block_exit ?_
  refine Out.next ?_
  refine WPc.sr ?_
  refine WP.val rfl rfl rfl (Val.move rfl rfl) ?_
  refine WP.val rfl rfl rfl (Val.assign rfl rfl) ?_
  refine WP.nx ?_
  refine WPc.ret ?_
  have hti2 : (l).take i = l := List.take_of_length_le (by first | omega | (simp at *; try omega))
  iterate 4 (refine Out.perm pl1 ?_; refine Out.drop ?_)
  refine Out.perm pl2 ?_
  refine Out.perm pl2 ?_
  exact Out.ret1 (L' := _) Try.results26 rfl ⟨ans, by rw [has, hti2], rfl⟩ (fun _ h => h)

theorem btree_spec (A : HProp) (d : Nat) (hd1 : 2 ≤ d) (hd2 : d ≤ 64) (l : List Bop) (hl : l.length ≤ 100000) (hkn : ∀ x ∈ l, Known x) (va : Value) (hva : Rd A 8 Bop.cells va l) : Does Try.prog 26 [.int .i64 (((d : Nat) : Int)), va] [A] (fun v L => ∃ ans : List (BAns × Value), ans.map (·.1) = (runS d l).2 ∧ L = [Own 62 6 v ans.length (flatOf ARc ans), Kds AnsP ans, A]) := by
 rcases hva with ⟨b0, o0, c0, rfl, hr⟩ | ⟨rfl, a, c, rfl⟩
 ·
  exact btree_row A d hd1 hd2 l hl hkn b0 o0 c0 hr
 ·
  exact btree_nil A d hd1 hd2 a c

end Go.Proofs.Ythmkdioafjmclaa.Bt17
