import Derived.Test.YthicijpjpijdjaaDoorWt
namespace Go.Proofs.YthicijpjpijdjaaDoor.Wu
open Go.RowKit Go.Proofs.YthicijpjpijdjaaDoor Go.Proofs.YthicijpjpijdjaaDoor.Sl Go.Proofs.YthicijpjpijdjaaDoor.Wa Go.Proofs.YthicijpjpijdjaaDoor.Wb Go.Proofs.YthicijpjpijdjaaDoor.Wc Go.Proofs.YthicijpjpijdjaaDoor.Wd Go.Proofs.YthicijpjpijdjaaDoor.We Go.Proofs.YthicijpjpijdjaaDoor.Wf Go.Proofs.YthicijpjpijdjaaDoor.Wg Go.Proofs.YthicijpjpijdjaaDoor.Wh Go.Proofs.YthicijpjpijdjaaDoor.Wi Go.Proofs.YthicijpjpijdjaaDoor.Wj Go.Proofs.YthicijpjpijdjaaDoor.Wk Go.Proofs.YthicijpjpijdjaaDoor.Wl Go.Proofs.YthicijpjpijdjaaDoor.Wm Go.Proofs.YthicijpjpijdjaaDoor.Wn Go.Proofs.YthicijpjpijdjaaDoor.Wo Go.Proofs.YthicijpjpijdjaaDoor.Wp Go.Proofs.YthicijpjpijdjaaDoor.Wq Go.Proofs.YthicijpjpijdjaaDoor.Wr Go.Proofs.YthicijpjpijdjaaDoor.Ws Go.Proofs.YthicijpjpijdjaaDoor.Wt
set_option linter.unusedVariables false
set_option linter.unusedSimpArgs false
set_option linter.unusedSectionVars false

set_option maxRecDepth 100000 in
set_option maxHeartbeats 1000000 in
theorem wagood_nil (A : HProp) (ofs : Int) (a : Option Addr) (c : Nat) : Does Tryd.prog 7 [.slice a 0 c, .int .i64 (ofs)] [A] (fun v L => ∃ b : Bool, v = .bool b ∧ (b = true → 0 ≤ 60 ∧ 0 ≤ ofs ∧ ofs ≤ 1048576 ∧ ∀ x ∈ ([] : List WR), GoodR x) ∧ L = [A]) := by
  refine Does.enter 53 Tryd.func7 rfl rfl rfl fun W F => ?_
  show WPc _ _ _ _ _ [(0, .slice a 0 c), (1, .int .i64 (ofs))] (A :: F)
  refine WPc.seq ?_
  refine WPc.region ?_
  refine WP.val rfl rfl rfl (Val.assign rfl rfl) ?_
  refine WP.nil ?_
  refine Out.next ?_
  refine WPc.seq ?_
  refine WPc.seq ?_
  refine WPc.region ?_
  refine WP.val rfl rfl rfl (Val.move rfl rfl) ?_
  refine WP.val rfl rfl rfl (Val.len rfl Ty.sl23 rfl) ?_
  refine WP.val rfl rfl rfl (Val.boolK (q := false) (Val.gtr rfl rfl rfl) (by decide)) ?_
  refine WP.val rfl rfl rfl (Val.move rfl rfl) ?_
  refine WP.valG rfl rfl rfl rfl rfl rfl rfl (Val.move rfl rfl) ?_
  refine WP.valG rfl rfl rfl rfl rfl rfl rfl (Val.lss rfl rfl rfl) ?_
  refine WP.val rfl rfl rfl (Val.pickF rfl rfl rfl) ?_
  refine WP.val rfl rfl rfl (Val.move rfl rfl) ?_
  refine WP.split 14 rfl (fun h1 => ?_) (fun h1 => ?_)
  · skip
    have h1 : (ofs < (0 : Int)) := h1
    refine WP.skip rfl rfl rfl rfl rfl rfl rfl ?_
    refine WP.skip rfl rfl rfl rfl rfl rfl rfl ?_
    refine WP.val rfl rfl rfl (Val.pickT rfl rfl rfl) ?_
    refine WP.nil ?_
    refine Out.next ?_
    refine WPc.condT rfl rfl ?_
    refine WPc.seq ?_
    refine WPc.region ?_
    refine WP.val rfl rfl rfl (Val.assign rfl rfl) ?_
    refine WP.nil ?_
    refine Out.next ?_
    refine WPc.ret ?_
    refine Out.then_ret ?_
    exact Out.ret1 (L' := _) Tryd.results7 rfl ⟨false, rfl, (fun h => by cases h), rfl⟩ (fun _ h => h)
  · skip
    have h1 : ¬ (ofs < (0 : Int)) := h1
    refine WP.valG rfl rfl rfl rfl rfl rfl rfl (Val.move rfl rfl) ?_
    refine WP.valG rfl rfl rfl rfl rfl rfl rfl (Val.gtr rfl rfl rfl) ?_
    refine WP.val rfl rfl rfl (Val.pickF rfl rfl rfl) ?_
    refine WP.nil ?_
    refine Out.next ?_
    refine WPc.ifP rfl (fun h2 => ?_) (fun h2 => ?_)
    · skip
      have h2 : ((1048576 : Int) < ofs) := h2
      refine WPc.seq ?_
      refine WPc.region ?_
      refine WP.val rfl rfl rfl (Val.assign rfl rfl) ?_
      refine WP.nil ?_
      refine Out.next ?_
      refine WPc.ret ?_
      refine Out.then_ret ?_
      exact Out.ret1 (L' := _) Tryd.results7 rfl ⟨false, rfl, (fun h => by cases h), rfl⟩ (fun _ h => h)
    · skip
      have h2 : ¬ ((1048576 : Int) < ofs) := h2
      refine WPc.skip ?_
      refine Out.next ?_
      refine WPc.seq ?_
      refine WPc.seq ?_
      refine WPc.region ?_
      refine WP.val rfl rfl rfl (Val.move rfl rfl) ?_
      refine WP.val rfl rfl rfl (Val.len rfl Ty.sl23 rfl) ?_
      refine WP.val rfl rfl rfl (Val.move rfl rfl) ?_
      refine WP.nil ?_
      refine Out.next ?_
      refine WPc.block ?_
      refine WPc.loop (ι := Nat) (fun i => i ≤ (([] : List WR)).length ∧ ∀ x ∈ (([] : List WR)).take i, GoodR x) (fun i => [(18, .slice a 0 c), (19, .int .i64 0), (20, .int .i64 (((i : Nat) : Int)))]) (fun i => A :: F) (fun i => (([] : List WR)).length - i) 0 ⟨Nat.zero_le _, by simp⟩ ((Sub.cons rfl (Sub.cons rfl (Sub.cons rfl Sub.nil)))) (fun _ h => h) ?_
      rintro i ⟨hi, hgi⟩
      show WPc _ _ _ _ _ [(18, .slice a 0 c), (19, .int .i64 0), (20, .int .i64 (((i : Nat) : Int)))] (A :: F)
      refine WPc.seq ?_
      refine WPc.region ?_
      refine WP.val rfl rfl rfl (Val.lss rfl rfl rfl) ?_
      refine WP.nil ?_
      refine Out.next ?_
      refine WPc.seq ?_
      refine WPc.ifP rfl (fun h3 => ?_) (fun h3 => ?_)
      · skip
        have h3 : (((i : Nat) : Int) < (0 : Int)) := h3
        exfalso; simp at *; omega
      · skip
        have h3 : ¬ (((i : Nat) : Int) < (0 : Int)) := h3
        refine WPc.exit ?_
        refine Out.then_exit ?_
        refine Out.then_exit ?_
        refine Out.block_exit ?_
        refine Out.next ?_
        refine WPc.seq ?_
        refine WPc.region ?_
        refine WP.val rfl rfl rfl (Val.assign rfl rfl) ?_
        refine WP.nil ?_
        refine Out.next ?_
        refine WPc.ret ?_
        have hti : (([] : List WR)).take i = ([] : List WR) := List.take_of_length_le (by first | omega | (simp at *; try omega))
        rw [hti] at hgi
        exact Out.ret1 (L' := _) Tryd.results7 rfl ⟨true, rfl, (fun _ => ⟨by first | omega | (simp at *; try omega), by omega, by omega, hgi⟩), rfl⟩ (fun _ h => h)

set_option maxRecDepth 100000 in
set_option maxHeartbeats 1000000 in
theorem wagood_row (A : HProp) (ofs : Int) (l : List WR) (hlen : l.length ≤ 9223372036854775807) (b0 o0 c0 : Nat) (hr : ∀ w, Holds A w → ∀ i x, l[i]? = some x → w.rangeAt b0 (o0 + i * 6) (WR.cells x)) : Does Tryd.prog 7 [.slice (some ⟨b0, o0, none⟩) l.length c0, .int .i64 (ofs)] [A] (fun v L => ∃ b : Bool, v = .bool b ∧ (b = true → l.length ≤ 60 ∧ 0 ≤ ofs ∧ ofs ≤ 1048576 ∧ ∀ x ∈ l, GoodR x) ∧ L = [A]) := by
  refine Does.enter 53 Tryd.func7 rfl rfl rfl fun W F => ?_
  show WPc _ _ _ _ _ [(0, .slice (some ⟨b0, o0, none⟩) l.length c0), (1, .int .i64 (ofs))] (A :: F)
  refine WPc.seq ?_
  refine WPc.region ?_
  refine WP.val rfl rfl rfl (Val.assign rfl rfl) ?_
  refine WP.nil ?_
  refine Out.next ?_
  refine WPc.seq ?_
  refine WPc.seq ?_
  refine WPc.region ?_
  refine WP.val rfl rfl rfl (Val.move rfl rfl) ?_
  refine WP.val rfl rfl rfl (Val.len rfl Ty.sl23 rfl) ?_
  refine WP.val rfl rfl rfl (Val.gtr rfl rfl rfl) ?_
  refine WP.val rfl rfl rfl (Val.move rfl rfl) ?_
  refine WP.split 10 rfl (fun h1 => ?_) (fun h1 => ?_)
  · skip
    have h1 : ((60 : Int) < ((l.length : Nat) : Int)) := h1
    refine WP.skip rfl rfl rfl rfl rfl rfl rfl ?_
    refine WP.skip rfl rfl rfl rfl rfl rfl rfl ?_
    refine WP.val rfl rfl rfl (Val.pickT rfl rfl rfl) ?_
    refine WP.val rfl rfl rfl (Val.move rfl rfl) ?_
    refine WP.skip rfl rfl rfl rfl rfl rfl rfl ?_
    refine WP.skip rfl rfl rfl rfl rfl rfl rfl ?_
    refine WP.val rfl rfl rfl (Val.pickT rfl rfl rfl) ?_
    refine WP.nil ?_
    refine Out.next ?_
    refine WPc.condT rfl rfl ?_
    refine WPc.seq ?_
    refine WPc.region ?_
    refine WP.val rfl rfl rfl (Val.assign rfl rfl) ?_
    refine WP.nil ?_
    refine Out.next ?_
    refine WPc.ret ?_
    refine Out.then_ret ?_
    exact Out.ret1 (L' := _) Tryd.results7 rfl ⟨false, rfl, (fun h => by cases h), rfl⟩ (fun _ h => h)
  · skip
    have h1 : ¬ ((60 : Int) < ((l.length : Nat) : Int)) := h1
    refine WP.valG rfl rfl rfl rfl rfl rfl rfl (Val.move rfl rfl) ?_
    refine WP.valG rfl rfl rfl rfl rfl rfl rfl (Val.lss rfl rfl rfl) ?_
    refine WP.val rfl rfl rfl (Val.pickF rfl rfl rfl) ?_
    refine WP.val rfl rfl rfl (Val.move rfl rfl) ?_
    refine WP.split 14 rfl (fun h2 => ?_) (fun h2 => ?_)
    · skip
      have h2 : (ofs < (0 : Int)) := h2
      refine WP.skip rfl rfl rfl rfl rfl rfl rfl ?_
      refine WP.skip rfl rfl rfl rfl rfl rfl rfl ?_
      refine WP.val rfl rfl rfl (Val.pickT rfl rfl rfl) ?_
      refine WP.nil ?_
      refine Out.next ?_
      refine WPc.condT rfl rfl ?_
      refine WPc.seq ?_
      refine WPc.region ?_
      refine WP.val rfl rfl rfl (Val.assign rfl rfl) ?_
      refine WP.nil ?_
      refine Out.next ?_
      refine WPc.ret ?_
      refine Out.then_ret ?_
      exact Out.ret1 (L' := _) Tryd.results7 rfl ⟨false, rfl, (fun h => by cases h), rfl⟩ (fun _ h => h)
    · skip
      have h2 : ¬ (ofs < (0 : Int)) := h2
      refine WP.valG rfl rfl rfl rfl rfl rfl rfl (Val.move rfl rfl) ?_
      refine WP.valG rfl rfl rfl rfl rfl rfl rfl (Val.gtr rfl rfl rfl) ?_
      refine WP.val rfl rfl rfl (Val.pickF rfl rfl rfl) ?_
      refine WP.nil ?_
      refine Out.next ?_
      refine WPc.ifP rfl (fun h3 => ?_) (fun h3 => ?_)
      · skip
        have h3 : ((1048576 : Int) < ofs) := h3
        refine WPc.seq ?_
        refine WPc.region ?_
        refine WP.val rfl rfl rfl (Val.assign rfl rfl) ?_
        refine WP.nil ?_
        refine Out.next ?_
        refine WPc.ret ?_
        refine Out.then_ret ?_
        exact Out.ret1 (L' := _) Tryd.results7 rfl ⟨false, rfl, (fun h => by cases h), rfl⟩ (fun _ h => h)
      · skip
        have h3 : ¬ ((1048576 : Int) < ofs) := h3
        refine WPc.skip ?_
        refine Out.next ?_
        refine WPc.seq ?_
        refine WPc.seq ?_
        refine WPc.region ?_
        refine WP.val rfl rfl rfl (Val.move rfl rfl) ?_
        refine WP.val rfl rfl rfl (Val.len rfl Ty.sl23 rfl) ?_
        refine WP.val rfl rfl rfl (Val.move rfl rfl) ?_
        refine WP.nil ?_
        refine Out.next ?_
        refine WPc.block ?_
        refine WPc.loop (ι := Nat) (fun i => i ≤ (l).length ∧ ∀ x ∈ (l).take i, GoodR x) (fun i => [(18, .slice (some ⟨b0, o0, none⟩) l.length c0), (19, .int .i64 ((((l).length : Nat) : Int))), (20, .int .i64 (((i : Nat) : Int)))]) (fun i => A :: F) (fun i => (l).length - i) 0 ⟨Nat.zero_le _, by simp⟩ ((Sub.cons rfl (Sub.cons rfl (Sub.cons rfl Sub.nil)))) (fun _ h => h) ?_
        rintro i ⟨hi, hgi⟩
        show WPc _ _ _ _ _ [(18, .slice (some ⟨b0, o0, none⟩) l.length c0), (19, .int .i64 ((((l).length : Nat) : Int))), (20, .int .i64 (((i : Nat) : Int)))] (A :: F)
        refine WPc.seq ?_
        refine WPc.region ?_
        refine WP.val rfl rfl rfl (Val.lss rfl rfl rfl) ?_
        refine WP.nil ?_
        refine Out.next ?_
        refine WPc.seq ?_
        refine WPc.ifP rfl (fun h4 => ?_) (fun h4 => ?_)
        · skip
          have h4 : (((i : Nat) : Int) < (((l).length : Nat) : Int)) := h4
          refine WPc.skip ?_
          refine Out.next ?_
          refine WPc.seq ?_
          refine WPc.block ?_
          refine WPc.seq ?_
          have hlt : i < l.length := by omega
          obtain ⟨x, hx⟩ : ∃ x, l[i]? = some x := ⟨_, List.getElem?_eq_getElem hlt⟩
          refine WPc.region ?_
          refine WP.val rfl rfl rfl (Val.indexAddr (j := i) (q := o0 + i * 6) rfl Ty.sl23 rfl rfl (by omega) (by omega) (by omega)) ?_
          refine WP.val rfl rfl rfl (Val.loadAgg (cs := (WR.cells x)) rfl Ty.ag44 rfl (by rfl) (fun w h => hr w (h.at 0 rfl) i x hx)) ?_
          refine WP.eff rfl rfl rfl (Eff.alloc rfl Ty.z44) ?_
          rintro _ _ ⟨b1, rfl, rfl⟩
          refine WP.eff0 rfl rfl (Eff.storeAgg (cs := [.int .i64 (x.ty), .bool (x.ht), .int .u32 (x.c), .bool (x.hc), .string (str (x.d)), .bool (x.has)]) (C' := [.int .i64 (x.ty), .bool (x.ht), .int .u32 (x.c), .bool (x.hc), .string (str (x.d)), .bool (x.has)]) rfl Ty.ag44 rfl rfl rfl rfl (by simp) rfl) ?_
          rintro _ _ rfl
          refine WP.nil ?_
          refine Out.next ?_
          refine WPc.seq ?_
          refine WPc.region ?_
          refine WP.val rfl rfl rfl (Val.fieldAddr (j := 1) rfl Ty.fo44_1 rfl rfl) ?_
          refine WP.val rfl rfl rfl (Val.load rfl Ty.sc4 rfl (fun w h => h.cell 0 rfl rfl)) ?_
          refine WP.val rfl rfl rfl (Val.not rfl rfl) ?_
          refine WP.val rfl rfl rfl (Val.move rfl rfl) ?_
          refine WP.splitB 27 rfl (fun h5 => ?_) (fun h5 => ?_)
          · skip
            refine WP.skip rfl rfl rfl rfl rfl rfl rfl ?_
            refine WP.skip rfl rfl rfl rfl rfl rfl rfl ?_
            refine WP.skip rfl rfl rfl rfl rfl rfl rfl ?_
            refine WP.skip rfl rfl rfl rfl rfl rfl rfl ?_
            refine WP.val rfl rfl rfl (Val.pickT rfl rfl rfl) ?_
            refine WP.val rfl rfl rfl (Val.move rfl rfl) ?_
            refine WP.skip rfl rfl rfl rfl rfl rfl rfl ?_
            refine WP.skip rfl rfl rfl rfl rfl rfl rfl ?_
            refine WP.skip rfl rfl rfl rfl rfl rfl rfl ?_
            refine WP.skip rfl rfl rfl rfl rfl rfl rfl ?_
            refine WP.skipU rfl rfl rfl rfl rfl rfl ?_
            refine WP.skipU rfl rfl rfl rfl rfl rfl ?_
            refine WP.skipU rfl rfl rfl rfl rfl rfl ?_
            refine WP.skip rfl rfl rfl rfl rfl rfl rfl ?_
            refine WP.val rfl rfl rfl (Val.pickT rfl rfl rfl) ?_
            refine WP.val rfl rfl rfl (Val.move rfl rfl) ?_
            refine WP.skip rfl rfl rfl rfl rfl rfl rfl ?_
            refine WP.skip rfl rfl rfl rfl rfl rfl rfl ?_
            refine WP.skip rfl rfl rfl rfl rfl rfl rfl ?_
            refine WP.skip rfl rfl rfl rfl rfl rfl rfl ?_
            refine WP.skipU rfl rfl rfl rfl rfl rfl ?_
            refine WP.skipU rfl rfl rfl rfl rfl rfl ?_
            refine WP.skip rfl rfl rfl rfl rfl rfl rfl ?_
            refine WP.val rfl rfl rfl (Val.pickT rfl rfl rfl) ?_
            refine WP.nil ?_
            refine Out.next ?_
            refine WPc.condT rfl rfl ?_
            refine WPc.seq ?_
            refine WPc.region ?_
            refine WP.val rfl rfl rfl (Val.assign rfl rfl) ?_
            refine WP.nil ?_
            refine Out.next ?_
            refine WPc.ret ?_
            refine Out.block_ret ?_
            refine Out.then_ret ?_
            refine Out.then_ret ?_
            refine Out.block_ret ?_
            refine Out.then_ret ?_
            refine Out.drop ?_
            exact Out.ret1 (L' := _) Tryd.results7 rfl ⟨false, rfl, (fun h => by cases h), rfl⟩ (fun _ h => h)
          · skip
            refine WP.valG rfl rfl rfl rfl rfl rfl rfl (Val.fieldAddr (j := 4) rfl Ty.fo44_4 rfl rfl) ?_
            refine WP.valG rfl rfl rfl rfl rfl rfl rfl (Val.load rfl Ty.sc9 rfl (fun w h => h.cell 0 rfl rfl)) ?_
            refine WP.valG rfl rfl rfl rfl rfl rfl rfl (Val.lenL rfl Ty.st9 rfl) ?_
            refine WP.valG rfl rfl rfl rfl rfl rfl rfl (Val.gtr rfl rfl rfl) ?_
            refine WP.val rfl rfl rfl (Val.pickF rfl rfl rfl) ?_
            refine WP.val rfl rfl rfl (Val.move rfl rfl) ?_
            refine WP.split 33 rfl (fun h6 => ?_) (fun h6 => ?_)
            · skip
              have h6 : ((5000 : Int) < ((x.d.length : Nat) : Int)) := h6
              refine WP.skip rfl rfl rfl rfl rfl rfl rfl ?_
              refine WP.skip rfl rfl rfl rfl rfl rfl rfl ?_
              refine WP.skip rfl rfl rfl rfl rfl rfl rfl ?_
              refine WP.skip rfl rfl rfl rfl rfl rfl rfl ?_
              refine WP.skipU rfl rfl rfl rfl rfl rfl ?_
              refine WP.skipU rfl rfl rfl rfl rfl rfl ?_
              refine WP.skipU rfl rfl rfl rfl rfl rfl ?_
              refine WP.skip rfl rfl rfl rfl rfl rfl rfl ?_
              refine WP.val rfl rfl rfl (Val.pickT rfl rfl rfl) ?_
              refine WP.val rfl rfl rfl (Val.move rfl rfl) ?_
              refine WP.skip rfl rfl rfl rfl rfl rfl rfl ?_
              refine WP.skip rfl rfl rfl rfl rfl rfl rfl ?_
              refine WP.skip rfl rfl rfl rfl rfl rfl rfl ?_
              refine WP.skip rfl rfl rfl rfl rfl rfl rfl ?_
              refine WP.skipU rfl rfl rfl rfl rfl rfl ?_
              refine WP.skipU rfl rfl rfl rfl rfl rfl ?_
              refine WP.skip rfl rfl rfl rfl rfl rfl rfl ?_
              refine WP.val rfl rfl rfl (Val.pickT rfl rfl rfl) ?_
              refine WP.nil ?_
              refine Out.next ?_
              refine WPc.condT rfl rfl ?_
              refine WPc.seq ?_
              refine WPc.region ?_
              refine WP.val rfl rfl rfl (Val.assign rfl rfl) ?_
              refine WP.nil ?_
              refine Out.next ?_
              refine WPc.ret ?_
              refine Out.block_ret ?_
              refine Out.then_ret ?_
              refine Out.then_ret ?_
              refine Out.block_ret ?_
              refine Out.then_ret ?_
              refine Out.drop ?_
              exact Out.ret1 (L' := _) Tryd.results7 rfl ⟨false, rfl, (fun h => by cases h), rfl⟩ (fun _ h => h)
            · skip
              have h6 : ¬ ((5000 : Int) < ((x.d.length : Nat) : Int)) := h6
              refine WP.valG rfl rfl rfl rfl rfl rfl rfl (Val.fieldAddr (j := 5) rfl Ty.fo44_5 rfl rfl) ?_
              refine WP.valG rfl rfl rfl rfl rfl rfl rfl (Val.load rfl Ty.sc4 rfl (fun w h => h.cell 0 rfl rfl)) ?_
              refine WP.valG rfl rfl rfl rfl rfl rfl rfl (Val.not rfl rfl) ?_
              refine WP.valG rfl rfl rfl rfl rfl rfl rfl (Val.move rfl rfl) ?_
              refine WP.splitB 37 rfl (fun h7 => ?_) (fun h7 => ?_)
              · skip
                refine WP.valG rfl rfl rfl rfl rfl rfl rfl (Val.fieldAddr (j := 4) rfl Ty.fo44_4 rfl rfl) ?_
                refine WP.valG rfl rfl rfl rfl rfl rfl rfl (Val.load rfl Ty.sc9 rfl (fun w h => h.cell 0 rfl rfl)) ?_
                refine WP.valG rfl rfl rfl rfl rfl rfl rfl (Val.boolK (q := !(x.d.isEmpty)) (Val.neqS rfl rfl rfl) (seq_empty _)) ?_
                refine WP.valG rfl rfl rfl rfl rfl rfl rfl (Val.pickT rfl rfl rfl) ?_
                refine WP.val rfl rfl rfl (Val.pickF rfl rfl rfl) ?_
                refine WP.val rfl rfl rfl (Val.move rfl rfl) ?_
                refine WP.splitB 43 rfl (fun h8 => ?_) (fun h8 => ?_)
                · skip
                  refine WP.skip rfl rfl rfl rfl rfl rfl rfl ?_
                  refine WP.skip rfl rfl rfl rfl rfl rfl rfl ?_
                  refine WP.skip rfl rfl rfl rfl rfl rfl rfl ?_
                  refine WP.skip rfl rfl rfl rfl rfl rfl rfl ?_
                  refine WP.skipU rfl rfl rfl rfl rfl rfl ?_
                  refine WP.skipU rfl rfl rfl rfl rfl rfl ?_
                  refine WP.skip rfl rfl rfl rfl rfl rfl rfl ?_
                  refine WP.val rfl rfl rfl (Val.pickT rfl rfl rfl) ?_
                  refine WP.nil ?_
                  refine Out.next ?_
                  refine WPc.condT rfl rfl ?_
                  refine WPc.seq ?_
                  refine WPc.region ?_
                  refine WP.val rfl rfl rfl (Val.assign rfl rfl) ?_
                  refine WP.nil ?_
                  refine Out.next ?_
                  refine WPc.ret ?_
                  refine Out.block_ret ?_
                  refine Out.then_ret ?_
                  refine Out.then_ret ?_
                  refine Out.block_ret ?_
                  refine Out.then_ret ?_
                  refine Out.drop ?_
                  exact Out.ret1 (L' := _) Tryd.results7 rfl ⟨false, rfl, (fun h => by cases h), rfl⟩ (fun _ h => h)
                · skip
                  refine WP.valG rfl rfl rfl rfl rfl rfl rfl (Val.fieldAddr (j := 0) rfl Ty.fo44_0 rfl rfl) ?_
                  refine WP.valG rfl rfl rfl rfl rfl rfl rfl (Val.load rfl Ty.sc2 rfl (fun w h => h.cell 0 rfl rfl)) ?_
                  refine WP.valG rfl rfl rfl rfl rfl rfl rfl (Val.eql rfl rfl rfl) ?_
                  refine WP.valG rfl rfl rfl rfl rfl rfl rfl (Val.move rfl rfl) ?_
                  refine WP.split 47 rfl (fun h9 => ?_) (fun h9 => ?_)
                  · skip
                    have h9 : (x.ty = (4 : Int)) := h9
                    refine WP.valG rfl rfl rfl rfl rfl rfl rfl (Val.fieldAddr (j := 5) rfl Ty.fo44_5 rfl rfl) ?_
                    refine WP.valG rfl rfl rfl rfl rfl rfl rfl (Val.load rfl Ty.sc4 rfl (fun w h => h.cell 0 rfl rfl)) ?_
                    refine WP.valG rfl rfl rfl rfl rfl rfl rfl (Val.pickT rfl rfl rfl) ?_
                    refine WP.val rfl rfl rfl (Val.pickF rfl rfl rfl) ?_
                    refine WP.nil ?_
                    refine Out.next ?_
                    refine WPc.cond rfl (fun h10 => ?_) (fun h10 => ?_)
                    · skip
                      have h10 : (x.has) = true := h10
                      refine WPc.seq ?_
                      refine WPc.region ?_
                      refine WP.val rfl rfl rfl (Val.assign rfl rfl) ?_
                      refine WP.nil ?_
                      refine Out.next ?_
                      refine WPc.ret ?_
                      refine Out.block_ret ?_
                      refine Out.then_ret ?_
                      refine Out.then_ret ?_
                      refine Out.block_ret ?_
                      refine Out.then_ret ?_
                      refine Out.drop ?_
                      exact Out.ret1 (L' := _) Tryd.results7 rfl ⟨false, rfl, (fun h => by cases h), rfl⟩ (fun _ h => h)
                    · skip
                      have h10 : (x.has) = false := h10
                      refine WPc.skip ?_
                      refine Out.block ?_
                      refine Out.next ?_
                      refine WPc.region ?_
                      refine WP.val rfl rfl rfl (Val.add (z := ((i + 1 : Nat) : Int)) rfl rfl rfl ((w64 (by omega) (by omega)).trans (by omega))) ?_
                      refine WP.val rfl rfl rfl (Val.move rfl rfl) ?_
                      refine WP.nil ?_
                      have hgx : GoodR x := by refine ⟨?_, ?_, ?_, ?_⟩ <;> simp_all <;> omega
                      have hgn : ∀ y ∈ l.take (i + 1), GoodR y := by
                        intro y hy
                        rw [take_more hx] at hy
                        rcases List.mem_append.1 hy with h | h
                        · exact hgi y h
                        · obtain rfl : y = x := by simpa using h
                          exact hgx
                      refine Out.drop ?_
                      refine Out.again (i + 1) ?_ ?_ ?_ ?_
                      · exact ⟨by omega, hgn⟩
                      · first | omega | (dsimp only; omega)
                      · exact (Sub.cons rfl (Sub.cons rfl (Sub.cons rfl Sub.nil)))
                      · exact (fun _ h => h)
                  · skip
                    have h9 : ¬ (x.ty = (4 : Int)) := h9
                    refine WP.skip rfl rfl rfl rfl rfl rfl rfl ?_
                    refine WP.skip rfl rfl rfl rfl rfl rfl rfl ?_
                    refine WP.valG rfl rfl rfl rfl rfl rfl rfl (Val.pickF rfl rfl rfl) ?_
                    refine WP.val rfl rfl rfl (Val.pickF rfl rfl rfl) ?_
                    refine WP.nil ?_
                    refine Out.next ?_
                    refine WPc.condF rfl rfl ?_
                    refine WPc.skip ?_
                    refine Out.block ?_
                    refine Out.next ?_
                    refine WPc.region ?_
                    refine WP.val rfl rfl rfl (Val.add (z := ((i + 1 : Nat) : Int)) rfl rfl rfl ((w64 (by omega) (by omega)).trans (by omega))) ?_
                    refine WP.val rfl rfl rfl (Val.move rfl rfl) ?_
                    refine WP.nil ?_
                    have hgx : GoodR x := by refine ⟨?_, ?_, ?_, ?_⟩ <;> simp_all <;> omega
                    have hgn : ∀ y ∈ l.take (i + 1), GoodR y := by
                      intro y hy
                      rw [take_more hx] at hy
                      rcases List.mem_append.1 hy with h | h
                      · exact hgi y h
                      · obtain rfl : y = x := by simpa using h
                        exact hgx
                    refine Out.drop ?_
                    refine Out.again (i + 1) ?_ ?_ ?_ ?_
                    · exact ⟨by omega, hgn⟩
                    · first | omega | (dsimp only; omega)
                    · exact (Sub.cons rfl (Sub.cons rfl (Sub.cons rfl Sub.nil)))
                    · exact (fun _ h => h)
              · skip
                refine WP.skip rfl rfl rfl rfl rfl rfl rfl ?_
                refine WP.skip rfl rfl rfl rfl rfl rfl rfl ?_
                refine WP.skip rfl rfl rfl rfl rfl rfl rfl ?_
                refine WP.valG rfl rfl rfl rfl rfl rfl rfl (Val.pickF rfl rfl rfl) ?_
                refine WP.val rfl rfl rfl (Val.pickF rfl rfl rfl) ?_
                refine WP.val rfl rfl rfl (Val.move rfl rfl) ?_
                refine WP.valG rfl rfl rfl rfl rfl rfl rfl (Val.fieldAddr (j := 0) rfl Ty.fo44_0 rfl rfl) ?_
                refine WP.valG rfl rfl rfl rfl rfl rfl rfl (Val.load rfl Ty.sc2 rfl (fun w h => h.cell 0 rfl rfl)) ?_
                refine WP.valG rfl rfl rfl rfl rfl rfl rfl (Val.eql rfl rfl rfl) ?_
                refine WP.valG rfl rfl rfl rfl rfl rfl rfl (Val.move rfl rfl) ?_
                refine WP.split 47 rfl (fun h11 => ?_) (fun h11 => ?_)
                · skip
                  have h11 : (x.ty = (4 : Int)) := h11
                  refine WP.valG rfl rfl rfl rfl rfl rfl rfl (Val.fieldAddr (j := 5) rfl Ty.fo44_5 rfl rfl) ?_
                  refine WP.valG rfl rfl rfl rfl rfl rfl rfl (Val.load rfl Ty.sc4 rfl (fun w h => h.cell 0 rfl rfl)) ?_
                  refine WP.valG rfl rfl rfl rfl rfl rfl rfl (Val.pickT rfl rfl rfl) ?_
                  refine WP.val rfl rfl rfl (Val.pickF rfl rfl rfl) ?_
                  refine WP.nil ?_
                  refine Out.next ?_
                  refine WPc.cond rfl (fun h12 => ?_) (fun h12 => ?_)
                  · skip
                    have h12 : (x.has) = true := h12
                    refine WPc.seq ?_
                    refine WPc.region ?_
                    refine WP.val rfl rfl rfl (Val.assign rfl rfl) ?_
                    refine WP.nil ?_
                    refine Out.next ?_
                    refine WPc.ret ?_
                    refine Out.block_ret ?_
                    refine Out.then_ret ?_
                    refine Out.then_ret ?_
                    refine Out.block_ret ?_
                    refine Out.then_ret ?_
                    refine Out.drop ?_
                    exact Out.ret1 (L' := _) Tryd.results7 rfl ⟨false, rfl, (fun h => by cases h), rfl⟩ (fun _ h => h)
                  · skip
                    have h12 : (x.has) = false := h12
                    refine WPc.skip ?_
                    refine Out.block ?_
                    refine Out.next ?_
                    refine WPc.region ?_
                    refine WP.val rfl rfl rfl (Val.add (z := ((i + 1 : Nat) : Int)) rfl rfl rfl ((w64 (by omega) (by omega)).trans (by omega))) ?_
                    refine WP.val rfl rfl rfl (Val.move rfl rfl) ?_
                    refine WP.nil ?_
                    have hgx : GoodR x := by refine ⟨?_, ?_, ?_, ?_⟩ <;> simp_all <;> omega
                    have hgn : ∀ y ∈ l.take (i + 1), GoodR y := by
                      intro y hy
                      rw [take_more hx] at hy
                      rcases List.mem_append.1 hy with h | h
                      · exact hgi y h
                      · obtain rfl : y = x := by simpa using h
                        exact hgx
                    refine Out.drop ?_
                    refine Out.again (i + 1) ?_ ?_ ?_ ?_
                    · exact ⟨by omega, hgn⟩
                    · first | omega | (dsimp only; omega)
                    · exact (Sub.cons rfl (Sub.cons rfl (Sub.cons rfl Sub.nil)))
                    · exact (fun _ h => h)
                · skip
                  have h11 : ¬ (x.ty = (4 : Int)) := h11
                  refine WP.skip rfl rfl rfl rfl rfl rfl rfl ?_
                  refine WP.skip rfl rfl rfl rfl rfl rfl rfl ?_
                  refine WP.valG rfl rfl rfl rfl rfl rfl rfl (Val.pickF rfl rfl rfl) ?_
                  refine WP.val rfl rfl rfl (Val.pickF rfl rfl rfl) ?_
                  refine WP.nil ?_
                  refine Out.next ?_
                  refine WPc.condF rfl rfl ?_
                  refine WPc.skip ?_
                  refine Out.block ?_
                  refine Out.next ?_
                  refine WPc.region ?_
                  refine WP.val rfl rfl rfl (Val.add (z := ((i + 1 : Nat) : Int)) rfl rfl rfl ((w64 (by omega) (by omega)).trans (by omega))) ?_
                  refine WP.val rfl rfl rfl (Val.move rfl rfl) ?_
                  refine WP.nil ?_
                  have hgx : GoodR x := by refine ⟨?_, ?_, ?_, ?_⟩ <;> simp_all <;> omega
                  have hgn : ∀ y ∈ l.take (i + 1), GoodR y := by
                    intro y hy
                    rw [take_more hx] at hy
                    rcases List.mem_append.1 hy with h | h
                    · exact hgi y h
                    · obtain rfl : y = x := by simpa using h
                      exact hgx
                  refine Out.drop ?_
                  refine Out.again (i + 1) ?_ ?_ ?_ ?_
                  · exact ⟨by omega, hgn⟩
                  · first | omega | (dsimp only; omega)
                  · exact (Sub.cons rfl (Sub.cons rfl (Sub.cons rfl Sub.nil)))
                  · exact (fun _ h => h)
        · skip
          have h4 : ¬ (((i : Nat) : Int) < (((l).length : Nat) : Int)) := h4
          refine WPc.exit ?_
          refine Out.then_exit ?_
          refine Out.then_exit ?_
          refine Out.block_exit ?_
          refine Out.next ?_
          refine WPc.seq ?_
          refine WPc.region ?_
          refine WP.val rfl rfl rfl (Val.assign rfl rfl) ?_
          refine WP.nil ?_
          refine Out.next ?_
          refine WPc.ret ?_
          have hti : (l).take i = l := List.take_of_length_le (by first | omega | (simp at *; try omega))
          rw [hti] at hgi
          exact Out.ret1 (L' := _) Tryd.results7 rfl ⟨true, rfl, (fun _ => ⟨by first | omega | (simp at *; try omega), by omega, by omega, hgi⟩), rfl⟩ (fun _ h => h)

theorem wagood_spec (A : HProp) (ofs : Int) (l : List WR) (hlen : l.length ≤ 9223372036854775807) (va : Value) (hva : Rd A 6 WR.cells va l) : Does Tryd.prog 7 [va, .int .i64 (ofs)] [A] (fun v L => ∃ b : Bool, v = .bool b ∧ (b = true → l.length ≤ 60 ∧ 0 ≤ ofs ∧ ofs ≤ 1048576 ∧ ∀ x ∈ l, GoodR x) ∧ L = [A]) := by
  rcases hva with ⟨b0, o0, c0, rfl, hr⟩ | ⟨rfl, a, c, rfl⟩
  · exact wagood_row A ofs l hlen b0 o0 c0 hr
  · exact wagood_nil A ofs a c

theorem Srcs.empty {P : Program} {W : World} {L : List HProp} {k c : Nat} {tx e' : TypeId} {k' b' : Nat} (hk : slcE P tx = some (e', k', b')) (a : Option Addr) : Srcs P W L k tx (.slice a 0 c) 0 [] := by
  cases a with
  | none => exact Srcs.nil hk
  | some p => exact Srcs.slice hk (by simp) rfl (fun w h j u hj => by simp at hj)
def WR.hd : WR := ⟨4, true, 0, false, [], false⟩
theorem flat_one6 (l : List WR) : (flatOf WR.cells l).all (·.oneCell') = true := by
  rw [List.all_eq_true]
  intro v hv
  obtain ⟨x, -, hx⟩ := List.mem_flatMap.1 hv
  simp only [WR.cells, List.mem_cons, List.not_mem_nil, or_false] at hx
  rcases hx with rfl | rfl | rfl | rfl | rfl | rfl <;> rfl
theorem rows_at {w : World} {b o : Nat} {l : List WR} (h : ∀ i x, l[i]? = some x → w.rangeAt b (o + i * 6) (WR.cells x)) : w.rangeAt b o (flatOf WR.cells l) := fun j v hj => by
  have h2 := rd_cell WR.len h
  exact h2 j v hj
set_option maxRecDepth 100000 in
set_option maxHeartbeats 1000000 in
theorem headed_nil (A : HProp) (a : Option Addr) (c : Nat) : Does Tryd.prog 8 [.slice a 0 c] [A] (fun v L => ∃ u, v = u ∧ L = [Own 44 6 u (WR.hd :: ([] : List WR)).length (flatOf WR.cells (WR.hd :: ([] : List WR))), A]) := by
  refine Does.enter 7 Tryd.func8 rfl rfl rfl fun W F => ?_
  show WPc _ _ _ _ _ [(0, .slice a 0 c)] (A :: F)
  refine WPc.seq ?_
  refine WPc.region ?_
  refine WP.val rfl rfl rfl (Val.assign rfl rfl) ?_
  refine WP.nil ?_
  refine Out.next ?_
  refine WPc.seq ?_
  refine WPc.region ?_
  refine WP.val rfl rfl rfl (Val.mk (cs := [.int .i64 4, .bool true, .int .u32 0, .bool false, .string (⟨#[]⟩), .bool false]) rfl rfl (fun _ => by kernel_rfl)) ?_
  refine WP.eff rfl rfl rfl (Eff.mkSlice (C := [.int .i64 4, .bool true, .int .u32 0, .bool false, .string (⟨#[]⟩), .bool false]) rfl Ty.sl23 rfl (fun _ => by kernel_rfl)) ?_
  rintro _ _ ⟨b1, rfl, rfl⟩
  refine WP.val rfl rfl rfl (Val.move rfl rfl) ?_
  refine WP.conv (fun w h => Sat.ownMk (e := 44) (k := 6) (b := b1) (m := 1) (cap := 1) (xs := ([.int .i64 4, .bool true, .int .u32 0, .bool false, .string (⟨#[]⟩), .bool false])) (sp := []) (by rw [List.append_nil]; exact h) (by omega) rfl rfl (by decide)) ?_
  show WP _ _ _ _ _ _ _ (Own 44 6 (.slice (some ⟨b1, 0, none⟩) 1 1) 1 ([.int .i64 4, .bool true, .int .u32 0, .bool false, .string (⟨#[]⟩), .bool false]) :: A :: F)
  refine WP.eff rfl rfl rfl (Eff.append (m := 0) (n0 := 1) (news := ([] : List Value)) rfl Ty.sl23 Ty.z44 rfl rfl rfl (Srcs.empty Ty.sl23 a) (by omega) (by omega)) ?_
  rintro v2 _ ⟨onev2, rfl⟩
  refine WP.val rfl rfl rfl (Val.assign rfl rfl) ?_
  refine WP.nil ?_
  refine Out.next ?_
  refine WPc.ret ?_
  exact Out.ret1 (L' := _) Tryd.results8 rfl ⟨v2, rfl, rfl⟩ (fun w h => by first | exact h | (rw [Nat.add_comm]; exact h) | (simp only [List.length_cons, List.length_nil]; rw [Nat.add_comm]; exact h))

set_option maxRecDepth 100000 in
set_option maxHeartbeats 1000000 in
theorem headed_row (A : HProp) (l : List WR) (hlen : l.length ≤ 4294967296) (b0 o0 c0 : Nat) (hr : ∀ w, Holds A w → ∀ i x, l[i]? = some x → w.rangeAt b0 (o0 + i * 6) (WR.cells x)) : Does Tryd.prog 8 [.slice (some ⟨b0, o0, none⟩) l.length c0] [A] (fun v L => ∃ u, v = u ∧ L = [Own 44 6 u (WR.hd :: l).length (flatOf WR.cells (WR.hd :: l)), A]) := by
  refine Does.enter 7 Tryd.func8 rfl rfl rfl fun W F => ?_
  show WPc _ _ _ _ _ [(0, .slice (some ⟨b0, o0, none⟩) l.length c0)] (A :: F)
  refine WPc.seq ?_
  refine WPc.region ?_
  refine WP.val rfl rfl rfl (Val.assign rfl rfl) ?_
  refine WP.nil ?_
  refine Out.next ?_
  refine WPc.seq ?_
  refine WPc.region ?_
  refine WP.val rfl rfl rfl (Val.mk (cs := [.int .i64 4, .bool true, .int .u32 0, .bool false, .string (⟨#[]⟩), .bool false]) rfl rfl (fun _ => by kernel_rfl)) ?_
  refine WP.eff rfl rfl rfl (Eff.mkSlice (C := [.int .i64 4, .bool true, .int .u32 0, .bool false, .string (⟨#[]⟩), .bool false]) rfl Ty.sl23 rfl (fun _ => by kernel_rfl)) ?_
  rintro _ _ ⟨b1, rfl, rfl⟩
  refine WP.val rfl rfl rfl (Val.move rfl rfl) ?_
  refine WP.conv (fun w h => Sat.ownMk (e := 44) (k := 6) (b := b1) (m := 1) (cap := 1) (xs := ([.int .i64 4, .bool true, .int .u32 0, .bool false, .string (⟨#[]⟩), .bool false])) (sp := []) (by rw [List.append_nil]; exact h) (by omega) rfl rfl (by decide)) ?_
  show WP _ _ _ _ _ _ _ (Own 44 6 (.slice (some ⟨b1, 0, none⟩) 1 1) 1 ([.int .i64 4, .bool true, .int .u32 0, .bool false, .string (⟨#[]⟩), .bool false]) :: A :: F)
  refine WP.eff rfl rfl rfl (Eff.append (m := l.length) (n0 := 1) (news := flatOf WR.cells l) rfl Ty.sl23 Ty.z44 rfl rfl rfl (Srcs.slice Ty.sl23 (flatOf_length WR.len l) (flat_one6 l) (fun w h => cells_range (rows_at (hr w (h.at 1 rfl))))) (by omega) (by omega)) ?_
  rintro v2 _ ⟨onev2, rfl⟩
  refine WP.val rfl rfl rfl (Val.assign rfl rfl) ?_
  refine WP.nil ?_
  refine Out.next ?_
  refine WPc.ret ?_
  exact Out.ret1 (L' := _) Tryd.results8 rfl ⟨v2, rfl, rfl⟩ (fun w h => by first | exact h | (rw [Nat.add_comm]; exact h) | (simp only [List.length_cons, List.length_nil]; rw [Nat.add_comm]; exact h))

theorem headed_spec (A : HProp) (l : List WR) (hlen : l.length ≤ 4294967296) (va : Value) (hva : Rd A 6 WR.cells va l) : Does Tryd.prog 8 [va] [A] (fun v L => ∃ u, v = u ∧ L = [Own 44 6 u (WR.hd :: l).length (flatOf WR.cells (WR.hd :: l)), A]) := by
  rcases hva with ⟨b0, o0, c0, rfl, hr⟩ | ⟨rfl, a, c, rfl⟩
  · exact headed_row A l hlen b0 o0 c0 hr
  · exact headed_nil A a c
set_option maxRecDepth 100000 in
set_option maxHeartbeats 1000000 in
theorem cloner_nil (A : HProp) (a : Option Addr) (c : Nat) : Does Tryd.prog 16 [.slice a 0 c] [A] (fun v L => ∃ u, v = u ∧ L = [Own 44 6 u 0 (flatOf WR.cells ([] : List WR)), A]) := by
  refine Does.enter 8 Tryd.func16 rfl rfl rfl fun W F => ?_
  show WPc _ _ _ _ _ [(0, .slice a 0 c)] (A :: F)
  refine WPc.seq ?_
  refine WPc.region ?_
  refine WP.val rfl rfl rfl (Val.assign rfl rfl) ?_
  refine WP.nil ?_
  refine Out.next ?_
  refine WPc.seq ?_
  refine WPc.seq ?_
  refine WPc.region ?_
  refine WP.val rfl rfl rfl (Val.move rfl rfl) ?_
  refine WP.val rfl rfl rfl (Val.nilS rfl Ty.is23 rfl rfl) ?_
  refine WP.nil ?_
  refine Out.next ?_
  refine WPc.cond rfl (fun h1 => ?_) (fun h1 => ?_)
  · skip
    have h1 : (a.isNone) = true := h1
    refine WPc.seq ?_
    refine WPc.region ?_
    refine WP.val rfl rfl rfl (Val.assign rfl rfl) ?_
    refine WP.nil ?_
    refine Out.next ?_
    refine WPc.ret ?_
    refine Out.then_ret ?_
    exact Out.ret1 (L' := _) Tryd.results16 rfl ⟨_, rfl, rfl⟩ (fun w h => h.ownNil)
  · skip
    have h1 : (a.isNone) = false := h1
    refine WPc.skip ?_
    refine Out.next ?_
    refine WPc.seq ?_
    refine WPc.region ?_
    refine WP.eff rfl rfl rfl (Eff.mkSlice (C := []) rfl Ty.sl23 rfl (fun _ => by kernel_rfl)) ?_
    rintro _ _ ⟨b1, rfl, rfl⟩
    refine WP.val rfl rfl rfl (Val.move rfl rfl) ?_
    refine WP.conv (fun w h => Sat.ownMk (e := 44) (k := 6) (b := b1) (m := 0) (cap := 0) (xs := []) (sp := []) h (by omega) rfl rfl (by decide)) ?_
    show WP _ _ _ _ _ _ _ (Own 44 6 (.slice (some ⟨b1, 0, none⟩) 0 0) 0 ([]) :: A :: F)
    refine WP.eff rfl rfl rfl (Eff.append (m := 0) (n0 := 0) (news := ([] : List Value)) rfl Ty.sl23 Ty.z44 rfl rfl rfl (Srcs.empty Ty.sl23 a) (by omega) (by omega)) ?_
    rintro v2 _ ⟨onev2, rfl⟩
    refine WP.val rfl rfl rfl (Val.assign rfl rfl) ?_
    refine WP.nil ?_
    refine Out.next ?_
    refine WPc.ret ?_
    exact Out.ret1 (L' := _) Tryd.results16 rfl ⟨v2, rfl, rfl⟩ (fun w h => by first | exact h | (rw [Nat.zero_add] at h; exact h))

set_option maxRecDepth 100000 in
set_option maxHeartbeats 1000000 in
theorem cloner_row (A : HProp) (l : List WR) (hlen : l.length ≤ 4294967296) (b0 o0 c0 : Nat) (hr : ∀ w, Holds A w → ∀ i x, l[i]? = some x → w.rangeAt b0 (o0 + i * 6) (WR.cells x)) : Does Tryd.prog 16 [.slice (some ⟨b0, o0, none⟩) l.length c0] [A] (fun v L => ∃ u, v = u ∧ L = [Own 44 6 u l.length (flatOf WR.cells l), A]) := by
  refine Does.enter 8 Tryd.func16 rfl rfl rfl fun W F => ?_
  show WPc _ _ _ _ _ [(0, .slice (some ⟨b0, o0, none⟩) l.length c0)] (A :: F)
  refine WPc.seq ?_
  refine WPc.region ?_
  refine WP.val rfl rfl rfl (Val.assign rfl rfl) ?_
  refine WP.nil ?_
  refine Out.next ?_
  refine WPc.seq ?_
  refine WPc.seq ?_
  refine WPc.region ?_
  refine WP.val rfl rfl rfl (Val.move rfl rfl) ?_
  refine WP.val rfl rfl rfl (Val.nilS rfl Ty.is23 rfl rfl) ?_
  refine WP.nil ?_
  refine Out.next ?_
  refine WPc.condF rfl rfl ?_
  refine WPc.skip ?_
  refine Out.next ?_
  refine WPc.seq ?_
  refine WPc.region ?_
  refine WP.eff rfl rfl rfl (Eff.mkSlice (C := []) rfl Ty.sl23 rfl (fun _ => by kernel_rfl)) ?_
  rintro _ _ ⟨b1, rfl, rfl⟩
  refine WP.val rfl rfl rfl (Val.move rfl rfl) ?_
  refine WP.conv (fun w h => Sat.ownMk (e := 44) (k := 6) (b := b1) (m := 0) (cap := 0) (xs := []) (sp := []) h (by omega) rfl rfl (by decide)) ?_
  show WP _ _ _ _ _ _ _ (Own 44 6 (.slice (some ⟨b1, 0, none⟩) 0 0) 0 ([]) :: A :: F)
  refine WP.eff rfl rfl rfl (Eff.append (m := l.length) (n0 := 0) (news := flatOf WR.cells l) rfl Ty.sl23 Ty.z44 rfl rfl rfl (Srcs.slice Ty.sl23 (flatOf_length WR.len l) (flat_one6 l) (fun w h => cells_range (rows_at (hr w (h.at 1 rfl))))) (by omega) (by omega)) ?_
  rintro v2 _ ⟨onev2, rfl⟩
  refine WP.val rfl rfl rfl (Val.assign rfl rfl) ?_
  refine WP.nil ?_
  refine Out.next ?_
  refine WPc.ret ?_
  exact Out.ret1 (L' := _) Tryd.results16 rfl ⟨v2, rfl, rfl⟩ (fun w h => by first | exact h | (rw [Nat.zero_add] at h; exact h))

theorem cloner_spec (A : HProp) (l : List WR) (hlen : l.length ≤ 4294967296) (va : Value) (hva : Rd A 6 WR.cells va l) : Does Tryd.prog 16 [va] [A] (fun v L => ∃ u, v = u ∧ L = [Own 44 6 u l.length (flatOf WR.cells l), A]) := by
  rcases hva with ⟨b0, o0, c0, rfl, hr⟩ | ⟨rfl, a, c, rfl⟩
  · exact cloner_row A l hlen b0 o0 c0 hr
  · exact cloner_nil A a c

theorem strv_at {l : List (List UInt8)} {i : Nat} {x : List UInt8} (h : l[i]? = some x) (sp : List Value) : (l.map strv ++ sp)[i]? = some (strv x) := by
  have hlt := (List.getElem?_eq_some_iff.1 h).1
  rw [List.getElem?_append_left (by simpa using hlt), List.getElem?_map, h]; rfl
theorem flat_take_le (l : List (List UInt8)) (i : Nat) : (l.take i).flatten.length ≤ l.flatten.length := by
  have : l.flatten = (l.take i).flatten ++ (l.drop i).flatten := by rw [← List.flatten_append, List.take_append_drop]
  rw [this, List.length_append]; omega
set_option maxRecDepth 100000 in
set_option maxHeartbeats 2000000 in
theorem join_spec (sv : Value) (l : List (List UInt8)) (hl : l.flatten.length ≤ 4294967296) (hn : l.length ≤ 4294967296) : Does Tryd.prog 11 [sv] [Seq sv l.length (l.map strv)] (fun v L => v = .string (str l.flatten) ∧ L = [Seq sv l.length (l.map strv)]) := by
  refine Does.enter 17 Tryd.func11 rfl rfl rfl fun W F => ?_
  show WPc _ _ _ _ _ [(0, sv)] (Seq sv l.length (l.map strv) :: F)
  refine WPc.seq ?_
  refine WPc.region ?_
  refine WP.val rfl rfl rfl (Val.assign rfl rfl) ?_
  refine WP.nil ?_
  refine Out.next ?_
  refine WPc.seq ?_
  refine WPc.region ?_
  refine WP.val rfl rfl rfl (Val.assign rfl rfl) ?_
  refine WP.nil ?_
  refine Out.next ?_
  refine WPc.seq ?_
  refine WPc.seq ?_
  refine WPc.region ?_
  refine WP.val rfl rfl rfl (Val.move rfl rfl) ?_
  refine WP.val rfl rfl rfl (Val.lenSeq rfl Ty.sl27 rfl (fun w h => h.at 0 rfl)) ?_
  refine WP.val rfl rfl rfl (Val.move rfl rfl) ?_
  refine WP.nil ?_
  refine Out.next ?_
  refine WPc.block ?_
  refine WPc.loop (ι := Nat) (fun i => i ≤ l.length) (fun i => [(3, .string (str ((l.take i).flatten))), (6, sv), (7, .int .i64 (((l.length : Nat) : Int))), (8, .int .i64 (((i : Nat) : Int)))]) (fun i => Seq sv l.length (l.map strv) :: F) (fun i => l.length - i) 0 (Nat.zero_le _) ((Sub.cons rfl (Sub.cons rfl (Sub.cons rfl (Sub.cons rfl Sub.nil))))) (fun _ h => h) ?_
  rintro i hi
  show WPc _ _ _ _ _ [(3, .string (str ((l.take i).flatten))), (6, sv), (7, .int .i64 (((l.length : Nat) : Int))), (8, .int .i64 (((i : Nat) : Int)))] (Seq sv l.length (l.map strv) :: F)
  replace hi : i ≤ l.length := hi
  refine WPc.seq ?_
  refine WPc.region ?_
  refine WP.val rfl rfl rfl (Val.lss rfl rfl rfl) ?_
  refine WP.nil ?_
  refine Out.next ?_
  refine WPc.seq ?_
  refine WPc.ifP rfl (fun h1 => ?_) (fun h1 => ?_)
  · skip
    have h1 : (((i : Nat) : Int) < ((l.length : Nat) : Int)) := h1
    refine WPc.skip ?_
    refine Out.next ?_
    refine WPc.seq ?_
    refine WPc.block ?_
    refine WPc.seq ?_
    have hlt : i < l.length := by omega
    obtain ⟨x, hx⟩ : ∃ x, l[i]? = some x := ⟨_, List.getElem?_eq_getElem hlt⟩
    have htk := take_more hx
    have hfl : (l.take (i + 1)).flatten = (l.take i).flatten ++ x := by rw [htk]; simp
    have hle := flat_take_le l (i + 1)
    rw [hfl, List.length_append] at hle
    refine WPc.open (fun w h => h.seqOpen (by omega)) ?_
    rintro ⟨g1, cg1, spg1, Tg1⟩
    refine WPc.pure (fun hvg1 => ?_)
    refine WPc.know 6 (.slice (some ⟨g1, 0, none⟩) l.length cg1) rfl hvg1.1 ?_
    show WPc _ _ _ _ _ _ (Ro (Blk g1 (l.map strv ++ spg1) Tg1) :: Seq sv l.length (l.map strv) :: F)
    refine WPc.region ?_
    refine WP.val rfl rfl rfl (Val.indexAddr (j := i) (q := i) rfl Ty.sl27 rfl rfl (by omega) (by omega) (by omega)) ?_
    refine WP.val rfl rfl rfl (Val.load (v := .string (str (x))) rfl Ty.sc9 rfl (fun w h => h.cellRo 0 rfl (strv_at hx _))) ?_
    refine WP.val rfl rfl rfl (Val.assign rfl rfl) ?_
    refine WP.nil ?_
    refine Out.next ?_
    refine WPc.region ?_
    refine WP.val rfl rfl rfl (Val.move rfl rfl) ?_
    refine WP.val rfl rfl rfl (Val.move rfl rfl) ?_
    refine WP.val rfl rfl rfl (Val.addL (a := (l.take i).flatten) (b := x) rfl rfl rfl (by omega)) ?_
    refine WP.val rfl rfl rfl (Val.assign rfl rfl) ?_
    refine WP.nil ?_
    refine Out.block ?_
    refine Out.next ?_
    refine WPc.region ?_
    refine WP.val rfl rfl rfl (Val.add (z := ((i + 1 : Nat) : Int)) rfl rfl rfl ((w64 (by omega) (by omega)).trans (by omega))) ?_
    refine WP.val rfl rfl rfl (Val.move rfl rfl) ?_
    refine WP.nil ?_
    refine Out.drop ?_
    refine Out.again (i + 1) ?_ ?_ ?_ ?_
    · exact (by first | omega | (dsimp only; omega))
    · first | omega | (dsimp only; omega)
    · exact (Sub.cons (by rw [hfl]; rfl) (Sub.cons (congrArg some hvg1.1.symm) (Sub.cons rfl (Sub.cons rfl Sub.nil))))
    · exact (fun _ h => h)
  · skip
    have h1 : ¬ (((i : Nat) : Int) < ((l.length : Nat) : Int)) := h1
    refine WPc.exit ?_
    refine Out.then_exit ?_
    refine Out.then_exit ?_
    refine Out.block_exit ?_
    refine Out.next ?_
    refine WPc.seq ?_
    refine WPc.region ?_
    refine WP.val rfl rfl rfl (Val.move rfl rfl) ?_
    refine WP.val rfl rfl rfl (Val.assign rfl rfl) ?_
    refine WP.nil ?_
    refine Out.next ?_
    refine WPc.ret ?_
    have hti : l.take i = l := List.take_of_length_le (by omega)
    exact Out.ret1 (L' := _) Tryd.results11 rfl ⟨by rw [hti], rfl⟩ (fun _ h => h)

end Go.Proofs.YthicijpjpijdjaaDoor.Wu
