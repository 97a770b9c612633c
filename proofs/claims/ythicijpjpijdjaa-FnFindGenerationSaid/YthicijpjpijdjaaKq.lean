import Derived.Test.YthicijpjpijdjaaKp
namespace Go.Proofs.Ythicijpjpijdjaa.Kq
open Go.RowKit Go.Proofs.Ythicijpjpijdjaa Go.Proofs.Ythicijpjpijdjaa.Sl Go.Proofs.Ythicijpjpijdjaa.KyP Go.Proofs.Ythicijpjpijdjaa.Ka Go.Proofs.Ythicijpjpijdjaa.Kb Go.Proofs.Ythicijpjpijdjaa.Kc Go.Proofs.Ythicijpjpijdjaa.Kd Go.Proofs.Ythicijpjpijdjaa.Ke Go.Proofs.Ythicijpjpijdjaa.Kf Go.Proofs.Ythicijpjpijdjaa.Kg Go.Proofs.Ythicijpjpijdjaa.Kh Go.Proofs.Ythicijpjpijdjaa.Ki Go.Proofs.Ythicijpjpijdjaa.Kj Go.Proofs.Ythicijpjpijdjaa.Kk Go.Proofs.Ythicijpjpijdjaa.Kl Go.Proofs.Ythicijpjpijdjaa.Km Go.Proofs.Ythicijpjpijdjaa.Kn Go.Proofs.Ythicijpjpijdjaa.Ko Go.Proofs.Ythicijpjpijdjaa.Kp
set_option linter.unusedVariables false
set_option linter.unusedSimpArgs false
set_option linter.unusedSectionVars false

set_option maxRecDepth 100000 in
set_option maxHeartbeats 2000000 in
theorem find_nil (A : HProp) (b : Nat) (ka : Option Addr) (kn kc : Nat) (md : Rv) (at_ : Int) (a : Option Addr) (c : Nat) : Does Try.prog 37 [.agg #[.pointer (some ⟨b, 0, none⟩)], .int .i64 (at_)] [Blk b [.slice ka kn kc, .int .i64 (md.m), .int .i64 (md.s), .slice a 0 c] 153, A] (fun v L => v = .int .i64 (fg (([] : List GV).map (·.1)) at_ 0) ∧ L = [Blk b [.slice ka kn kc, .int .i64 md.m, .int .i64 md.s, (.slice a 0 c)] 153, A]) := by
  refine Does.enter 31 Try.func37 rfl rfl rfl fun W F => ?_
  show WPc _ _ _ _ _ [(0, .agg #[.pointer (some ⟨b, 0, none⟩)]), (1, .int .i64 (at_))] (Blk b [.slice ka kn kc, .int .i64 (md.m), .int .i64 (md.s), .slice a 0 c] 153 :: A :: F)
  refine WPc.seq ?_
  refine WPc.region ?_
  refine WP.eff rfl rfl rfl (Eff.box (C := [.pointer (some ⟨b, 0, none⟩)]) rfl rfl rfl) ?_
  rintro _ _ ⟨b1, rfl, rfl⟩
  refine WP.val rfl rfl rfl (Val.assign rfl rfl) ?_
  refine WP.nil ?_
  refine Out.next ?_
  refine WPc.seq ?_
  refine WPc.region ?_
  refine WP.val rfl rfl rfl (Val.fieldAddr (j := 0) rfl Ty.fo78_0 rfl rfl) ?_
  refine WP.val rfl rfl rfl (Val.load rfl Ty.sc76 rfl (fun w h => h.cell 0 rfl rfl)) ?_
  refine WP.val rfl rfl rfl (Val.move rfl rfl) ?_
  refine WP.perm pl2 ?_
  refine WP.perm pl2 ?_
  refine WP.eff rfl rfl rfl (Eff.call rfl rfl Try.call80 (fgen_nil A b ka kn kc md at_ a c)) ?_
  rintro vp _ ⟨_, ⟨hfg, rfl⟩, rfl⟩
  show WP _ _ _ _ _ _ _ (Blk b [.slice ka kn kc, .int .i64 (md.m), .int .i64 (md.s), .slice a 0 c] 153 :: A :: Blk b1 [.pointer (some ⟨b, 0, none⟩)] 78 :: F)
  refine WP.val rfl rfl rfl (Val.assign rfl rfl) ?_
  refine WP.nil ?_
  refine Out.next ?_
  refine WPc.seq ?_
  refine WPc.seq ?_
  rcases hfg with ⟨hfg, rfl⟩ | ⟨k, bb, oo, cc, hk, hfg, he, rfl⟩
  · skip
    refine WPc.region ?_
    refine WP.val rfl rfl rfl (Val.fieldAddr (j := 0) rfl Ty.fo78_0 rfl rfl) ?_
    refine WP.val rfl rfl rfl (Val.load rfl Ty.sc76 rfl (fun w h => h.cell 2 rfl rfl)) ?_
    refine WP.val rfl rfl rfl (Val.nilCheck rfl rfl) ?_
    refine WP.val rfl rfl rfl (Val.fieldAddr (j := 3) rfl Ty.fo153_2 rfl rfl) ?_
    refine WP.val rfl rfl rfl (Val.load rfl Ty.sc151 rfl (fun w h => h.cell 0 rfl rfl)) ?_
    refine WP.val rfl rfl rfl (Val.len rfl Ty.sl151 rfl) ?_
    refine WP.val rfl rfl rfl (Val.move rfl rfl) ?_
    refine WP.nil ?_
    refine Out.next ?_
    refine WPc.block ?_
    refine WPc.perm pl1 ?_
    refine WPc.perm pl1 ?_
    refine WPc.perm pl2 ?_
    refine WPc.loop (ι := Nat) (fun i => i ≤ 0) (fun i => [(2, .pointer (some ⟨b1, 0, none⟩)), (5, .pointer none), (16, .int .i64 0), (17, .int .i64 (((i : Nat) : Int)))]) (fun i => Blk b1 [.pointer (some ⟨b, 0, none⟩)] 78 :: Blk b [.slice ka kn kc, .int .i64 (md.m), .int .i64 (md.s), .slice a 0 c] 153 :: A :: F) (fun i => 0 - i) 0 (Nat.zero_le _) ((Sub.cons rfl (Sub.cons rfl (Sub.cons rfl (Sub.cons rfl Sub.nil))))) (fun _ h => h) ?_
    rintro i hi
    show WPc _ _ _ _ _ [(2, .pointer (some ⟨b1, 0, none⟩)), (5, .pointer none), (16, .int .i64 0), (17, .int .i64 (((i : Nat) : Int)))] (Blk b1 [.pointer (some ⟨b, 0, none⟩)] 78 :: Blk b [.slice ka kn kc, .int .i64 (md.m), .int .i64 (md.s), .slice a 0 c] 153 :: A :: F)
    replace hi : i ≤ 0 := hi
    refine WPc.seq ?_
    refine WPc.region ?_
    refine WP.val rfl rfl rfl (Val.lss rfl rfl rfl) ?_
    refine WP.nil ?_
    refine Out.next ?_
    refine WPc.seq ?_
    refine WPc.ifP rfl (fun h1 => ?_) (fun h1 => ?_)
    · skip
      have h1 : (((i : Nat) : Int) < (0 : Int)) := h1
      exfalso; omega
    · skip
      have h1 : ¬ (((i : Nat) : Int) < (0 : Int)) := h1
      refine WPc.exit ?_
      refine Out.then_exit ?_
      refine Out.then_exit ?_
      refine Out.block_exit ?_
      refine Out.next ?_
      refine WPc.seq ?_
      refine WPc.region ?_
      refine WP.val rfl rfl rfl (Val.assign rfl rfl) ?_
      refine WP.nil ?_
      refine Out.next ?_
      refine WPc.ret ?_
      refine Out.drop ?_
      exact Out.ret1 (L' := _) Try.results37 rfl ⟨congrArg (Value.int .i64) (show _ = fg (([] : List GV).map (·.1)) at_ 0 by rw [hfg]), rfl⟩ (fun _ h => h)
  · skip
    exact absurd hk (Nat.not_lt_zero _)

set_option maxRecDepth 100000 in
set_option maxHeartbeats 2000000 in
theorem find_row (A : HProp) (b : Nat) (ka : Option Addr) (kn kc : Nat) (md : Rv) (at_ : Int) (l : List GV) (hsm : Small (l.map (·.1))) (hin : ∀ p ∈ l, Rd A 2 Rv.cells p.2 p.1.revs) (b0 o0 c0 : Nat) (hr : ∀ w, Holds A w → ∀ i x, l[i]? = some x → w.rangeAt b0 (o0 + i * 4) (GV.cells x)) : Does Try.prog 37 [.agg #[.pointer (some ⟨b, 0, none⟩)], .int .i64 (at_)] [Blk b [.slice ka kn kc, .int .i64 (md.m), .int .i64 (md.s), .slice (some ⟨b0, o0, none⟩) l.length c0] 153, A] (fun v L => v = .int .i64 (fg (l.map (·.1)) at_ l.length) ∧ L = [Blk b [.slice ka kn kc, .int .i64 md.m, .int .i64 md.s, (.slice (some ⟨b0, o0, none⟩) l.length c0)] 153, A]) := by
  refine Does.enter 31 Try.func37 rfl rfl rfl fun W F => ?_
  show WPc _ _ _ _ _ [(0, .agg #[.pointer (some ⟨b, 0, none⟩)]), (1, .int .i64 (at_))] (Blk b [.slice ka kn kc, .int .i64 (md.m), .int .i64 (md.s), .slice (some ⟨b0, o0, none⟩) l.length c0] 153 :: A :: F)
  refine WPc.seq ?_
  refine WPc.region ?_
  refine WP.eff rfl rfl rfl (Eff.box (C := [.pointer (some ⟨b, 0, none⟩)]) rfl rfl rfl) ?_
  rintro _ _ ⟨b1, rfl, rfl⟩
  refine WP.val rfl rfl rfl (Val.assign rfl rfl) ?_
  refine WP.nil ?_
  refine Out.next ?_
  refine WPc.seq ?_
  have hlen := hsm.len
  refine WPc.region ?_
  refine WP.val rfl rfl rfl (Val.fieldAddr (j := 0) rfl Ty.fo78_0 rfl rfl) ?_
  refine WP.val rfl rfl rfl (Val.load rfl Ty.sc76 rfl (fun w h => h.cell 0 rfl rfl)) ?_
  refine WP.val rfl rfl rfl (Val.move rfl rfl) ?_
  refine WP.perm pl2 ?_
  refine WP.perm pl2 ?_
  refine WP.eff rfl rfl rfl (Eff.call rfl rfl Try.call80 (fgen_row A b ka kn kc md at_ l hsm hin b0 o0 c0 hr)) ?_
  rintro vp _ ⟨_, ⟨hfg, rfl⟩, rfl⟩
  show WP _ _ _ _ _ _ _ (Blk b [.slice ka kn kc, .int .i64 (md.m), .int .i64 (md.s), .slice (some ⟨b0, o0, none⟩) l.length c0] 153 :: A :: Blk b1 [.pointer (some ⟨b, 0, none⟩)] 78 :: F)
  refine WP.val rfl rfl rfl (Val.assign rfl rfl) ?_
  refine WP.nil ?_
  refine Out.next ?_
  refine WPc.seq ?_
  refine WPc.seq ?_
  rcases hfg with ⟨hfg, rfl⟩ | ⟨k, bb, oo, cc, hk, hfg, he, rfl⟩
  · skip
    refine WPc.region ?_
    refine WP.val rfl rfl rfl (Val.fieldAddr (j := 0) rfl Ty.fo78_0 rfl rfl) ?_
    refine WP.val rfl rfl rfl (Val.load rfl Ty.sc76 rfl (fun w h => h.cell 2 rfl rfl)) ?_
    refine WP.val rfl rfl rfl (Val.nilCheck rfl rfl) ?_
    refine WP.val rfl rfl rfl (Val.fieldAddr (j := 3) rfl Ty.fo153_2 rfl rfl) ?_
    refine WP.val rfl rfl rfl (Val.load rfl Ty.sc151 rfl (fun w h => h.cell 0 rfl rfl)) ?_
    refine WP.val rfl rfl rfl (Val.len rfl Ty.sl151 rfl) ?_
    refine WP.val rfl rfl rfl (Val.move rfl rfl) ?_
    refine WP.nil ?_
    refine Out.next ?_
    refine WPc.block ?_
    refine WPc.perm pl1 ?_
    refine WPc.perm pl1 ?_
    refine WPc.perm pl2 ?_
    refine WPc.loop (ι := Nat) (fun i => i ≤ l.length) (fun i => [(2, .pointer (some ⟨b1, 0, none⟩)), (5, .pointer none), (16, .int .i64 (((l.length : Nat) : Int))), (17, .int .i64 (((i : Nat) : Int)))]) (fun i => Blk b1 [.pointer (some ⟨b, 0, none⟩)] 78 :: Blk b [.slice ka kn kc, .int .i64 (md.m), .int .i64 (md.s), .slice (some ⟨b0, o0, none⟩) l.length c0] 153 :: A :: F) (fun i => l.length - i) 0 (Nat.zero_le _) ((Sub.cons rfl (Sub.cons rfl (Sub.cons rfl (Sub.cons rfl Sub.nil))))) (fun _ h => h) ?_
    rintro i hi
    show WPc _ _ _ _ _ [(2, .pointer (some ⟨b1, 0, none⟩)), (5, .pointer none), (16, .int .i64 (((l.length : Nat) : Int))), (17, .int .i64 (((i : Nat) : Int)))] (Blk b1 [.pointer (some ⟨b, 0, none⟩)] 78 :: Blk b [.slice ka kn kc, .int .i64 (md.m), .int .i64 (md.s), .slice (some ⟨b0, o0, none⟩) l.length c0] 153 :: A :: F)
    replace hi : i ≤ l.length := hi
    refine WPc.seq ?_
    refine WPc.region ?_
    refine WP.val rfl rfl rfl (Val.lss rfl rfl rfl) ?_
    refine WP.nil ?_
    refine Out.next ?_
    refine WPc.seq ?_
    refine WPc.ifP rfl (fun h1 => ?_) (fun h1 => ?_)
    · skip
      have h1 : (((i : Nat) : Int) < ((l.length : Nat) : Int)) := h1
      refine WPc.skip ?_
      refine Out.next ?_
      refine WPc.seq ?_
      refine WPc.block ?_
      refine WPc.seq ?_
      refine WPc.region ?_
      refine WP.val rfl rfl rfl (Val.move rfl rfl) ?_
      refine WP.val rfl rfl rfl (Val.assign rfl rfl) ?_
      refine WP.nil ?_
      refine Out.next ?_
      refine WPc.seq ?_
      refine WPc.region ?_
      refine WP.val rfl rfl rfl (Val.move rfl rfl) ?_
      refine WP.val rfl rfl rfl (Val.fieldAddr (j := 0) rfl Ty.fo78_0 rfl rfl) ?_
      refine WP.val rfl rfl rfl (Val.load rfl Ty.sc76 rfl (fun w h => h.cell 0 rfl rfl)) ?_
      refine WP.val rfl rfl rfl (Val.nilCheck rfl rfl) ?_
      refine WP.val rfl rfl rfl (Val.fieldAddr (j := 3) rfl Ty.fo153_2 rfl rfl) ?_
      refine WP.val rfl rfl rfl (Val.load rfl Ty.sc151 rfl (fun w h => h.cell 1 rfl rfl)) ?_
      refine WP.val rfl rfl rfl (Val.move rfl rfl) ?_
      refine WP.val rfl rfl rfl (Val.indexAddr (j := i) (q := o0 + i * 4) rfl Ty.sl151 rfl rfl (by omega) (by omega) (by omega)) ?_
      refine WP.val rfl rfl rfl (Val.nilEqP rfl pz149 rfl rfl) ?_
      refine WP.nil ?_
      refine Out.next ?_
      refine WPc.condF rfl rfl ?_
      refine WPc.skip ?_
      refine Out.block ?_
      refine Out.next ?_
      refine WPc.region ?_
      refine WP.val rfl rfl rfl (Val.add (z := ((i + 1 : Nat) : Int)) rfl rfl rfl ((w64 (by omega) (by omega)).trans (by omega))) ?_
      refine WP.val rfl rfl rfl (Val.move rfl rfl) ?_
      refine WP.nil ?_
      refine Out.again (i + 1) ?_ ?_ ?_ ?_
      · exact (by first | omega | (dsimp only; omega))
      · first | omega | (dsimp only; omega)
      · exact (Sub.cons rfl (Sub.cons rfl (Sub.cons rfl (Sub.cons rfl Sub.nil))))
      · exact (fun _ h => h)
    · skip
      have h1 : ¬ (((i : Nat) : Int) < ((l.length : Nat) : Int)) := h1
      refine WPc.exit ?_
      refine Out.then_exit ?_
      refine Out.then_exit ?_
      refine Out.block_exit ?_
      refine Out.next ?_
      refine WPc.seq ?_
      refine WPc.region ?_
      refine WP.val rfl rfl rfl (Val.assign rfl rfl) ?_
      refine WP.nil ?_
      refine Out.next ?_
      refine WPc.ret ?_
      refine Out.drop ?_
      exact Out.ret1 (L' := _) Try.results37 rfl ⟨congrArg (Value.int .i64) (show _ = fg (l.map (·.1)) at_ l.length by rw [hfg]), rfl⟩ (fun _ h => h)
  · skip
    simp only [Value.slice.injEq, Option.some.injEq, Addr.mk.injEq, and_true, true_and] at he
    obtain ⟨⟨rfl, rfl⟩, rfl⟩ := he
    refine WPc.region ?_
    refine WP.val rfl rfl rfl (Val.fieldAddr (j := 0) rfl Ty.fo78_0 rfl rfl) ?_
    refine WP.val rfl rfl rfl (Val.load rfl Ty.sc76 rfl (fun w h => h.cell 2 rfl rfl)) ?_
    refine WP.val rfl rfl rfl (Val.nilCheck rfl rfl) ?_
    refine WP.val rfl rfl rfl (Val.fieldAddr (j := 3) rfl Ty.fo153_2 rfl rfl) ?_
    refine WP.val rfl rfl rfl (Val.load rfl Ty.sc151 rfl (fun w h => h.cell 0 rfl rfl)) ?_
    refine WP.val rfl rfl rfl (Val.len rfl Ty.sl151 rfl) ?_
    refine WP.val rfl rfl rfl (Val.move rfl rfl) ?_
    refine WP.nil ?_
    refine Out.next ?_
    refine WPc.block ?_
    refine WPc.perm pl1 ?_
    refine WPc.perm pl1 ?_
    refine WPc.perm pl2 ?_
    refine WPc.loop (ι := Nat) (fun i => i ≤ k) (fun i => [(2, .pointer (some ⟨b1, 0, none⟩)), (5, .pointer (some ⟨b0, o0 + k * 4, none⟩)), (16, .int .i64 (((l.length : Nat) : Int))), (17, .int .i64 (((i : Nat) : Int)))]) (fun i => Blk b1 [.pointer (some ⟨b, 0, none⟩)] 78 :: Blk b [.slice ka kn kc, .int .i64 (md.m), .int .i64 (md.s), .slice (some ⟨b0, o0, none⟩) l.length c0] 153 :: A :: F) (fun i => l.length - i) 0 (Nat.zero_le _) ((Sub.cons rfl (Sub.cons rfl (Sub.cons rfl (Sub.cons rfl Sub.nil))))) (fun _ h => h) ?_
    rintro i hi
    show WPc _ _ _ _ _ [(2, .pointer (some ⟨b1, 0, none⟩)), (5, .pointer (some ⟨b0, o0 + k * 4, none⟩)), (16, .int .i64 (((l.length : Nat) : Int))), (17, .int .i64 (((i : Nat) : Int)))] (Blk b1 [.pointer (some ⟨b, 0, none⟩)] 78 :: Blk b [.slice ka kn kc, .int .i64 (md.m), .int .i64 (md.s), .slice (some ⟨b0, o0, none⟩) l.length c0] 153 :: A :: F)
    replace hi : i ≤ k := hi
    refine WPc.seq ?_
    refine WPc.region ?_
    refine WP.val rfl rfl rfl (Val.lss rfl rfl rfl) ?_
    refine WP.nil ?_
    refine Out.next ?_
    refine WPc.seq ?_
    refine WPc.ifP rfl (fun h2 => ?_) (fun h2 => ?_)
    · skip
      have h2 : (((i : Nat) : Int) < ((l.length : Nat) : Int)) := h2
      refine WPc.skip ?_
      refine Out.next ?_
      refine WPc.seq ?_
      refine WPc.block ?_
      refine WPc.seq ?_
      refine WPc.region ?_
      refine WP.val rfl rfl rfl (Val.move rfl rfl) ?_
      refine WP.val rfl rfl rfl (Val.assign rfl rfl) ?_
      refine WP.nil ?_
      refine Out.next ?_
      refine WPc.seq ?_
      refine WPc.region ?_
      refine WP.val rfl rfl rfl (Val.move rfl rfl) ?_
      refine WP.val rfl rfl rfl (Val.fieldAddr (j := 0) rfl Ty.fo78_0 rfl rfl) ?_
      refine WP.val rfl rfl rfl (Val.load rfl Ty.sc76 rfl (fun w h => h.cell 0 rfl rfl)) ?_
      refine WP.val rfl rfl rfl (Val.nilCheck rfl rfl) ?_
      refine WP.val rfl rfl rfl (Val.fieldAddr (j := 3) rfl Ty.fo153_2 rfl rfl) ?_
      refine WP.val rfl rfl rfl (Val.load rfl Ty.sc151 rfl (fun w h => h.cell 1 rfl rfl)) ?_
      refine WP.val rfl rfl rfl (Val.move rfl rfl) ?_
      refine WP.val rfl rfl rfl (Val.indexAddr (j := i) (q := o0 + i * 4) rfl Ty.sl151 rfl rfl (by omega) (by omega) (by omega)) ?_
      refine WP.val rfl rfl rfl (Val.eqOffB rfl pz149 pe149 rfl rfl) ?_
      refine WP.nil ?_
      refine Out.next ?_
      refine WPc.ifP rfl (fun h3 => ?_) (fun h3 => ?_)
      · skip
        have h3 : (o0 + k * 4 = o0 + i * 4) := h3
        refine WPc.seq ?_
        refine WPc.region ?_
        refine WP.val rfl rfl rfl (Val.move rfl rfl) ?_
        refine WP.val rfl rfl rfl (Val.assign rfl rfl) ?_
        refine WP.nil ?_
        refine Out.next ?_
        refine WPc.ret ?_
        refine Out.block_ret ?_
        refine Out.then_ret ?_
        refine Out.then_ret ?_
        refine Out.block_ret ?_
        refine Out.then_ret ?_
        refine Out.drop ?_
        exact Out.ret1 (L' := _) Try.results37 rfl ⟨congrArg (Value.int .i64) (show _ = fg (l.map (·.1)) at_ l.length by rw [hfg]; omega), rfl⟩ (fun _ h => h)
      · skip
        have h3 : ¬ (o0 + k * 4 = o0 + i * 4) := h3
        refine WPc.skip ?_
        refine Out.block ?_
        refine Out.next ?_
        refine WPc.region ?_
        refine WP.val rfl rfl rfl (Val.add (z := ((i + 1 : Nat) : Int)) rfl rfl rfl ((w64 (by omega) (by omega)).trans (by omega))) ?_
        refine WP.val rfl rfl rfl (Val.move rfl rfl) ?_
        refine WP.nil ?_
        refine Out.again (i + 1) ?_ ?_ ?_ ?_
        · exact (by first | omega | (dsimp only; omega))
        · first | omega | (dsimp only; omega)
        · exact (Sub.cons rfl (Sub.cons rfl (Sub.cons rfl (Sub.cons rfl Sub.nil))))
        · exact (fun _ h => h)
    · skip
      have h2 : ¬ (((i : Nat) : Int) < ((l.length : Nat) : Int)) := h2
      exfalso; omega

theorem find_spec (A : HProp) (b : Nat) (ka : Option Addr) (kn kc : Nat) (md : Rv) (at_ : Int) (l : List GV) (hsm : Small (l.map (·.1))) (hin : ∀ p ∈ l, Rd A 2 Rv.cells p.2 p.1.revs) (va : Value) (hva : Rd A 4 GV.cells va l) : Does Try.prog 37 [.agg #[.pointer (some ⟨b, 0, none⟩)], .int .i64 (at_)] [Blk b [.slice ka kn kc, .int .i64 (md.m), .int .i64 (md.s), va] 153, A] (fun v L => v = .int .i64 (fg (l.map (·.1)) at_ l.length) ∧ L = [Blk b [.slice ka kn kc, .int .i64 md.m, .int .i64 md.s, va] 153, A]) := by
  rcases hva with ⟨b0, o0, c0, rfl, hr⟩ | ⟨rfl, a, c, rfl⟩
  · exact find_row A b ka kn kc md at_ l hsm hin b0 o0 c0 hr
  · exact find_nil A b ka kn kc md at_ a c

end Go.Proofs.Ythicijpjpijdjaa.Kq
