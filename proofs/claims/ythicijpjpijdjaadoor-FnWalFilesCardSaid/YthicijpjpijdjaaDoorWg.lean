import Derived.Test.YthicijpjpijdjaaDoorWf
import Derived.Test.YthicijpjpijdjaaDoorSlZap
namespace Go.Proofs.YthicijpjpijdjaaDoor.Wg
open Go.RowKit Go.Proofs.YthicijpjpijdjaaDoor Go.Proofs.YthicijpjpijdjaaDoor.Sl Go.Proofs.YthicijpjpijdjaaDoor.Wa Go.Proofs.YthicijpjpijdjaaDoor.Wb Go.Proofs.YthicijpjpijdjaaDoor.Wc Go.Proofs.YthicijpjpijdjaaDoor.Wd Go.Proofs.YthicijpjpijdjaaDoor.We Go.Proofs.YthicijpjpijdjaaDoor.Wf
set_option linter.unusedVariables false
set_option linter.unusedSimpArgs false
set_option linter.unusedSectionVars false


theorem zeros_own {W w : World} {v : Value} {l : List UInt8} {k : Nat} {L : List HProp} (h : Sat W (Own 5 1 v ((l : List UInt8).length + k) (byt l ++ (List.replicate k [Value.int .u8 0]).flatten) :: L) w) : Sat W (Own 5 1 v (l ++ List.replicate k 0 : List UInt8).length (byt (l ++ List.replicate k 0)) :: L) w := by
  rw [zeros_byt, ← byt_append] at h
  rw [List.length_append, List.length_replicate]
  exact h
set_option maxRecDepth 100000 in
set_option maxHeartbeats 2000000 in
theorem prep_spec (v0 : Value) (l : List UInt8) (hl : l.length ≤ 2000000) : Does Tryd.prog 42 [v0] [Own 5 1 v0 ((l : List UInt8).length) (byt (l))] (fun v L => ∃ u, v = .tuple #[u, .int .u64 ((lfN l.length : Nat) : Int)] ∧ L = [Own 5 1 u ((l ++ List.replicate (padn l.length) 0 : List UInt8).length) (byt (l ++ List.replicate (padn l.length) 0))]) := by
  refine Does.enter 19 Tryd.func42 rfl rfl rfl fun W F => ?_
  show WPc _ _ _ _ _ [(0, v0)] (Own 5 1 v0 ((l : List UInt8).length) (byt (l)) :: F)
  refine WPc.seq ?_
  refine WPc.region ?_
  refine WP.val rfl rfl rfl (Val.assign rfl rfl) ?_
  refine WP.val rfl rfl rfl (Val.assign rfl rfl) ?_
  refine WP.nil ?_
  refine Out.next ?_
  refine WPc.seq ?_
  refine WPc.region ?_
  refine WP.val rfl rfl rfl (Val.move rfl rfl) ?_
  refine WP.val rfl rfl rfl (Val.lenOwn rfl Ty.sl40 rfl (fun w h => h.at 0 rfl)) ?_
  refine WP.eff rfl rfl rfl (Eff.call rfl rfl Tryd.call46 (efs_spec l.length (by omega))) ?_
  rintro _ _ ⟨_, ⟨rfl, rfl⟩, rfl⟩
  show WP _ _ _ _ _ _ _ (Own 5 1 v0 ((l : List UInt8).length) (byt (l)) :: F)
  refine WP.val rfl rfl rfl (Val.move rfl rfl) ?_
  refine WP.val rfl rfl rfl (Val.extract rfl rfl rfl) ?_
  refine WP.val rfl rfl rfl (Val.extract rfl rfl rfl) ?_
  refine WP.val rfl rfl rfl (Val.assign rfl rfl) ?_
  refine WP.val rfl rfl rfl (Val.assign rfl rfl) ?_
  refine WP.nil ?_
  refine Out.next ?_
  refine WPc.seq ?_
  refine WPc.seq ?_
  refine WPc.region ?_
  refine WP.val rfl rfl rfl (Val.move rfl rfl) ?_
  refine WP.val rfl rfl rfl (Val.neq rfl rfl rfl) ?_
  refine WP.nil ?_
  refine Out.next ?_
  refine WPc.ifP rfl (fun h1 => ?_) (fun h1 => ?_)
  · skip
    have h1 : (((padn l.length : Nat) : Int) ≠ (0 : Int)) := h1
    have hpl := padn_lt l.length
    refine WPc.region ?_
    refine WP.val rfl rfl rfl (Val.move rfl rfl) ?_
    refine WP.val rfl rfl rfl (Val.move rfl rfl) ?_
    refine WP.eff rfl rfl rfl (Eff.appendZap (m := padn l.length) (n0 := (l : List UInt8).length) (C := [.int .u8 0]) rfl Ty.sl40 Ty.z5 rfl rfl Ty.ik3 rfl rfl rfl (by omega) (by omega) (by omega) (by omega)) ?_
    rintro v1 _ ⟨onev1, rfl⟩
    refine WP.val rfl rfl rfl (Val.assign rfl rfl) ?_
    refine WP.nil ?_
    refine Out.next ?_
    refine WPc.seq ?_
    refine WPc.region ?_
    refine WP.val rfl rfl rfl (Val.move rfl rfl) ?_
    refine WP.val rfl rfl rfl (Val.move rfl rfl) ?_
    refine WP.val rfl rfl rfl (Val.assign rfl rfl) ?_
    refine WP.val rfl rfl rfl (Val.assign rfl rfl) ?_
    refine WP.nil ?_
    refine Out.next ?_
    refine WPc.ret ?_
    exact Out.ret2 (L' := _) Tryd.results42 rfl rfl ⟨v1, rfl, rfl⟩ (fun w h => zeros_own h)
  · skip
    have h1 : ¬ (((padn l.length : Nat) : Int) ≠ (0 : Int)) := h1
    refine WPc.skip ?_
    refine Out.next ?_
    refine WPc.seq ?_
    refine WPc.region ?_
    refine WP.val rfl rfl rfl (Val.move rfl rfl) ?_
    refine WP.val rfl rfl rfl (Val.move rfl rfl) ?_
    refine WP.val rfl rfl rfl (Val.assign rfl rfl) ?_
    refine WP.val rfl rfl rfl (Val.assign rfl rfl) ?_
    refine WP.nil ?_
    refine Out.next ?_
    refine WPc.ret ?_
    have hp0 : padn l.length = 0 := by omega
    exact Out.ret2 (L' := _) Tryd.results42 rfl rfl ⟨v0, rfl, rfl⟩ (fun w h => by rw [hp0, List.replicate_zero, List.append_nil]; exact h)

end Go.Proofs.YthicijpjpijdjaaDoor.Wg
