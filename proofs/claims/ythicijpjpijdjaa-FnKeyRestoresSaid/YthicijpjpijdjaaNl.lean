import Derived.Test.YthicijpjpijdjaaNk
namespace Go.Proofs.Ythicijpjpijdjaa.Lg
open Go.RowKit Go.Proofs.Ythicijpjpijdjaa Go.Proofs.Ythicijpjpijdjaa.Sl Go.Proofs.Ythicijpjpijdjaa.KyP Go.Proofs.Ythicijpjpijdjaa.Ka Go.Proofs.Ythicijpjpijdjaa.Kb Go.Proofs.Ythicijpjpijdjaa.Kc Go.Proofs.Ythicijpjpijdjaa.Kd Go.Proofs.Ythicijpjpijdjaa.Ke Go.Proofs.Ythicijpjpijdjaa.Kf Go.Proofs.Ythicijpjpijdjaa.Kg Go.Proofs.Ythicijpjpijdjaa.Kh Go.Proofs.Ythicijpjpijdjaa.Ki Go.Proofs.Ythicijpjpijdjaa.Kj Go.Proofs.Ythicijpjpijdjaa.Kk Go.Proofs.Ythicijpjpijdjaa.Kl Go.Proofs.Ythicijpjpijdjaa.Km Go.Proofs.Ythicijpjpijdjaa.Kn Go.Proofs.Ythicijpjpijdjaa.Ko Go.Proofs.Ythicijpjpijdjaa.Kp Go.Proofs.Ythicijpjpijdjaa.Kq Go.Proofs.Ythicijpjpijdjaa.Kr Go.Proofs.Ythicijpjpijdjaa.Ks Go.Proofs.Ythicijpjpijdjaa.Kt Go.Proofs.Ythicijpjpijdjaa.Ku Go.Proofs.Ythicijpjpijdjaa.Kv Go.Proofs.Ythicijpjpijdjaa.Kw Go.Proofs.Ythicijpjpijdjaa.Kx Go.Proofs.Ythicijpjpijdjaa.Ky Go.Proofs.Ythicijpjpijdjaa.Kz Go.Proofs.Ythicijpjpijdjaa.La Go.Proofs.Ythicijpjpijdjaa.Lb Go.Proofs.Ythicijpjpijdjaa.Lc Go.Proofs.Ythicijpjpijdjaa.Ld Go.Proofs.Ythicijpjpijdjaa.Le Go.Proofs.Ythicijpjpijdjaa.Lf
set_option linter.unusedVariables false
set_option linter.unusedSimpArgs false
set_option linter.unusedSectionVars false

set_option maxRecDepth 100000 in
set_option maxHeartbeats 2000000 in
theorem len64_0 (z : Nat) : Does Try.prog 127 [.int .u64 0] [] (fun v L => v = .int .i64 0 ∧ L = []) := by
  refine Does.enter 25 Try.func127 rfl rfl rfl fun W F => ?_
  show WPc _ _ _ _ _ [(0, .int .u64 0)] (F)
  refine WPc.seq ?_
  refine WPc.region ?_
  refine WP.val rfl rfl rfl (Val.assign rfl rfl) ?_
  refine WP.nil ?_
  refine Out.next ?_
  refine WPc.seq ?_
  refine WPc.seq ?_
  refine WPc.region ?_
  refine WP.val rfl rfl rfl (Val.move rfl rfl) ?_
  refine WP.val rfl rfl rfl (Val.geq rfl rfl rfl) ?_
  refine WP.nil ?_
  refine Out.next ?_
  refine WPc.ifP rfl (fun h1 => ?_) (fun h1 => ?_)
  · skip
    have h1 : ((4294967296 : Int) ≤ (0 : Int)) := h1
    exfalso; omega
  · skip
    have h1 : ¬ ((4294967296 : Int) ≤ (0 : Int)) := h1
    refine WPc.skip ?_
    refine Out.next ?_
    refine WPc.seq ?_
    refine WPc.seq ?_
    refine WPc.region ?_
    refine WP.val rfl rfl rfl (Val.move rfl rfl) ?_
    refine WP.val rfl rfl rfl (Val.geq rfl rfl rfl) ?_
    refine WP.nil ?_
    refine Out.next ?_
    refine WPc.ifP rfl (fun h2 => ?_) (fun h2 => ?_)
    · skip
      have h2 : ((65536 : Int) ≤ (0 : Int)) := h2
      exfalso; omega
    · skip
      have h2 : ¬ ((65536 : Int) ≤ (0 : Int)) := h2
      refine WPc.skip ?_
      refine Out.next ?_
      refine WPc.seq ?_
      refine WPc.seq ?_
      refine WPc.region ?_
      refine WP.val rfl rfl rfl (Val.move rfl rfl) ?_
      refine WP.val rfl rfl rfl (Val.geq rfl rfl rfl) ?_
      refine WP.nil ?_
      refine Out.next ?_
      refine WPc.ifP rfl (fun h3 => ?_) (fun h3 => ?_)
      · skip
        have h3 : ((256 : Int) ≤ (0 : Int)) := h3
        exfalso; omega
      · skip
        have h3 : ¬ ((256 : Int) ≤ (0 : Int)) := h3
        refine WPc.skip ?_
        refine Out.next ?_
        refine WPc.seq ?_
        refine WPc.region ?_
        refine WP.val rfl rfl rfl (Val.move rfl rfl) ?_
        refine WP.val rfl rfl rfl (Val.move rfl rfl) ?_
        refine WP.val rfl rfl rfl (Val.conv (z := 0) rfl Ty.ik5 Ty.un275 rfl rfl) ?_
        refine WP.val rfl rfl rfl (Val.indexStr (j := 0) (c := 0) rfl rfl rfl rfl rfl (by rfl)) ?_
        refine WP.val rfl rfl rfl (Val.conv (z := 0) rfl Ty.ik3 Ty.un5 rfl rfl) ?_
        refine WP.val rfl rfl rfl (Val.add (z := 0) rfl rfl rfl (by rfl)) ?_
        refine WP.val rfl rfl rfl (Val.assign rfl rfl) ?_
        refine WP.nil ?_
        refine Out.next ?_
        refine WPc.ret ?_
        exact Out.ret1 (L' := []) Try.results127 rfl ⟨rfl, rfl⟩ (fun _ h => h)
set_option maxRecDepth 100000 in
set_option maxHeartbeats 2000000 in
theorem blen_0 (z : Nat) : Does Try.prog 116 [.int .u64 0] [] (fun v L => v = .int .i64 0 ∧ L = []) := by
  refine Does.enter 8 Try.func116 rfl rfl rfl fun W F => ?_
  show WPc _ _ _ _ _ [(0, .int .u64 0)] (F)
  refine WPc.seq ?_
  refine WPc.region ?_
  refine WP.val rfl rfl rfl (Val.assign rfl rfl) ?_
  refine WP.nil ?_
  refine Out.next ?_
  refine WPc.seq ?_
  refine WPc.condF rfl rfl ?_
  refine WPc.skip ?_
  refine Out.next ?_
  refine WPc.seq ?_
  refine WPc.region ?_
  refine WP.val rfl rfl rfl (Val.move rfl rfl) ?_
  refine WP.eff rfl rfl rfl (Eff.call rfl rfl Try.call127 (len64_0 0)) ?_
  rintro _ F ⟨_, ⟨rfl, rfl⟩, rfl⟩
  show WP _ _ _ _ _ _ _ (F)
  refine WP.val rfl rfl rfl (Val.assign rfl rfl) ?_
  refine WP.nil ?_
  refine Out.next ?_
  refine WPc.ret ?_
  exact Out.ret1 (L' := []) Try.results116 rfl ⟨rfl, rfl⟩ (fun _ h => h)
set_option maxRecDepth 100000 in
set_option maxHeartbeats 2000000 in
theorem isort_0 (a : Option Addr) (c : Nat) : Does Try.prog 118 [.slice a 0 c, .int .i64 0, .int .i64 0, .func (.func 102) #[] #[]] [] (fun v L => v = .tuple #[] ∧ L = []) := by
  refine Does.enter 53 Try.func118 rfl rfl rfl fun W F => ?_
  show WPc _ _ _ _ _ [(0, .slice a 0 c), (1, .int .i64 0), (2, .int .i64 0), (3, .func (.func 102) #[] #[])] (F)
  refine WPc.seq ?_
  refine WPc.region ?_
  refine WP.val rfl rfl rfl (Val.move rfl rfl) ?_
  refine WP.val rfl rfl rfl (Val.add (z := 1) rfl rfl rfl (by rfl)) ?_
  refine WP.val rfl rfl rfl (Val.assign rfl rfl) ?_
  refine WP.nil ?_
  refine Out.next ?_
  refine WPc.block ?_
  refine WPc.loop (ι := Unit) (fun _ => True) (fun _ => [(0, .slice a 0 c), (2, .int .i64 0), (8, .int .i64 1)]) (fun _ => F) (fun _ => 0) () trivial ((Sub.cons rfl (Sub.cons rfl (Sub.cons rfl Sub.nil)))) (fun _ h => h) ?_
  rintro _ -
  show WPc _ _ _ _ _ [(0, .slice a 0 c), (2, .int .i64 0), (8, .int .i64 1)] (F)
  refine WPc.seq ?_
  refine WPc.seq ?_
  refine WPc.region ?_
  refine WP.val rfl rfl rfl (Val.move rfl rfl) ?_
  refine WP.val rfl rfl rfl (Val.move rfl rfl) ?_
  refine WP.val rfl rfl rfl (Val.lss rfl rfl rfl) ?_
  refine WP.nil ?_
  refine Out.next ?_
  refine WPc.ifP rfl (fun h1 => ?_) (fun h1 => ?_)
  · skip
    have h1 : ((1 : Int) < (0 : Int)) := h1
    exfalso; omega
  · skip
    have h1 : ¬ ((1 : Int) < (0 : Int)) := h1
    refine WPc.exit ?_
    refine Out.then_exit ?_
    refine Out.then_exit ?_
    refine Out.block_exit ?_
    exact Out.end0 (L' := []) Try.results118 ⟨rfl, rfl⟩ (fun _ h => h)
set_option maxRecDepth 100000 in
set_option maxHeartbeats 2000000 in
theorem pdq_0 (a : Option Addr) (c : Nat) : Does Try.prog 115 [.slice a 0 c, .int .i64 0, .int .i64 0, .int .i64 0, .func (.func 102) #[] #[]] [] (fun v L => v = .tuple #[] ∧ L = []) := by
  refine Does.enter 148 Try.func115 rfl rfl rfl fun W F => ?_
  show WPc _ _ _ _ _ [(0, .slice a 0 c), (1, .int .i64 0), (2, .int .i64 0), (3, .int .i64 0), (4, .func (.func 102) #[] #[])] (F)
  refine WPc.seq ?_
  refine WPc.region ?_
  refine WP.val rfl rfl rfl (Val.assign rfl rfl) ?_
  refine WP.nil ?_
  refine Out.next ?_
  refine WPc.seq ?_
  refine WPc.region ?_
  refine WP.val rfl rfl rfl (Val.assign rfl rfl) ?_
  refine WP.nil ?_
  refine Out.next ?_
  refine WPc.block ?_
  refine WPc.loop (ι := Unit) (fun _ => True) (fun _ => [(0, .slice a 0 c), (1, .int .i64 0), (2, .int .i64 0), (3, .int .i64 0), (4, .func (.func 102) #[] #[]), (10, .bool true), (11, .bool true)]) (fun _ => F) (fun _ => 0) () trivial ((Sub.cons rfl (Sub.cons rfl (Sub.cons rfl (Sub.cons rfl (Sub.cons rfl (Sub.cons rfl (Sub.cons rfl Sub.nil)))))))) (fun _ h => h) ?_
  rintro _ -
  show WPc _ _ _ _ _ [(0, .slice a 0 c), (1, .int .i64 0), (2, .int .i64 0), (3, .int .i64 0), (4, .func (.func 102) #[] #[]), (10, .bool true), (11, .bool true)] (F)
  refine WPc.block ?_
  refine WPc.seq ?_
  refine WPc.region ?_
  refine WP.val rfl rfl rfl (Val.move rfl rfl) ?_
  refine WP.val rfl rfl rfl (Val.move rfl rfl) ?_
  refine WP.val rfl rfl rfl (Val.sub (z := 0) rfl rfl rfl (by rfl)) ?_
  refine WP.val rfl rfl rfl (Val.assign rfl rfl) ?_
  refine WP.nil ?_
  refine Out.next ?_
  refine WPc.seq ?_
  refine WPc.seq ?_
  refine WPc.region ?_
  refine WP.val rfl rfl rfl (Val.move rfl rfl) ?_
  refine WP.val rfl rfl rfl (Val.leq rfl rfl rfl) ?_
  refine WP.nil ?_
  refine Out.next ?_
  refine WPc.ifP rfl (fun h1 => ?_) (fun h1 => ?_)
  · skip
    have h1 : ((0 : Int) ≤ (12 : Int)) := h1
    refine WPc.seq ?_
    refine WPc.region ?_
    refine WP.val rfl rfl rfl (Val.move rfl rfl) ?_
    refine WP.val rfl rfl rfl (Val.move rfl rfl) ?_
    refine WP.val rfl rfl rfl (Val.move rfl rfl) ?_
    refine WP.val rfl rfl rfl (Val.move rfl rfl) ?_
    refine WP.eff rfl rfl rfl (Eff.call rfl rfl Try.call118 (isort_0 a c)) ?_
    rintro _ F ⟨_, ⟨rfl, rfl⟩, rfl⟩
    show WP _ _ _ _ _ _ _ (F)
    refine WP.nil ?_
    refine Out.next ?_
    refine WPc.ret ?_
    refine Out.then_ret ?_
    refine Out.block_ret ?_
    refine Out.then_ret ?_
    refine Out.block_ret ?_
    exact Out.ret0 (L' := []) Try.results115 ⟨rfl, rfl⟩ (fun _ h => h)
  · skip
    have h1 : ¬ ((0 : Int) ≤ (12 : Int)) := h1
    exfalso; omega
set_option maxRecDepth 100000 in
set_option maxHeartbeats 2000000 in
theorem sort_0 (a : Option Addr) (c : Nat) : Does Try.prog 101 [.slice a 0 c, .func (.func 102) #[] #[]] [] (fun v L => v = .tuple #[] ∧ L = []) := by
  refine Does.enter 14 Try.func101 rfl rfl rfl fun W F => ?_
  show WPc _ _ _ _ _ [(0, .slice a 0 c), (1, .func (.func 102) #[] #[])] (F)
  refine WPc.seq ?_
  refine WPc.region ?_
  refine WP.val rfl rfl rfl (Val.move rfl rfl) ?_
  refine WP.val rfl rfl rfl (Val.len rfl Ty.sl40 rfl) ?_
  refine WP.val rfl rfl rfl (Val.assign rfl rfl) ?_
  refine WP.nil ?_
  refine Out.next ?_
  refine WPc.region ?_
  refine WP.val rfl rfl rfl (Val.move rfl rfl) ?_
  refine WP.val rfl rfl rfl (Val.move rfl rfl) ?_
  refine WP.val rfl rfl rfl (Val.move rfl rfl) ?_
  refine WP.val rfl rfl rfl (Val.conv (z := 0) rfl Ty.ik251 Ty.un3 rfl rfl) ?_
  refine WP.eff rfl rfl rfl (Eff.call rfl rfl Try.call116 (blen_0 0)) ?_
  rintro _ F ⟨_, ⟨rfl, rfl⟩, rfl⟩
  show WP _ _ _ _ _ _ _ (F)
  refine WP.val rfl rfl rfl (Val.move rfl rfl) ?_
  refine WP.eff rfl rfl rfl (Eff.call rfl rfl Try.call115 (pdq_0 a c)) ?_
  rintro _ F ⟨_, ⟨rfl, rfl⟩, rfl⟩
  show WP _ _ _ _ _ _ _ (F)
  refine WP.nil ?_
  exact Out.end0 (L' := []) Try.results101 ⟨rfl, rfl⟩ (fun _ h => h)
set_option maxRecDepth 100000 in
set_option maxHeartbeats 2000000 in
theorem len64_1 (z : Nat) : Does Try.prog 127 [.int .u64 1] [] (fun v L => v = .int .i64 1 ∧ L = []) := by
  refine Does.enter 25 Try.func127 rfl rfl rfl fun W F => ?_
  show WPc _ _ _ _ _ [(0, .int .u64 1)] (F)
  refine WPc.seq ?_
  refine WPc.region ?_
  refine WP.val rfl rfl rfl (Val.assign rfl rfl) ?_
  refine WP.nil ?_
  refine Out.next ?_
  refine WPc.seq ?_
  refine WPc.seq ?_
  refine WPc.region ?_
  refine WP.val rfl rfl rfl (Val.move rfl rfl) ?_
  refine WP.val rfl rfl rfl (Val.geq rfl rfl rfl) ?_
  refine WP.nil ?_
  refine Out.next ?_
  refine WPc.ifP rfl (fun h1 => ?_) (fun h1 => ?_)
  · skip
    have h1 : ((4294967296 : Int) ≤ (1 : Int)) := h1
    exfalso; omega
  · skip
    have h1 : ¬ ((4294967296 : Int) ≤ (1 : Int)) := h1
    refine WPc.skip ?_
    refine Out.next ?_
    refine WPc.seq ?_
    refine WPc.seq ?_
    refine WPc.region ?_
    refine WP.val rfl rfl rfl (Val.move rfl rfl) ?_
    refine WP.val rfl rfl rfl (Val.geq rfl rfl rfl) ?_
    refine WP.nil ?_
    refine Out.next ?_
    refine WPc.ifP rfl (fun h2 => ?_) (fun h2 => ?_)
    · skip
      have h2 : ((65536 : Int) ≤ (1 : Int)) := h2
      exfalso; omega
    · skip
      have h2 : ¬ ((65536 : Int) ≤ (1 : Int)) := h2
      refine WPc.skip ?_
      refine Out.next ?_
      refine WPc.seq ?_
      refine WPc.seq ?_
      refine WPc.region ?_
      refine WP.val rfl rfl rfl (Val.move rfl rfl) ?_
      refine WP.val rfl rfl rfl (Val.geq rfl rfl rfl) ?_
      refine WP.nil ?_
      refine Out.next ?_
      refine WPc.ifP rfl (fun h3 => ?_) (fun h3 => ?_)
      · skip
        have h3 : ((256 : Int) ≤ (1 : Int)) := h3
        exfalso; omega
      · skip
        have h3 : ¬ ((256 : Int) ≤ (1 : Int)) := h3
        refine WPc.skip ?_
        refine Out.next ?_
        refine WPc.seq ?_
        refine WPc.region ?_
        refine WP.val rfl rfl rfl (Val.move rfl rfl) ?_
        refine WP.val rfl rfl rfl (Val.move rfl rfl) ?_
        refine WP.val rfl rfl rfl (Val.conv (z := 1) rfl Ty.ik5 Ty.un275 rfl rfl) ?_
        refine WP.val rfl rfl rfl (Val.indexStr (j := 1) (c := 1) rfl rfl rfl rfl rfl (by rfl)) ?_
        refine WP.val rfl rfl rfl (Val.conv (z := 1) rfl Ty.ik3 Ty.un5 rfl rfl) ?_
        refine WP.val rfl rfl rfl (Val.add (z := 1) rfl rfl rfl (by rfl)) ?_
        refine WP.val rfl rfl rfl (Val.assign rfl rfl) ?_
        refine WP.nil ?_
        refine Out.next ?_
        refine WPc.ret ?_
        exact Out.ret1 (L' := []) Try.results127 rfl ⟨rfl, rfl⟩ (fun _ h => h)
set_option maxRecDepth 100000 in
set_option maxHeartbeats 2000000 in
theorem blen_1 (z : Nat) : Does Try.prog 116 [.int .u64 1] [] (fun v L => v = .int .i64 1 ∧ L = []) := by
  refine Does.enter 8 Try.func116 rfl rfl rfl fun W F => ?_
  show WPc _ _ _ _ _ [(0, .int .u64 1)] (F)
  refine WPc.seq ?_
  refine WPc.region ?_
  refine WP.val rfl rfl rfl (Val.assign rfl rfl) ?_
  refine WP.nil ?_
  refine Out.next ?_
  refine WPc.seq ?_
  refine WPc.condF rfl rfl ?_
  refine WPc.skip ?_
  refine Out.next ?_
  refine WPc.seq ?_
  refine WPc.region ?_
  refine WP.val rfl rfl rfl (Val.move rfl rfl) ?_
  refine WP.eff rfl rfl rfl (Eff.call rfl rfl Try.call127 (len64_1 0)) ?_
  rintro _ F ⟨_, ⟨rfl, rfl⟩, rfl⟩
  show WP _ _ _ _ _ _ _ (F)
  refine WP.val rfl rfl rfl (Val.assign rfl rfl) ?_
  refine WP.nil ?_
  refine Out.next ?_
  refine WPc.ret ?_
  exact Out.ret1 (L' := []) Try.results116 rfl ⟨rfl, rfl⟩ (fun _ h => h)
set_option maxRecDepth 100000 in
set_option maxHeartbeats 2000000 in
theorem isort_1 (a : Option Addr) (c : Nat) : Does Try.prog 118 [.slice a 1 c, .int .i64 0, .int .i64 1, .func (.func 102) #[] #[]] [] (fun v L => v = .tuple #[] ∧ L = []) := by
  refine Does.enter 53 Try.func118 rfl rfl rfl fun W F => ?_
  show WPc _ _ _ _ _ [(0, .slice a 1 c), (1, .int .i64 0), (2, .int .i64 1), (3, .func (.func 102) #[] #[])] (F)
  refine WPc.seq ?_
  refine WPc.region ?_
  refine WP.val rfl rfl rfl (Val.move rfl rfl) ?_
  refine WP.val rfl rfl rfl (Val.add (z := 1) rfl rfl rfl (by rfl)) ?_
  refine WP.val rfl rfl rfl (Val.assign rfl rfl) ?_
  refine WP.nil ?_
  refine Out.next ?_
  refine WPc.block ?_
  refine WPc.loop (ι := Unit) (fun _ => True) (fun _ => [(0, .slice a 1 c), (2, .int .i64 1), (8, .int .i64 1)]) (fun _ => F) (fun _ => 0) () trivial ((Sub.cons rfl (Sub.cons rfl (Sub.cons rfl Sub.nil)))) (fun _ h => h) ?_
  rintro _ -
  show WPc _ _ _ _ _ [(0, .slice a 1 c), (2, .int .i64 1), (8, .int .i64 1)] (F)
  refine WPc.seq ?_
  refine WPc.seq ?_
  refine WPc.region ?_
  refine WP.val rfl rfl rfl (Val.move rfl rfl) ?_
  refine WP.val rfl rfl rfl (Val.move rfl rfl) ?_
  refine WP.val rfl rfl rfl (Val.lss rfl rfl rfl) ?_
  refine WP.nil ?_
  refine Out.next ?_
  refine WPc.ifP rfl (fun h1 => ?_) (fun h1 => ?_)
  · skip
    have h1 : ((1 : Int) < (1 : Int)) := h1
    exfalso; omega
  · skip
    have h1 : ¬ ((1 : Int) < (1 : Int)) := h1
    refine WPc.exit ?_
    refine Out.then_exit ?_
    refine Out.then_exit ?_
    refine Out.block_exit ?_
    exact Out.end0 (L' := []) Try.results118 ⟨rfl, rfl⟩ (fun _ h => h)
set_option maxRecDepth 100000 in
set_option maxHeartbeats 2000000 in
theorem pdq_1 (a : Option Addr) (c : Nat) : Does Try.prog 115 [.slice a 1 c, .int .i64 0, .int .i64 1, .int .i64 1, .func (.func 102) #[] #[]] [] (fun v L => v = .tuple #[] ∧ L = []) := by
  refine Does.enter 148 Try.func115 rfl rfl rfl fun W F => ?_
  show WPc _ _ _ _ _ [(0, .slice a 1 c), (1, .int .i64 0), (2, .int .i64 1), (3, .int .i64 1), (4, .func (.func 102) #[] #[])] (F)
  refine WPc.seq ?_
  refine WPc.region ?_
  refine WP.val rfl rfl rfl (Val.assign rfl rfl) ?_
  refine WP.nil ?_
  refine Out.next ?_
  refine WPc.seq ?_
  refine WPc.region ?_
  refine WP.val rfl rfl rfl (Val.assign rfl rfl) ?_
  refine WP.nil ?_
  refine Out.next ?_
  refine WPc.block ?_
  refine WPc.loop (ι := Unit) (fun _ => True) (fun _ => [(0, .slice a 1 c), (1, .int .i64 0), (2, .int .i64 1), (3, .int .i64 1), (4, .func (.func 102) #[] #[]), (10, .bool true), (11, .bool true)]) (fun _ => F) (fun _ => 0) () trivial ((Sub.cons rfl (Sub.cons rfl (Sub.cons rfl (Sub.cons rfl (Sub.cons rfl (Sub.cons rfl (Sub.cons rfl Sub.nil)))))))) (fun _ h => h) ?_
  rintro _ -
  show WPc _ _ _ _ _ [(0, .slice a 1 c), (1, .int .i64 0), (2, .int .i64 1), (3, .int .i64 1), (4, .func (.func 102) #[] #[]), (10, .bool true), (11, .bool true)] (F)
  refine WPc.block ?_
  refine WPc.seq ?_
  refine WPc.region ?_
  refine WP.val rfl rfl rfl (Val.move rfl rfl) ?_
  refine WP.val rfl rfl rfl (Val.move rfl rfl) ?_
  refine WP.val rfl rfl rfl (Val.sub (z := 1) rfl rfl rfl (by rfl)) ?_
  refine WP.val rfl rfl rfl (Val.assign rfl rfl) ?_
  refine WP.nil ?_
  refine Out.next ?_
  refine WPc.seq ?_
  refine WPc.seq ?_
  refine WPc.region ?_
  refine WP.val rfl rfl rfl (Val.move rfl rfl) ?_
  refine WP.val rfl rfl rfl (Val.leq rfl rfl rfl) ?_
  refine WP.nil ?_
  refine Out.next ?_
  refine WPc.ifP rfl (fun h1 => ?_) (fun h1 => ?_)
  · skip
    have h1 : ((1 : Int) ≤ (12 : Int)) := h1
    refine WPc.seq ?_
    refine WPc.region ?_
    refine WP.val rfl rfl rfl (Val.move rfl rfl) ?_
    refine WP.val rfl rfl rfl (Val.move rfl rfl) ?_
    refine WP.val rfl rfl rfl (Val.move rfl rfl) ?_
    refine WP.val rfl rfl rfl (Val.move rfl rfl) ?_
    refine WP.eff rfl rfl rfl (Eff.call rfl rfl Try.call118 (isort_1 a c)) ?_
    rintro _ F ⟨_, ⟨rfl, rfl⟩, rfl⟩
    show WP _ _ _ _ _ _ _ (F)
    refine WP.nil ?_
    refine Out.next ?_
    refine WPc.ret ?_
    refine Out.then_ret ?_
    refine Out.block_ret ?_
    refine Out.then_ret ?_
    refine Out.block_ret ?_
    exact Out.ret0 (L' := []) Try.results115 ⟨rfl, rfl⟩ (fun _ h => h)
  · skip
    have h1 : ¬ ((1 : Int) ≤ (12 : Int)) := h1
    exfalso; omega
set_option maxRecDepth 100000 in
set_option maxHeartbeats 2000000 in
theorem sort_1 (a : Option Addr) (c : Nat) : Does Try.prog 101 [.slice a 1 c, .func (.func 102) #[] #[]] [] (fun v L => v = .tuple #[] ∧ L = []) := by
  refine Does.enter 14 Try.func101 rfl rfl rfl fun W F => ?_
  show WPc _ _ _ _ _ [(0, .slice a 1 c), (1, .func (.func 102) #[] #[])] (F)
  refine WPc.seq ?_
  refine WPc.region ?_
  refine WP.val rfl rfl rfl (Val.move rfl rfl) ?_
  refine WP.val rfl rfl rfl (Val.len rfl Ty.sl40 rfl) ?_
  refine WP.val rfl rfl rfl (Val.assign rfl rfl) ?_
  refine WP.nil ?_
  refine Out.next ?_
  refine WPc.region ?_
  refine WP.val rfl rfl rfl (Val.move rfl rfl) ?_
  refine WP.val rfl rfl rfl (Val.move rfl rfl) ?_
  refine WP.val rfl rfl rfl (Val.move rfl rfl) ?_
  refine WP.val rfl rfl rfl (Val.conv (z := 1) rfl Ty.ik251 Ty.un3 rfl rfl) ?_
  refine WP.eff rfl rfl rfl (Eff.call rfl rfl Try.call116 (blen_1 0)) ?_
  rintro _ F ⟨_, ⟨rfl, rfl⟩, rfl⟩
  show WP _ _ _ _ _ _ _ (F)
  refine WP.val rfl rfl rfl (Val.move rfl rfl) ?_
  refine WP.eff rfl rfl rfl (Eff.call rfl rfl Try.call115 (pdq_1 a c)) ?_
  rintro _ F ⟨_, ⟨rfl, rfl⟩, rfl⟩
  show WP _ _ _ _ _ _ _ (F)
  refine WP.nil ?_
  exact Out.end0 (L' := []) Try.results101 ⟨rfl, rfl⟩ (fun _ h => h)
set_option maxRecDepth 100000 in
set_option maxHeartbeats 2000000 in
theorem kept_0 (mb : Nat) : Does Try.prog 74 [.map (some mb)] [MO mb none] (fun v L => L = [Own 32 2 v 0 []]) := by
  refine Does.enter 19 Try.func74 rfl rfl rfl fun W F => ?_
  show WPc _ _ _ _ _ [(0, .map (some mb))] (MO mb none :: F)
  refine WPc.seq ?_
  refine WPc.region ?_
  refine WP.val rfl rfl rfl (Val.assign rfl rfl) ?_
  refine WP.nil ?_
  refine Out.next ?_
  refine WPc.seq ?_
  refine WPc.region ?_
  refine WP.val rfl rfl rfl (Val.assign rfl rfl) ?_
  refine WP.nil ?_
  refine Out.next ?_
  refine WPc.seq ?_
  refine WPc.seq ?_
  refine WPc.conv (fun w h => h.ownNil (e := 32) (k := 2)) ?_
  show WPc _ _ _ _ _ _ (Own 32 2 (.slice none 0 0) 0 ([]) :: MO mb none :: F)
  refine WPc.region ?_
  refine WP.val rfl rfl rfl (Val.move rfl rfl) ?_
  refine WP.perm pl1 ?_
  refine WP.eff rfl rfl rfl (Eff.moRange rfl rfl) ?_
  rintro _ _ ⟨it, rfl, rfl⟩
  refine WP.nil ?_
  refine Out.next ?_
  refine WPc.block ?_
  refine WPc.perm pl1 ?_
  refine WPc.perm pl1 ?_
  refine WPc.perm pl2 ?_
  refine WPc.loop (ι := Value) (fun v => True) (fun v => [(3, v), (6, .pointer (some ⟨it, 0, none⟩))]) (fun v => Own 32 2 v 0 ([]) :: Obk it (iobj mb none false) :: MO mb none :: F) (fun v => 0) (.slice none 0 0) trivial ((Sub.cons rfl (Sub.cons rfl Sub.nil))) (fun _ h => h) ?_
  rintro v -
  show WPc _ _ _ _ _ [(3, v), (6, .pointer (some ⟨it, 0, none⟩))] (Own 32 2 v 0 ([]) :: Obk it (iobj mb none false) :: MO mb none :: F)
  refine WPc.seq ?_
  refine WPc.region ?_
  refine WP.perm pl2 ?_
  refine WP.perm pl2 ?_
  refine WP.eff rfl rfl rfl (Eff.moEnd (.inl rfl) rfl rfl) ?_
  rintro _ _ ⟨rfl, rfl⟩
  refine WP.val rfl rfl rfl (Val.extract rfl rfl rfl) ?_
  refine WP.nil ?_
  refine Out.next ?_
  refine WPc.seq ?_
  refine WPc.condF rfl rfl ?_
  refine WPc.exit ?_
  refine Out.then_exit ?_
  refine Out.then_exit ?_
  refine Out.block_exit ?_
  refine Out.next ?_
  refine WPc.seq ?_
  refine WPc.perm pl2 ?_
  refine WPc.fact (fun w h => own_slice h) (fun hsl1 => ?_)
  obtain ⟨a1, k1, rfl⟩ := hsl1
  show WPc _ _ _ _ _ _ (Own 32 2 (.slice a1 0 k1) 0 ([]) :: Obk it (iobj mb none false) :: MO mb none :: F)
  refine WPc.region ?_
  refine WP.val rfl rfl rfl (Val.move rfl rfl) ?_
  refine WP.eff rfl rfl rfl (Eff.call rfl rfl Try.call101 (sort_0 a1 k1)) ?_
  rintro _ _ ⟨_, ⟨rfl, rfl⟩, rfl⟩
  show WP _ _ _ _ _ _ _ (Own 32 2 (.slice a1 0 k1) 0 ([]) :: Obk it (iobj mb none false) :: MO mb none :: F)
  refine WP.nil ?_
  refine Out.next ?_
  refine WPc.seq ?_
  refine WPc.region ?_
  refine WP.val rfl rfl rfl (Val.move rfl rfl) ?_
  refine WP.val rfl rfl rfl (Val.assign rfl rfl) ?_
  refine WP.nil ?_
  refine Out.next ?_
  refine WPc.ret ?_
  refine Out.perm pl1 ?_
  refine Out.drop ?_
  refine Out.perm pl1 ?_
  refine Out.drop ?_
  exact Out.ret1 (L' := _) Try.results74 rfl rfl (fun _ h => h)
set_option maxRecDepth 100000 in
set_option maxHeartbeats 2000000 in
theorem kept_1 (mb : Nat) (r : Rv) : Does Try.prog 74 [.map (some mb)] [MO mb (some r)] (fun v L => L = [Own 32 2 v 1 [.int .i64 r.m, .int .i64 r.s]]) := by
  refine Does.enter 19 Try.func74 rfl rfl rfl fun W F => ?_
  show WPc _ _ _ _ _ [(0, .map (some mb))] (MO mb (some r) :: F)
  refine WPc.seq ?_
  refine WPc.region ?_
  refine WP.val rfl rfl rfl (Val.assign rfl rfl) ?_
  refine WP.nil ?_
  refine Out.next ?_
  refine WPc.seq ?_
  refine WPc.region ?_
  refine WP.val rfl rfl rfl (Val.assign rfl rfl) ?_
  refine WP.nil ?_
  refine Out.next ?_
  refine WPc.seq ?_
  refine WPc.seq ?_
  refine WPc.conv (fun w h => h.ownNil (e := 32) (k := 2)) ?_
  show WPc _ _ _ _ _ _ (Own 32 2 (.slice none 0 0) 0 ([]) :: MO mb (some r) :: F)
  refine WPc.region ?_
  refine WP.val rfl rfl rfl (Val.move rfl rfl) ?_
  refine WP.perm pl1 ?_
  refine WP.eff rfl rfl rfl (Eff.moRange rfl rfl) ?_
  rintro _ _ ⟨it, rfl, rfl⟩
  refine WP.nil ?_
  refine Out.next ?_
  refine WPc.block ?_
  refine WPc.perm pl1 ?_
  refine WPc.perm pl1 ?_
  refine WPc.perm pl2 ?_
  refine WPc.loop (ι := Bool × Value) (fun ⟨sn, v⟩ => True) (fun ⟨sn, v⟩ => [(3, v), (6, .pointer (some ⟨it, 0, none⟩))]) (fun ⟨sn, v⟩ => Own 32 2 v ((bif sn then 1 else 0)) ((bif sn then [.int .i64 r.m, .int .i64 r.s] else [])) :: Obk it (iobj mb (some r) sn) :: MO mb (some r) :: F) (fun ⟨sn, v⟩ => (bif sn then 0 else 1)) (false, .slice none 0 0) trivial ((Sub.cons rfl (Sub.cons rfl Sub.nil))) (fun _ h => h) ?_
  rintro ⟨sn, v⟩ -
  show WPc _ _ _ _ _ [(3, v), (6, .pointer (some ⟨it, 0, none⟩))] (Own 32 2 v ((bif sn then 1 else 0)) ((bif sn then [.int .i64 r.m, .int .i64 r.s] else [])) :: Obk it (iobj mb (some r) sn) :: MO mb (some r) :: F)
  refine WPc.seq ?_
  cases sn
  · skip
    show WPc _ _ _ _ _ _ (Own 32 2 v 0 ([]) :: Obk it (iobj mb (some r) false) :: MO mb (some r) :: F)
    refine WPc.region ?_
    refine WP.perm pl2 ?_
    refine WP.perm pl2 ?_
    refine WP.eff rfl rfl rfl (Eff.moNext rfl rfl) ?_
    rintro _ _ ⟨rfl, rfl⟩
    refine WP.val rfl rfl rfl (Val.extract rfl rfl rfl) ?_
    refine WP.nil ?_
    refine Out.next ?_
    refine WPc.seq ?_
    refine WPc.condT rfl rfl ?_
    refine WPc.skip ?_
    refine Out.next ?_
    refine WPc.block ?_
    refine WPc.seq ?_
    refine WPc.region ?_
    refine WP.val rfl rfl rfl (Val.moEntry rfl rfl (fun w h => h.at 0 rfl) (fun w h => h.at 1 rfl)) ?_
    refine WP.val rfl rfl rfl (Val.extract rfl rfl rfl) ?_
    refine WP.eff rfl rfl rfl (Eff.alloc rfl Ty.z81) ?_
    rintro _ _ ⟨b1, rfl, rfl⟩
    refine WP.eff0 rfl rfl (Eff.storeAgg (cs := [.int .i64 (r.m), .int .i64 (r.s)]) (C' := [.int .i64 (r.m), .int .i64 (r.s)]) rfl Ty.ag81 rfl rfl rfl rfl (by simp) rfl) ?_
    rintro _ _ rfl
    refine WP.nil ?_
    refine Out.next ?_
    refine WPc.region ?_
    refine WP.val rfl rfl rfl (Val.move rfl rfl) ?_
    refine WP.val rfl rfl rfl (Val.loadAgg (cs := [.int .i64 (r.m), .int .i64 (r.s)]) rfl Ty.ag81 rfl rfl (fun w h => h.range 0 rfl rfl)) ?_
    refine WP.eff rfl rfl rfl (Eff.call rfl rfl Try.call71 (revout_spec ⟨r.m, r.s⟩)) ?_
    rintro _ _ ⟨_, ⟨rfl, rfl⟩, rfl⟩
    show WP _ _ _ _ _ _ _ (Blk b1 [.int .i64 (r.m), .int .i64 (r.s)] 81 :: Obk it (iobj mb (some r) true) :: MO mb (some r) :: Own 32 2 v 0 ([]) :: F)
    refine WP.eff rfl rfl rfl (Eff.mkSlice (C := [.int .i64 (r.m), .int .i64 (r.s)]) rfl Ty.sl40 rfl (fun _ => by kernel_rfl)) ?_
    rintro _ _ ⟨b2, rfl, rfl⟩
    refine WP.perm pl4 ?_
    refine WP.eff rfl rfl rfl (Eff.append (m := 1) (n0 := 0) (news := [.int .i64 (r.m), .int .i64 (r.s)]) rfl Ty.sl40 Ty.z32 rfl rfl rfl (.slice Ty.sl40 rfl rfl (fun w h => cells_range (h.range 1 rfl rfl))) (by omega) (by omega)) ?_
    rintro v3 _ ⟨onev3, rfl⟩
    refine WP.val rfl rfl rfl (Val.assign rfl rfl) ?_
    refine WP.nil ?_
    refine Out.block ?_
    refine Out.perm pl1 ?_
    refine Out.drop ?_
    refine Out.perm pl1 ?_
    refine Out.drop ?_
    refine Out.again (true, v3) ?_ ?_ ?_ ?_
    · exact trivial
    · (show 0 < 1; omega)
    · exact (Sub.cons rfl (Sub.cons rfl Sub.nil))
    · exact (fun w h => by simp only [Nat.zero_add, List.nil_append] at h; exact h)
  · skip
    show WPc _ _ _ _ _ _ (Own 32 2 v 1 ([.int .i64 r.m, .int .i64 r.s]) :: Obk it (iobj mb (some r) true) :: MO mb (some r) :: F)
    refine WPc.region ?_
    refine WP.perm pl2 ?_
    refine WP.perm pl2 ?_
    refine WP.eff rfl rfl rfl (Eff.moEnd (.inr rfl) rfl rfl) ?_
    rintro _ _ ⟨rfl, rfl⟩
    refine WP.val rfl rfl rfl (Val.extract rfl rfl rfl) ?_
    refine WP.nil ?_
    refine Out.next ?_
    refine WPc.seq ?_
    refine WPc.condF rfl rfl ?_
    refine WPc.exit ?_
    refine Out.then_exit ?_
    refine Out.then_exit ?_
    refine Out.block_exit ?_
    refine Out.next ?_
    refine WPc.seq ?_
    refine WPc.perm pl2 ?_
    refine WPc.fact (fun w h => own_slice h) (fun hsl4 => ?_)
    obtain ⟨a4, k4, rfl⟩ := hsl4
    show WPc _ _ _ _ _ _ (Own 32 2 (.slice a4 1 k4) 1 ([.int .i64 r.m, .int .i64 r.s]) :: Obk it (iobj mb (some r) true) :: MO mb (some r) :: F)
    refine WPc.region ?_
    refine WP.val rfl rfl rfl (Val.move rfl rfl) ?_
    refine WP.eff rfl rfl rfl (Eff.call rfl rfl Try.call101 (sort_1 a4 k4)) ?_
    rintro _ _ ⟨_, ⟨rfl, rfl⟩, rfl⟩
    show WP _ _ _ _ _ _ _ (Own 32 2 (.slice a4 1 k4) 1 ([.int .i64 r.m, .int .i64 r.s]) :: Obk it (iobj mb (some r) true) :: MO mb (some r) :: F)
    refine WP.nil ?_
    refine Out.next ?_
    refine WPc.seq ?_
    refine WPc.region ?_
    refine WP.val rfl rfl rfl (Val.move rfl rfl) ?_
    refine WP.val rfl rfl rfl (Val.assign rfl rfl) ?_
    refine WP.nil ?_
    refine Out.next ?_
    refine WPc.ret ?_
    refine Out.perm pl1 ?_
    refine Out.drop ?_
    refine Out.perm pl1 ?_
    refine Out.drop ?_
    exact Out.ret1 (L' := _) Try.results74 rfl rfl (fun _ h => h)

theorem kept_spec (mb : Nat) (q : Option Rv) : Does Try.prog 74 [.map (some mb)] [MO mb q] (fun v L => L = [Own 32 2 v q.toList.length (flatOf Rv.cells q.toList)]) := by
  cases q with
  | none => exact kept_0 mb
  | some r => exact kept_1 mb r
set_option maxRecDepth 100000 in
set_option maxHeartbeats 2000000 in
theorem keyed_compact (b : Nat) (ka : Option Addr) (kn kc : Nat) (s : KI) (hsm : Small s.gs) (o : KOp) (hk : o.k = 7) (hemp : emp s.gs = false) (hgpos : 0 < s.gs.length) (hfull : Full s.gs) (hsm2 : Small (kcomp s o.at_).gs) : Does Try.prog 35 [.agg #[.pointer (some ⟨b, 0, none⟩)], .agg #[.int .i64 (o.k), .int .i64 (o.r.m), .int .i64 (o.r.s), .int .i64 (o.c.m), .int .i64 (o.c.s), .int .i64 (o.v), .int .i64 (o.at_)]] [KIs b ka kn kc s] (fun v L => ∃ (vr vg : Value) (g2 : List GV), v = KAns ({ KA0 with revs := (kav s o.at_).toList } : KA) vr (kcomp s o.at_).md vg ∧ g2.map (·.1) = (kcomp s o.at_).gs ∧ L = [Own 32 2 vr ({ KA0 with revs := (kav s o.at_).toList } : KA).revs.length (flatOf Rv.cells ({ KA0 with revs := (kav s o.at_).toList } : KA).revs), Own 53 4 vg g2.length (flatOf GV.cells g2), Kds (GVPe 32) g2, KIs b ka kn kc (kcomp s o.at_)]) := by
  refine Does.enter 104 Try.func35 rfl rfl rfl fun W F => ?_
  show WPc _ _ _ _ _ [(0, .agg #[.pointer (some ⟨b, 0, none⟩)]), (1, .agg #[.int .i64 (o.k), .int .i64 (o.r.m), .int .i64 (o.r.s), .int .i64 (o.c.m), .int .i64 (o.c.s), .int .i64 (o.v), .int .i64 (o.at_)])] (KIs b ka kn kc s :: F)
  refine WPc.seq ?_
  refine WPc.region ?_
  refine WP.eff rfl rfl rfl (Eff.box (C := [.pointer (some ⟨b, 0, none⟩)]) rfl rfl rfl) ?_
  rintro _ _ ⟨b1, rfl, rfl⟩
  refine WP.eff rfl rfl rfl (Eff.box (C := [.int .i64 (o.k), .int .i64 (o.r.m), .int .i64 (o.r.s), .int .i64 (o.c.m), .int .i64 (o.c.s), .int .i64 (o.v), .int .i64 (o.at_)]) rfl rfl rfl) ?_
  rintro _ _ ⟨b2, rfl, rfl⟩
  refine WP.eff rfl rfl rfl (Eff.alloc rfl Ty.z42) ?_
  rintro _ _ ⟨b3, rfl, rfl⟩
  refine WP.nil ?_
  refine Out.next ?_
  refine WPc.seq ?_
  refine WPc.region ?_
  refine WP.val rfl rfl rfl (Val.mk (cs := [.bool false, .int .i64 0, .int .i64 0, .int .i64 0, .int .i64 0, .int .i64 0, .slice none 0 0, .int .i64 0, .int .i64 0, .slice none 0 0]) rfl rfl (fun _ => by kernel_rfl)) ?_
  refine WP.eff rfl rfl rfl (Eff.alloc rfl Ty.z42) ?_
  rintro _ _ ⟨b4, rfl, rfl⟩
  refine WP.eff0 rfl rfl (Eff.storeAgg (cs := [.bool false, .int .i64 0, .int .i64 0, .int .i64 0, .int .i64 0, .int .i64 0, .slice none 0 0, .int .i64 0, .int .i64 0, .slice none 0 0]) (C' := [.bool false, .int .i64 0, .int .i64 0, .int .i64 0, .int .i64 0, .int .i64 0, .slice none 0 0, .int .i64 0, .int .i64 0, .slice none 0 0]) rfl Ty.ag42 rfl rfl rfl rfl (by simp) rfl) ?_
  rintro _ _ rfl
  refine WP.nil ?_
  refine Out.next ?_
  refine WPc.seq ?_
  refine WPc.seq ?_
  refine WPc.region ?_
  refine WP.val rfl rfl rfl (Val.fieldAddr (j := 0) rfl Ty.fo38_0 rfl rfl) ?_
  refine WP.val rfl rfl rfl (Val.load rfl Ty.sc3 rfl (fun w h => h.cell 2 rfl rfl)) ?_
  refine WP.nil ?_
  refine Out.next ?_
  refine WPc.block ?_
  refine WPc.seq ?_
  refine WPc.region ?_
  refine WP.val rfl rfl rfl (Val.eql rfl rfl rfl) ?_
  refine WP.val rfl rfl rfl (Val.assign rfl rfl) ?_
  refine WP.nil ?_
  refine Out.next ?_
  refine WPc.ifP rfl (fun h1 => ?_) (fun h1 => ?_)
  · skip
    have h1 : (o.k = (1 : Int)) := h1
    exfalso; omega
  · skip
    have h1 : ¬ (o.k = (1 : Int)) := h1
    refine WPc.seq ?_
    refine WPc.region ?_
    refine WP.val rfl rfl rfl (Val.eql rfl rfl rfl) ?_
    refine WP.val rfl rfl rfl (Val.assign rfl rfl) ?_
    refine WP.nil ?_
    refine Out.next ?_
    refine WPc.ifP rfl (fun h2 => ?_) (fun h2 => ?_)
    · skip
      have h2 : (o.k = (2 : Int)) := h2
      exfalso; omega
    · skip
      have h2 : ¬ (o.k = (2 : Int)) := h2
      refine WPc.seq ?_
      refine WPc.region ?_
      refine WP.val rfl rfl rfl (Val.eql rfl rfl rfl) ?_
      refine WP.val rfl rfl rfl (Val.assign rfl rfl) ?_
      refine WP.nil ?_
      refine Out.next ?_
      refine WPc.ifP rfl (fun h3 => ?_) (fun h3 => ?_)
      · skip
        have h3 : (o.k = (3 : Int)) := h3
        exfalso; omega
      · skip
        have h3 : ¬ (o.k = (3 : Int)) := h3
        refine WPc.seq ?_
        refine WPc.region ?_
        refine WP.val rfl rfl rfl (Val.eql rfl rfl rfl) ?_
        refine WP.val rfl rfl rfl (Val.assign rfl rfl) ?_
        refine WP.nil ?_
        refine Out.next ?_
        refine WPc.ifP rfl (fun h4 => ?_) (fun h4 => ?_)
        · skip
          have h4 : (o.k = (4 : Int)) := h4
          exfalso; omega
        · skip
          have h4 : ¬ (o.k = (4 : Int)) := h4
          refine WPc.seq ?_
          refine WPc.region ?_
          refine WP.val rfl rfl rfl (Val.eql rfl rfl rfl) ?_
          refine WP.val rfl rfl rfl (Val.assign rfl rfl) ?_
          refine WP.nil ?_
          refine Out.next ?_
          refine WPc.ifP rfl (fun h5 => ?_) (fun h5 => ?_)
          · skip
            have h5 : (o.k = (5 : Int)) := h5
            exfalso; omega
          · skip
            have h5 : ¬ (o.k = (5 : Int)) := h5
            refine WPc.seq ?_
            refine WPc.region ?_
            refine WP.val rfl rfl rfl (Val.eql rfl rfl rfl) ?_
            refine WP.val rfl rfl rfl (Val.assign rfl rfl) ?_
            refine WP.nil ?_
            refine Out.next ?_
            refine WPc.ifP rfl (fun h6 => ?_) (fun h6 => ?_)
            · skip
              have h6 : (o.k = (6 : Int)) := h6
              exfalso; omega
            · skip
              have h6 : ¬ (o.k = (6 : Int)) := h6
              refine WPc.seq ?_
              refine WPc.region ?_
              refine WP.val rfl rfl rfl (Val.eql rfl rfl rfl) ?_
              refine WP.val rfl rfl rfl (Val.assign rfl rfl) ?_
              refine WP.nil ?_
              refine Out.next ?_
              refine WPc.ifP rfl (fun h7 => ?_) (fun h7 => ?_)
              · skip
                have h7 : (o.k = (7 : Int)) := h7
                refine WPc.region ?_
                refine WP.val rfl rfl rfl (Val.loadAgg (cs := [.pointer (some ⟨b, 0, none⟩)]) rfl Ty.ag78 rfl rfl (fun w h => h.range 3 rfl rfl)) ?_
                refine WP.val rfl rfl rfl (Val.fieldAddr (j := 6) rfl Ty.fo38_4 rfl rfl) ?_
                refine WP.val rfl rfl rfl (Val.load rfl Ty.sc2 rfl (fun w h => h.cell 2 rfl rfl)) ?_
                refine WP.perm pl4 ?_
                refine WP.eff rfl rfl rfl (Eff.call rfl rfl Try.call75 (zcompact_spec b ka kn kc s hsm hemp hgpos hfull o.at_)) ?_
                rintro _ _ ⟨_, ⟨mb, rfl, rfl⟩, rfl⟩
                show WP _ _ _ _ _ _ _ (MO mb (kav s o.at_) :: KIs b ka kn kc (kcomp s o.at_) :: Blk b4 [.bool false, .int .i64 0, .int .i64 0, .int .i64 0, .int .i64 0, .int .i64 0, .slice none 0 0, .int .i64 0, .int .i64 0, .slice none 0 0] 42 :: Blk b3 [.bool false, .int .i64 0, .int .i64 0, .int .i64 0, .int .i64 0, .int .i64 0, .slice none 0 0, .int .i64 0, .int .i64 0, .slice none 0 0] 42 :: Blk b2 [.int .i64 (o.k), .int .i64 (o.r.m), .int .i64 (o.r.s), .int .i64 (o.c.m), .int .i64 (o.c.s), .int .i64 (o.v), .int .i64 (o.at_)] 38 :: Blk b1 [.pointer (some ⟨b, 0, none⟩)] 78 :: F)
                refine WP.eff rfl rfl rfl (Eff.call rfl rfl Try.call74 (kept_spec mb (kav s o.at_))) ?_
                rintro vk _ ⟨_, rfl, rfl⟩
                show WP _ _ _ _ _ _ _ (Own 32 2 vk ((kav s o.at_).toList.length) (flatOf Rv.cells (kav s o.at_).toList) :: KIs b ka kn kc (kcomp s o.at_) :: Blk b4 [.bool false, .int .i64 0, .int .i64 0, .int .i64 0, .int .i64 0, .int .i64 0, .slice none 0 0, .int .i64 0, .int .i64 0, .slice none 0 0] 42 :: Blk b3 [.bool false, .int .i64 0, .int .i64 0, .int .i64 0, .int .i64 0, .int .i64 0, .slice none 0 0, .int .i64 0, .int .i64 0, .slice none 0 0] 42 :: Blk b2 [.int .i64 (o.k), .int .i64 (o.r.m), .int .i64 (o.r.s), .int .i64 (o.c.m), .int .i64 (o.c.s), .int .i64 (o.v), .int .i64 (o.at_)] 38 :: Blk b1 [.pointer (some ⟨b, 0, none⟩)] 78 :: F)
                refine WP.fact (fun w h => own_oneCell h) (fun onk => ?_)
                refine WP.val rfl rfl rfl (Val.fieldAddr (j := 6) rfl Ty.fo42_4 rfl rfl) ?_
                refine WP.perm pl2 ?_
                refine WP.eff0 rfl rfl (Eff.store rfl Ty.sc40 rfl rfl onk (by simp) st6) ?_
                rintro _ _ rfl
                refine WP.nil ?_
                refine Out.block ?_
                refine Out.next ?_
                refine WPc.seq ?_
                refine WPc.region ?_
                refine WP.val rfl rfl rfl (Val.loadAgg (cs := [.pointer (some ⟨b, 0, none⟩)]) rfl Ty.ag78 rfl rfl (fun w h => h.range 5 rfl rfl)) ?_
                refine WP.perm pl2 ?_
                refine WP.eff rfl rfl rfl (Eff.call rfl rfl Try.call79 (kidump_spec b ka kn kc (kcomp s o.at_) hsm2)) ?_
                rintro _ _ ⟨_, ⟨v2, g2, rfl, hg2, rfl⟩, rfl⟩
                show WP _ _ _ _ _ _ _ (Own 135 4 v2 g2.length (flatOf GV.cells g2) :: Kds (GVPe 81) g2 :: KIs b ka kn kc (kcomp s o.at_) :: Blk b4 [.bool false, .int .i64 0, .int .i64 0, .int .i64 0, .int .i64 0, .int .i64 0, vk, .int .i64 0, .int .i64 0, .slice none 0 0] 42 :: Own 32 2 vk ((kav s o.at_).toList.length) (flatOf Rv.cells (kav s o.at_).toList) :: Blk b3 [.bool false, .int .i64 0, .int .i64 0, .int .i64 0, .int .i64 0, .int .i64 0, .slice none 0 0, .int .i64 0, .int .i64 0, .slice none 0 0] 42 :: Blk b2 [.int .i64 (o.k), .int .i64 (o.r.m), .int .i64 (o.r.s), .int .i64 (o.c.m), .int .i64 (o.c.s), .int .i64 (o.v), .int .i64 (o.at_)] 38 :: Blk b1 [.pointer (some ⟨b, 0, none⟩)] 78 :: F)
                refine WP.perm pl1 ?_
                refine WP.perm pl1 ?_
                refine WP.open (fun w h => gens_open h) ?_
                rintro E2
                refine WP.pure (fun hE2 => ?_)
                obtain ⟨rE2, backE2⟩ := hE2
                show WP _ _ _ _ _ _ _ (E2 :: KIs b ka kn kc (kcomp s o.at_) :: Blk b4 [.bool false, .int .i64 0, .int .i64 0, .int .i64 0, .int .i64 0, .int .i64 0, vk, .int .i64 0, .int .i64 0, .slice none 0 0] 42 :: Own 32 2 vk ((kav s o.at_).toList.length) (flatOf Rv.cells (kav s o.at_).toList) :: Blk b3 [.bool false, .int .i64 0, .int .i64 0, .int .i64 0, .int .i64 0, .int .i64 0, .slice none 0 0, .int .i64 0, .int .i64 0, .slice none 0 0] 42 :: Blk b2 [.int .i64 (o.k), .int .i64 (o.r.m), .int .i64 (o.r.s), .int .i64 (o.c.m), .int .i64 (o.c.s), .int .i64 (o.v), .int .i64 (o.at_)] 38 :: Blk b1 [.pointer (some ⟨b, 0, none⟩)] 78 :: F)
                have hs2 : Small (g2.map (·.1)) := by rw [hg2]; exact hsm2
                refine WP.eff rfl rfl rfl (Eff.call rfl rfl Try.call78 (dumpout_spec E2 (kcomp s o.at_).md g2 hs2 rE2.inn v2 rE2.rd)) ?_
                rintro _ _ ⟨_, ⟨v3, g3, rfl, hg3, rfl⟩, rfl⟩
                show WP _ _ _ _ _ _ _ (Own 53 4 v3 g3.length (flatOf GV.cells g3) :: Kds (GVPe 32) g3 :: E2 :: KIs b ka kn kc (kcomp s o.at_) :: Blk b4 [.bool false, .int .i64 0, .int .i64 0, .int .i64 0, .int .i64 0, .int .i64 0, vk, .int .i64 0, .int .i64 0, .slice none 0 0] 42 :: Own 32 2 vk ((kav s o.at_).toList.length) (flatOf Rv.cells (kav s o.at_).toList) :: Blk b3 [.bool false, .int .i64 0, .int .i64 0, .int .i64 0, .int .i64 0, .int .i64 0, .slice none 0 0, .int .i64 0, .int .i64 0, .slice none 0 0] 42 :: Blk b2 [.int .i64 (o.k), .int .i64 (o.r.m), .int .i64 (o.r.s), .int .i64 (o.c.m), .int .i64 (o.c.s), .int .i64 (o.v), .int .i64 (o.at_)] 38 :: Blk b1 [.pointer (some ⟨b, 0, none⟩)] 78 :: F)
                refine WP.fact (fun w h => own_oneCell h) (fun on3 => ?_)
                refine WP.val rfl rfl rfl (Val.fieldAddr (j := 7) rfl Ty.fo42_5 rfl rfl) ?_
                refine WP.perm pl4 ?_
                refine WP.eff0 rfl rfl (Eff.storeAgg (cs := [.int .i64 ((kcomp s o.at_).md.m), .int .i64 ((kcomp s o.at_).md.s), v3]) (C' := [.bool false, .int .i64 0, .int .i64 0, .int .i64 0, .int .i64 0, .int .i64 0, vk, .int .i64 ((kcomp s o.at_).md.m), .int .i64 ((kcomp s o.at_).md.s), v3]) rfl Ty.ag35 rfl rfl rfl (by simp only [List.all_cons, List.all_nil, Bool.and_true, oc_int, oc_str, oc_bool, oc_ptr, oc_slice, oc_iface, oc_map, on3]) (by simp) rfl) ?_
                rintro _ _ rfl
                refine WP.nil ?_
                refine Out.next ?_
                refine WPc.seq ?_
                refine WPc.region ?_
                refine WP.val rfl rfl rfl (Val.loadAgg (cs := [.bool false, .int .i64 0, .int .i64 0, .int .i64 0, .int .i64 0, .int .i64 0, vk, .int .i64 ((kcomp s o.at_).md.m), .int .i64 ((kcomp s o.at_).md.s), v3]) rfl Ty.ag42 rfl rfl (fun w h => h.range 0 rfl rfl)) ?_
                refine WP.perm pl6 ?_
                refine WP.eff0 rfl rfl (Eff.storeAgg (cs := [.bool false, .int .i64 0, .int .i64 0, .int .i64 0, .int .i64 0, .int .i64 0, vk, .int .i64 ((kcomp s o.at_).md.m), .int .i64 ((kcomp s o.at_).md.s), v3]) (C' := [.bool false, .int .i64 0, .int .i64 0, .int .i64 0, .int .i64 0, .int .i64 0, vk, .int .i64 ((kcomp s o.at_).md.m), .int .i64 ((kcomp s o.at_).md.s), v3]) rfl Ty.ag42 rfl rfl rfl (by simp only [List.all_cons, List.all_nil, Bool.and_true, oc_int, oc_str, oc_bool, oc_ptr, oc_slice, oc_iface, oc_map, onk, on3]) (by simp) rfl) ?_
                rintro _ _ rfl
                refine WP.nil ?_
                refine Out.next ?_
                refine WPc.ret ?_
                refine Out.perm pl1 ?_
                refine Out.drop ?_
                refine Out.perm pl3 ?_
                refine Out.drop ?_
                refine Out.perm pl5 ?_
                refine Out.drop ?_
                refine Out.perm pl5 ?_
                refine Out.drop ?_
                refine Out.perm pl3 ?_
                refine Out.perm pl3 ?_
                refine Out.perm pl3 ?_
                refine Out.perm pl4 ?_
                refine Out.perm pl4 ?_
                exact Out.retRun (L' := _) (results_cell (cs := _) Try.results35 Ty.ag42 rfl rfl (fun w h => h.range 0 rfl rfl)) ⟨vk, v3, g3, by rfl, hg3.trans hg2, by rfl⟩ (fun w h => h.drop)
              · skip
                have h7 : ¬ (o.k = (7 : Int)) := h7
                exfalso; omega

end Go.Proofs.Ythicijpjpijdjaa.Lg

namespace Go.Proofs.Ythicijpjpijdjaa.Lh
open Go.RowKit Go.Proofs.Ythicijpjpijdjaa Go.Proofs.Ythicijpjpijdjaa.Sl Go.Proofs.Ythicijpjpijdjaa.KyP Go.Proofs.Ythicijpjpijdjaa.Ka Go.Proofs.Ythicijpjpijdjaa.Kb Go.Proofs.Ythicijpjpijdjaa.Kc Go.Proofs.Ythicijpjpijdjaa.Kd Go.Proofs.Ythicijpjpijdjaa.Ke Go.Proofs.Ythicijpjpijdjaa.Kf Go.Proofs.Ythicijpjpijdjaa.Kg Go.Proofs.Ythicijpjpijdjaa.Kh Go.Proofs.Ythicijpjpijdjaa.Ki Go.Proofs.Ythicijpjpijdjaa.Kj Go.Proofs.Ythicijpjpijdjaa.Kk Go.Proofs.Ythicijpjpijdjaa.Kl Go.Proofs.Ythicijpjpijdjaa.Km Go.Proofs.Ythicijpjpijdjaa.Kn Go.Proofs.Ythicijpjpijdjaa.Ko Go.Proofs.Ythicijpjpijdjaa.Kp Go.Proofs.Ythicijpjpijdjaa.Kq Go.Proofs.Ythicijpjpijdjaa.Kr Go.Proofs.Ythicijpjpijdjaa.Ks Go.Proofs.Ythicijpjpijdjaa.Kt Go.Proofs.Ythicijpjpijdjaa.Ku Go.Proofs.Ythicijpjpijdjaa.Kv Go.Proofs.Ythicijpjpijdjaa.Kw Go.Proofs.Ythicijpjpijdjaa.Kx Go.Proofs.Ythicijpjpijdjaa.Ky Go.Proofs.Ythicijpjpijdjaa.Kz Go.Proofs.Ythicijpjpijdjaa.La Go.Proofs.Ythicijpjpijdjaa.Lb Go.Proofs.Ythicijpjpijdjaa.Lc Go.Proofs.Ythicijpjpijdjaa.Ld Go.Proofs.Ythicijpjpijdjaa.Le Go.Proofs.Ythicijpjpijdjaa.Lf Go.Proofs.Ythicijpjpijdjaa.Lg
set_option linter.unusedVariables false
set_option linter.unusedSimpArgs false
set_option linter.unusedSectionVars false


theorem Val.neqRvS {n : Nat} {l : List (Nat × Value)} {G : World → Prop} {o : Oper} {u : TypeId} {x y : Operand} (a : Rv) (ho : o.op = .binOp .neq 32 x y u) (hx : ev l x = some (.agg #[.int .i64 a.m, .int .i64 a.s])) (hy : ev l y = some (.agg #[.int .i64 a.m, .int .i64 a.s])) : Val Try.prog n l G o (.bool false) := by
  have h := Val.neqRv (n := n) (G := G) a a ho hx hy
  rwa [rveq_self] at h
theorem Rd.rowS {α : Type} {A : HProp} {k : Nat} {cf : α → List Value} {l : List α} {sa : Option Addr} {n sc : Nat} (h : Rd A k cf (.slice sa n sc) l) (hl : 0 < l.length) : ∃ b o, sa = some ⟨b, o, none⟩ ∧ ∀ w, Holds A w → ∀ i x, l[i]? = some x → w.rangeAt b (o + i * k) (cf x) := by
  obtain ⟨b, o, c, he, hr⟩ := Rd.row h hl
  simp only [Value.slice.injEq] at he
  exact ⟨b, o, he.1, hr⟩
set_option maxRecDepth 100000 in
set_option maxHeartbeats 2000000 in
theorem sameRevs_spec (A : HProp) (l : List Rv) (hl : l.length ≤ 200000) (va vb : Value) (hva : Rd A 2 Rv.cells va l) (hvb : Rd A 2 Rv.cells vb l) : Does Try.prog 13 [va, vb] [A] (fun v L => v = .bool true ∧ L = [A]) := by
  refine Does.enter 26 Try.func13 rfl rfl rfl fun W F => ?_
  show WPc _ _ _ _ _ [(0, va), (1, vb)] (A :: F)
  refine WPc.seq ?_
  refine WPc.region ?_
  refine WP.val rfl rfl rfl (Val.assign rfl rfl) ?_
  refine WP.nil ?_
  refine Out.next ?_
  refine WPc.seq ?_
  refine WPc.seq ?_
  refine WPc.region ?_
  refine WP.val rfl rfl rfl (Val.move rfl rfl) ?_
  refine WP.val rfl rfl rfl (Rd.len hva rfl Ty.sl40 rfl) ?_
  refine WP.val rfl rfl rfl (Val.move rfl rfl) ?_
  refine WP.val rfl rfl rfl (Rd.len hvb rfl Ty.sl40 rfl) ?_
  refine WP.val rfl rfl rfl (Val.neq rfl rfl rfl) ?_
  refine WP.nil ?_
  refine Out.next ?_
  refine WPc.ifP rfl (fun h1 => ?_) (fun h1 => ?_)
  · skip
    have h1 : (((l.length : Nat) : Int) ≠ ((l.length : Nat) : Int)) := h1
    exfalso; omega
  · skip
    have h1 : ¬ (((l.length : Nat) : Int) ≠ ((l.length : Nat) : Int)) := h1
    refine WPc.skip ?_
    refine Out.next ?_
    refine WPc.seq ?_
    refine WPc.seq ?_
    refine WPc.region ?_
    refine WP.val rfl rfl rfl (Val.move rfl rfl) ?_
    refine WP.val rfl rfl rfl (Rd.len hva rfl Ty.sl40 rfl) ?_
    refine WP.val rfl rfl rfl (Val.move rfl rfl) ?_
    refine WP.nil ?_
    refine Out.next ?_
    refine WPc.block ?_
    refine WPc.loop (ι := Nat) (fun i => i ≤ l.length) (fun i => [(0, va), (1, vb), (12, .int .i64 (((l.length : Nat) : Int))), (13, .int .i64 (((i : Nat) : Int)))]) (fun i => A :: F) (fun i => l.length - i) 0 (Nat.zero_le _) ((Sub.cons rfl (Sub.cons rfl (Sub.cons rfl (Sub.cons rfl Sub.nil))))) (fun _ h => h) ?_
    rintro i hi
    show WPc _ _ _ _ _ [(0, va), (1, vb), (12, .int .i64 (((l.length : Nat) : Int))), (13, .int .i64 (((i : Nat) : Int)))] (A :: F)
    replace hi : i ≤ l.length := hi
    refine WPc.seq ?_
    refine WPc.region ?_
    refine WP.val rfl rfl rfl (Val.lss rfl rfl rfl) ?_
    refine WP.nil ?_
    refine Out.next ?_
    refine WPc.seq ?_
    refine WPc.ifP rfl (fun h2 => ?_) (fun h2 => ?_)
    · skip
      have h2 : (((i : Nat) : Int) < ((l.length : Nat) : Int)) := h2
      refine WPc.skip ?_
      refine Out.next ?_
      refine WPc.seq ?_
      refine WPc.block ?_
      refine WPc.seq ?_
      refine WPc.region ?_
      refine WP.val rfl rfl rfl (Val.move rfl rfl) ?_
      refine WP.val rfl rfl rfl (Val.assign rfl rfl) ?_
      refine WP.nil ?_
      refine Out.next ?_
      refine WPc.seq ?_
      obtain ⟨x, hx⟩ : ∃ x, l[i]? = some x := ⟨_, List.getElem?_eq_getElem (by omega)⟩
      obtain ⟨b0, o0, c0, rfl, hr⟩ := Rd.row hva (by omega)
      obtain ⟨b1, o1, c1, rfl, hr1⟩ := Rd.row hvb (by omega)
      refine WPD.start (Sat W (A :: F)) Ty.mixed ?_
      refine WPD.takeM 0 rfl rfl rfl rfl (by kernel_rfl) (by kernel_rfl) (by kernel_rfl) (by kernel_rfl) (fun _ _ _ h => h) (fun _ h => h) (Val.move rfl rfl) ?_
      refine WPD.takeM 1 rfl rfl rfl rfl (by kernel_rfl) (by kernel_rfl) (by kernel_rfl) (by kernel_rfl) (fun _ _ _ h => h) (fun _ h => h) (Val.move rfl rfl) ?_
      refine WPD.takeM 2 rfl rfl rfl rfl (by kernel_rfl) (by kernel_rfl) (by kernel_rfl) (by kernel_rfl) (fun _ _ _ h => h) (fun _ h => h) (Val.indexAddr (j := i) (q := o0 + i * 2) rfl Ty.sl40 rfl rfl (by omega) (by omega) (by omega)) ?_
      refine WPD.take 3 rfl rfl rfl rfl (by kernel_rfl) (by kernel_rfl) (by kernel_rfl) (by kernel_rfl) (fun _ _ _ h => h) (by kernel_rfl) (fun _ h => h) (Val.loadAgg (cs := (Rv.cells x)) rfl Ty.ag32 rfl (by rfl) (fun w h => hr w (h.at 0 rfl) i x hx)) ?_
      refine WPD.takeM 4 rfl rfl rfl rfl (by kernel_rfl) (by kernel_rfl) (by kernel_rfl) (by kernel_rfl) (fun _ _ _ h => h) (fun _ h => h) (Val.move rfl rfl) ?_
      refine WPD.takeM 5 rfl rfl rfl rfl (by kernel_rfl) (by kernel_rfl) (by kernel_rfl) (by kernel_rfl) (fun _ _ _ h => h) (fun _ h => h) (Val.move rfl rfl) ?_
      refine WPD.takeM 6 rfl rfl rfl rfl (by kernel_rfl) (by kernel_rfl) (by kernel_rfl) (by kernel_rfl) (fun _ _ _ h => h) (fun _ h => h) (Val.indexAddr (j := i) (q := o1 + i * 2) rfl Ty.sl40 rfl rfl (by omega) (by omega) (by omega)) ?_
      refine WPD.take 7 rfl rfl rfl rfl (by kernel_rfl) (by kernel_rfl) (by kernel_rfl) (by kernel_rfl) (fun _ _ _ h => h) (by kernel_rfl) (fun _ h => h) (Val.loadAgg (cs := (Rv.cells x)) rfl Ty.ag32 rfl (by rfl) (fun w h => hr1 w (h.at 0 rfl) i x hx)) ?_
      refine WPD.takeM 8 rfl rfl rfl rfl (by kernel_rfl) (by kernel_rfl) (by kernel_rfl) (by kernel_rfl) (fun _ _ _ h => h) (fun _ h => h) (Val.neqRvS x rfl rfl rfl) ?_
      refine WPD.done (by kernel_rfl) ?_
      refine Out.next ?_
      refine WPc.condF rfl rfl ?_
      refine WPc.skip ?_
      refine Out.block ?_
      refine Out.next ?_
      refine WPc.region ?_
      refine WP.val rfl rfl rfl (Val.add (z := ((i + 1 : Nat) : Int)) rfl rfl rfl ((w64 (by omega) (by omega)).trans (by omega))) ?_
      refine WP.val rfl rfl rfl (Val.move rfl rfl) ?_
      refine WP.nil ?_
      refine Out.again (i + 1) ?_ ?_ ?_ ?_
      · exact (by first | omega | (dsimp only; omega))
      · first | omega | (dsimp only; omega)
      · exact (Sub.cons rfl (Sub.cons rfl (Sub.cons rfl (Sub.cons rfl Sub.nil))))
      · exact (fun _ h => h)
    · skip
      have h2 : ¬ (((i : Nat) : Int) < ((l.length : Nat) : Int)) := h2
      refine WPc.exit ?_
      refine Out.then_exit ?_
      refine Out.then_exit ?_
      refine Out.block_exit ?_
      refine Out.next ?_
      refine WPc.seq ?_
      refine WPc.region ?_
      refine WP.val rfl rfl rfl (Val.assign rfl rfl) ?_
      refine WP.nil ?_
      refine Out.next ?_
      refine WPc.ret ?_
      exact Out.ret1 (L' := _) Try.results13 rfl ⟨rfl, rfl⟩ (fun _ h => h)
set_option maxRecDepth 100000 in
set_option maxHeartbeats 2000000 in
theorem sameDump_slice (A : HProp) (md : Rv) (gl hl : List GV) (heq : gl.map (·.1) = hl.map (·.1)) (hsm : Small (gl.map (·.1))) (sa ta : Option Addr) (sc tc : Nat) (hG : RdG A (.slice sa gl.length sc) gl) (hH : RdG A (.slice ta gl.length tc) hl) : Does Try.prog 12 [.agg #[.int .i64 (md.m), .int .i64 (md.s), .slice sa gl.length sc], .agg #[.int .i64 (md.m), .int .i64 (md.s), .slice ta gl.length tc]] [A] (fun v L => v = .bool true ∧ L = [A]) := by
  refine Does.enter 56 Try.func12 rfl rfl rfl fun W F => ?_
  show WPc _ _ _ _ _ [(0, .agg #[.int .i64 (md.m), .int .i64 (md.s), .slice sa gl.length sc]), (1, .agg #[.int .i64 (md.m), .int .i64 (md.s), .slice ta gl.length tc])] (A :: F)
  refine WPc.seq ?_
  refine WPc.region ?_
  refine WP.eff rfl rfl rfl (Eff.box (C := [.int .i64 (md.m), .int .i64 (md.s), .slice sa gl.length sc]) rfl rfl rfl) ?_
  rintro _ _ ⟨b1, rfl, rfl⟩
  refine WP.eff rfl rfl rfl (Eff.box (C := [.int .i64 (md.m), .int .i64 (md.s), .slice ta gl.length tc]) rfl rfl rfl) ?_
  rintro _ _ ⟨b2, rfl, rfl⟩
  refine WP.val rfl rfl rfl (Val.assign rfl rfl) ?_
  refine WP.nil ?_
  refine Out.next ?_
  refine WPc.seq ?_
  refine WPc.seq ?_
  have hlen := hsm.len
  refine WPc.region ?_
  refine WP.val rfl rfl rfl (Val.fieldAddr (j := 0) rfl Ty.fo35_0 rfl rfl) ?_
  refine WP.val rfl rfl rfl (Val.loadAgg (cs := [.int .i64 (md.m), .int .i64 (md.s)]) rfl Ty.ag32 rfl rfl (fun w h => h.range 1 rfl rfl)) ?_
  refine WP.val rfl rfl rfl (Val.fieldAddr (j := 0) rfl Ty.fo35_0 rfl rfl) ?_
  refine WP.val rfl rfl rfl (Val.loadAgg (cs := [.int .i64 (md.m), .int .i64 (md.s)]) rfl Ty.ag32 rfl rfl (fun w h => h.range 0 rfl rfl)) ?_
  refine WP.val rfl rfl rfl (Val.neqRvS md rfl rfl rfl) ?_
  refine WP.val rfl rfl rfl (Val.move rfl rfl) ?_
  refine WP.valG rfl rfl rfl rfl rfl rfl rfl (Val.fieldAddr (j := 2) rfl Ty.fo35_1 rfl rfl) ?_
  refine WP.valG rfl rfl rfl rfl rfl rfl rfl (Val.load rfl Ty.sc33 rfl (fun w h => h.cell 1 rfl rfl)) ?_
  refine WP.valG rfl rfl rfl rfl rfl rfl rfl (Val.len rfl Ty.sl33 rfl) ?_
  refine WP.valG rfl rfl rfl rfl rfl rfl rfl (Val.fieldAddr (j := 2) rfl Ty.fo35_1 rfl rfl) ?_
  refine WP.valG rfl rfl rfl rfl rfl rfl rfl (Val.load rfl Ty.sc33 rfl (fun w h => h.cell 0 rfl rfl)) ?_
  refine WP.valG rfl rfl rfl rfl rfl rfl rfl (Val.len rfl Ty.sl33 rfl) ?_
  refine WP.valG rfl rfl rfl rfl rfl rfl rfl (Val.neq rfl rfl rfl) ?_
  refine WP.val rfl rfl rfl (Val.pickF rfl rfl rfl) ?_
  refine WP.nil ?_
  refine Out.next ?_
  refine WPc.ifP rfl (fun h1 => ?_) (fun h1 => ?_)
  · skip
    have h1 : (((gl.length : Nat) : Int) ≠ ((gl.length : Nat) : Int)) := h1
    exfalso; omega
  · skip
    have h1 : ¬ (((gl.length : Nat) : Int) ≠ ((gl.length : Nat) : Int)) := h1
    refine WPc.skip ?_
    refine Out.next ?_
    refine WPc.seq ?_
    refine WPc.seq ?_
    refine WPc.region ?_
    refine WP.val rfl rfl rfl (Val.fieldAddr (j := 2) rfl Ty.fo35_1 rfl rfl) ?_
    refine WP.val rfl rfl rfl (Val.load rfl Ty.sc33 rfl (fun w h => h.cell 1 rfl rfl)) ?_
    refine WP.val rfl rfl rfl (Val.len rfl Ty.sl33 rfl) ?_
    refine WP.val rfl rfl rfl (Val.move rfl rfl) ?_
    refine WP.nil ?_
    refine Out.next ?_
    refine WPc.block ?_
    refine WPc.perm pl2 ?_
    refine WPc.perm pl1 ?_
    refine WPc.perm pl2 ?_
    refine WPc.loop (ι := Nat) (fun i => i ≤ gl.length) (fun i => [(2, .pointer (some ⟨b1, 0, none⟩)), (3, .pointer (some ⟨b2, 0, none⟩)), (23, .slice sa gl.length sc), (24, .int .i64 (((gl.length : Nat) : Int))), (25, .int .i64 (((i : Nat) : Int)))]) (fun i => Blk b1 [.int .i64 (md.m), .int .i64 (md.s), .slice sa gl.length sc] 35 :: Blk b2 [.int .i64 (md.m), .int .i64 (md.s), .slice ta gl.length tc] 35 :: A :: F) (fun i => gl.length - i) 0 (Nat.zero_le _) ((Sub.cons rfl (Sub.cons rfl (Sub.cons rfl (Sub.cons rfl (Sub.cons rfl Sub.nil)))))) (fun _ h => h) ?_
    rintro i hi
    show WPc _ _ _ _ _ [(2, .pointer (some ⟨b1, 0, none⟩)), (3, .pointer (some ⟨b2, 0, none⟩)), (23, .slice sa gl.length sc), (24, .int .i64 (((gl.length : Nat) : Int))), (25, .int .i64 (((i : Nat) : Int)))] (Blk b1 [.int .i64 (md.m), .int .i64 (md.s), .slice sa gl.length sc] 35 :: Blk b2 [.int .i64 (md.m), .int .i64 (md.s), .slice ta gl.length tc] 35 :: A :: F)
    replace hi : i ≤ gl.length := hi
    refine WPc.seq ?_
    refine WPc.region ?_
    refine WP.val rfl rfl rfl (Val.lss rfl rfl rfl) ?_
    refine WP.nil ?_
    refine Out.next ?_
    refine WPc.seq ?_
    refine WPc.ifP rfl (fun h2 => ?_) (fun h2 => ?_)
    · skip
      have h2 : (((i : Nat) : Int) < ((gl.length : Nat) : Int)) := h2
      refine WPc.skip ?_
      refine Out.next ?_
      refine WPc.seq ?_
      refine WPc.block ?_
      refine WPc.seq ?_
      obtain ⟨⟨g, u⟩, hx⟩ : ∃ x, gl[i]? = some x := ⟨_, List.getElem?_eq_getElem (by omega)⟩
      have hlh : hl.length = gl.length := by have h9 := congrArg List.length heq; simpa using h9.symm
      obtain ⟨⟨g2, u2⟩, hx2⟩ : ∃ x, hl[i]? = some x := ⟨_, List.getElem?_eq_getElem (by omega)⟩
      obtain rfl : g = g2 := by have h9 := congrArg (fun q => q[i]?) heq; simp only [List.getElem?_map, hx, hx2, Option.map_some] at h9; exact Option.some.inj h9
      obtain ⟨q0, o0, rfl, hr⟩ := Rd.rowS hG.rd (by omega)
      obtain ⟨q1, o1, rfl, hr1⟩ := Rd.rowS hH.rd (by omega)
      have hi1 := hG.inn _ (List.mem_iff_getElem?.2 ⟨_, hx⟩)
      have hi2 := hH.inn _ (List.mem_iff_getElem?.2 ⟨_, hx2⟩)
      have onu := Rd.one hi1
      have onu2 := Rd.one hi2
      have hsx : g.revs.length ≤ 200000 := hsm.inn (List.mem_iff_getElem?.2 ⟨_, hx⟩)
      show WPc _ _ _ _ _ _ (Blk b1 [.int .i64 (md.m), .int .i64 (md.s), .slice (some ⟨q0, o0, none⟩) gl.length sc] 35 :: Blk b2 [.int .i64 (md.m), .int .i64 (md.s), .slice (some ⟨q1, o1, none⟩) gl.length tc] 35 :: A :: F)
      refine WPc.region ?_
      refine WP.val rfl rfl rfl (Val.move rfl rfl) ?_
      refine WP.val rfl rfl rfl (Val.indexAddr (j := i) (q := o0 + i * 4) rfl Ty.sl33 rfl rfl (by omega) (by omega) (by omega)) ?_
      refine WP.val rfl rfl rfl (Val.loadAgg (cs := (GV.cells (g, u))) rfl Ty.ag53 rfl (by rfl) (fun w h => hr w (h.at 2 rfl) i (g, u) hx)) ?_
      refine WP.eff rfl rfl rfl (Eff.alloc rfl Ty.z53) ?_
      rintro _ _ ⟨b3, rfl, rfl⟩
      refine WP.val rfl rfl rfl (Val.assign rfl rfl) ?_
      refine WP.eff0 rfl rfl (Eff.storeAgg (cs := [.int .i64 (g.v), .int .i64 (g.c.m), .int .i64 (g.c.s), u]) (C' := [.int .i64 (g.v), .int .i64 (g.c.m), .int .i64 (g.c.s), u]) rfl Ty.ag53 rfl rfl rfl (by simp only [List.all_cons, List.all_nil, Bool.and_true, oc_int, oc_str, oc_bool, oc_ptr, oc_slice, oc_iface, oc_map, onu]) (by simp) rfl) ?_
      rintro _ _ rfl
      refine WP.nil ?_
      refine Out.next ?_
      refine WPc.seq ?_
      refine WPc.region ?_
      refine WP.val rfl rfl rfl (Val.fieldAddr (j := 2) rfl Ty.fo35_1 rfl rfl) ?_
      refine WP.val rfl rfl rfl (Val.load rfl Ty.sc33 rfl (fun w h => h.cell 2 rfl rfl)) ?_
      refine WP.val rfl rfl rfl (Val.move rfl rfl) ?_
      refine WP.val rfl rfl rfl (Val.indexAddr (j := i) (q := o1 + i * 4) rfl Ty.sl33 rfl rfl (by omega) (by omega) (by omega)) ?_
      refine WP.val rfl rfl rfl (Val.loadAgg (cs := (GV.cells (g, u2))) rfl Ty.ag53 rfl (by rfl) (fun w h => hr1 w (h.at 3 rfl) i (g, u2) hx2)) ?_
      refine WP.eff rfl rfl rfl (Eff.alloc rfl Ty.z53) ?_
      rintro _ _ ⟨b4, rfl, rfl⟩
      refine WP.eff0 rfl rfl (Eff.storeAgg (cs := [.int .i64 (g.v), .int .i64 (g.c.m), .int .i64 (g.c.s), u2]) (C' := [.int .i64 (g.v), .int .i64 (g.c.m), .int .i64 (g.c.s), u2]) rfl Ty.ag53 rfl rfl rfl (by simp only [List.all_cons, List.all_nil, Bool.and_true, oc_int, oc_str, oc_bool, oc_ptr, oc_slice, oc_iface, oc_map, onu2]) (by simp) rfl) ?_
      rintro _ _ rfl
      refine WP.nil ?_
      refine Out.next ?_
      refine WPc.seq ?_
      refine WPc.region ?_
      refine WP.val rfl rfl rfl (Val.fieldAddr (j := 0) rfl Ty.fo53_0 rfl rfl) ?_
      refine WP.val rfl rfl rfl (Val.load rfl Ty.sc2 rfl (fun w h => h.cell 1 rfl rfl)) ?_
      refine WP.val rfl rfl rfl (Val.fieldAddr (j := 0) rfl Ty.fo53_0 rfl rfl) ?_
      refine WP.val rfl rfl rfl (Val.load rfl Ty.sc2 rfl (fun w h => h.cell 0 rfl rfl)) ?_
      refine WP.val rfl rfl rfl (Val.neq rfl rfl rfl) ?_
      refine WP.val rfl rfl rfl (Val.move rfl rfl) ?_
      refine WP.split 40 rfl (fun h3 => ?_) (fun h3 => ?_)
      · skip
        have h3 : (g.v ≠ g.v) := h3
        exfalso; omega
      · skip
        have h3 : ¬ (g.v ≠ g.v) := h3
        refine WP.valG rfl rfl rfl rfl rfl rfl rfl (Val.fieldAddr (j := 1) rfl Ty.fo53_1 rfl rfl) ?_
        refine WP.valG rfl rfl rfl rfl rfl rfl rfl (Val.loadAgg (cs := [.int .i64 (g.c.m), .int .i64 (g.c.s)]) rfl Ty.ag32 rfl rfl (fun w h => h.range 1 rfl rfl)) ?_
        refine WP.valG rfl rfl rfl rfl rfl rfl rfl (Val.fieldAddr (j := 1) rfl Ty.fo53_1 rfl rfl) ?_
        refine WP.valG rfl rfl rfl rfl rfl rfl rfl (Val.loadAgg (cs := [.int .i64 (g.c.m), .int .i64 (g.c.s)]) rfl Ty.ag32 rfl rfl (fun w h => h.range 0 rfl rfl)) ?_
        refine WP.valG rfl rfl rfl rfl rfl rfl rfl (Val.neqRvS g.c rfl rfl rfl) ?_
        refine WP.val rfl rfl rfl (Val.pickF rfl rfl rfl) ?_
        refine WP.val rfl rfl rfl (Val.move rfl rfl) ?_
        refine WP.valG rfl rfl rfl rfl rfl rfl rfl (Val.fieldAddr (j := 3) rfl Ty.fo53_2 rfl rfl) ?_
        refine WP.valG rfl rfl rfl rfl rfl rfl rfl (Val.load rfl Ty.sc40 rfl (fun w h => h.cell 1 rfl rfl)) ?_
        refine WP.valG rfl rfl rfl rfl rfl rfl rfl (Val.fieldAddr (j := 3) rfl Ty.fo53_2 rfl rfl) ?_
        refine WP.valG rfl rfl rfl rfl rfl rfl rfl (Val.load rfl Ty.sc40 rfl (fun w h => h.cell 0 rfl rfl)) ?_
        refine WP.perm pl4 ?_
        refine WP.effG rfl rfl rfl rfl rfl rfl rfl (Eff.call rfl rfl Try.call13 (sameRevs_spec A g.revs hsx u u2 hi1 hi2)) ?_
        rintro _ _ ⟨_, ⟨rfl, rfl⟩, rfl⟩
        show WP _ _ _ _ _ _ _ (A :: Blk b4 [.int .i64 (g.v), .int .i64 (g.c.m), .int .i64 (g.c.s), u2] 53 :: Blk b3 [.int .i64 (g.v), .int .i64 (g.c.m), .int .i64 (g.c.s), u] 53 :: Blk b1 [.int .i64 (md.m), .int .i64 (md.s), .slice (some ⟨q0, o0, none⟩) gl.length sc] 35 :: Blk b2 [.int .i64 (md.m), .int .i64 (md.s), .slice (some ⟨q1, o1, none⟩) gl.length tc] 35 :: F)
        refine WP.valG rfl rfl rfl rfl rfl rfl rfl (Val.not rfl rfl) ?_
        refine WP.val rfl rfl rfl (Val.pickF rfl rfl rfl) ?_
        refine WP.nil ?_
        refine Out.next ?_
        refine WPc.condF rfl rfl ?_
        refine WPc.skip ?_
        refine Out.block ?_
        refine Out.next ?_
        refine WPc.region ?_
        refine WP.val rfl rfl rfl (Val.add (z := ((i + 1 : Nat) : Int)) rfl rfl rfl ((w64 (by omega) (by omega)).trans (by omega))) ?_
        refine WP.val rfl rfl rfl (Val.move rfl rfl) ?_
        refine WP.nil ?_
        refine Out.perm pl1 ?_
        refine Out.drop ?_
        refine Out.perm pl1 ?_
        refine Out.drop ?_
        refine Out.perm pl2 ?_
        refine Out.perm pl2 ?_
        refine Out.again (i + 1) ?_ ?_ ?_ ?_
        · exact (by first | omega | (dsimp only; omega))
        · first | omega | (dsimp only; omega)
        · exact (Sub.cons rfl (Sub.cons rfl (Sub.cons rfl (Sub.cons rfl (Sub.cons rfl Sub.nil)))))
        · exact (fun _ h => h)
    · skip
      have h2 : ¬ (((i : Nat) : Int) < ((gl.length : Nat) : Int)) := h2
      refine WPc.exit ?_
      refine Out.then_exit ?_
      refine Out.then_exit ?_
      refine Out.block_exit ?_
      refine Out.next ?_
      refine WPc.seq ?_
      refine WPc.region ?_
      refine WP.val rfl rfl rfl (Val.assign rfl rfl) ?_
      refine WP.nil ?_
      refine Out.next ?_
      refine WPc.ret ?_
      refine Out.drop ?_
      refine Out.drop ?_
      exact Out.ret1 (L' := _) Try.results12 rfl ⟨rfl, rfl⟩ (fun _ h => h)

theorem sameDump_spec (A : HProp) (md : Rv) (gl hl : List GV) (heq : gl.map (·.1) = hl.map (·.1)) (hsm : Small (gl.map (·.1))) (vg vh : Value) (hG : RdG A vg gl) (hH : RdG A vh hl) : Does Try.prog 12 [.agg #[.int .i64 md.m, .int .i64 md.s, vg], .agg #[.int .i64 md.m, .int .i64 md.s, vh]] [A] (fun v L => v = .bool true ∧ L = [A]) := by
  obtain ⟨sa, sc, rfl⟩ := Rd.slice hG.rd
  obtain ⟨ta, tc, rfl⟩ := Rd.slice hH.rd
  have e : hl.length = gl.length := by have h9 := congrArg List.length heq; simpa using h9.symm
  rw [e] at hH ⊢
  exact sameDump_slice A md gl hl heq hsm sa ta sc tc hG hH

end Go.Proofs.Ythicijpjpijdjaa.Lh

/-! the plain law of a compaction: what the code leaves is what the list's compaction has -/
namespace Go.Proofs.Ythicijpjpijdjaa.KyQ
open Go.RowKit Go.Proofs.Ythicijpjpijdjaa Go.Proofs.Ythicijpjpijdjaa.Sl Go.Proofs.Ythicijpjpijdjaa.KyP Go.Proofs.Ythicijpjpijdjaa.Kg Go.Proofs.Ythicijpjpijdjaa.Ki Go.Proofs.Ythicijpjpijdjaa.Kl Go.Proofs.Ythicijpjpijdjaa.Km Go.Proofs.Ythicijpjpijdjaa.Kn Go.Proofs.Ythicijpjpijdjaa.Kp Go.Proofs.Ythicijpjpijdjaa.Ku Go.Proofs.Ythicijpjpijdjaa.Kv Go.Proofs.Ythicijpjpijdjaa.Lc Go.Proofs.Ythicijpjpijdjaa.Le Go.Proofs.Ythicijpjpijdjaa.Lf
set_option linter.unusedVariables false
set_option linter.unusedSimpArgs false
/-- a change behind another one: behind an end, at a greater main number; else of the same life -/
def Link (a b : Vn) : Prop := (a.g = true → a.r.m < b.r.m) ∧ (a.g = false → b.c = a.c)
def Links (l : List Vn) : Prop := ∀ i a b, l[i]? = some a → l[i + 1]? = some b → Link a b
theorem rise_le {l : List Vn} (h : Rise l) {i j : Nat} {a b : Vn} (ha : l[i]? = some a) (hb : l[j]? = some b) (hij : i ≤ j) : a.r.m ≤ b.r.m := by
  obtain ⟨h1, rfl⟩ := List.getElem?_eq_some_iff.1 ha
  obtain ⟨h2, rfl⟩ := List.getElem?_eq_some_iff.1 hb
  rcases Nat.lt_or_eq_of_le hij with h3 | rfl
  · have := List.pairwise_iff_getElem.1 h i j h1 h2 h3
    unfold less at this; omega
  · exact Int.le_refl _
theorem lastN_gt {l : List Vn} {at_ : Int} : ∀ n i x, lastN l at_ n ≤ i → i < n → l[i]? = some x → at_ < x.r.m
  | n + 1, i, x, h1, h2, h3 => by
    unfold lastN at h1
    rcases Nat.lt_or_eq_of_le (Nat.le_of_lt_succ h2) with h4 | rfl
    · cases hy : l[n]? with
      | none => rw [hy] at h1; exact lastN_gt n i x h1 h4 h3
      | some y =>
        rw [hy] at h1
        dsimp only at h1
        split at h1
        · exact lastN_gt n i x h1 h4 h3
        · omega
    · rw [h3] at h1
      dsimp only at h1
      split at h1
      · assumption
      · omega
theorem lastN_at {l : List Vn} {at_ : Int} : ∀ n k, lastN l at_ n = k + 1 → k < n ∧ ∃ x, l[k]? = some x ∧ x.r.m ≤ at_
  | n + 1, k, h => by
    unfold lastN at h
    cases hy : l[n]? with
    | none => rw [hy] at h; obtain ⟨h1, h2⟩ := lastN_at n k h; exact ⟨by omega, h2⟩
    | some y =>
      rw [hy] at h
      dsimp only at h
      split at h
      · obtain ⟨h1, h2⟩ := lastN_at n k h; exact ⟨by omega, h2⟩
      · obtain rfl : n = k := by omega
        exact ⟨by omega, y, hy, by omega⟩
  | 0, k, h => by unfold lastN at h; omega
theorem lastN_le (l : List Vn) (at_ : Int) : ∀ n, lastN l at_ n ≤ n
  | 0 => Nat.le_refl _
  | n + 1 => by
    have := lastN_le l at_ n
    unfold lastN
    split
    · split <;> omega
    · omega
/-- the place from which on changes stay -/
def ck (l : List Vn) (at_ : Int) : Nat := match lastN l at_ l.length with
  | 0 => 0
  | k + 1 => match l[k]? with
    | some x => if x.g = false ∨ x.r.m = at_ then k else k + 1
    | none => k + 1
theorem stays_ck {l : List Vn} (h : Rise l) (at_ : Int) {i : Nat} {x : Vn} (hx : l[i]? = some x) : stays l at_ i x = decide (ck l at_ ≤ i) := by
  have hi := (List.getElem?_eq_some_iff.1 hx).1
  unfold stays
  have hle := lastN_le l at_ l.length
  cases hn : lastN l at_ l.length with
  | zero =>
    have := lastN_gt (at_ := at_) l.length i x (by omega) hi hx
    have hck : ck l at_ = 0 := by unfold ck; rw [hn]
    rw [hck]
    simp [this]
  | succ k =>
    obtain ⟨h1, y, hy, hy2⟩ := lastN_at _ _ hn
    have hck : ck l at_ = if y.g = false ∨ y.r.m = at_ then k else k + 1 := by unfold ck; rw [hn]; dsimp only; rw [hy]
    rw [hck]
    rcases Nat.lt_trichotomy i k with h2 | rfl | h2
    · have := rise_le h hx hy (by omega)
      have e : decide (at_ < x.r.m) = false := decide_eq_false (by omega)
      have e2 : decide (i + 1 = k + 1) = false := decide_eq_false (by omega)
      rw [e, e2]
      symm
      simp only [Bool.false_and, Bool.or_false, decide_eq_false_iff_not]
      split <;> omega
    · rw [hx] at hy
      obtain rfl := Option.some.inj hy
      have e : decide (at_ < x.r.m) = false := decide_eq_false (by omega)
      rw [e]
      by_cases hg : x.g = false ∨ x.r.m = at_
      · rw [if_pos hg]
        rcases hg with hg | hg <;> simp [hg]
      · rw [if_neg hg]
        have h3 : x.g = true := by cases hq : x.g <;> simp_all
        have h4 : ¬ x.r.m = at_ := fun e => hg (.inr e)
        simp [h3, h4]
    · have := lastN_gt (at_ := at_) l.length i x (by omega) hi hx
      simp only [this, decide_true, Bool.true_or]
      symm
      rw [decide_eq_true_iff]
      split <;> omega
theorem comp_drop {l : List Vn} (h : Rise l) (at_ : Int) : ∀ i, i ≤ l.length → comp l at_ i = (l.take i).drop (ck l at_)
  | 0, _ => by simp [comp]
  | i + 1, hi => by
    have ih := comp_drop h at_ i (by omega)
    have hx : l[i]? = some l[i] := List.getElem?_eq_getElem (by omega)
    unfold comp
    rw [hx]
    dsimp only
    rw [stays_ck h at_ hx, ih, take_more hx]
    by_cases hc : ck l at_ ≤ i
    · rw [if_pos (decide_eq_true hc), List.drop_append_of_le_length (by rw [List.length_take]; omega)]
    · rw [if_neg (by rw [decide_eq_false hc]; exact Bool.noConfusion), List.drop_eq_nil_of_le (by rw [List.length_take]; omega), List.drop_eq_nil_of_le (by simp; omega)]
theorem comp_eq {l : List Vn} (h : Rise l) (at_ : Int) : comp l at_ l.length = l.drop (ck l at_) := by rw [comp_drop h at_ _ (Nat.le_refl _), List.take_length]
/-- the change that is kept, if there is one -/
theorem kept_ck {l : List Vn} (h : Rise l) (at_ : Int) : keptV l at_ true l.length = (match lastN l at_ l.length with
  | 0 => []
  | k + 1 => match l[k]? with
    | some x => if x.g = false ∨ x.r.m = at_ then [x.r] else []
    | none => []) := by
  have hgo : ∀ i, i ≤ l.length → keptV l at_ true i = (match lastN l at_ l.length with
    | 0 => []
    | k + 1 => if k < i then (match l[k]? with
      | some x => if x.g = false ∨ x.r.m = at_ then [x.r] else []
      | none => []) else []) := by
    intro i
    induction i with
    | zero => intro _; cases hn : lastN l at_ l.length <;> simp [keptV]
    | succ i ih =>
      intro hi
      have ih := ih (by omega)
      have hx : l[i]? = some l[i] := List.getElem?_eq_getElem (by omega)
      generalize l[i] = x at hx
      have hs := stays_ck h at_ hx
      cases hn : lastN l at_ l.length with
      | zero =>
        rw [hn] at ih
        dsimp only at ih ⊢
        have hm := lastN_gt (at_ := at_) l.length i x (by omega) (by omega) hx
        rw [kept_no hx (by unfold kpc; simp; omega), ih]
      | succ k =>
        rw [hn] at ih
        dsimp only at ih ⊢
        obtain ⟨h1, y, hy, hy2⟩ := lastN_at _ _ hn
        have hck : ck l at_ = if y.g = false ∨ y.r.m = at_ then k else k + 1 := by unfold ck; rw [hn]; dsimp only; rw [hy]
        rw [hy] at ih ⊢
        dsimp only at ih ⊢
        rcases Nat.lt_trichotomy i k with h2 | rfl | h2
        · have hc : kpc l at_ true i x = false := by
            unfold kpc
            rw [hs, hck]
            have : decide ((if y.g = false ∨ y.r.m = at_ then k else k + 1) ≤ i) = false := decide_eq_false (by split <;> omega)
            rw [this]; simp
          rw [kept_no hx hc, ih, if_neg (by omega), if_neg (by omega)]
        · rw [hx] at hy
          obtain rfl := Option.some.inj hy
          rw [if_neg (by omega)] at ih
          rw [if_pos (by omega)]
          by_cases hg : x.g = false ∨ x.r.m = at_
          · have hc : kpc l at_ true i x = true := by
              unfold kpc
              rw [hs, hck, if_pos hg]
              simp [hy2]
            rw [kept_yes hx hc, ih, if_pos hg]; rfl
          · have hc : kpc l at_ true i x = false := by
              unfold kpc
              rw [hs, hck, if_neg hg]
              simp
            rw [kept_no hx hc, ih, if_neg hg]
        · have hm := lastN_gt (at_ := at_) l.length i x (by omega) (by omega) hx
          rw [kept_no hx (by unfold kpc; simp; omega), ih, if_pos h2, if_pos (show k < i + 1 by omega)]
  have h2 := hgo l.length (Nat.le_refl _)
  rw [h2]
  cases hn : lastN l at_ l.length with
  | zero => rfl
  | succ k =>
    obtain ⟨h1, -⟩ := lastN_at _ _ hn
    dsimp only
    rw [if_pos h1]
/-! how lives come of a list -/
def addR (R : List Rv) : List Gn → List Gn
  | [] => []
  | g :: t => ⟨g.v, g.c, R ++ g.revs⟩ :: t
theorem addR_nil : ∀ l : List Gn, addR [] l = l
  | [] => rfl
  | g :: t => rfl
theorem dstep_app {P Q : List Gn} {b : Bool} (hb : b = true → Q ≠ []) (x : Vn) : dstep (P ++ Q, b) x = (P ++ (dstep (Q, b) x).1, (dstep (Q, b) x).2) := by
  cases b with
  | false => unfold dstep; simp
  | true =>
    obtain ⟨q, g, rfl⟩ := snoc_of (hb rfl)
    unfold dstep
    rw [← List.append_assoc]
    simp
    rw [← List.append_assoc, show P.length + q.length = (P ++ q).length from by simp, List.take_left]; simp
theorem dstep_ne (p : List Gn × Bool) (x : Vn) : (dstep p x).1 ≠ [] := by
  unfold dstep
  dsimp only
  split <;> simp
theorem fold_app {P : List Gn} : ∀ (m : List Vn) (Q : List Gn) (b : Bool), (b = true → Q ≠ []) → m.foldl dstep (P ++ Q, b) = (P ++ (m.foldl dstep (Q, b)).1, (m.foldl dstep (Q, b)).2)
  | [], Q, b, h => rfl
  | x :: m, Q, b, h => by
    rw [List.foldl_cons, List.foldl_cons, dstep_app h]
    have ih := fold_app (P := P) m (dstep (Q, b) x).1 (dstep (Q, b) x).2 (fun _ => dstep_ne _ _)
    exact ih
theorem addR_app {R : List Rv} {q r : List Gn} (h : q ≠ []) : addR R (q ++ r) = addR R q ++ r := by
  cases q with
  | nil => exact absurd rfl h
  | cons a q => rfl
theorem addR_ne {R : List Rv} {q : List Gn} (h : q ≠ []) : addR R q ≠ [] := by
  cases q with
  | nil => exact absurd rfl h
  | cons a q => exact fun h => by cases h
theorem dstep_addR {R : List Rv} {Q : List Gn} (b : Bool) (hQ : Q ≠ []) (x : Vn) : dstep (addR R Q, b) x = (addR R (dstep (Q, b) x).1, (dstep (Q, b) x).2) := by
  cases b with
  | false =>
    unfold dstep
    dsimp only
    rw [addR_app hQ]
  | true =>
    obtain ⟨q, g, rfl⟩ := snoc_of hQ
    cases q with
    | nil => unfold dstep addR; simp
    | cons a q =>
      unfold dstep
      have e : addR R (a :: q ++ [g]) = addR R (a :: q) ++ [g] := addR_app (by simp)
      rw [e]
      simp [addR]
theorem fold_addR {R : List Rv} : ∀ (m : List Vn) (Q : List Gn) (b : Bool), Q ≠ [] → m.foldl dstep (addR R Q, b) = (addR R (m.foldl dstep (Q, b)).1, (m.foldl dstep (Q, b)).2)
  | [], Q, b, h => rfl
  | x :: m, Q, b, h => by
    rw [List.foldl_cons, List.foldl_cons, dstep_addR b h]
    exact fold_addR m (dstep (Q, b) x).1 (dstep (Q, b) x).2 (dstep_ne _ _)
theorem links_take {l : List Vn} (h : Links l) (k : Nat) : Links (l.take k) := by
  intro i a b ha hb
  rw [List.getElem?_take] at ha hb
  split at ha <;> split at hb
  · exact h i a b ha hb
  all_goals simp_all
theorem links_drop {l : List Vn} (h : Links l) (k : Nat) : Links (l.drop k) := by
  intro i a b ha hb
  rw [List.getElem?_drop] at ha hb
  exact h (k + i) a b ha (by rw [← hb, Nat.add_assoc])
/-- lives of a list: those that have ended, and the one that goes on -/
def Shape (m : List Vn) : Prop := ∃ P Q, (dgo m).1 = P ++ Q ∧ (∀ g ∈ P, 0 < g.revs.length ∧ ∃ a ∈ m, a.g = true ∧ lstM g = a.r.m) ∧
  (((dgo m).2 = false ∧ Q = []) ∨ ((dgo m).2 = true ∧ ∃ g0 x, Q = [g0] ∧ 0 < g0.revs.length ∧ m[m.length - 1]? = some x ∧ g0.c = x.c))
theorem lst_snoc (v : Int) (c : Rv) (R : List Rv) (r : Rv) : lstM ⟨v, c, R ++ [r]⟩ = r.m := by unfold lstM; simp
theorem dgo_flag (m : List Vn) (x : Vn) : (dgo (m ++ [x])).2 = !x.g := by rw [dgo_snoc]; rfl
theorem shape : ∀ (n : Nat) (m : List Vn), m.length = n → Links m → Shape m
  | 0, m, hn, hl => by
    rw [List.eq_nil_of_length_eq_zero hn]
    exact ⟨[], [], rfl, fun g hg => (by cases hg), .inl ⟨rfl, rfl⟩⟩
  | n + 1, m, hn, hl => by
    obtain ⟨a, x, rfl⟩ := snoc_of (l := m) (fun h => by rw [h] at hn; cases hn)
    have han : a.length = n := by simpa using hn
    have hla : Links a := by have := links_take hl n; rwa [← han, List.take_left] at this
    obtain ⟨P, Q, h1, h2, h3⟩ := shape n a han hla
    have h2' : ∀ g ∈ P, 0 < g.revs.length ∧ ∃ b ∈ a ++ [x], b.g = true ∧ lstM g = b.r.m := fun g hg => by
      obtain ⟨k1, b, k2, k3⟩ := h2 g hg
      exact ⟨k1, b, List.mem_append_left _ k2, k3⟩
    have hlast : (a ++ [x])[(a ++ [x]).length - 1]? = some x := by simp
    unfold Shape
    rw [dgo_flag, dgo_snoc]
    have key : ∃ g', (dstep (dgo a) x).1 = P ++ [g'] ∧ 0 < g'.revs.length ∧ lstM g' = x.r.m ∧ g'.c = x.c := by
      rcases h3 with ⟨hf, rfl⟩ | ⟨hf, g0, y, rfl, k1, k2, k3⟩
      · refine ⟨⟨x.v, x.c, [x.r]⟩, ?_, by simp, rfl, rfl⟩
        have e : dgo a = (P, false) := by rw [← hf, ← List.append_nil P, ← h1]
        rw [e]; unfold dstep; simp
      · refine ⟨⟨x.v, g0.c, g0.revs ++ [x.r]⟩, ?_, by simp, lst_snoc _ _ _ _, ?_⟩
        · have e : dgo a = (P ++ [g0], true) := by rw [← hf, ← h1]
          rw [e]; unfold dstep; simp
        · have hy : y.g = false := by
            obtain ⟨a', y', rfl⟩ := snoc_of (l := a) (fun h => by rw [h] at k2; cases k2)
            have e : y' = y := by simpa using k2
            subst e
            rw [dgo_flag] at hf
            simpa using hf
          have hpos : 0 < a.length := by
            have := (List.getElem?_eq_some_iff.1 k2).1
            omega
          have hlk := hl (a.length - 1) y x (by rw [List.getElem?_append_left (by omega)]; exact k2) (by rw [show a.length - 1 + 1 = a.length from by omega]; simp)
          show g0.c = x.c
          rw [k3, hlk.2 hy]
    obtain ⟨g', e1, e2, e3, e4⟩ := key
    cases hg : x.g with
    | true =>
      refine ⟨P ++ [g'], [], by rw [e1, List.append_nil], fun g hgm => ?_, .inl ⟨rfl, rfl⟩⟩
      rcases List.mem_append.1 hgm with hgm | hgm
      · exact h2' g hgm
      · rw [List.mem_singleton.1 hgm]
        exact ⟨e2, x, by simp, hg, e3⟩
    | false => exact ⟨P, [g'], e1, h2', .inr ⟨rfl, g', x, rfl, e2, hlast, e4⟩⟩
theorem lives_flag {m : List Vn} (h : 0 < m.length) : lives m = (dgo m).2 := by
  obtain ⟨a, x, rfl⟩ := snoc_of (l := m) (fun e => by rw [e] at h; cases h)
  rw [dgo_flag]
  unfold lives
  simp
theorem lives_drop {l : List Vn} {k : Nat} (h : k < l.length) : lives (l.drop k) = lives l := by
  unfold lives
  rw [List.length_drop, List.getElem?_drop, show k + (l.length - k - 1) = l.length - 1 from by omega]
theorem modi_drop {l : List Vn} {k : Nat} (h : k < l.length) : modi (l.drop k) = modi l := by
  unfold modi
  rw [List.length_drop, List.getElem?_drop, show k + (l.length - k - 1) = l.length - 1 from by omega]
/-- lives of a list, and of what is left of it from a place on -/
theorem dgens_cut {l : List Vn} (hl : Links l) {k : Nat} (hk : k < l.length) : ∃ P R, dgens l = P ++ addR R (dgens (l.drop k)) ∧ (∀ g ∈ P, 0 < g.revs.length ∧ ∃ a ∈ l.take k, a.g = true ∧ lstM g = a.r.m) ∧ (∀ r ∈ R, ∃ a ∈ l.take k, r = a.r) ∧ ((dgo (l.take k)).2 = false → R = []) := by
  obtain ⟨P, Q, h1, h2, h3⟩ := shape _ (l.take k) rfl (links_take hl k)
  have hd : l.drop k ≠ [] := fun h => by have := congrArg List.length h; simp at this; omega
  have hgo : dgo l = (l.drop k).foldl dstep (dgo (l.take k)) := by
    conv => lhs; rw [← List.take_append_drop k l]
    unfold dgo; rw [List.foldl_append]
  have htail : (if 0 < l.length ∧ lives l = false then [(⟨0, Rv0, []⟩ : Gn)] else []) = (if 0 < (l.drop k).length ∧ lives (l.drop k) = false then [⟨0, Rv0, []⟩] else []) := by
    rw [lives_drop hk]
    have this : 0 < l.length - k := by omega
    have h0 : 0 < l.length := by omega
    rw [List.length_drop]
    simp only [this, h0, true_and]
  obtain ⟨x, hi, hx⟩ : ∃ x hi, l.drop k = x :: hi := by
    cases h : l.drop k with
    | nil => exact absurd h hd
    | cons x hi => exact ⟨x, hi, rfl⟩
  rcases h3 with ⟨hf, rfl⟩ | ⟨hf, g0, y, rfl, k1, k2, k3⟩
  · refine ⟨P, [], ?_, h2, fun r hr => (by cases hr), fun _ => rfl⟩
    rw [addR_nil]
    unfold dgens
    rw [htail, ← List.append_assoc]
    congr 1
    rw [hgo, show dgo (l.take k) = (P ++ [], false) from by rw [← h1, ← hf], fold_app _ _ _ (fun h => by cases h)]
    rfl
  · refine ⟨P, g0.revs, ?_, h2, fun r hr => ?_, fun h => by rw [hf] at h; cases h⟩
    · have hc : g0.c = x.c := by
        rw [k3]
        have hy : y.g = false := by
          have hne : l.take k ≠ [] := fun h => by rw [h] at k2; cases k2
          obtain ⟨a', y', ha⟩ := snoc_of hne
          rw [ha] at k2 hf
          have e : y' = y := by simpa using k2
          subst e
          rw [dgo_flag] at hf
          simpa using hf
        have hkp := (List.getElem?_eq_some_iff.1 k2).1
        rw [List.length_take] at hkp
        have e1 : (l.take k).length = k := by rw [List.length_take]; omega
        rw [e1, List.getElem?_take, if_pos (by omega)] at k2
        have e2 : l[k - 1 + 1]? = some x := by
          rw [show k - 1 + 1 = k + 0 from by omega, ← List.getElem?_drop, hx]; rfl
        exact ((hl (k - 1) y x k2 e2).2 hy).symm
      unfold dgens
      rw [htail]
      have e1 : (dgo l).1 = P ++ addR g0.revs (dgo (l.drop k)).1 := by
        rw [hgo, show dgo (l.take k) = (P ++ [g0], true) from by rw [← h1, ← hf], fold_app _ _ _ (fun _ => by simp)]
        dsimp only
        congr 1
        rw [hx]
        unfold dgo
        rw [List.foldl_cons, List.foldl_cons]
        have e2 : dstep ([g0], true) x = (addR g0.revs [⟨x.v, x.c, [x.r]⟩], !x.g) := by
          unfold dstep addR; simp [hc]
        have e3 : dstep ([], false) x = ([⟨x.v, x.c, [x.r]⟩], !x.g) := by unfold dstep; simp
        rw [e2, e3, fold_addR _ _ _ (by simp)]
      have hne : (dgo (l.drop k)).1 ≠ [] := by
        rw [hx]; unfold dgo; rw [List.foldl_cons]
        obtain ⟨a', z, ha⟩ := snoc_of (l := x :: hi) (by simp)
        have := dgo_snoc a' z
        rw [← ha] at this
        unfold dgo at this
        rw [List.foldl_cons] at this
        rw [this]
        exact dstep_ne _ _
      rw [e1, addR_app hne, List.append_assoc]
    · have hr2 : r ∈ revsOf (dgo (l.take k)).1 := by
        rw [h1]; unfold revsOf; rw [List.flatMap_append]
        exact List.mem_append_right _ (by simpa using hr)
      have e := dgo_revs (l.take k) ([], false)
      have e' : revsOf (dgo (l.take k)).1 = (l.take k).map (·.r) := e.trans (by simp [revsOf])
      rw [e'] at hr2
      obtain ⟨a, ha, rfl⟩ := List.mem_map.1 hr2
      exact ⟨a, ha, rfl⟩
/-- the first life -/
theorem dgens_head {m : List Vn} (hl : Links m) (hm : 0 < m.length) : ∃ t0 t, dgens m = t0 :: t ∧ 0 < t0.revs.length ∧ (t ≠ [] → ∃ a ∈ m, a.g = true ∧ lstM t0 = a.r.m) ∧ (∃ rest, m.map (·.r) = t0.revs ++ rest) := by
  obtain ⟨P, Q, h1, h2, h3⟩ := shape _ m rfl hl
  have hr : ∀ t0 t, dgens m = t0 :: t → ∃ rest, m.map (·.r) = t0.revs ++ rest := fun t0 t h => by
    refine ⟨revsOf t, ?_⟩
    rw [← dgens_revs, h]
    unfold revsOf; simp
  rcases h3 with ⟨hf, rfl⟩ | ⟨hf, g0, x, rfl, k1, k2, k3⟩
  · cases P with
    | nil =>
      have h5 := dgens_pos hm
      have : (dgo m).1 ≠ [] := by
        obtain ⟨a, z, rfl⟩ := snoc_of (l := m) (fun e => by rw [e] at hm; cases hm)
        rw [dgo_snoc]; exact dstep_ne _ _
      exact absurd h1 this
    | cons p P =>
      have hd : dgens m = p :: (P ++ (if 0 < m.length ∧ lives m = false then [⟨0, Rv0, []⟩] else [])) := by
        unfold dgens; rw [h1]; simp
      obtain ⟨q1, a, q2, q3⟩ := h2 p (by simp)
      exact ⟨p, _, hd, q1, fun _ => ⟨a, q2, q3⟩, hr _ _ hd⟩
  · have hlv : lives m = true := by rw [lives_flag hm, hf]
    have hd0 : dgens m = P ++ [g0] := by unfold dgens; rw [h1, hlv]; simp
    cases P with
    | nil => exact ⟨g0, [], hd0, k1, fun h => absurd rfl h, hr _ _ hd0⟩
    | cons p P =>
      obtain ⟨q1, a, q2, q3⟩ := h2 p (by simp)
      exact ⟨p, P ++ [g0], hd0, q1, fun _ => ⟨a, q2, q3⟩, hr _ _ hd0⟩
/-- all lives but the last one have a revision -/
theorem full_dgens {m : List Vn} (hl : Links m) : Full (dgens m) := by
  obtain ⟨P, Q, h1, h2, h3⟩ := shape _ m rfl hl
  intro i g hg hi
  rcases h3 with ⟨hf, rfl⟩ | ⟨hf, g0, x, rfl, k1, k2, k3⟩
  · unfold dgens at hg hi
    rw [h1, List.append_nil] at hg hi
    split at hg
    · rename_i hc
      rw [if_pos hc, List.length_append, List.length_singleton] at hi
      rw [List.getElem?_append_left (by omega)] at hg
      exact (h2 g (List.mem_iff_getElem?.2 ⟨_, hg⟩)).1
    · rw [List.append_nil] at hg
      exact (h2 g (List.mem_iff_getElem?.2 ⟨_, hg⟩)).1
  · have hlv : lives m = true := by
      rw [lives_flag (by have := (List.getElem?_eq_some_iff.1 k2).1; omega), hf]
    unfold dgens at hg hi
    rw [h1, hlv] at hg hi
    simp only [Bool.true_eq_false, and_false, if_false, List.append_nil] at hg hi
    rcases List.mem_append.1 (List.mem_iff_getElem?.2 ⟨_, hg⟩) with h | h
    · exact (h2 g h).1
    · rw [List.mem_singleton.1 h]; exact k1
theorem emp_dgens {m : List Vn} (hl : Links m) (hm : 0 < m.length) : emp (dgens m) = false := by
  obtain ⟨t0, t, h1, h2, -⟩ := dgens_head hl hm
  rw [h1]
  unfold emp
  split
  · rename_i g h
    obtain ⟨rfl, -⟩ := List.cons.inj h
    exact decide_eq_false (by omega)
  · rfl
end Go.Proofs.Ythicijpjpijdjaa.KyQ

