import Derived.Test.YthmkdioafjmclaaHk
namespace Go.Proofs.Ythmkdioafjmclaa.Hr
open Go.RowKit Go.Proofs.Ythmkdioafjmclaa Go.Proofs.Ythmkdioafjmclaa.Sl Go.Proofs.Ythmkdioafjmclaa.Hc Go.Proofs.Ythmkdioafjmclaa.Hp Go.Proofs.Ythmkdioafjmclaa.Hm Go.Proofs.Ythmkdioafjmclaa.Hb Go.Proofs.Ythmkdioafjmclaa.Hk
set_option linter.unusedVariables false
set_option linter.unusedSimpArgs false
set_option linter.unusedSectionVars false


theorem rng_x8 {w : World} {b o : Nat} {l : List UInt8} (h : w.rangeAt b o (byt l)) {k : Nat} (hk : k < l.length) : w.cell? ⟨b, o + k, none⟩ = some (.int .u8 (x8 l k)) := by
  have h1 : l[k]? = some l[k] := List.getElem?_eq_getElem hk
  have h2 := h k _ (byt_at h1)
  unfold x8
  rw [List.getD_eq_getElem?_getD, h1]
  exact h2
theorem rng_x8d {w : World} {b o j : Nat} {l : List UInt8} (h : w.rangeAt b o (byt l)) {k : Nat} (hk : j + k < l.length) : w.cell? ⟨b, o + j + k, none⟩ = some (.int .u8 (x8 (l.drop j) k)) := by
  have h1 := rng_x8 h hk
  have e : x8 (l.drop j) k = x8 l (j + k) := by
    unfold x8
    rw [List.getD_eq_getElem?_getD, List.getD_eq_getElem?_getD, List.getElem?_drop]
  rw [e, Nat.add_assoc]; exact h1
/-- what is read as a bucket's key -/
structure IsKeyB (l : List UInt8) (m s : Int) (t : Bool) : Prop where
  len : (t = true ∧ l.length = 18 ∧ l[17]? = some 116) ∨ (t = false ∧ l.length = 17)
  sep : l[8]? = some 95
  main : IntKind.i64.wrap (de8 l) = m
  sub : IntKind.i64.wrap (de8 (l.drop 9)) = s
  m0 : 0 ≤ m
  s0 : 0 ≤ s
theorem bkey_is {m s : Int} {t : Bool} (hm0 : 0 ≤ m) (hm1 : m < 9223372036854775808) (hs0 : 0 ≤ s) (hs1 : s < 9223372036854775808) : IsKeyB (bkey m s t) m s t :=
  ⟨by cases t
      · exact .inr ⟨rfl, bkey_len m s false⟩
      · exact .inl ⟨rfl, bkey_len m s true, bkey_17 m s⟩, bkey_8 m s t, bkey_main hm0 hm1, bkey_sub hs0 hs1, hm0, hs0⟩
def rgt (a b c d : Int) : Bool := decide (a > c ∨ (a = c ∧ b > d))
set_option maxRecDepth 100000 in
set_option maxHeartbeats 1000000 in
theorem tomb_spec (A : HProp) (b0 o0 c0 : Nat) (l : List UInt8) (m s : Int) (t : Bool) (hr : ∀ w, Holds A w → w.rangeAt b0 o0 (byt l)) (hc : l.length ≤ c0) (hK : IsKeyB l m s t) : Does Try.prog 120 [.slice (some ⟨b0, o0, none⟩) l.length c0] [A] (fun v L => v = .bool t ∧ L = [A]) := by
  refine Does.enter 12 Try.func120 rfl rfl rfl fun W F => ?_
  show WPc _ _ _ _ _ [(0, .slice (some ⟨b0, o0, none⟩) l.length c0)] (A :: F)
  refine WPc.seq ?_
  refine WPc.region ?_
  refine WP.val rfl rfl rfl (Val.assign rfl rfl) ?_
  refine WP.nil ?_
  refine Out.next ?_
  refine WPc.seq ?_
  rcases hK.len with ⟨ht, hn, h17⟩ | ⟨ht, hn⟩
  · skip
    refine WPc.region ?_
    refine WP.val rfl rfl rfl (Val.move rfl rfl) ?_
    refine WP.val rfl rfl rfl (Val.len rfl Ty.sl86 rfl) ?_
    refine WP.val rfl rfl rfl (Val.eql rfl rfl rfl) ?_
    refine WP.val rfl rfl rfl (Val.move rfl rfl) ?_
    refine WP.split 6 rfl (fun h1 => ?_) (fun h1 => ?_)
    · skip
      have h1 : (((l.length : Nat) : Int) = (18 : Int)) := h1
      refine WP.valG rfl rfl rfl rfl rfl rfl rfl (Val.move rfl rfl) ?_
      refine WP.valG rfl rfl rfl rfl rfl rfl rfl (Val.indexAddr (j := 17) (q := o0 + 17) rfl Ty.sl86 rfl rfl (by omega) (by omega) (by omega)) ?_
      refine WP.valG rfl rfl rfl rfl rfl rfl rfl (Val.load (v := .int .u8 116) rfl Ty.sc5 rfl (fun w h => hr w (h.at 0 rfl) 17 _ (byt_at h17))) ?_
      refine WP.valG rfl rfl rfl rfl rfl rfl rfl (Val.eql rfl rfl rfl) ?_
      refine WP.val rfl rfl rfl (Val.pickT rfl rfl rfl) ?_
      refine WP.val rfl rfl rfl (Val.assign rfl rfl) ?_
      refine WP.nil ?_
      refine Out.next ?_
      refine WPc.ret ?_
      exact Out.ret1 (L' := _) Try.results120 rfl ⟨by rw [ht]; all_goals rfl, rfl⟩ (fun _ h => h)
    · skip
      have h1 : ¬ (((l.length : Nat) : Int) = (18 : Int)) := h1
      exfalso; omega
  · skip
    refine WPc.region ?_
    refine WP.val rfl rfl rfl (Val.move rfl rfl) ?_
    refine WP.val rfl rfl rfl (Val.len rfl Ty.sl86 rfl) ?_
    refine WP.val rfl rfl rfl (Val.eql rfl rfl rfl) ?_
    refine WP.val rfl rfl rfl (Val.move rfl rfl) ?_
    refine WP.split 6 rfl (fun h2 => ?_) (fun h2 => ?_)
    · skip
      have h2 : (((l.length : Nat) : Int) = (18 : Int)) := h2
      exfalso; omega
    · skip
      have h2 : ¬ (((l.length : Nat) : Int) = (18 : Int)) := h2
      refine WP.skip rfl rfl rfl rfl rfl rfl rfl ?_
      refine WP.skip rfl rfl rfl rfl rfl rfl rfl ?_
      refine WP.skip rfl rfl rfl rfl rfl rfl rfl ?_
      refine WP.skip rfl rfl rfl rfl rfl rfl rfl ?_
      refine WP.val rfl rfl rfl (Val.pickF rfl rfl rfl) ?_
      refine WP.val rfl rfl rfl (Val.assign rfl rfl) ?_
      refine WP.nil ?_
      refine Out.next ?_
      refine WPc.ret ?_
      exact Out.ret1 (L' := _) Try.results120 rfl ⟨by rw [ht]; all_goals rfl, rfl⟩ (fun _ h => h)
set_option maxRecDepth 100000 in
set_option maxHeartbeats 1000000 in
theorem tokey_spec (A : HProp) (b0 o0 c0 : Nat) (l : List UInt8) (m s : Int) (t : Bool) (hr : ∀ w, Holds A w → w.rangeAt b0 o0 (byt l)) (hc : l.length ≤ c0) (hK : IsKeyB l m s t) : Does Try.prog 96 [.slice (some ⟨b0, o0, none⟩) l.length c0] [A] (fun v L => v = .agg #[.int .i64 m, .int .i64 s, .bool t] ∧ L = [A]) := by
  refine Does.enter 40 Try.func96 rfl rfl rfl fun W F => ?_
  show WPc _ _ _ _ _ [(0, .slice (some ⟨b0, o0, none⟩) l.length c0)] (A :: F)
  refine WPc.seq ?_
  refine WPc.region ?_
  refine WP.eff rfl rfl rfl (Eff.alloc rfl Ty.z159) ?_
  rintro _ _ ⟨b1, rfl, rfl⟩
  refine WP.nil ?_
  refine Out.next ?_
  refine WPc.seq ?_
  refine WPc.seq ?_
  rcases hK.len with ⟨ht, hn, h17⟩ | ⟨ht, hn⟩
  · skip
    refine WPc.region ?_
    refine WP.val rfl rfl rfl (Val.move rfl rfl) ?_
    refine WP.val rfl rfl rfl (Val.len rfl Ty.sl86 rfl) ?_
    refine WP.val rfl rfl rfl (Val.neq rfl rfl rfl) ?_
    refine WP.val rfl rfl rfl (Val.move rfl rfl) ?_
    refine WP.split 8 rfl (fun h1 => ?_) (fun h1 => ?_)
    · skip
      have h1 : (((l.length : Nat) : Int) ≠ (17 : Int)) := h1
      refine WP.valG rfl rfl rfl rfl rfl rfl rfl (Val.move rfl rfl) ?_
      refine WP.valG rfl rfl rfl rfl rfl rfl rfl (Val.len rfl Ty.sl86 rfl) ?_
      refine WP.valG rfl rfl rfl rfl rfl rfl rfl (Val.neq rfl rfl rfl) ?_
      refine WP.val rfl rfl rfl (Val.pickT rfl rfl rfl) ?_
      refine WP.nil ?_
      refine Out.next ?_
      refine WPc.ifP rfl (fun h2 => ?_) (fun h2 => ?_)
      · skip
        have h2 : (((l.length : Nat) : Int) ≠ (18 : Int)) := h2
        exfalso; omega
      · skip
        have h2 : ¬ (((l.length : Nat) : Int) ≠ (18 : Int)) := h2
        refine WPc.skip ?_
        refine Out.next ?_
        refine WPc.seq ?_
        refine WPc.seq ?_
        have hm0 := hK.m0
        have hs0 := hK.s0
        refine WPc.region ?_
        refine WP.val rfl rfl rfl (Val.move rfl rfl) ?_
        refine WP.val rfl rfl rfl (Val.indexAddr (j := 8) (q := o0 + 8) rfl Ty.sl86 rfl rfl (by omega) (by omega) (by omega)) ?_
        refine WP.val rfl rfl rfl (Val.load (v := .int .u8 95) rfl Ty.sc5 rfl (fun w h => hr w (h.at 1 rfl) 8 _ (byt_at hK.sep))) ?_
        refine WP.val rfl rfl rfl (Val.neq rfl rfl rfl) ?_
        refine WP.nil ?_
        refine Out.next ?_
        refine WPc.ifP rfl (fun h3 => ?_) (fun h3 => ?_)
        · skip
          have h3 : ((95 : Int) ≠ (95 : Int)) := h3
          exact absurd rfl h3
        · skip
          have h3 : ¬ ((95 : Int) ≠ (95 : Int)) := h3
          refine WPc.skip ?_
          refine Out.next ?_
          refine WPc.seq ?_
          refine WPc.region ?_
          refine WP.val rfl rfl rfl (Val.move rfl rfl) ?_
          refine WP.val rfl rfl rfl (Val.slice (lo := 0) (hi := 8) (j := o0) (vlo := some (.i64, (0 : Int))) (vhi := some (.i64, (8 : Int))) rfl Ty.sl86 rfl rfl rfl (by simp [bnd]; try omega) (by simp [bnd]; try omega) (by omega) (by omega) (by omega) (by simp)) ?_
          refine WP.perm pl1 ?_
          refine WP.eff rfl rfl rfl (Eff.call rfl rfl Try.call119 (get64_spec A b0 o0 8 c0 l (fun w h k hk => rng_x8 (hr w h) (by omega)) (by omega))) ?_
          rintro _ _ ⟨_, ⟨rfl, rfl⟩, rfl⟩
          show WP _ _ _ _ _ _ _ (A :: Blk b1 [.int .i64 0, .int .i64 0, .bool false] 159 :: F)
          refine WP.val rfl rfl rfl (Val.conv (z := IntKind.wrap .i64 (de8 l)) rfl Ty.ik2 Ty.un235 rfl rfl) ?_
          refine WP.know 22 (.int .i64 m) rfl (by rw [hK.main]) ?_
          refine WP.val rfl rfl rfl (Val.assign rfl rfl) ?_
          refine WP.nil ?_
          refine Out.next ?_
          refine WPc.seq ?_
          refine WPc.region ?_
          refine WP.val rfl rfl rfl (Val.move rfl rfl) ?_
          refine WP.val rfl rfl rfl (Val.slice (lo := 9) (hi := l.length) (j := o0 + 9) (vlo := some (.i64, (9 : Int))) (vhi := none) rfl Ty.sl86 rfl rfl rfl (by simp [bnd]; try omega) (by simp [bnd]; try omega) (by omega) (by omega) (by omega) (by rw [if_neg (by omega)]; all_goals omega)) ?_
          refine WP.eff rfl rfl rfl (Eff.call rfl rfl Try.call119 (get64_spec A b0 (o0 + 9) (l.length - 9) (c0 - 9) (l.drop 9) (fun w h k hk => rng_x8d (hr w h) (by omega)) (by omega))) ?_
          rintro _ _ ⟨_, ⟨rfl, rfl⟩, rfl⟩
          show WP _ _ _ _ _ _ _ (A :: Blk b1 [.int .i64 0, .int .i64 0, .bool false] 159 :: F)
          refine WP.val rfl rfl rfl (Val.conv (z := IntKind.wrap .i64 (de8 (l.drop 9))) rfl Ty.ik2 Ty.un235 rfl rfl) ?_
          refine WP.know 26 (.int .i64 s) rfl (by rw [hK.sub]) ?_
          refine WP.val rfl rfl rfl (Val.assign rfl rfl) ?_
          refine WP.nil ?_
          refine Out.next ?_
          refine WPc.seq ?_
          refine WPc.seq ?_
          refine WPc.region ?_
          refine WP.val rfl rfl rfl (Val.move rfl rfl) ?_
          refine WP.val rfl rfl rfl (Val.lss rfl rfl rfl) ?_
          refine WP.val rfl rfl rfl (Val.move rfl rfl) ?_
          refine WP.split 29 rfl (fun h4 => ?_) (fun h4 => ?_)
          · skip
            have h4 : (m < (0 : Int)) := h4
            exfalso; omega
          · skip
            have h4 : ¬ (m < (0 : Int)) := h4
            refine WP.valG rfl rfl rfl rfl rfl rfl rfl (Val.move rfl rfl) ?_
            refine WP.valG rfl rfl rfl rfl rfl rfl rfl (Val.lss rfl rfl rfl) ?_
            refine WP.val rfl rfl rfl (Val.pickF rfl rfl rfl) ?_
            refine WP.nil ?_
            refine Out.next ?_
            refine WPc.ifP rfl (fun h5 => ?_) (fun h5 => ?_)
            · skip
              have h5 : (s < (0 : Int)) := h5
              exfalso; omega
            · skip
              have h5 : ¬ (s < (0 : Int)) := h5
              refine WPc.skip ?_
              refine Out.next ?_
              refine WPc.seq ?_
              refine WPc.region ?_
              refine WP.val rfl rfl rfl (Val.move rfl rfl) ?_
              refine WP.val rfl rfl rfl (Val.move rfl rfl) ?_
              refine WP.val rfl rfl rfl (Val.mk (cs := [.int .i64 (m), .int .i64 (s)]) rfl rfl (fun _ => by kernel_rfl)) ?_
              refine WP.val rfl rfl rfl (Val.move rfl rfl) ?_
              refine WP.eff rfl rfl rfl (Eff.call rfl rfl Try.call120 (tomb_spec A b0 o0 c0 l m s t hr hc hK)) ?_
              rintro _ _ ⟨_, ⟨rfl, rfl⟩, rfl⟩
              show WP _ _ _ _ _ _ _ (A :: Blk b1 [.int .i64 0, .int .i64 0, .bool false] 159 :: F)
              refine WP.val rfl rfl rfl (Val.mk (cs := [.int .i64 (m), .int .i64 (s), .bool (t)]) rfl rfl (fun _ => by kernel_rfl)) ?_
              refine WP.perm pl1 ?_
              refine WP.eff0 rfl rfl (Eff.storeAgg (cs := [.int .i64 (m), .int .i64 (s), .bool (t)]) (C' := [.int .i64 (m), .int .i64 (s), .bool (t)]) rfl Ty.ag159 rfl rfl rfl rfl (by simp) rfl) ?_
              rintro _ _ rfl
              refine WP.nil ?_
              refine Out.next ?_
              refine WPc.ret ?_
              exact Out.retRun (L' := [A]) (results_cell (cs := [.int .i64 (m), .int .i64 (s), .bool (t)]) Try.results96 Ty.ag159 rfl rfl (fun w h => h.range 0 rfl rfl)) ⟨rfl, rfl⟩ (fun w h => h.drop)
    · skip
      have h1 : ¬ (((l.length : Nat) : Int) ≠ (17 : Int)) := h1
      exfalso; omega
  · skip
    refine WPc.region ?_
    refine WP.val rfl rfl rfl (Val.move rfl rfl) ?_
    refine WP.val rfl rfl rfl (Val.len rfl Ty.sl86 rfl) ?_
    refine WP.val rfl rfl rfl (Val.neq rfl rfl rfl) ?_
    refine WP.val rfl rfl rfl (Val.move rfl rfl) ?_
    refine WP.split 8 rfl (fun h6 => ?_) (fun h6 => ?_)
    · skip
      have h6 : (((l.length : Nat) : Int) ≠ (17 : Int)) := h6
      exfalso; omega
    · skip
      have h6 : ¬ (((l.length : Nat) : Int) ≠ (17 : Int)) := h6
      refine WP.skip rfl rfl rfl rfl rfl rfl rfl ?_
      refine WP.skip rfl rfl rfl rfl rfl rfl rfl ?_
      refine WP.skip rfl rfl rfl rfl rfl rfl rfl ?_
      refine WP.val rfl rfl rfl (Val.pickF rfl rfl rfl) ?_
      refine WP.nil ?_
      refine Out.next ?_
      refine WPc.condF rfl rfl ?_
      refine WPc.skip ?_
      refine Out.next ?_
      refine WPc.seq ?_
      refine WPc.seq ?_
      have hm0 := hK.m0
      have hs0 := hK.s0
      refine WPc.region ?_
      refine WP.val rfl rfl rfl (Val.move rfl rfl) ?_
      refine WP.val rfl rfl rfl (Val.indexAddr (j := 8) (q := o0 + 8) rfl Ty.sl86 rfl rfl (by omega) (by omega) (by omega)) ?_
      refine WP.val rfl rfl rfl (Val.load (v := .int .u8 95) rfl Ty.sc5 rfl (fun w h => hr w (h.at 1 rfl) 8 _ (byt_at hK.sep))) ?_
      refine WP.val rfl rfl rfl (Val.neq rfl rfl rfl) ?_
      refine WP.nil ?_
      refine Out.next ?_
      refine WPc.ifP rfl (fun h7 => ?_) (fun h7 => ?_)
      · skip
        have h7 : ((95 : Int) ≠ (95 : Int)) := h7
        exact absurd rfl h7
      · skip
        have h7 : ¬ ((95 : Int) ≠ (95 : Int)) := h7
        refine WPc.skip ?_
        refine Out.next ?_
        refine WPc.seq ?_
        refine WPc.region ?_
        refine WP.val rfl rfl rfl (Val.move rfl rfl) ?_
        refine WP.val rfl rfl rfl (Val.slice (lo := 0) (hi := 8) (j := o0) (vlo := some (.i64, (0 : Int))) (vhi := some (.i64, (8 : Int))) rfl Ty.sl86 rfl rfl rfl (by simp [bnd]; try omega) (by simp [bnd]; try omega) (by omega) (by omega) (by omega) (by simp)) ?_
        refine WP.perm pl1 ?_
        refine WP.eff rfl rfl rfl (Eff.call rfl rfl Try.call119 (get64_spec A b0 o0 8 c0 l (fun w h k hk => rng_x8 (hr w h) (by omega)) (by omega))) ?_
        rintro _ _ ⟨_, ⟨rfl, rfl⟩, rfl⟩
        show WP _ _ _ _ _ _ _ (A :: Blk b1 [.int .i64 0, .int .i64 0, .bool false] 159 :: F)
        refine WP.val rfl rfl rfl (Val.conv (z := IntKind.wrap .i64 (de8 l)) rfl Ty.ik2 Ty.un235 rfl rfl) ?_
        refine WP.know 22 (.int .i64 m) rfl (by rw [hK.main]) ?_
        refine WP.val rfl rfl rfl (Val.assign rfl rfl) ?_
        refine WP.nil ?_
        refine Out.next ?_
        refine WPc.seq ?_
        refine WPc.region ?_
        refine WP.val rfl rfl rfl (Val.move rfl rfl) ?_
        refine WP.val rfl rfl rfl (Val.slice (lo := 9) (hi := l.length) (j := o0 + 9) (vlo := some (.i64, (9 : Int))) (vhi := none) rfl Ty.sl86 rfl rfl rfl (by simp [bnd]; try omega) (by simp [bnd]; try omega) (by omega) (by omega) (by omega) (by rw [if_neg (by omega)]; all_goals omega)) ?_
        refine WP.eff rfl rfl rfl (Eff.call rfl rfl Try.call119 (get64_spec A b0 (o0 + 9) (l.length - 9) (c0 - 9) (l.drop 9) (fun w h k hk => rng_x8d (hr w h) (by omega)) (by omega))) ?_
        rintro _ _ ⟨_, ⟨rfl, rfl⟩, rfl⟩
        show WP _ _ _ _ _ _ _ (A :: Blk b1 [.int .i64 0, .int .i64 0, .bool false] 159 :: F)
        refine WP.val rfl rfl rfl (Val.conv (z := IntKind.wrap .i64 (de8 (l.drop 9))) rfl Ty.ik2 Ty.un235 rfl rfl) ?_
        refine WP.know 26 (.int .i64 s) rfl (by rw [hK.sub]) ?_
        refine WP.val rfl rfl rfl (Val.assign rfl rfl) ?_
        refine WP.nil ?_
        refine Out.next ?_
        refine WPc.seq ?_
        refine WPc.seq ?_
        refine WPc.region ?_
        refine WP.val rfl rfl rfl (Val.move rfl rfl) ?_
        refine WP.val rfl rfl rfl (Val.lss rfl rfl rfl) ?_
        refine WP.val rfl rfl rfl (Val.move rfl rfl) ?_
        refine WP.split 29 rfl (fun h8 => ?_) (fun h8 => ?_)
        · skip
          have h8 : (m < (0 : Int)) := h8
          exfalso; omega
        · skip
          have h8 : ¬ (m < (0 : Int)) := h8
          refine WP.valG rfl rfl rfl rfl rfl rfl rfl (Val.move rfl rfl) ?_
          refine WP.valG rfl rfl rfl rfl rfl rfl rfl (Val.lss rfl rfl rfl) ?_
          refine WP.val rfl rfl rfl (Val.pickF rfl rfl rfl) ?_
          refine WP.nil ?_
          refine Out.next ?_
          refine WPc.ifP rfl (fun h9 => ?_) (fun h9 => ?_)
          · skip
            have h9 : (s < (0 : Int)) := h9
            exfalso; omega
          · skip
            have h9 : ¬ (s < (0 : Int)) := h9
            refine WPc.skip ?_
            refine Out.next ?_
            refine WPc.seq ?_
            refine WPc.region ?_
            refine WP.val rfl rfl rfl (Val.move rfl rfl) ?_
            refine WP.val rfl rfl rfl (Val.move rfl rfl) ?_
            refine WP.val rfl rfl rfl (Val.mk (cs := [.int .i64 (m), .int .i64 (s)]) rfl rfl (fun _ => by kernel_rfl)) ?_
            refine WP.val rfl rfl rfl (Val.move rfl rfl) ?_
            refine WP.eff rfl rfl rfl (Eff.call rfl rfl Try.call120 (tomb_spec A b0 o0 c0 l m s t hr hc hK)) ?_
            rintro _ _ ⟨_, ⟨rfl, rfl⟩, rfl⟩
            show WP _ _ _ _ _ _ _ (A :: Blk b1 [.int .i64 0, .int .i64 0, .bool false] 159 :: F)
            refine WP.val rfl rfl rfl (Val.mk (cs := [.int .i64 (m), .int .i64 (s), .bool (t)]) rfl rfl (fun _ => by kernel_rfl)) ?_
            refine WP.perm pl1 ?_
            refine WP.eff0 rfl rfl (Eff.storeAgg (cs := [.int .i64 (m), .int .i64 (s), .bool (t)]) (C' := [.int .i64 (m), .int .i64 (s), .bool (t)]) rfl Ty.ag159 rfl rfl rfl rfl (by simp) rfl) ?_
            rintro _ _ rfl
            refine WP.nil ?_
            refine Out.next ?_
            refine WPc.ret ?_
            exact Out.retRun (L' := [A]) (results_cell (cs := [.int .i64 (m), .int .i64 (s), .bool (t)]) Try.results96 Ty.ag159 rfl rfl (fun w h => h.range 0 rfl rfl)) ⟨rfl, rfl⟩ (fun w h => h.drop)
set_option maxRecDepth 100000 in
set_option maxHeartbeats 1000000 in
theorem torev_spec (A : HProp) (b0 o0 c0 : Nat) (l : List UInt8) (m s : Int) (t : Bool) (hr : ∀ w, Holds A w → w.rangeAt b0 o0 (byt l)) (hc : l.length ≤ c0) (hK : IsKeyB l m s t) : Does Try.prog 94 [.slice (some ⟨b0, o0, none⟩) l.length c0] [A] (fun v L => v = .agg #[.int .i64 m, .int .i64 s] ∧ L = [A]) := by
  refine Does.enter 6 Try.func94 rfl rfl rfl fun W F => ?_
  show WPc _ _ _ _ _ [(0, .slice (some ⟨b0, o0, none⟩) l.length c0)] (A :: F)
  refine WPc.seq ?_
  refine WPc.region ?_
  refine WP.eff rfl rfl rfl (Eff.alloc rfl Ty.z144) ?_
  rintro _ _ ⟨b1, rfl, rfl⟩
  refine WP.nil ?_
  refine Out.next ?_
  refine WPc.seq ?_
  refine WPc.region ?_
  refine WP.val rfl rfl rfl (Val.move rfl rfl) ?_
  refine WP.perm pl1 ?_
  refine WP.eff rfl rfl rfl (Eff.call rfl rfl Try.call96 (tokey_spec A b0 o0 c0 l m s t hr hc hK)) ?_
  rintro _ _ ⟨_, ⟨rfl, rfl⟩, rfl⟩
  show WP _ _ _ _ _ _ _ (A :: Blk b1 [.int .i64 0, .int .i64 0] 144 :: F)
  refine WP.val rfl rfl rfl (Val.fieldAgg (ds := [.int .i64 (m), .int .i64 (s)]) rfl Ty.fa159_0 rfl rfl) ?_
  refine WP.perm pl1 ?_
  refine WP.eff0 rfl rfl (Eff.storeAgg (cs := [.int .i64 (m), .int .i64 (s)]) (C' := [.int .i64 (m), .int .i64 (s)]) rfl Ty.ag144 rfl rfl rfl rfl (by simp) rfl) ?_
  rintro _ _ rfl
  refine WP.nil ?_
  refine Out.next ?_
  refine WPc.ret ?_
  exact Out.retRun (L' := [A]) (results_cell (cs := [.int .i64 (m), .int .i64 (s)]) Try.results94 Ty.ag144 rfl rfl (fun w h => h.range 0 rfl rfl)) ⟨rfl, rfl⟩ (fun w h => h.drop)
set_option maxRecDepth 100000 in
set_option maxHeartbeats 1000000 in
theorem gt_spec (a b c d : Int) : Does Try.prog 95 [.agg #[.int .i64 (a), .int .i64 (b)], .agg #[.int .i64 (c), .int .i64 (d)]] [] (fun v L => v = .bool (rgt a b c d) ∧ L = []) := by
  refine Does.enter 20 Try.func95 rfl rfl rfl fun W F => ?_
  show WPc _ _ _ _ _ [(0, .agg #[.int .i64 (a), .int .i64 (b)]), (1, .agg #[.int .i64 (c), .int .i64 (d)])] (F)
  refine WPc.seq ?_
  refine WPc.region ?_
  refine WP.eff rfl rfl rfl (Eff.box (C := [.int .i64 (a), .int .i64 (b)]) rfl rfl rfl) ?_
  rintro _ _ ⟨b1, rfl, rfl⟩
  refine WP.eff rfl rfl rfl (Eff.box (C := [.int .i64 (c), .int .i64 (d)]) rfl rfl rfl) ?_
  rintro _ _ ⟨b2, rfl, rfl⟩
  refine WP.val rfl rfl rfl (Val.assign rfl rfl) ?_
  refine WP.nil ?_
  refine Out.next ?_
  refine WPc.seq ?_
  refine WPc.seq ?_
  refine WPc.region ?_
  refine WP.val rfl rfl rfl (Val.fieldAddr (j := 0) rfl Ty.fo144_0 rfl rfl) ?_
  refine WP.val rfl rfl rfl (Val.load rfl Ty.sc2 rfl (fun w h => h.cell 1 rfl rfl)) ?_
  refine WP.val rfl rfl rfl (Val.fieldAddr (j := 0) rfl Ty.fo144_0 rfl rfl) ?_
  refine WP.val rfl rfl rfl (Val.load rfl Ty.sc2 rfl (fun w h => h.cell 0 rfl rfl)) ?_
  refine WP.val rfl rfl rfl (Val.gtr rfl rfl rfl) ?_
  refine WP.nil ?_
  refine Out.next ?_
  refine WPc.ifP rfl (fun h1 => ?_) (fun h1 => ?_)
  · skip
    have h1 : (c < a) := h1
    refine WPc.seq ?_
    refine WPc.region ?_
    refine WP.val rfl rfl rfl (Val.assign rfl rfl) ?_
    refine WP.nil ?_
    refine Out.next ?_
    refine WPc.ret ?_
    refine Out.then_ret ?_
    refine Out.drop ?_
    refine Out.drop ?_
    exact Out.ret1 (L' := []) Try.results95 rfl ⟨congrArg Value.bool (show _ = decide (a > c ∨ (a = c ∧ b > d)) by rw [decide_eq_true (by omega)]), rfl⟩ (fun _ h => h)
  · skip
    have h1 : ¬ (c < a) := h1
    refine WPc.skip ?_
    refine Out.next ?_
    refine WPc.seq ?_
    refine WPc.seq ?_
    refine WPc.region ?_
    refine WP.val rfl rfl rfl (Val.fieldAddr (j := 0) rfl Ty.fo144_0 rfl rfl) ?_
    refine WP.val rfl rfl rfl (Val.load rfl Ty.sc2 rfl (fun w h => h.cell 1 rfl rfl)) ?_
    refine WP.val rfl rfl rfl (Val.fieldAddr (j := 0) rfl Ty.fo144_0 rfl rfl) ?_
    refine WP.val rfl rfl rfl (Val.load rfl Ty.sc2 rfl (fun w h => h.cell 0 rfl rfl)) ?_
    refine WP.val rfl rfl rfl (Val.lss rfl rfl rfl) ?_
    refine WP.nil ?_
    refine Out.next ?_
    refine WPc.ifP rfl (fun h2 => ?_) (fun h2 => ?_)
    · skip
      have h2 : (a < c) := h2
      refine WPc.seq ?_
      refine WPc.region ?_
      refine WP.val rfl rfl rfl (Val.assign rfl rfl) ?_
      refine WP.nil ?_
      refine Out.next ?_
      refine WPc.ret ?_
      refine Out.then_ret ?_
      refine Out.drop ?_
      refine Out.drop ?_
      exact Out.ret1 (L' := []) Try.results95 rfl ⟨congrArg Value.bool (show _ = decide (a > c ∨ (a = c ∧ b > d)) by rw [decide_eq_false (by omega)]), rfl⟩ (fun _ h => h)
    · skip
      have h2 : ¬ (a < c) := h2
      refine WPc.skip ?_
      refine Out.next ?_
      refine WPc.seq ?_
      refine WPc.region ?_
      refine WP.val rfl rfl rfl (Val.fieldAddr (j := 1) rfl Ty.fo144_1 rfl rfl) ?_
      refine WP.val rfl rfl rfl (Val.load rfl Ty.sc2 rfl (fun w h => h.cell 1 rfl rfl)) ?_
      refine WP.val rfl rfl rfl (Val.fieldAddr (j := 1) rfl Ty.fo144_1 rfl rfl) ?_
      refine WP.val rfl rfl rfl (Val.load rfl Ty.sc2 rfl (fun w h => h.cell 0 rfl rfl)) ?_
      refine WP.val rfl rfl rfl (Val.gtr rfl rfl rfl) ?_
      refine WP.val rfl rfl rfl (Val.assign rfl rfl) ?_
      refine WP.nil ?_
      refine Out.next ?_
      refine WPc.ret ?_
      refine Out.drop ?_
      refine Out.drop ?_
      exact Out.ret1 (L' := []) Try.results95 rfl ⟨congrArg Value.bool (show _ = decide (a > c ∨ (a = c ∧ b > d)) by exact decide_eq_decide.2 (by omega)), rfl⟩ (fun _ h => h)
set_option maxRecDepth 100000 in
set_option maxHeartbeats 1000000 in
theorem newkey_spec (m s : Int) (t : Bool) : Does Try.prog 98 [.int .i64 (m), .int .i64 (s), .bool (t)] [] (fun v L => v = .agg #[.int .i64 m, .int .i64 s, .bool t] ∧ L = []) := by
  refine Does.enter 12 Try.func98 rfl rfl rfl fun W F => ?_
  show WPc _ _ _ _ _ [(0, .int .i64 (m)), (1, .int .i64 (s)), (2, .bool (t))] (F)
  refine WPc.seq ?_
  refine WPc.region ?_
  refine WP.eff rfl rfl rfl (Eff.alloc rfl Ty.z159) ?_
  rintro _ _ ⟨b1, rfl, rfl⟩
  refine WP.nil ?_
  refine Out.next ?_
  refine WPc.seq ?_
  refine WPc.region ?_
  refine WP.val rfl rfl rfl (Val.move rfl rfl) ?_
  refine WP.val rfl rfl rfl (Val.move rfl rfl) ?_
  refine WP.val rfl rfl rfl (Val.mk (cs := [.int .i64 (m), .int .i64 (s)]) rfl rfl (fun _ => by kernel_rfl)) ?_
  refine WP.val rfl rfl rfl (Val.move rfl rfl) ?_
  refine WP.val rfl rfl rfl (Val.mk (cs := [.int .i64 (m), .int .i64 (s), .bool (t)]) rfl rfl (fun _ => by kernel_rfl)) ?_
  refine WP.eff0 rfl rfl (Eff.storeAgg (cs := [.int .i64 (m), .int .i64 (s), .bool (t)]) (C' := [.int .i64 (m), .int .i64 (s), .bool (t)]) rfl Ty.ag159 rfl rfl rfl rfl (by simp) rfl) ?_
  rintro _ _ rfl
  refine WP.nil ?_
  refine Out.next ?_
  refine WPc.ret ?_
  exact Out.retRun (L' := []) (results_cell (cs := [.int .i64 (m), .int .i64 (s), .bool (t)]) Try.results98 Ty.ag159 rfl rfl (fun w h => h.range 0 rfl rfl)) ⟨rfl, rfl⟩ (fun w h => h.drop)
set_option maxRecDepth 100000 in
set_option maxHeartbeats 1000000 in
theorem zzkey_spec (m s : Int) (t : Bool) : Does Try.prog 70 [.agg #[.int .i64 (m), .int .i64 (s)], .bool (t)] [] (fun v L => v = .agg #[.int .i64 m, .int .i64 s, .bool t] ∧ L = []) := by
  refine Does.enter 11 Try.func70 rfl rfl rfl fun W F => ?_
  show WPc _ _ _ _ _ [(0, .agg #[.int .i64 (m), .int .i64 (s)]), (1, .bool (t))] (F)
  refine WPc.seq ?_
  refine WPc.region ?_
  refine WP.eff rfl rfl rfl (Eff.box (C := [.int .i64 (m), .int .i64 (s)]) rfl rfl rfl) ?_
  rintro _ _ ⟨b1, rfl, rfl⟩
  refine WP.eff rfl rfl rfl (Eff.alloc rfl Ty.z159) ?_
  rintro _ _ ⟨b2, rfl, rfl⟩
  refine WP.nil ?_
  refine Out.next ?_
  refine WPc.seq ?_
  refine WPc.region ?_
  refine WP.val rfl rfl rfl (Val.fieldAddr (j := 0) rfl Ty.fo144_0 rfl rfl) ?_
  refine WP.val rfl rfl rfl (Val.load rfl Ty.sc2 rfl (fun w h => h.cell 1 rfl rfl)) ?_
  refine WP.val rfl rfl rfl (Val.fieldAddr (j := 1) rfl Ty.fo144_1 rfl rfl) ?_
  refine WP.val rfl rfl rfl (Val.load rfl Ty.sc2 rfl (fun w h => h.cell 1 rfl rfl)) ?_
  refine WP.val rfl rfl rfl (Val.move rfl rfl) ?_
  refine WP.eff rfl rfl rfl (Eff.call rfl rfl Try.call98 (newkey_spec m s t)) ?_
  rintro _ _ ⟨_, ⟨rfl, rfl⟩, rfl⟩
  show WP _ _ _ _ _ _ _ (Blk b2 [.int .i64 0, .int .i64 0, .bool false] 159 :: Blk b1 [.int .i64 (m), .int .i64 (s)] 144 :: F)
  refine WP.eff0 rfl rfl (Eff.storeAgg (cs := [.int .i64 (m), .int .i64 (s), .bool (t)]) (C' := [.int .i64 (m), .int .i64 (s), .bool (t)]) rfl Ty.ag159 rfl rfl rfl rfl (by simp) rfl) ?_
  rintro _ _ rfl
  refine WP.nil ?_
  refine Out.next ?_
  refine WPc.ret ?_
  refine Out.perm pl1 ?_
  refine Out.drop ?_
  exact Out.retRun (L' := []) (results_cell (cs := [.int .i64 (m), .int .i64 (s), .bool (t)]) Try.results70 Ty.ag159 rfl rfl (fun w h => h.range 0 rfl rfl)) ⟨rfl, rfl⟩ (fun w h => h.drop)
set_option maxRecDepth 100000 in
set_option maxHeartbeats 1000000 in
theorem revin_spec (m s : Int) : Does Try.prog 69 [.agg #[.int .i64 (m), .int .i64 (s)]] [] (fun v L => v = .agg #[.int .i64 m, .int .i64 s] ∧ L = []) := by
  refine Does.enter 8 Try.func69 rfl rfl rfl fun W F => ?_
  show WPc _ _ _ _ _ [(0, .agg #[.int .i64 (m), .int .i64 (s)])] (F)
  refine WPc.seq ?_
  refine WPc.region ?_
  refine WP.eff rfl rfl rfl (Eff.box (C := [.int .i64 (m), .int .i64 (s)]) rfl rfl rfl) ?_
  rintro _ _ ⟨b1, rfl, rfl⟩
  refine WP.eff rfl rfl rfl (Eff.alloc rfl Ty.z144) ?_
  rintro _ _ ⟨b2, rfl, rfl⟩
  refine WP.nil ?_
  refine Out.next ?_
  refine WPc.seq ?_
  refine WPc.region ?_
  refine WP.val rfl rfl rfl (Val.fieldAddr (j := 0) rfl Ty.fo47_0 rfl rfl) ?_
  refine WP.val rfl rfl rfl (Val.load rfl Ty.sc2 rfl (fun w h => h.cell 1 rfl rfl)) ?_
  refine WP.val rfl rfl rfl (Val.fieldAddr (j := 1) rfl Ty.fo47_1 rfl rfl) ?_
  refine WP.val rfl rfl rfl (Val.load rfl Ty.sc2 rfl (fun w h => h.cell 1 rfl rfl)) ?_
  refine WP.val rfl rfl rfl (Val.mk (cs := [.int .i64 (m), .int .i64 (s)]) rfl rfl (fun _ => by kernel_rfl)) ?_
  refine WP.eff0 rfl rfl (Eff.storeAgg (cs := [.int .i64 (m), .int .i64 (s)]) (C' := [.int .i64 (m), .int .i64 (s)]) rfl Ty.ag144 rfl rfl rfl rfl (by simp) rfl) ?_
  rintro _ _ rfl
  refine WP.nil ?_
  refine Out.next ?_
  refine WPc.ret ?_
  refine Out.perm pl1 ?_
  refine Out.drop ?_
  exact Out.retRun (L' := []) (results_cell (cs := [.int .i64 (m), .int .i64 (s)]) Try.results69 Ty.ag144 rfl rfl (fun w h => h.range 0 rfl rfl)) ⟨rfl, rfl⟩ (fun w h => h.drop)

end Go.Proofs.Ythmkdioafjmclaa.Hr
