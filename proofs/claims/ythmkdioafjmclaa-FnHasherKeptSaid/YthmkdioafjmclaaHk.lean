import Derived.Test.YthmkdioafjmclaaHb
namespace Go.Proofs.Ythmkdioafjmclaa.Hk
open Go.RowKit Go.Proofs.Ythmkdioafjmclaa Go.Proofs.Ythmkdioafjmclaa.Sl Go.Proofs.Ythmkdioafjmclaa.Hc Go.Proofs.Ythmkdioafjmclaa.Hp Go.Proofs.Ythmkdioafjmclaa.Hm Go.Proofs.Ythmkdioafjmclaa.Hb
set_option linter.unusedVariables false
set_option linter.unusedSimpArgs false
set_option linter.unusedSectionVars false


def z18 : List Value := (List.replicate 18 [Value.int .u8 0]).flatten
def bkey (m s : Int) (t : Bool) : List UInt8 := be8 (IntKind.wrap .u64 m) ++ [95] ++ be8 (IntKind.wrap .u64 s) ++ (if t then [116] else [])
theorem z18_len : z18.length = 18 := rfl
theorem len17 (m s : Int) : (be8 m ++ [95] ++ be8 s).length = 17 := by simp [be8, beN_len]
theorem z18_8 : 0 + 8 ≤ z18.length := by decide
theorem c1_len (m : Int) : 8 < (putN z18 0 m 8).length := by rw [putN_len m z18_8, z18_len]; decide
theorem c2_len (m : Int) (v : Value) : 9 + 8 ≤ ((putN z18 0 m 8).set 8 v).length := by rw [List.length_set, putN_len m z18_8, z18_len]; decide
theorem put_key (m s : Int) : putN ((putN z18 0 m 8).set 8 (.int .u8 95)) 9 s 8 = byt (be8 m ++ [95] ++ be8 s) ++ [.int .u8 0] := by
  have ha : (byt (beN m 8)).length = 8 := by rw [byt_length, beN_len]
  have e1 : putN z18 0 m 8 = byt (beN m 8) ++ List.replicate 10 (.int .u8 0) := by unfold putN; rfl
  rw [e1, List.set_append_right _ _ (by omega), ha]
  have e2 : (List.replicate 10 (Value.int .u8 0)).set (8 - 8) (.int .u8 95) = .int .u8 95 :: List.replicate 9 (.int .u8 0) := rfl
  rw [e2]
  unfold putN
  have e3 : (byt (beN m 8) ++ (Value.int .u8 95 :: List.replicate 9 (.int .u8 0))).take 9 = byt (beN m 8) ++ [.int .u8 95] := by
    rw [List.take_append, List.take_of_length_le (by omega), ha]; rfl
  have e4 : (byt (beN m 8) ++ (Value.int .u8 95 :: List.replicate 9 (.int .u8 0))).drop (9 + 8) = [.int .u8 0] := by
    rw [List.drop_append, List.drop_of_length_le (by omega), ha]; rfl
  rw [e3, e4, byt_append, byt_append]
  rfl
theorem bkey_len (m s : Int) (t : Bool) : (bkey m s t).length = if t then 18 else 17 := by
  unfold bkey be8
  cases t <;> simp [beN_len]
theorem bkey_8 (m s : Int) (t : Bool) : (bkey m s t)[8]? = some 95 := by
  unfold bkey be8
  rw [List.getElem?_append_left (by simp [beN_len]), List.getElem?_append_left (by simp [beN_len]), List.getElem?_append_right (by simp [beN_len]), beN_len]
  rfl
theorem bkey_17 (m s : Int) : (bkey m s true)[17]? = some 116 := by
  unfold bkey be8
  rw [List.getElem?_append_right (by simp [beN_len])]
  simp [beN_len]
theorem wrap_small {m : Int} (h0 : 0 ≤ m) (h1 : m < 9223372036854775808) : IntKind.wrap .u64 m = m := by
  have e : IntKind.wrap .u64 m = m % 18446744073709551616 := rfl
  rw [e]; omega
theorem bkey_main {m s : Int} {t : Bool} (h0 : 0 ≤ m) (h1 : m < 9223372036854775808) : IntKind.i64.wrap (de8 (bkey m s t)) = m := by
  have e : bkey m s t = be8 m ++ ([95] ++ be8 (IntKind.wrap .u64 s) ++ (if t then [116] else [])) := by unfold bkey; rw [wrap_small h0 h1]; simp
  rw [e, de8_be8 h0 h1]
  exact w64 (by omega) (by omega)
theorem bkey_sub {m s : Int} {t : Bool} (h0 : 0 ≤ s) (h1 : s < 9223372036854775808) : IntKind.i64.wrap (de8 ((bkey m s t).drop 9)) = s := by
  have e : (bkey m s t).drop 9 = be8 s ++ (if t then [116] else []) := by
    unfold bkey
    rw [wrap_small h0 h1, List.append_assoc, List.drop_append, List.drop_of_length_le (by simp [be8, beN_len])]
    simp [be8, beN_len]
  rw [e, de8_be8 h0 h1]
  exact w64 (by omega) (by omega)
set_option maxRecDepth 100000 in
set_option maxHeartbeats 1000000 in
theorem newrev_spec : Does Try.prog 93 [] [] (fun v L => ∃ b, v = .slice (some ⟨b, 0, none⟩) 17 18 ∧ L = [Blk b z18 5]) := by
  refine Does.enter 2 Try.func93 rfl rfl rfl fun W F => ?_
  show WPc _ _ _ _ _ [] (F)
  refine WPc.seq ?_
  refine WPc.region ?_
  refine WP.val rfl rfl rfl (Val.assign rfl rfl) ?_
  refine WP.nil ?_
  refine Out.next ?_
  refine WPc.seq ?_
  refine WPc.region ?_
  refine WP.eff rfl rfl rfl (Eff.makeSlice (m := 17) (c := 18) (z := [.int .u8 0]) rfl Ty.sl86 Ty.z5 rfl rfl rfl rfl rfl (by omega) (by omega) (by omega)) ?_
  rintro _ _ ⟨b1, rfl, rfl⟩
  refine WP.val rfl rfl rfl (Val.assign rfl rfl) ?_
  refine WP.nil ?_
  refine Out.next ?_
  refine WPc.ret ?_
  exact Out.ret1 (L' := _) Try.results93 rfl ⟨b1, rfl, rfl⟩ (fun _ h => h)
set_option maxRecDepth 100000 in
set_option maxHeartbeats 1000000 in
theorem tobytes_spec (b0 : Nat) (m s : Int) (t : Bool) : Does Try.prog 92 [.agg #[.int .i64 (m), .int .i64 (s), .bool (t)], .slice (some ⟨b0, 0, none⟩) 17 18] [Blk b0 z18 5] (fun v L => L = [Own 5 1 v ((bkey m s t).length) (byt (bkey m s t))]) := by
  refine Does.enter 34 Try.func92 rfl rfl rfl fun W F => ?_
  show WPc _ _ _ _ _ [(0, .agg #[.int .i64 (m), .int .i64 (s), .bool (t)]), (1, .slice (some ⟨b0, 0, none⟩) 17 18)] (Blk b0 z18 5 :: F)
  refine WPc.seq ?_
  refine WPc.region ?_
  refine WP.eff rfl rfl rfl (Eff.box (C := [.int .i64 (m), .int .i64 (s), .bool (t)]) rfl rfl rfl) ?_
  rintro _ _ ⟨b1, rfl, rfl⟩
  refine WP.val rfl rfl rfl (Val.assign rfl rfl) ?_
  refine WP.nil ?_
  refine Out.next ?_
  refine WPc.seq ?_
  refine WPc.region ?_
  refine WP.val rfl rfl rfl (Val.move rfl rfl) ?_
  refine WP.val rfl rfl rfl (Val.fieldAddr (j := 0) rfl Ty.fo159_0 rfl rfl) ?_
  refine WP.val rfl rfl rfl (Val.fieldAddr (j := 0) rfl Ty.fo144_0 rfl rfl) ?_
  refine WP.val rfl rfl rfl (Val.load rfl Ty.sc2 rfl (fun w h => h.cell 0 rfl rfl)) ?_
  refine WP.val rfl rfl rfl (Val.conv (z := IntKind.wrap .u64 m) rfl Ty.ik235 Ty.un2 rfl rfl) ?_
  refine WP.perm pl1 ?_
  refine WP.eff rfl rfl rfl (Eff.call rfl rfl Try.call118 (put64_spec b0 0 17 18 (IntKind.wrap .u64 m) z18 5 z18_8 (by omega))) ?_
  rintro _ _ ⟨_, ⟨rfl, rfl⟩, rfl⟩
  show WP _ _ _ _ _ _ _ (Blk b0 (putN z18 0 (IntKind.wrap .u64 m) 8) 5 :: Blk b1 [.int .i64 (m), .int .i64 (s), .bool (t)] 159 :: F)
  refine WP.nil ?_
  refine Out.next ?_
  refine WPc.seq ?_
  refine WPc.region ?_
  refine WP.val rfl rfl rfl (Val.move rfl rfl) ?_
  refine WP.val rfl rfl rfl (Val.indexAddr (j := 8) (q := 8) rfl Ty.sl86 rfl rfl (by omega) (by omega) (by omega)) ?_
  refine WP.eff0 rfl rfl (Eff.store (C' := (putN z18 0 (IntKind.wrap .u64 m) 8).set 8 (.int .u8 95)) rfl Ty.sc5 rfl rfl rfl (c1_len _) rfl) ?_
  rintro _ _ rfl
  refine WP.nil ?_
  refine Out.next ?_
  refine WPc.seq ?_
  refine WPD.start (Sat W (Blk b0 ((putN z18 0 (IntKind.wrap .u64 m) 8).set 8 (.int .u8 95)) 5 :: Blk b1 [.int .i64 (m), .int .i64 (s), .bool (t)] 159 :: F)) Ty.mixed ?_
  refine WPD.takeM 0 rfl rfl rfl rfl (by kernel_rfl) (by kernel_rfl) (by kernel_rfl) (by kernel_rfl) (fun _ _ _ h => h) (fun _ h => h) (Val.move rfl rfl) ?_
  refine WPD.take 1 rfl rfl rfl rfl (by kernel_rfl) (by kernel_rfl) (by kernel_rfl) (by kernel_rfl) (fun _ _ _ h => h) (by kernel_rfl) (fun _ h => h) (Val.slice (lo := 9) (hi := 17) (j := 9) (vlo := some (.i64, (9 : Int))) (vhi := none) rfl Ty.sl86 rfl rfl rfl (by simp [bnd]; try omega) (by simp [bnd]; try omega) (by omega) (by omega) (by omega) (by rw [if_neg (by omega)]; all_goals omega)) ?_
  refine WPD.takeM 2 rfl rfl rfl rfl (by kernel_rfl) (by kernel_rfl) (by kernel_rfl) (by kernel_rfl) (fun _ _ _ h => h) (fun _ h => h) (Val.fieldAddr (j := 0) rfl Ty.fo159_0 rfl rfl) ?_
  refine WPD.takeM 3 rfl rfl rfl rfl (by kernel_rfl) (by kernel_rfl) (by kernel_rfl) (by kernel_rfl) (fun _ _ _ h => h) (fun _ h => h) (Val.fieldAddr (j := 1) rfl Ty.fo144_1 rfl rfl) ?_
  refine WPD.take 4 rfl rfl rfl rfl (by kernel_rfl) (by kernel_rfl) (by kernel_rfl) (by kernel_rfl) (fun _ _ _ h => h) (by kernel_rfl) (fun _ h => h) (Val.load rfl Ty.sc2 rfl (fun w h => h.cell 1 rfl rfl)) ?_
  refine WPD.take 5 rfl rfl rfl rfl (by kernel_rfl) (by kernel_rfl) (by kernel_rfl) (by kernel_rfl) (fun _ _ _ h => h) (by kernel_rfl) (fun _ h => h) (Val.conv (z := IntKind.wrap .u64 s) rfl Ty.ik235 Ty.un2 rfl rfl) ?_
  refine WPD.stepC 6 (by kernel_rfl) rfl rfl rfl rfl (by kernel_rfl) (Eff.call rfl rfl Try.call118 (put64_spec b0 9 (17 - 9) (18 - 9) (IntKind.wrap .u64 s) ((putN z18 0 (IntKind.wrap .u64 m) 8).set 8 (.int .u8 95)) 5 (c2_len _ _) (by omega))) ?_
  rintro _ _ ⟨_, ⟨rfl, rfl⟩, rfl⟩
  refine ⟨(Sat W (Blk b0 (putN ((putN z18 0 (IntKind.wrap .u64 m) 8).set 8 (.int .u8 95)) 9 (IntKind.wrap .u64 s) 8) 5 :: Blk b1 [.int .i64 (m), .int .i64 (s), .bool (t)] 159 :: F)), (fun _ h => h), ?_⟩
  show WPD _ _ _ _ _ _ _ _ _ (Blk b0 (putN ((putN z18 0 (IntKind.wrap .u64 m) 8).set 8 (.int .u8 95)) 9 (IntKind.wrap .u64 s) 8) 5 :: Blk b1 [.int .i64 (m), .int .i64 (s), .bool (t)] 159 :: F)
  refine WPD.done (by kernel_rfl) ?_
  refine Out.next ?_
  refine WPc.seq ?_
  refine WPc.seq ?_
  have hl17 : (byt (be8 (IntKind.wrap .u64 m) ++ [95] ++ be8 (IntKind.wrap .u64 s))).length = 17 := by rw [byt_length]; simp [be8, beN_len]
  refine WPc.conv (M := Own 5 1 (.slice (some ⟨b0, 0, none⟩) 17 18) 17 (byt (be8 (IntKind.wrap .u64 m) ++ [95] ++ be8 (IntKind.wrap .u64 s))) :: Blk b1 [.int .i64 (m), .int .i64 (s), .bool (t)] 159 :: F) (fun w h => by rw [put_key] at h; exact h.ownMk (by omega) (by rw [hl17]) rfl (by decide)) ?_
  refine WPc.region ?_
  refine WP.val rfl rfl rfl (Val.fieldAddr (j := 2) rfl Ty.fo159_1 rfl rfl) ?_
  refine WP.val rfl rfl rfl (Val.load rfl Ty.sc4 rfl (fun w h => h.cell 1 rfl rfl)) ?_
  refine WP.nil ?_
  refine Out.next ?_
  refine WPc.cond rfl (fun h1 => ?_) (fun h1 => ?_)
  · skip
    have h1 : (t) = true := h1
    refine WPc.seq ?_
    refine WPc.region ?_
    refine WP.val rfl rfl rfl (Val.move rfl rfl) ?_
    refine WP.val rfl rfl rfl (Val.len rfl Ty.sl86 rfl) ?_
    refine WP.nil ?_
    refine Out.next ?_
    refine WPc.block ?_
    refine WPc.seq ?_
    refine WPc.region ?_
    refine WP.val rfl rfl rfl (Val.eql rfl rfl rfl) ?_
    refine WP.val rfl rfl rfl (Val.assign rfl rfl) ?_
    refine WP.nil ?_
    refine Out.next ?_
    refine WPc.ifP rfl (fun h2 => ?_) (fun h2 => ?_)
    · skip
      have h2 : ((17 : Int) = (17 : Int)) := h2
      refine WPc.region ?_
      refine WP.val rfl rfl rfl (Val.move rfl rfl) ?_
      refine WP.eff rfl rfl rfl (Eff.mkSlice (C := [.int .u8 116]) rfl Ty.sl86 rfl (fun _ => by kernel_rfl)) ?_
      rintro _ _ ⟨b2, rfl, rfl⟩
      refine WP.perm pl1 ?_
      refine WP.eff rfl rfl rfl (Eff.append (m := 1) (n0 := 17) (news := [.int .u8 116]) rfl Ty.sl86 Ty.z5 rfl rfl rfl (.slice Ty.sl86 rfl rfl (fun w h => cells_range (h.range 1 rfl rfl))) (by omega) (by omega)) ?_
      rintro v3 _ ⟨onev3, rfl⟩
      refine WP.val rfl rfl rfl (Val.assign rfl rfl) ?_
      refine WP.nil ?_
      refine Out.block ?_
      refine Out.next ?_
      refine WPc.seq ?_
      refine WPc.region ?_
      refine WP.val rfl rfl rfl (Val.move rfl rfl) ?_
      refine WP.val rfl rfl rfl (Val.assign rfl rfl) ?_
      refine WP.nil ?_
      refine Out.next ?_
      refine WPc.ret ?_
      have he : bkey m s t = be8 (IntKind.wrap .u64 m) ++ [95] ++ be8 (IntKind.wrap .u64 s) ++ [116] := by
        have ht : t = true := by assumption
        subst ht; rfl
      refine Out.perm pl1 ?_
      refine Out.drop ?_
      refine Out.perm pl1 ?_
      refine Out.drop ?_
      exact Out.ret1 (L' := _) Try.results92 rfl rfl (fun w h => by rw [he, byt_append, List.length_append, len17]; exact h)
    · skip
      have h2 : ¬ ((17 : Int) = (17 : Int)) := h2
      exact absurd rfl h2
  · skip
    have h1 : (t) = false := h1
    refine WPc.skip ?_
    refine Out.next ?_
    refine WPc.seq ?_
    refine WPc.region ?_
    refine WP.val rfl rfl rfl (Val.move rfl rfl) ?_
    refine WP.val rfl rfl rfl (Val.assign rfl rfl) ?_
    refine WP.nil ?_
    refine Out.next ?_
    refine WPc.ret ?_
    have he : bkey m s t = be8 (IntKind.wrap .u64 m) ++ [95] ++ be8 (IntKind.wrap .u64 s) ++ [] := by
      have ht : t = false := by assumption
      subst ht; rfl
    refine Out.perm pl1 ?_
    refine Out.drop ?_
    exact Out.ret1 (L' := _) Try.results92 rfl rfl (fun w h => by rw [he, List.append_nil, len17]; exact h)

end Go.Proofs.Ythmkdioafjmclaa.Hk
