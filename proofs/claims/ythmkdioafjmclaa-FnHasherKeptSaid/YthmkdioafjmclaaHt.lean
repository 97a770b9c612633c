import Derived.Test.YthmkdioafjmclaaHj
namespace Go.Proofs.Ythmkdioafjmclaa.Ht
open Go.RowKit Go.Proofs.Ythmkdioafjmclaa Go.Proofs.Ythmkdioafjmclaa.Sl Go.Proofs.Ythmkdioafjmclaa.Hc Go.Proofs.Ythmkdioafjmclaa.Hp Go.Proofs.Ythmkdioafjmclaa.Hm Go.Proofs.Ythmkdioafjmclaa.Hb Go.Proofs.Ythmkdioafjmclaa.Hk Go.Proofs.Ythmkdioafjmclaa.Hr Go.Proofs.Ythmkdioafjmclaa.Hy Go.Proofs.Ythmkdioafjmclaa.Hn Go.Proofs.Ythmkdioafjmclaa.Hw Go.Proofs.Ythmkdioafjmclaa.Hl Go.Proofs.Ythmkdioafjmclaa.Hz Go.Proofs.Ythmkdioafjmclaa.Ho Go.Proofs.Ythmkdioafjmclaa.Hx Go.Proofs.Ythmkdioafjmclaa.Hs Go.Proofs.Ythmkdioafjmclaa.Hh Go.Proofs.Ythmkdioafjmclaa.Hi Go.Proofs.Ythmkdioafjmclaa.Hj
set_option linter.unusedVariables false
set_option linter.unusedSimpArgs false
set_option linter.unusedSectionVars false


def liveRow : Rw := ⟨2, 0, false, ⟨⟨#[107]⟩, ⟨#[118]⟩, 2, 2, 1, 0⟩⟩
theorem live_ok : ∀ x ∈ [liveRow], RwOk x := fun x hx => by
  have : x = liveRow := by simpa using hx
  subst this
  exact ⟨by decide, by decide, by decide, by decide, by decide, by decide, by decide, by decide⟩
theorem live_ne : hashOf (-1) 9 [] [liveRow] ≠ hashOf (-1) 9 [] [] := by
  have h1 : hashOf (-1) 9 [] [] = crcWrite 0 keyN := rfl
  have h2 : hashOf (-1) 9 [] [liveRow] = crcWrite (crcWrite (crcWrite 0 keyN) (bkey 2 0 false)) (marsh ⟨⟨#[107]⟩, ⟨#[118]⟩, 2, 2, 1, 0⟩) := by
    show wkv (-1) 9 [] (crcWrite 0 keyN) (bkey 2 0 false) 2 0 false (marsh ⟨⟨#[107]⟩, ⟨#[118]⟩, 2, 2, 1, 0⟩) = _
    unfold wkv
    rw [if_neg (by decide), if_neg (by simp), if_neg (by decide)]
  rw [h1, h2]
  exact of_decide_eq_false row_live
set_option maxRecDepth 100000 in
set_option maxHeartbeats 1000000 in
theorem two_spec : Does Try.prog 19 [] [] (fun v L => v = .bool true ∧ L = []) := by
  refine Does.enter 10 Try.func19 rfl rfl rfl fun W F => ?_
  show WPc _ _ _ _ _ [] (F)
  refine WPc.seq ?_
  refine WPc.region ?_
  refine WP.val rfl rfl rfl (Val.assign rfl rfl) ?_
  refine WP.nil ?_
  refine Out.next ?_
  refine WPc.seq ?_
  refine WPc.region ?_
  refine WP.val rfl rfl rfl (Val.mk (cs := [.int .i64 2, .int .i64 0]) rfl rfl (fun _ => by kernel_rfl)) ?_
  refine WP.val rfl rfl rfl (Val.mk (cs := [.string (⟨#[107]⟩), .string (⟨#[118]⟩), .int .i64 2, .int .i64 2, .int .i64 1, .int .i64 0]) rfl rfl (fun _ => by kernel_rfl)) ?_
  refine WP.val rfl rfl rfl (Val.mk (cs := [.int .i64 2, .int .i64 0, .bool false, .string (⟨#[107]⟩), .string (⟨#[118]⟩), .int .i64 2, .int .i64 2, .int .i64 1, .int .i64 0]) rfl rfl (fun _ => by kernel_rfl)) ?_
  refine WP.eff rfl rfl rfl (Eff.mkSlice (C := [.int .i64 2, .int .i64 0, .bool false, .string (⟨#[107]⟩), .string (⟨#[118]⟩), .int .i64 2, .int .i64 2, .int .i64 1, .int .i64 0]) rfl Ty.sl42 rfl (fun _ => by kernel_rfl)) ?_
  rintro _ _ ⟨b1, rfl, rfl⟩
  refine WP.val rfl rfl rfl (Val.assign rfl rfl) ?_
  refine WP.nil ?_
  refine Out.next ?_
  refine WPc.seq ?_
  refine WPc.conv (fun w h => Sat.pure_mk (φ := True) trivial h) ?_
  show WPc _ _ _ _ _ _ (Pure True :: Blk b1 [.int .i64 2, .int .i64 0, .bool false, .string (⟨#[107]⟩), .string (⟨#[118]⟩), .int .i64 2, .int .i64 2, .int .i64 1, .int .i64 0] 106 :: F)
  refine WPc.region ?_
  refine WP.val rfl rfl rfl (Val.move rfl rfl) ?_
  refine WP.perm pl1 ?_
  refine WP.eff rfl rfl rfl (Eff.call rfl rfl Try.call22 (hasher_spec (Blk b1 (flatOf Rw.cells [liveRow]) 106) (-1) 9 [] (.slice none 0 0) (.inr ⟨rfl, none, 0, rfl⟩) [liveRow] (.slice (some ⟨b1, 0, none⟩) 1 1) (rd_blk (cf := Rw.cells) (k := 9) Rw.len b1 1 106 [liveRow]) (by decide) (by decide) (by decide) (by decide) (by simp) (by simp) live_ok (by simp))) ?_
  rintro _ _ ⟨_, ⟨rfl, rfl⟩, rfl⟩
  show WP _ _ _ _ _ _ _ (Blk b1 (flatOf Rw.cells [liveRow]) 106 :: Pure True :: F)
  refine WP.perm pl1 ?_
  refine WP.eff rfl rfl rfl (Eff.call rfl rfl Try.call22 (hasher_spec (Pure True) (-1) 9 [] (.slice none 0 0) (.inr ⟨rfl, none, 0, rfl⟩) [] (.slice none 0 0) (.inr ⟨rfl, none, 0, rfl⟩) (by decide) (by decide) (by decide) (by decide) (by simp) (by simp) (by simp) (by simp))) ?_
  rintro _ _ ⟨_, ⟨rfl, rfl⟩, rfl⟩
  show WP _ _ _ _ _ _ _ (Pure True :: Blk b1 (flatOf Rw.cells [liveRow]) 106 :: F)
  refine WP.val rfl rfl rfl (Val.neq rfl rfl rfl) ?_
  refine WP.val rfl rfl rfl (Val.assign rfl rfl) ?_
  refine WP.nil ?_
  refine Out.next ?_
  refine WPc.ret ?_
  refine Out.drop ?_
  refine Out.drop ?_
  exact Out.ret1 (L' := []) Try.results19 rfl ⟨congrArg Value.bool (decide_eq_true live_ne), rfl⟩ (fun _ h => h)

end Go.Proofs.Ythmkdioafjmclaa.Ht
