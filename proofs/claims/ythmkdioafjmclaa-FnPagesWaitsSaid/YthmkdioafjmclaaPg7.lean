import Derived.Test.YthmkdioafjmclaaPg6
namespace Go.Proofs.Ythmkdioafjmclaa.Pg7
open Go.RowKit Go.Proofs.Ythmkdioafjmclaa Go.Proofs.Ythmkdioafjmclaa.Sl Go.Proofs.Ythmkdioafjmclaa.PgModel Go.Proofs.Ythmkdioafjmclaa.Pg Go.Proofs.Ythmkdioafjmclaa.Pg2 Go.Proofs.Ythmkdioafjmclaa.Pg3 Go.Proofs.Ythmkdioafjmclaa.Pg4 Go.Proofs.Ythmkdioafjmclaa.Pg5 Go.Proofs.Ythmkdioafjmclaa.Pg6
set_option linter.unusedVariables false
set_option linter.unusedSimpArgs false


theorem wr_len {page B off : Nat} {pend p : List UInt8} : (wr page B off pend p).1.length ≤ 2 := by
  have hr : ∀ q r, (rest page off q r).1.length ≤ 2 := by
    intro q r
    have := @outs_len q
    unfold rest
    split
    · simp; omega
    · exact Nat.le_trans this (by omega)
  unfold wr
  split
  · simp
  · split
    · split
      · simp
      · exact hr _ _
    · exact hr _ _
def liveOps : List PgOp := [⟨⟨#[97, 98, 99]⟩, false⟩, ⟨⟨#[]⟩, true⟩]
theorem live_answers : answers 8 64 (0, []) liveOps = [(3, []), (0, [str [97, 98, 99]])] := by rfl
theorem two_keys {an : List An} {a b : Int} {p q : List ByteArray} (h : an.map An.key = [(a, p), (b, q)]) : ∃ v1 v2, an = [⟨a, v1, p⟩, ⟨b, v2, q⟩] := by
  match an, h with
  | [x, y], h =>
    simp only [List.map_cons, List.map_nil, An.key, List.cons.injEq, Prod.mk.injEq, and_true] at h
    obtain ⟨⟨rfl, rfl⟩, rfl, rfl⟩ := h
    exact ⟨x.v, y.v, rfl⟩
set_option maxRecDepth 100000 in
set_option maxHeartbeats 1000000 in
theorem live_spec : Does Try.prog 11 [] [] (fun v L => v = .bool true ∧ L = []) := by
  refine Does.enter 41 Try.func11 rfl rfl rfl fun W F => ?_
  show WPc _ _ _ _ _ [] (F)
  refine WPc.seq ?_
  refine WPc.region ?_
  refine WP.val rfl rfl rfl (Val.assign rfl rfl) ?_
  refine WP.nil ?_
  refine Out.next ?_
  refine WPc.seq ?_
  refine WPc.region ?_
  refine WP.val rfl rfl rfl (Val.mk (cs := [.string (⟨#[97, 98, 99]⟩), .bool false]) rfl rfl (fun _ => by kernel_rfl)) ?_
  refine WP.val rfl rfl rfl (Val.mk (cs := [.string (⟨#[]⟩), .bool true]) rfl rfl (fun _ => by kernel_rfl)) ?_
  refine WP.eff rfl rfl rfl (Eff.mkSlice (C := [.string (⟨#[97, 98, 99]⟩), .bool false, .string (⟨#[]⟩), .bool true]) rfl Ty.sl22 rfl (fun _ => by kernel_rfl)) ?_
  rintro _ _ ⟨b1, rfl, rfl⟩
  refine WP.eff rfl rfl rfl (Eff.call rfl rfl Try.call12 (pages_spec (Blk b1 (flatOf PgOp.cells liveOps) 32) 8 64 0 (by omega) (by omega) (by omega) (by omega) liveOps (by simp [liveOps]) (by simp only [liveOps, List.mem_cons, List.not_mem_nil, or_false]; rintro x (rfl | rfl) <;> decide) (.slice (some ⟨b1, 0, none⟩) 2 2) (rd_blk (cf := PgOp.cells) (k := 2) (fun _ => rfl) b1 2 32 liveOps))) ?_
  rintro u _ ⟨_, ⟨_, an, han, rfl, rfl⟩, rfl⟩
  show WP _ _ _ _ _ _ _ (Own 30 2 u an.length (flatOf An.cells an) :: Ans an :: Blk b1 (flatOf PgOp.cells liveOps) 32 :: F)
  refine WP.val rfl rfl rfl (Val.assign rfl rfl) ?_
  refine WP.nil ?_
  refine Out.next ?_
  refine WPc.seq ?_
  refine WPc.region ?_
  rw [live_answers] at han
  obtain ⟨v1, v2, rfl⟩ := two_keys han
  refine WP.perm pl1 ?_
  refine WP.conv (fun w h => (ans_get (i := 1) rfl h)) ?_
  refine WP.perm pl1 ?_
  refine WP.conv (fun w h => (ans_get (i := 0) rfl h)) ?_
  refine WP.perm pl3 ?_
  refine WP.conv (fun w h => h.seqMk) ?_
  show WP _ _ _ _ _ _ _ (Seq u (([⟨3, v1, []⟩, ⟨0, v2, [str [97, 98, 99]]⟩] : List An).length) (flatOf An.cells [⟨3, v1, []⟩, ⟨0, v2, [str [97, 98, 99]]⟩]) :: Seq v1 (([] : List ByteArray).length) (([] : List ByteArray).map .string) :: Ans [⟨3, v1, []⟩, ⟨0, v2, [str [97, 98, 99]]⟩] :: Seq v2 ([str [97, 98, 99]].length) ([str [97, 98, 99]].map .string) :: Blk b1 (flatOf PgOp.cells liveOps) 32 :: F)
  refine WP.open (fun w h => h.seqOpen (by simp)) ?_
  rintro ⟨g2, cg2, spg2, Tg2⟩
  refine WP.pure (fun hvg2 => ?_)
  refine WP.know 1 (.slice (some ⟨g2, 0, none⟩) (([⟨3, v1, []⟩, ⟨0, v2, [str [97, 98, 99]]⟩] : List An).length) cg2) rfl hvg2.1 ?_
  show WP _ _ _ _ _ _ _ (Ro (Blk g2 (flatOf An.cells [⟨3, v1, []⟩, ⟨0, v2, [str [97, 98, 99]]⟩] ++ spg2) Tg2) :: Seq u (([⟨3, v1, []⟩, ⟨0, v2, [str [97, 98, 99]]⟩] : List An).length) (flatOf An.cells [⟨3, v1, []⟩, ⟨0, v2, [str [97, 98, 99]]⟩]) :: Seq v1 (([] : List ByteArray).length) (([] : List ByteArray).map .string) :: Ans [⟨3, v1, []⟩, ⟨0, v2, [str [97, 98, 99]]⟩] :: Seq v2 ([str [97, 98, 99]].length) ([str [97, 98, 99]].map .string) :: Blk b1 (flatOf PgOp.cells liveOps) 32 :: F)
  refine WP.val rfl rfl rfl (Val.move rfl rfl) ?_
  refine WP.val rfl rfl rfl (Val.len rfl Ty.sl26 rfl) ?_
  refine WP.val rfl rfl rfl (Val.eql rfl rfl rfl) ?_
  refine WP.val rfl rfl rfl (Val.move rfl rfl) ?_
  refine WP.split 9 rfl (fun h1 => ?_) (fun h1 => ?_)
  · skip
    have h1 : (((([⟨3, v1, []⟩, ⟨0, v2, [str [97, 98, 99]]⟩] : List An).length : Nat) : Int) = (2 : Int)) := h1
    refine WP.valG rfl rfl rfl rfl rfl rfl rfl (Val.move rfl rfl) ?_
    refine WP.valG rfl rfl rfl rfl rfl rfl rfl (Val.indexAddr (j := 0) (q := 0) rfl Ty.sl26 rfl rfl (by omega) (by omega) (by omega)) ?_
    refine WP.valG rfl rfl rfl rfl rfl rfl rfl (Val.fieldAddr (j := 0) rfl Ty.fo30_0 rfl rfl) ?_
    refine WP.valG rfl rfl rfl rfl rfl rfl rfl (Val.load rfl Ty.sc3 rfl (fun w h => h.cellRo 0 rfl rfl)) ?_
    refine WP.valG rfl rfl rfl rfl rfl rfl rfl (Val.eql rfl rfl rfl) ?_
    refine WP.val rfl rfl rfl (Val.pickT rfl rfl rfl) ?_
    refine WP.val rfl rfl rfl (Val.move rfl rfl) ?_
    refine WP.split 16 rfl (fun h2 => ?_) (fun h2 => ?_)
    · skip
      have h2 : ((3 : Int) = (3 : Int)) := h2
      refine WP.valG rfl rfl rfl rfl rfl rfl rfl (Val.move rfl rfl) ?_
      refine WP.valG rfl rfl rfl rfl rfl rfl rfl (Val.indexAddr (j := 0) (q := 0) rfl Ty.sl26 rfl rfl (by omega) (by omega) (by omega)) ?_
      refine WP.valG rfl rfl rfl rfl rfl rfl rfl (Val.fieldAddr (j := 1) rfl Ty.fo30_1 rfl rfl) ?_
      refine WP.valG rfl rfl rfl rfl rfl rfl rfl (Val.load rfl Ty.sc28 rfl (fun w h => h.cellRo 0 rfl rfl)) ?_
      refine WP.valG rfl rfl rfl rfl rfl rfl rfl (Val.lenSeq rfl Ty.sl28 rfl (fun w h => h.at 2 rfl)) ?_
      refine WP.valG rfl rfl rfl rfl rfl rfl rfl (Val.eql rfl rfl rfl) ?_
      refine WP.val rfl rfl rfl (Val.pickT rfl rfl rfl) ?_
      refine WP.val rfl rfl rfl (Val.move rfl rfl) ?_
      refine WP.split 24 rfl (fun h3 => ?_) (fun h3 => ?_)
      · skip
        have h3 : (((([] : List ByteArray).length : Nat) : Int) = (0 : Int)) := h3
        refine WP.valG rfl rfl rfl rfl rfl rfl rfl (Val.move rfl rfl) ?_
        refine WP.valG rfl rfl rfl rfl rfl rfl rfl (Val.indexAddr (j := 1) (q := 2) rfl Ty.sl26 rfl rfl (by omega) (by omega) (by omega)) ?_
        refine WP.valG rfl rfl rfl rfl rfl rfl rfl (Val.fieldAddr (j := 3) rfl Ty.fo30_1 rfl rfl) ?_
        refine WP.valG rfl rfl rfl rfl rfl rfl rfl (Val.load rfl Ty.sc28 rfl (fun w h => h.cellRo 0 rfl rfl)) ?_
        refine WP.valG rfl rfl rfl rfl rfl rfl rfl (Val.lenSeq rfl Ty.sl28 rfl (fun w h => h.at 4 rfl)) ?_
        refine WP.valG rfl rfl rfl rfl rfl rfl rfl (Val.eql rfl rfl rfl) ?_
        refine WP.val rfl rfl rfl (Val.pickT rfl rfl rfl) ?_
        refine WP.val rfl rfl rfl (Val.move rfl rfl) ?_
        refine WP.split 32 rfl (fun h4 => ?_) (fun h4 => ?_)
        · skip
          have h4 : ((([str [97, 98, 99]].length : Nat) : Int) = (1 : Int)) := h4
          refine WP.valG rfl rfl rfl rfl rfl rfl rfl (Val.move rfl rfl) ?_
          refine WP.valG rfl rfl rfl rfl rfl rfl rfl (Val.indexAddr (j := 1) (q := 2) rfl Ty.sl26 rfl rfl (by omega) (by omega) (by omega)) ?_
          refine WP.valG rfl rfl rfl rfl rfl rfl rfl (Val.fieldAddr (j := 3) rfl Ty.fo30_1 rfl rfl) ?_
          refine WP.valG rfl rfl rfl rfl rfl rfl rfl (Val.load rfl Ty.sc28 rfl (fun w h => h.cellRo 0 rfl rfl)) ?_
          refine WP.perm pl4 ?_
          refine WP.open (fun w h => h.seqOpen (by simp)) ?_
          rintro ⟨g3, cg3, spg3, Tg3⟩
          refine WP.pure (fun hvg3 => ?_)
          refine WP.know 36 (.slice (some ⟨g3, 0, none⟩) ([str [97, 98, 99]].length) cg3) rfl hvg3.1 ?_
          show WP _ _ _ _ _ _ _ (Ro (Blk g3 ([str [97, 98, 99]].map .string ++ spg3) Tg3) :: Seq v2 ([str [97, 98, 99]].length) ([str [97, 98, 99]].map .string) :: Ro (Blk g2 (flatOf An.cells [⟨3, v1, []⟩, ⟨0, v2, [str [97, 98, 99]]⟩] ++ spg2) Tg2) :: Seq u (([⟨3, v1, []⟩, ⟨0, v2, [str [97, 98, 99]]⟩] : List An).length) (flatOf An.cells [⟨3, v1, []⟩, ⟨0, v2, [str [97, 98, 99]]⟩]) :: Seq v1 (([] : List ByteArray).length) (([] : List ByteArray).map .string) :: Ans [⟨3, v1, []⟩, ⟨0, v2, [str [97, 98, 99]]⟩] :: Blk b1 (flatOf PgOp.cells liveOps) 32 :: F)
          refine WP.valG rfl rfl rfl rfl rfl rfl rfl (Val.indexAddr (j := 0) (q := 0) rfl Ty.sl28 rfl rfl (by omega) (by omega) (by omega)) ?_
          refine WP.valG rfl rfl rfl rfl rfl rfl rfl (Val.load rfl Ty.sc9 rfl (fun w h => h.cellRo 0 rfl rfl)) ?_
          refine WP.valG rfl rfl rfl rfl rfl rfl rfl (Val.eqlS rfl rfl rfl) ?_
          refine WP.val rfl rfl rfl (Val.pickT rfl rfl rfl) ?_
          refine WP.val rfl rfl rfl (Val.assign rfl rfl) ?_
          refine WP.nil ?_
          refine Out.next ?_
          refine WPc.ret ?_
          refine Out.drop ?_
          refine Out.drop ?_
          refine Out.drop ?_
          refine Out.drop ?_
          refine Out.drop ?_
          refine Out.drop ?_
          refine Out.drop ?_
          exact Out.ret1 (L' := []) Try.results11 rfl ⟨by rw [seq_eq]; rfl, rfl⟩ (fun _ h => h)
        · skip
          have h4 : ¬ ((([str [97, 98, 99]].length : Nat) : Int) = (1 : Int)) := h4
          exact absurd rfl h4
      · skip
        have h3 : ¬ (((([] : List ByteArray).length : Nat) : Int) = (0 : Int)) := h3
        exact absurd rfl h3
    · skip
      have h2 : ¬ ((3 : Int) = (3 : Int)) := h2
      exact absurd rfl h2
  · skip
    have h1 : ¬ (((([⟨3, v1, []⟩, ⟨0, v2, [str [97, 98, 99]]⟩] : List An).length : Nat) : Int) = (2 : Int)) := h1
    exact absurd rfl h1
set_option maxRecDepth 100000 in
set_option maxHeartbeats 2000000 in
theorem law_spec (W0 : World) (l : List PgOp) (va : Value) (hva : Rd (Old W0) 2 PgOp.cells va l) (zB zpage zoff : Int) : Does Try.prog 3 [.int .i64 (zB), .int .i64 (zpage), .int .i64 (zoff), va] [Old W0] (fun v L => v = .bool true ∧ L = [Old W0]) := by
  refine Does.enter 106 Try.func3 rfl rfl rfl fun W F => ?_
  show WPc _ _ _ _ _ [(0, .int .i64 (zB)), (1, .int .i64 (zpage)), (2, .int .i64 (zoff)), (3, va)] (Old W0 :: F)
  refine WPc.seq ?_
  refine WPc.region ?_
  refine WP.val rfl rfl rfl (Val.assign rfl rfl) ?_
  refine WP.nil ?_
  refine Out.next ?_
  refine WPc.seq ?_
  refine WPc.seq ?_
  refine WPc.region ?_
  refine WP.val rfl rfl rfl (Val.move rfl rfl) ?_
  refine WP.eff rfl rfl rfl (Eff.call rfl rfl Try.call9 (fits29_spec (Old W0) l va hva)) ?_
  rintro _ _ ⟨_, ⟨bb1, rfl, rfl, hf1⟩, rfl⟩
  show WP _ _ _ _ _ _ _ (Old W0 :: F)
  refine WP.val rfl rfl rfl (Val.not rfl rfl) ?_
  refine WP.nil ?_
  refine Out.next ?_
  refine WPc.cond rfl (fun h1 => ?_) (fun h1 => ?_)
  · skip
    have h1 : (!bb1) = true := h1
    refine WPc.seq ?_
    refine WPc.region ?_
    refine WP.val rfl rfl rfl (Val.assign rfl rfl) ?_
    refine WP.nil ?_
    refine Out.next ?_
    refine WPc.ret ?_
    refine Out.then_ret ?_
    exact Out.ret1 (L' := [Old W0]) Try.results3 rfl ⟨rfl, rfl⟩ (fun _ h => h)
  · skip
    have h1 : (!bb1) = false := h1
    refine WPc.skip ?_
    refine Out.next ?_
    refine WPc.seq ?_
    refine WPc.seq ?_
    refine WPc.region ?_
    refine WP.val rfl rfl rfl (Val.move rfl rfl) ?_
    refine WP.val rfl rfl rfl (Val.move rfl rfl) ?_
    refine WP.val rfl rfl rfl (Val.move rfl rfl) ?_
    refine WP.val rfl rfl rfl (Val.move rfl rfl) ?_
    refine WP.eff rfl rfl rfl (Eff.call rfl rfl Try.call10 (good_spec (Old W0) zB zpage zoff l (hf1 (by simpa using h1)) va hva)) ?_
    rintro _ _ ⟨_, ⟨bb2, rfl, rfl, hf2⟩, rfl⟩
    show WP _ _ _ _ _ _ _ (Old W0 :: F)
    refine WP.val rfl rfl rfl (Val.not rfl rfl) ?_
    refine WP.nil ?_
    refine Out.next ?_
    refine WPc.cond rfl (fun h2 => ?_) (fun h2 => ?_)
    · skip
      have h2 : (!bb2) = true := h2
      refine WPc.seq ?_
      refine WPc.region ?_
      refine WP.eff rfl rfl rfl (Eff.call rfl rfl Try.call11 (live_spec)) ?_
      rintro _ _ ⟨_, ⟨rfl, rfl⟩, rfl⟩
      show WP _ _ _ _ _ _ _ (Old W0 :: F)
      refine WP.val rfl rfl rfl (Val.assign rfl rfl) ?_
      refine WP.nil ?_
      refine Out.next ?_
      refine WPc.ret ?_
      refine Out.then_ret ?_
      exact Out.ret1 (L' := [Old W0]) Try.results3 rfl ⟨rfl, rfl⟩ (fun _ h => h)
    · skip
      have h2 : (!bb2) = false := h2
      refine WPc.skip ?_
      refine Out.next ?_
      refine WPc.seq ?_
      obtain ⟨g1, g2, g3, g4, g5, g6, htx⟩ := hf2 (by simpa using h2)
      obtain ⟨page, rfl⟩ := Int.eq_ofNat_of_zero_le (show 0 ≤ zpage by omega)
      obtain ⟨B, rfl⟩ := Int.eq_ofNat_of_zero_le (show 0 ≤ zB by omega)
      obtain ⟨off, rfl⟩ := Int.eq_ofNat_of_zero_le g4
      have hp : 0 < page := by omega
      have hpb : page ≤ B := by omega
      have hB : B ≤ 1048576 := by omega
      refine WPc.region ?_
      refine WP.val rfl rfl rfl (Val.move rfl rfl) ?_
      refine WP.val rfl rfl rfl (Val.move rfl rfl) ?_
      refine WP.val rfl rfl rfl (Val.move rfl rfl) ?_
      refine WP.val rfl rfl rfl (Val.move rfl rfl) ?_
      refine WP.eff rfl rfl rfl (Eff.call rfl rfl Try.call12 (pages_spec (Old W0) page B off hp hpb hB (by omega) l (by omega) (fun x hx => Nat.le_trans (htx x hx) (by omega)) va hva)) ?_
      rintro u _ ⟨_, ⟨_, an, han, rfl, rfl⟩, rfl⟩
      show WP _ _ _ _ _ _ _ (Own 30 2 u an.length (flatOf An.cells an) :: Ans an :: Old W0 :: F)
      refine WP.val rfl rfl rfl (Val.assign rfl rfl) ?_
      refine WP.nil ?_
      refine Out.next ?_
      refine WPc.seq ?_
      refine WPc.seq ?_
      have hanl : an.length = l.length := by have := congrArg List.length han; rw [List.length_map, answers_len] at this; exact this
      refine WPc.conv (fun w h => h.seqMk) ?_
      show WPc _ _ _ _ _ _ (Seq u an.length (flatOf An.cells an) :: Ans an :: Old W0 :: F)
      refine WPc.region ?_
      refine WP.val rfl rfl rfl (Val.move rfl rfl) ?_
      refine WP.val rfl rfl rfl (Val.lenSeq rfl Ty.sl26 rfl (fun w h => h.at 0 rfl)) ?_
      refine WP.val rfl rfl rfl (Val.move rfl rfl) ?_
      refine WP.val rfl rfl rfl (Rd.len hva rfl Ty.sl22 rfl) ?_
      refine WP.val rfl rfl rfl (Val.neq rfl rfl rfl) ?_
      refine WP.nil ?_
      refine Out.next ?_
      refine WPc.ifP rfl (fun h3 => ?_) (fun h3 => ?_)
      · skip
        have h3 : (((an.length : Nat) : Int) ≠ ((l.length : Nat) : Int)) := h3
        exfalso; omega
      · skip
        have h3 : ¬ (((an.length : Nat) : Int) ≠ ((l.length : Nat) : Int)) := h3
        refine WPc.skip ?_
        refine Out.next ?_
        refine WPc.seq ?_
        refine WPc.region ?_
        refine WP.val rfl rfl rfl (Val.assign rfl rfl) ?_
        refine WP.nil ?_
        refine Out.next ?_
        refine WPc.seq ?_
        refine WPc.seq ?_
        refine WPc.region ?_
        refine WP.val rfl rfl rfl (Val.move rfl rfl) ?_
        refine WP.val rfl rfl rfl (Val.lenSeq rfl Ty.sl26 rfl (fun w h => h.at 0 rfl)) ?_
        refine WP.val rfl rfl rfl (Val.move rfl rfl) ?_
        refine WP.nil ?_
        refine Out.next ?_
        refine WPc.block ?_
        refine WPc.loop (ι := Nat) (fun i => i ≤ l.length) (fun i => [(0, .int .i64 (((B : Nat) : Int))), (1, .int .i64 (((page : Nat) : Int))), (3, va), (10, .int .i64 ((((behindOps page B (off, []) (l.take i)).2.length : Nat) : Int))), (35, u), (36, .int .i64 (((an.length : Nat) : Int))), (37, .int .i64 (((i : Nat) : Int)))]) (fun i => Seq u an.length (flatOf An.cells an) :: Ans an :: Old W0 :: F) (fun i => l.length - i) 0 (Nat.zero_le _) ((Sub.cons rfl (Sub.cons rfl (Sub.cons rfl (Sub.cons rfl (Sub.cons rfl (Sub.cons rfl (Sub.cons rfl Sub.nil)))))))) (fun _ h => h) ?_
        rintro i hi
        show WPc _ _ _ _ _ [(0, .int .i64 (((B : Nat) : Int))), (1, .int .i64 (((page : Nat) : Int))), (3, va), (10, .int .i64 ((((behindOps page B (off, []) (l.take i)).2.length : Nat) : Int))), (35, u), (36, .int .i64 (((an.length : Nat) : Int))), (37, .int .i64 (((i : Nat) : Int)))] (Seq u an.length (flatOf An.cells an) :: Ans an :: Old W0 :: F)
        replace hi : i ≤ l.length := hi
        refine WPc.seq ?_
        refine WPc.region ?_
        refine WP.val rfl rfl rfl (Val.lss rfl rfl rfl) ?_
        refine WP.nil ?_
        refine Out.next ?_
        refine WPc.seq ?_
        refine WPc.ifP rfl (fun h4 => ?_) (fun h4 => ?_)
        · skip
          have h4 : (((i : Nat) : Int) < ((an.length : Nat) : Int)) := h4
          refine WPc.skip ?_
          refine Out.next ?_
          refine WPc.seq ?_
          refine WPc.block ?_
          refine WPc.seq ?_
          have hlt : i < l.length := by omega
          obtain ⟨x, hx⟩ : ∃ x, l[i]? = some x := ⟨_, List.getElem?_eq_getElem hlt⟩
          obtain ⟨y, hy, hyn, hys⟩ := key_at han hx
          have hg := good_all hp hpb hB (l.take i) (off, []) ⟨fit_small hp (by simp), by show off ≤ 4294967296; omega⟩
          have hbs : behindOps page B (off, []) (l.take (i + 1)) = opStep page B (behindOps page B (off, []) (l.take i)) x := by rw [take_more hx, behind_snoc]
          have hg2 := good_step (x := x) hp hpb hB hg
          have hxl := htx x (List.mem_of_getElem? hx)
          have hfl := fit_le hg.fit
          have hfl2 := fit_le hg2.fit
          generalize hst : behindOps page B (off, []) (l.take i) = st at *
          refine WPc.perm pl1 ?_
          refine WPc.conv (fun w h => ans_get hy h) ?_
          show WPc _ _ _ _ _ _ (Seq y.v y.ss.length (y.ss.map .string) :: Ans an :: Seq u an.length (flatOf An.cells an) :: Old W0 :: F)
          refine WPc.fact (fun w h => seq_oneCell h) (fun hyone => ?_)
          refine WPc.perm pl2 ?_
          refine WPc.open (fun w h => h.seqOpen (by omega)) ?_
          rintro ⟨g1, cg1, spg1, Tg1⟩
          refine WPc.pure (fun hvg1 => ?_)
          refine WPc.know 35 (.slice (some ⟨g1, 0, none⟩) an.length cg1) rfl hvg1.1 ?_
          show WPc _ _ _ _ _ _ (Ro (Blk g1 (flatOf An.cells an ++ spg1) Tg1) :: Seq u an.length (flatOf An.cells an) :: Seq y.v y.ss.length (y.ss.map .string) :: Ans an :: Old W0 :: F)
          refine WPc.region ?_
          refine WP.val rfl rfl rfl (Val.move rfl rfl) ?_
          refine WP.val rfl rfl rfl (Val.indexAddr (j := i) (q := i * 2) rfl Ty.sl26 rfl rfl (by omega) (by omega) (by omega)) ?_
          refine WP.val rfl rfl rfl (Val.loadAgg (cs := y.cells) rfl Ty.ag30 rfl (by rfl) (fun w h => (h.at 0 rfl).ro.cell_range (flatOf_range An.len hy))) ?_
          refine WP.eff rfl rfl rfl (Eff.alloc rfl Ty.z30) ?_
          rintro _ _ ⟨b2, rfl, rfl⟩
          refine WP.val rfl rfl rfl (Val.assign rfl rfl) ?_
          refine WP.eff0 rfl rfl (Eff.storeAgg (cs := [.int .i64 (y.n), y.v]) (C' := [.int .i64 (y.n), y.v]) rfl Ty.ag30 rfl rfl rfl (by simp only [List.all_cons, List.all_nil, Bool.and_true, oc_int, oc_str, oc_bool, oc_ptr, oc_slice, oc_iface, oc_map, hyone]) (by simp) rfl) ?_
          rintro _ _ rfl
          refine WP.nil ?_
          refine Out.next ?_
          refine WPc.seq ?_
          refine WPc.seq ?_
          obtain ⟨b0, o0, c0, rfl, hr⟩ := hva.resolve_right (fun ⟨e, _⟩ => by rw [e] at hlt; simp at hlt)
          refine WPc.region ?_
          refine WP.val rfl rfl rfl (Val.move rfl rfl) ?_
          refine WP.val rfl rfl rfl (Val.move rfl rfl) ?_
          refine WP.val rfl rfl rfl (Val.indexAddr (j := i) (q := o0 + i * 2) rfl Ty.sl22 rfl rfl (by omega) (by omega) (by omega)) ?_
          refine WP.val rfl rfl rfl (Val.fieldAddr (j := o0 + i * 2 + 1) rfl Ty.fo32_1 rfl rfl) ?_
          refine WP.val rfl rfl rfl (Val.load (v := .bool (x.fl)) rfl Ty.sc4 rfl (fun w h => hr w (h.at 5 rfl) i x hx 1 _ rfl)) ?_
          refine WP.nil ?_
          refine Out.next ?_
          refine WPc.cond rfl (fun h5 => ?_) (fun h5 => ?_)
          · skip
            have h5 : (x.fl) = true := h5
            refine WPc.seq ?_
            refine WPc.seq ?_
            have hys2 : y.ss = (outs st.2).map str := by rw [hys]; unfold opAns; rw [if_pos (by simp [h5])]
            have hstp : opStep page B st x = (offs page st.1 st.2, []) := by unfold opStep; rw [if_pos (by simp [h5])]
            have hol : (outs st.2).length = min st.2.length 1 := by unfold outs; split; (rename_i e; simp [e]); (rename_i e; have := List.length_pos_iff.2 e; simp; omega)
            have hyl : y.ss.length = min st.2.length 1 := by rw [hys2, List.length_map, hol]
            refine WPc.region ?_
            refine WP.val rfl rfl rfl (Val.fieldAddr (j := 1) rfl Ty.fo30_1 rfl rfl) ?_
            refine WP.val rfl rfl rfl (Val.load rfl Ty.sc28 rfl (fun w h => h.cell 0 rfl rfl)) ?_
            refine WP.val rfl rfl rfl (Val.lenSeq rfl Ty.sl28 rfl (fun w h => h.at 3 rfl)) ?_
            refine WP.val rfl rfl rfl (Val.move rfl rfl) ?_
            refine WP.val rfl rfl rfl (Val.min2 (z := ((min st.2.length 1 : Nat) : Int)) rfl rfl rfl (by split <;> omega)) ?_
            refine WP.val rfl rfl rfl (Val.neq rfl rfl rfl) ?_
            refine WP.val rfl rfl rfl (Val.move rfl rfl) ?_
            refine WP.split 53 rfl (fun h6 => ?_) (fun h6 => ?_)
            · skip
              have h6 : (((y.ss.length : Nat) : Int) ≠ ((min st.2.length 1 : Nat) : Int)) := h6
              exfalso; omega
            · skip
              have h6 : ¬ (((y.ss.length : Nat) : Int) ≠ ((min st.2.length 1 : Nat) : Int)) := h6
              refine WP.valG rfl rfl rfl rfl rfl rfl rfl (Val.move rfl rfl) ?_
              refine WP.valG rfl rfl rfl rfl rfl rfl rfl (Val.gtr rfl rfl rfl) ?_
              refine WP.valG rfl rfl rfl rfl rfl rfl rfl (Val.move rfl rfl) ?_
              refine WP.split 56 rfl (fun h7 => ?_) (fun h7 => ?_)
              · skip
                have h7 : ((0 : Int) < ((st.2.length : Nat) : Int)) := h7
                refine WP.valG rfl rfl rfl rfl rfl rfl rfl (Val.fieldAddr (j := 1) rfl Ty.fo30_1 rfl rfl) ?_
                refine WP.valG rfl rfl rfl rfl rfl rfl rfl (Val.load rfl Ty.sc28 rfl (fun w h => h.cell 0 rfl rfl)) ?_
                have hpos : 0 < st.2.length := by omega
                have hs0 : y.ss = [str st.2] := by rw [hys2]; unfold outs; rw [if_neg (by intro e; rw [e] at hpos; simp at hpos)]; rfl
                refine WP.perm pl3 ?_
                refine WP.open (fun w h => h.seqOpen (by omega)) ?_
                rintro ⟨g3, cg3, spg3, Tg3⟩
                refine WP.pure (fun hvg3 => ?_)
                refine WP.know 58 (.slice (some ⟨g3, 0, none⟩) y.ss.length cg3) rfl hvg3.1 ?_
                show WP _ _ _ _ _ _ _ (Ro (Blk g3 (y.ss.map .string ++ spg3) Tg3) :: Seq y.v y.ss.length (y.ss.map .string) :: Blk b2 [.int .i64 (y.n), y.v] 30 :: Ro (Blk g1 (flatOf An.cells an ++ spg1) Tg1) :: Seq u an.length (flatOf An.cells an) :: Ans an :: Old W0 :: F)
                refine WP.valG rfl rfl rfl rfl rfl rfl rfl (Val.indexAddr (j := 0) (q := 0) rfl Ty.sl28 rfl rfl (by omega) (by omega) (by omega)) ?_
                refine WP.valG rfl rfl rfl rfl rfl rfl rfl (Val.load (v := .string (str st.2)) rfl Ty.sc9 rfl (fun w h => h.cellRo 0 rfl (by rw [hs0]; rfl))) ?_
                refine WP.valG rfl rfl rfl rfl rfl rfl rfl (Val.lenS rfl Ty.st9 rfl) ?_
                refine WP.valG rfl rfl rfl rfl rfl rfl rfl (Val.move rfl rfl) ?_
                refine WP.valG rfl rfl rfl rfl rfl rfl rfl (Val.neq rfl rfl rfl) ?_
                refine WP.valG rfl rfl rfl rfl rfl rfl rfl (Val.pickT rfl rfl rfl) ?_
                refine WP.val rfl rfl rfl (Val.pickF rfl rfl rfl) ?_
                refine WP.nil ?_
                refine Out.next ?_
                refine WPc.ifP rfl (fun h8 => ?_) (fun h8 => ?_)
                · skip
                  have h8 : ((((str st.2).size : Nat) : Int) ≠ ((st.2.length : Nat) : Int)) := h8
                  exact absurd rfl h8
                · skip
                  have h8 : ¬ ((((str st.2).size : Nat) : Int) ≠ ((st.2.length : Nat) : Int)) := h8
                  refine WPc.skip ?_
                  refine Out.next ?_
                  refine WPc.seq ?_
                  refine WPc.region ?_
                  refine WP.val rfl rfl rfl (Val.assign rfl rfl) ?_
                  refine WP.nil ?_
                  refine Out.next ?_
                  refine WPc.exit ?_
                  refine Out.then_exit ?_
                  refine Out.block_exit ?_
                  refine Out.next ?_
                  refine WPc.know 10 (.int .i64 (((opStep page B st x).2.length : Nat) : Int)) rfl (by rw [hstp]; rfl) ?_
                  refine WPc.region ?_
                  refine WP.val rfl rfl rfl (Val.add (z := ((i + 1 : Nat) : Int)) rfl rfl rfl ((w64 (by omega) (by omega)).trans (by omega))) ?_
                  refine WP.val rfl rfl rfl (Val.move rfl rfl) ?_
                  refine WP.nil ?_
                  refine Out.drop ?_
                  refine Out.drop ?_
                  refine Out.drop ?_
                  refine Out.drop ?_
                  refine Out.again (i + 1) ?_ ?_ ?_ ?_
                  · exact (by first | omega | (dsimp only; omega))
                  · first | omega | (dsimp only; omega)
                  · exact (Sub.cons rfl (Sub.cons rfl (Sub.cons rfl (Sub.cons (by rw [hbs]; rfl) (Sub.cons (congrArg some (hvg1.1).symm) (Sub.cons rfl (Sub.cons rfl Sub.nil)))))))
                  · exact (fun _ h => h)
              · skip
                have h7 : ¬ ((0 : Int) < ((st.2.length : Nat) : Int)) := h7
                refine WP.skip rfl rfl rfl rfl rfl rfl rfl ?_
                refine WP.skip rfl rfl rfl rfl rfl rfl rfl ?_
                refine WP.skip rfl rfl rfl rfl rfl rfl rfl ?_
                refine WP.skip rfl rfl rfl rfl rfl rfl rfl ?_
                refine WP.skip rfl rfl rfl rfl rfl rfl rfl ?_
                refine WP.skip rfl rfl rfl rfl rfl rfl rfl ?_
                refine WP.skip rfl rfl rfl rfl rfl rfl rfl ?_
                refine WP.valG rfl rfl rfl rfl rfl rfl rfl (Val.pickF rfl rfl rfl) ?_
                refine WP.val rfl rfl rfl (Val.pickF rfl rfl rfl) ?_
                refine WP.nil ?_
                refine Out.next ?_
                refine WPc.condF rfl rfl ?_
                refine WPc.skip ?_
                refine Out.next ?_
                refine WPc.seq ?_
                refine WPc.region ?_
                refine WP.val rfl rfl rfl (Val.assign rfl rfl) ?_
                refine WP.nil ?_
                refine Out.next ?_
                refine WPc.exit ?_
                refine Out.then_exit ?_
                refine Out.block_exit ?_
                refine Out.next ?_
                refine WPc.know 10 (.int .i64 (((opStep page B st x).2.length : Nat) : Int)) rfl (by rw [hstp]; rfl) ?_
                refine WPc.region ?_
                refine WP.val rfl rfl rfl (Val.add (z := ((i + 1 : Nat) : Int)) rfl rfl rfl ((w64 (by omega) (by omega)).trans (by omega))) ?_
                refine WP.val rfl rfl rfl (Val.move rfl rfl) ?_
                refine WP.nil ?_
                refine Out.drop ?_
                refine Out.drop ?_
                refine Out.perm pl1 ?_
                refine Out.drop ?_
                refine Out.again (i + 1) ?_ ?_ ?_ ?_
                · exact (by first | omega | (dsimp only; omega))
                · first | omega | (dsimp only; omega)
                · exact (Sub.cons rfl (Sub.cons rfl (Sub.cons rfl (Sub.cons (by rw [hbs]; rfl) (Sub.cons (congrArg some (hvg1.1).symm) (Sub.cons rfl (Sub.cons rfl Sub.nil)))))))
                · exact (fun _ h => h)
          · skip
            have h5 : (x.fl) = false := h5
            refine WPc.skip ?_
            refine Out.next ?_
            refine WPc.seq ?_
            have hys2 : y.ss = (wr page B st.1 st.2 x.text.data.toList).1.map str := by rw [hys]; unfold opAns; rw [if_neg (by simp [h5])]
            have hstp : opStep page B st x = (wr page B st.1 st.2 x.text.data.toList).2 := by unfold opStep; rw [if_neg (by simp [h5])]
            have hxs : x.text.data.toList.length = x.text.size := by rw [Array.length_toList]; rfl
            have hys3 : st.2.length + x.text.size ≤ B → y.ss.length = 0 := fun h => by rw [hys2, wr_none (by omega)]; rfl
            have hyb : y.ss.length ≤ 2 := by rw [hys2, List.length_map]; exact wr_len
            have htot : szs y.ss + (opStep page B st x).2.length = st.2.length + x.text.size := by rw [hys2, szs_str, hstp, wr_tot, hxs]
            refine WPc.region ?_
            refine WP.val rfl rfl rfl (Val.move rfl rfl) ?_
            refine WP.val rfl rfl rfl (Val.move rfl rfl) ?_
            refine WP.val rfl rfl rfl (Val.move rfl rfl) ?_
            refine WP.val rfl rfl rfl (Val.indexAddr (j := i) (q := o0 + i * 2) rfl Ty.sl22 rfl rfl (by omega) (by omega) (by omega)) ?_
            refine WP.val rfl rfl rfl (Val.fieldAddr (j := o0 + i * 2) rfl Ty.fo32_0 rfl rfl) ?_
            refine WP.val rfl rfl rfl (Val.load (v := .string x.text) rfl Ty.sc9 rfl (fun w h => hr w (h.at 5 rfl) i x hx 0 _ rfl)) ?_
            refine WP.val rfl rfl rfl (Val.lenS rfl Ty.st9 rfl) ?_
            refine WP.val rfl rfl rfl (Val.add (z := ((st.2.length + ((x.text).size) : Nat) : Int)) rfl rfl rfl ((w64 (by omega) (by omega)).trans (by omega))) ?_
            refine WP.val rfl rfl rfl (Val.assign rfl rfl) ?_
            refine WP.nil ?_
            refine Out.next ?_
            refine WPc.seq ?_
            refine WPc.seq ?_
            refine WPc.region ?_
            refine WP.val rfl rfl rfl (Val.move rfl rfl) ?_
            refine WP.val rfl rfl rfl (Val.move rfl rfl) ?_
            refine WP.val rfl rfl rfl (Val.leq rfl rfl rfl) ?_
            refine WP.val rfl rfl rfl (Val.move rfl rfl) ?_
            refine WP.split 77 rfl (fun h9 => ?_) (fun h9 => ?_)
            · skip
              have h9 : (((st.2.length + ((x.text).size) : Nat) : Int) ≤ ((B : Nat) : Int)) := h9
              refine WP.valG rfl rfl rfl rfl rfl rfl rfl (Val.fieldAddr (j := 1) rfl Ty.fo30_1 rfl rfl) ?_
              refine WP.valG rfl rfl rfl rfl rfl rfl rfl (Val.load rfl Ty.sc28 rfl (fun w h => h.cell 0 rfl rfl)) ?_
              refine WP.valG rfl rfl rfl rfl rfl rfl rfl (Val.lenSeq rfl Ty.sl28 rfl (fun w h => h.at 3 rfl)) ?_
              refine WP.valG rfl rfl rfl rfl rfl rfl rfl (Val.gtr rfl rfl rfl) ?_
              refine WP.val rfl rfl rfl (Val.pickT rfl rfl rfl) ?_
              refine WP.nil ?_
              refine Out.next ?_
              refine WPc.ifP rfl (fun h10 => ?_) (fun h10 => ?_)
              · skip
                have h10 : ((0 : Int) < ((y.ss.length : Nat) : Int)) := h10
                exfalso; have := hys3 (by omega); omega
              · skip
                have h10 : ¬ ((0 : Int) < ((y.ss.length : Nat) : Int)) := h10
                refine WPc.skip ?_
                refine Out.next ?_
                refine WPc.seq ?_
                refine WPc.seq ?_
                refine WPc.know 10 (.int .i64 (((st.2.length + x.text.size : Nat) : Int) - ((szs (y.ss.take 0) : Nat) : Int))) rfl (by congr 1) ?_
                refine WPc.region ?_
                refine WP.val rfl rfl rfl (Val.fieldAddr (j := 1) rfl Ty.fo30_1 rfl rfl) ?_
                refine WP.val rfl rfl rfl (Val.load rfl Ty.sc28 rfl (fun w h => h.cell 0 rfl rfl)) ?_
                refine WP.val rfl rfl rfl (Val.lenSeq rfl Ty.sl28 rfl (fun w h => h.at 3 rfl)) ?_
                refine WP.val rfl rfl rfl (Val.move rfl rfl) ?_
                refine WP.nil ?_
                refine Out.next ?_
                refine WPc.block ?_
                refine WPc.drop ?_
                refine WPc.loop (ι := Nat) (fun j => j ≤ y.ss.length) (fun j => [(0, .int .i64 (((B : Nat) : Int))), (1, .int .i64 (((page : Nat) : Int))), (3, .slice (some ⟨b0, o0, none⟩) l.length c0), (10, .int .i64 ((((st.2.length + x.text.size : Nat) : Int) - ((szs (y.ss.take j) : Nat) : Int)))), (35, .slice (some ⟨g1, 0, none⟩) an.length cg1), (36, .int .i64 (((an.length : Nat) : Int))), (37, .int .i64 (((i : Nat) : Int))), (84, y.v), (85, .int .i64 (((y.ss.length : Nat) : Int))), (86, .int .i64 (((j : Nat) : Int)))]) (fun j => Ro (Blk g1 (flatOf An.cells an ++ spg1) Tg1) :: Seq u an.length (flatOf An.cells an) :: Seq y.v y.ss.length (y.ss.map .string) :: Ans an :: Old W0 :: F) (fun j => y.ss.length - j) 0 (Nat.zero_le _) ((Sub.cons rfl (Sub.cons rfl (Sub.cons rfl (Sub.cons rfl (Sub.cons rfl (Sub.cons rfl (Sub.cons rfl (Sub.cons rfl (Sub.cons rfl (Sub.cons rfl Sub.nil))))))))))) (fun _ h => h) ?_
                rintro j hj
                show WPc _ _ _ _ _ [(0, .int .i64 (((B : Nat) : Int))), (1, .int .i64 (((page : Nat) : Int))), (3, .slice (some ⟨b0, o0, none⟩) l.length c0), (10, .int .i64 ((((st.2.length + x.text.size : Nat) : Int) - ((szs (y.ss.take j) : Nat) : Int)))), (35, .slice (some ⟨g1, 0, none⟩) an.length cg1), (36, .int .i64 (((an.length : Nat) : Int))), (37, .int .i64 (((i : Nat) : Int))), (84, y.v), (85, .int .i64 (((y.ss.length : Nat) : Int))), (86, .int .i64 (((j : Nat) : Int)))] (Ro (Blk g1 (flatOf An.cells an ++ spg1) Tg1) :: Seq u an.length (flatOf An.cells an) :: Seq y.v y.ss.length (y.ss.map .string) :: Ans an :: Old W0 :: F)
                replace hj : j ≤ y.ss.length := hj
                refine WPc.seq ?_
                refine WPc.region ?_
                refine WP.val rfl rfl rfl (Val.lss rfl rfl rfl) ?_
                refine WP.nil ?_
                refine Out.next ?_
                refine WPc.seq ?_
                refine WPc.ifP rfl (fun h11 => ?_) (fun h11 => ?_)
                · skip
                  have h11 : (((j : Nat) : Int) < ((y.ss.length : Nat) : Int)) := h11
                  refine WPc.skip ?_
                  refine Out.next ?_
                  refine WPc.seq ?_
                  refine WPc.block ?_
                  refine WPc.seq ?_
                  obtain ⟨sx, hsx⟩ : ∃ sx, y.ss[j]? = some sx := ⟨_, List.getElem?_eq_getElem (by omega)⟩
                  have hz1 := szs_take hsx
                  have hz2 := szs_le y.ss (j + 1)
                  refine WPc.perm pl2 ?_
                  refine WPc.open (fun w h => h.seqOpen (by omega)) ?_
                  rintro ⟨g4, cg4, spg4, Tg4⟩
                  refine WPc.pure (fun hvg4 => ?_)
                  refine WPc.know 84 (.slice (some ⟨g4, 0, none⟩) y.ss.length cg4) rfl hvg4.1 ?_
                  show WPc _ _ _ _ _ _ (Ro (Blk g4 (y.ss.map .string ++ spg4) Tg4) :: Seq y.v y.ss.length (y.ss.map .string) :: Ro (Blk g1 (flatOf An.cells an ++ spg1) Tg1) :: Seq u an.length (flatOf An.cells an) :: Ans an :: Old W0 :: F)
                  refine WPc.region ?_
                  refine WP.val rfl rfl rfl (Val.indexAddr (j := j) (q := j) rfl Ty.sl28 rfl rfl (by omega) (by omega) (by omega)) ?_
                  refine WP.val rfl rfl rfl (Val.load (v := .string sx) rfl Ty.sc9 rfl (fun w h => h.cellRo 0 rfl (by rw [List.getElem?_append_left (by simp; omega)]; simp [hsx]))) ?_
                  refine WP.val rfl rfl rfl (Val.assign rfl rfl) ?_
                  refine WP.nil ?_
                  refine Out.next ?_
                  refine WPc.region ?_
                  refine WP.val rfl rfl rfl (Val.move rfl rfl) ?_
                  refine WP.val rfl rfl rfl (Val.move rfl rfl) ?_
                  refine WP.val rfl rfl rfl (Val.lenS rfl Ty.st9 rfl) ?_
                  refine WP.val rfl rfl rfl (Val.sub (z := (((st.2.length + x.text.size : Nat) : Int) - ((szs (y.ss.take j) : Nat) : Int)) - (((sx).size : Nat) : Int)) rfl rfl rfl (w64 (by omega) (by omega))) ?_
                  refine WP.val rfl rfl rfl (Val.assign rfl rfl) ?_
                  refine WP.nil ?_
                  refine Out.block ?_
                  refine Out.next ?_
                  refine WPc.know 10 (.int .i64 (((st.2.length + x.text.size : Nat) : Int) - ((szs (y.ss.take (j + 1)) : Nat) : Int))) rfl (by congr 1; omega) ?_
                  refine WPc.region ?_
                  refine WP.val rfl rfl rfl (Val.add (z := ((j + 1 : Nat) : Int)) rfl rfl rfl ((w64 (by omega) (by omega)).trans (by omega))) ?_
                  refine WP.val rfl rfl rfl (Val.move rfl rfl) ?_
                  refine WP.nil ?_
                  refine Out.drop ?_
                  refine Out.perm pl4 ?_
                  refine Out.perm pl4 ?_
                  refine Out.perm pl2 ?_
                  refine Out.perm pl4 ?_
                  refine Out.perm pl4 ?_
                  refine Out.again (j + 1) ?_ ?_ ?_ ?_
                  · exact (by first | omega | (dsimp only; omega))
                  · first | omega | (dsimp only; omega)
                  · exact (Sub.cons rfl (Sub.cons rfl (Sub.cons rfl (Sub.cons rfl (Sub.cons rfl (Sub.cons rfl (Sub.cons rfl (Sub.cons (congrArg some (hvg4.1).symm) (Sub.cons rfl (Sub.cons rfl Sub.nil))))))))))
                  · exact (fun _ h => h)
                · skip
                  have h11 : ¬ (((j : Nat) : Int) < ((y.ss.length : Nat) : Int)) := h11
                  refine WPc.exit ?_
                  refine Out.then_exit ?_
                  refine Out.then_exit ?_
                  refine Out.block_exit ?_
                  refine Out.next ?_
                  refine WPc.seq ?_
                  have e : y.ss.take j = y.ss := List.take_of_length_le (by omega)
                  refine WPc.know 10 (.int .i64 (((opStep page B st x).2.length : Nat) : Int)) rfl (by rw [e]; first | rfl | (congr 1; omega)) ?_
                  refine WPc.region ?_
                  refine WP.val rfl rfl rfl (Val.move rfl rfl) ?_
                  refine WP.val rfl rfl rfl (Val.lss rfl rfl rfl) ?_
                  refine WP.val rfl rfl rfl (Val.move rfl rfl) ?_
                  refine WP.split 97 rfl (fun h12 => ?_) (fun h12 => ?_)
                  · skip
                    have h12 : ((((opStep page B st x).2.length : Nat) : Int) < (0 : Int)) := h12
                    exfalso; omega
                  · skip
                    have h12 : ¬ ((((opStep page B st x).2.length : Nat) : Int) < (0 : Int)) := h12
                    refine WP.valG rfl rfl rfl rfl rfl rfl rfl (Val.move rfl rfl) ?_
                    refine WP.valG rfl rfl rfl rfl rfl rfl rfl (Val.move rfl rfl) ?_
                    refine WP.valG rfl rfl rfl rfl rfl rfl rfl (Val.move rfl rfl) ?_
                    refine WP.valG rfl rfl rfl rfl rfl rfl rfl (Val.add (z := ((B + page : Nat) : Int)) rfl rfl rfl ((w64 (by omega) (by omega)).trans (by omega))) ?_
                    refine WP.valG rfl rfl rfl rfl rfl rfl rfl (Val.gtr rfl rfl rfl) ?_
                    refine WP.val rfl rfl rfl (Val.pickF rfl rfl rfl) ?_
                    refine WP.nil ?_
                    refine Out.next ?_
                    refine WPc.ifP rfl (fun h13 => ?_) (fun h13 => ?_)
                    · skip
                      have h13 : (((B + page : Nat) : Int) < (((opStep page B st x).2.length : Nat) : Int)) := h13
                      exfalso; omega
                    · skip
                      have h13 : ¬ (((B + page : Nat) : Int) < (((opStep page B st x).2.length : Nat) : Int)) := h13
                      refine WPc.skip ?_
                      refine Out.block ?_
                      refine Out.next ?_
                      refine WPc.region ?_
                      refine WP.val rfl rfl rfl (Val.add (z := ((i + 1 : Nat) : Int)) rfl rfl rfl ((w64 (by omega) (by omega)).trans (by omega))) ?_
                      refine WP.val rfl rfl rfl (Val.move rfl rfl) ?_
                      refine WP.nil ?_
                      refine Out.drop ?_
                      refine Out.perm pl1 ?_
                      refine Out.drop ?_
                      refine Out.again (i + 1) ?_ ?_ ?_ ?_
                      · exact (by first | omega | (dsimp only; omega))
                      · first | omega | (dsimp only; omega)
                      · exact (Sub.cons rfl (Sub.cons rfl (Sub.cons rfl (Sub.cons (by rw [hbs]; rfl) (Sub.cons (congrArg some (hvg1.1).symm) (Sub.cons rfl (Sub.cons rfl Sub.nil)))))))
                      · exact (fun _ h => h)
            · skip
              have h9 : ¬ (((st.2.length + ((x.text).size) : Nat) : Int) ≤ ((B : Nat) : Int)) := h9
              refine WP.skip rfl rfl rfl rfl rfl rfl rfl ?_
              refine WP.skip rfl rfl rfl rfl rfl rfl rfl ?_
              refine WP.skip rfl rfl rfl rfl rfl rfl rfl ?_
              refine WP.skip rfl rfl rfl rfl rfl rfl rfl ?_
              refine WP.val rfl rfl rfl (Val.pickF rfl rfl rfl) ?_
              refine WP.nil ?_
              refine Out.next ?_
              refine WPc.condF rfl rfl ?_
              refine WPc.skip ?_
              refine Out.next ?_
              refine WPc.seq ?_
              refine WPc.seq ?_
              refine WPc.know 10 (.int .i64 (((st.2.length + x.text.size : Nat) : Int) - ((szs (y.ss.take 0) : Nat) : Int))) rfl (by congr 1) ?_
              refine WPc.region ?_
              refine WP.val rfl rfl rfl (Val.fieldAddr (j := 1) rfl Ty.fo30_1 rfl rfl) ?_
              refine WP.val rfl rfl rfl (Val.load rfl Ty.sc28 rfl (fun w h => h.cell 0 rfl rfl)) ?_
              refine WP.val rfl rfl rfl (Val.lenSeq rfl Ty.sl28 rfl (fun w h => h.at 3 rfl)) ?_
              refine WP.val rfl rfl rfl (Val.move rfl rfl) ?_
              refine WP.nil ?_
              refine Out.next ?_
              refine WPc.block ?_
              refine WPc.drop ?_
              refine WPc.loop (ι := Nat) (fun j => j ≤ y.ss.length) (fun j => [(0, .int .i64 (((B : Nat) : Int))), (1, .int .i64 (((page : Nat) : Int))), (3, .slice (some ⟨b0, o0, none⟩) l.length c0), (10, .int .i64 ((((st.2.length + x.text.size : Nat) : Int) - ((szs (y.ss.take j) : Nat) : Int)))), (35, .slice (some ⟨g1, 0, none⟩) an.length cg1), (36, .int .i64 (((an.length : Nat) : Int))), (37, .int .i64 (((i : Nat) : Int))), (84, y.v), (85, .int .i64 (((y.ss.length : Nat) : Int))), (86, .int .i64 (((j : Nat) : Int)))]) (fun j => Ro (Blk g1 (flatOf An.cells an ++ spg1) Tg1) :: Seq u an.length (flatOf An.cells an) :: Seq y.v y.ss.length (y.ss.map .string) :: Ans an :: Old W0 :: F) (fun j => y.ss.length - j) 0 (Nat.zero_le _) ((Sub.cons rfl (Sub.cons rfl (Sub.cons rfl (Sub.cons rfl (Sub.cons rfl (Sub.cons rfl (Sub.cons rfl (Sub.cons rfl (Sub.cons rfl (Sub.cons rfl Sub.nil))))))))))) (fun _ h => h) ?_
              rintro j hj
              show WPc _ _ _ _ _ [(0, .int .i64 (((B : Nat) : Int))), (1, .int .i64 (((page : Nat) : Int))), (3, .slice (some ⟨b0, o0, none⟩) l.length c0), (10, .int .i64 ((((st.2.length + x.text.size : Nat) : Int) - ((szs (y.ss.take j) : Nat) : Int)))), (35, .slice (some ⟨g1, 0, none⟩) an.length cg1), (36, .int .i64 (((an.length : Nat) : Int))), (37, .int .i64 (((i : Nat) : Int))), (84, y.v), (85, .int .i64 (((y.ss.length : Nat) : Int))), (86, .int .i64 (((j : Nat) : Int)))] (Ro (Blk g1 (flatOf An.cells an ++ spg1) Tg1) :: Seq u an.length (flatOf An.cells an) :: Seq y.v y.ss.length (y.ss.map .string) :: Ans an :: Old W0 :: F)
              replace hj : j ≤ y.ss.length := hj
              refine WPc.seq ?_
              refine WPc.region ?_
              refine WP.val rfl rfl rfl (Val.lss rfl rfl rfl) ?_
              refine WP.nil ?_
              refine Out.next ?_
              refine WPc.seq ?_
              refine WPc.ifP rfl (fun h14 => ?_) (fun h14 => ?_)
              · skip
                have h14 : (((j : Nat) : Int) < ((y.ss.length : Nat) : Int)) := h14
                refine WPc.skip ?_
                refine Out.next ?_
                refine WPc.seq ?_
                refine WPc.block ?_
                refine WPc.seq ?_
                obtain ⟨sx, hsx⟩ : ∃ sx, y.ss[j]? = some sx := ⟨_, List.getElem?_eq_getElem (by omega)⟩
                have hz1 := szs_take hsx
                have hz2 := szs_le y.ss (j + 1)
                refine WPc.perm pl2 ?_
                refine WPc.open (fun w h => h.seqOpen (by omega)) ?_
                rintro ⟨g5, cg5, spg5, Tg5⟩
                refine WPc.pure (fun hvg5 => ?_)
                refine WPc.know 84 (.slice (some ⟨g5, 0, none⟩) y.ss.length cg5) rfl hvg5.1 ?_
                show WPc _ _ _ _ _ _ (Ro (Blk g5 (y.ss.map .string ++ spg5) Tg5) :: Seq y.v y.ss.length (y.ss.map .string) :: Ro (Blk g1 (flatOf An.cells an ++ spg1) Tg1) :: Seq u an.length (flatOf An.cells an) :: Ans an :: Old W0 :: F)
                refine WPc.region ?_
                refine WP.val rfl rfl rfl (Val.indexAddr (j := j) (q := j) rfl Ty.sl28 rfl rfl (by omega) (by omega) (by omega)) ?_
                refine WP.val rfl rfl rfl (Val.load (v := .string sx) rfl Ty.sc9 rfl (fun w h => h.cellRo 0 rfl (by rw [List.getElem?_append_left (by simp; omega)]; simp [hsx]))) ?_
                refine WP.val rfl rfl rfl (Val.assign rfl rfl) ?_
                refine WP.nil ?_
                refine Out.next ?_
                refine WPc.region ?_
                refine WP.val rfl rfl rfl (Val.move rfl rfl) ?_
                refine WP.val rfl rfl rfl (Val.move rfl rfl) ?_
                refine WP.val rfl rfl rfl (Val.lenS rfl Ty.st9 rfl) ?_
                refine WP.val rfl rfl rfl (Val.sub (z := (((st.2.length + x.text.size : Nat) : Int) - ((szs (y.ss.take j) : Nat) : Int)) - (((sx).size : Nat) : Int)) rfl rfl rfl (w64 (by omega) (by omega))) ?_
                refine WP.val rfl rfl rfl (Val.assign rfl rfl) ?_
                refine WP.nil ?_
                refine Out.block ?_
                refine Out.next ?_
                refine WPc.know 10 (.int .i64 (((st.2.length + x.text.size : Nat) : Int) - ((szs (y.ss.take (j + 1)) : Nat) : Int))) rfl (by congr 1; omega) ?_
                refine WPc.region ?_
                refine WP.val rfl rfl rfl (Val.add (z := ((j + 1 : Nat) : Int)) rfl rfl rfl ((w64 (by omega) (by omega)).trans (by omega))) ?_
                refine WP.val rfl rfl rfl (Val.move rfl rfl) ?_
                refine WP.nil ?_
                refine Out.drop ?_
                refine Out.perm pl4 ?_
                refine Out.perm pl4 ?_
                refine Out.perm pl2 ?_
                refine Out.perm pl4 ?_
                refine Out.perm pl4 ?_
                refine Out.again (j + 1) ?_ ?_ ?_ ?_
                · exact (by first | omega | (dsimp only; omega))
                · first | omega | (dsimp only; omega)
                · exact (Sub.cons rfl (Sub.cons rfl (Sub.cons rfl (Sub.cons rfl (Sub.cons rfl (Sub.cons rfl (Sub.cons rfl (Sub.cons (congrArg some (hvg5.1).symm) (Sub.cons rfl (Sub.cons rfl Sub.nil))))))))))
                · exact (fun _ h => h)
              · skip
                have h14 : ¬ (((j : Nat) : Int) < ((y.ss.length : Nat) : Int)) := h14
                refine WPc.exit ?_
                refine Out.then_exit ?_
                refine Out.then_exit ?_
                refine Out.block_exit ?_
                refine Out.next ?_
                refine WPc.seq ?_
                have e : y.ss.take j = y.ss := List.take_of_length_le (by omega)
                refine WPc.know 10 (.int .i64 (((opStep page B st x).2.length : Nat) : Int)) rfl (by rw [e]; first | rfl | (congr 1; omega)) ?_
                refine WPc.region ?_
                refine WP.val rfl rfl rfl (Val.move rfl rfl) ?_
                refine WP.val rfl rfl rfl (Val.lss rfl rfl rfl) ?_
                refine WP.val rfl rfl rfl (Val.move rfl rfl) ?_
                refine WP.split 97 rfl (fun h15 => ?_) (fun h15 => ?_)
                · skip
                  have h15 : ((((opStep page B st x).2.length : Nat) : Int) < (0 : Int)) := h15
                  exfalso; omega
                · skip
                  have h15 : ¬ ((((opStep page B st x).2.length : Nat) : Int) < (0 : Int)) := h15
                  refine WP.valG rfl rfl rfl rfl rfl rfl rfl (Val.move rfl rfl) ?_
                  refine WP.valG rfl rfl rfl rfl rfl rfl rfl (Val.move rfl rfl) ?_
                  refine WP.valG rfl rfl rfl rfl rfl rfl rfl (Val.move rfl rfl) ?_
                  refine WP.valG rfl rfl rfl rfl rfl rfl rfl (Val.add (z := ((B + page : Nat) : Int)) rfl rfl rfl ((w64 (by omega) (by omega)).trans (by omega))) ?_
                  refine WP.valG rfl rfl rfl rfl rfl rfl rfl (Val.gtr rfl rfl rfl) ?_
                  refine WP.val rfl rfl rfl (Val.pickF rfl rfl rfl) ?_
                  refine WP.nil ?_
                  refine Out.next ?_
                  refine WPc.ifP rfl (fun h16 => ?_) (fun h16 => ?_)
                  · skip
                    have h16 : (((B + page : Nat) : Int) < (((opStep page B st x).2.length : Nat) : Int)) := h16
                    exfalso; omega
                  · skip
                    have h16 : ¬ (((B + page : Nat) : Int) < (((opStep page B st x).2.length : Nat) : Int)) := h16
                    refine WPc.skip ?_
                    refine Out.block ?_
                    refine Out.next ?_
                    refine WPc.region ?_
                    refine WP.val rfl rfl rfl (Val.add (z := ((i + 1 : Nat) : Int)) rfl rfl rfl ((w64 (by omega) (by omega)).trans (by omega))) ?_
                    refine WP.val rfl rfl rfl (Val.move rfl rfl) ?_
                    refine WP.nil ?_
                    refine Out.drop ?_
                    refine Out.perm pl1 ?_
                    refine Out.drop ?_
                    refine Out.again (i + 1) ?_ ?_ ?_ ?_
                    · exact (by first | omega | (dsimp only; omega))
                    · first | omega | (dsimp only; omega)
                    · exact (Sub.cons rfl (Sub.cons rfl (Sub.cons rfl (Sub.cons (by rw [hbs]; rfl) (Sub.cons (congrArg some (hvg1.1).symm) (Sub.cons rfl (Sub.cons rfl Sub.nil)))))))
                    · exact (fun _ h => h)
        · skip
          have h4 : ¬ (((i : Nat) : Int) < ((an.length : Nat) : Int)) := h4
          refine WPc.exit ?_
          refine Out.then_exit ?_
          refine Out.then_exit ?_
          refine Out.block_exit ?_
          refine Out.next ?_
          refine WPc.seq ?_
          refine WPc.region ?_
          refine WP.eff rfl rfl rfl (Eff.call rfl rfl Try.call11 (live_spec)) ?_
          rintro _ _ ⟨_, ⟨rfl, rfl⟩, rfl⟩
          show WP _ _ _ _ _ _ _ (Seq u an.length (flatOf An.cells an) :: Ans an :: Old W0 :: F)
          refine WP.val rfl rfl rfl (Val.assign rfl rfl) ?_
          refine WP.nil ?_
          refine Out.next ?_
          refine WPc.ret ?_
          refine Out.drop ?_
          refine Out.drop ?_
          exact Out.ret1 (L' := [Old W0]) Try.results3 rfl ⟨rfl, rfl⟩ (fun _ h => h)

end Go.Proofs.Ythmkdioafjmclaa.Pg7
