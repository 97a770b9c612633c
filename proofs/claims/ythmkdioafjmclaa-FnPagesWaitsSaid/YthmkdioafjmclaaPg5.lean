import Derived.Test.YthmkdioafjmclaaPg4
namespace Go.Proofs.Ythmkdioafjmclaa.Pg5
open Go.RowKit Go.Proofs.Ythmkdioafjmclaa Go.Proofs.Ythmkdioafjmclaa.Sl Go.Proofs.Ythmkdioafjmclaa.PgModel Go.Proofs.Ythmkdioafjmclaa.Pg Go.Proofs.Ythmkdioafjmclaa.Pg2 Go.Proofs.Ythmkdioafjmclaa.Pg3 Go.Proofs.Ythmkdioafjmclaa.Pg4
set_option linter.unusedVariables false
set_option linter.unusedSimpArgs false

set_option maxRecDepth 100000 in
set_option maxHeartbeats 2000000 in
theorem pages_nil (A : HProp) (page B off : Nat) (hp : 0 < page) (hpb : page ≤ B) (hB : B ≤ 1048576) (hoff : off ≤ 4294967296) (a : Option Addr) (c : Nat) : Does Try.prog 12 [.int .i64 (((B : Nat) : Int)), .int .i64 (((page : Nat) : Int)), .int .i64 (((off : Nat) : Int)), .slice a 0 c] [A] (fun u L => ∃ v an, an.map An.key = answers page B (off, []) ([] : List PgOp) ∧ u = v ∧ L = [Own 30 2 v an.length (flatOf An.cells an), Ans an, A]) := by
  refine Does.enter 76 Try.func12 rfl rfl rfl fun W F => ?_
  show WPc _ _ _ _ _ [(0, .int .i64 (((B : Nat) : Int))), (1, .int .i64 (((page : Nat) : Int))), (2, .int .i64 (((off : Nat) : Int))), (3, .slice a 0 c)] (A :: F)
  refine WPc.seq ?_
  refine WPc.region ?_
  refine WP.val rfl rfl rfl (Val.assign rfl rfl) ?_
  refine WP.nil ?_
  refine Out.next ?_
  refine WPc.seq ?_
  refine WPc.seq ?_
  refine WPc.region ?_
  refine WP.val rfl rfl rfl (Val.move rfl rfl) ?_
  refine WP.val rfl rfl rfl (Val.lss rfl rfl rfl) ?_
  refine WP.val rfl rfl rfl (Val.move rfl rfl) ?_
  refine WP.split 16 rfl (fun h1 => ?_) (fun h1 => ?_)
  · skip
    have h1 : (((page : Nat) : Int) < (1 : Int)) := h1
    exfalso; omega
  · skip
    have h1 : ¬ (((page : Nat) : Int) < (1 : Int)) := h1
    refine WP.valG rfl rfl rfl rfl rfl rfl rfl (Val.move rfl rfl) ?_
    refine WP.valG rfl rfl rfl rfl rfl rfl rfl (Val.lss rfl rfl rfl) ?_
    refine WP.val rfl rfl rfl (Val.pickF rfl rfl rfl) ?_
    refine WP.val rfl rfl rfl (Val.move rfl rfl) ?_
    refine WP.split 20 rfl (fun h2 => ?_) (fun h2 => ?_)
    · skip
      have h2 : (((off : Nat) : Int) < (0 : Int)) := h2
      exfalso; omega
    · skip
      have h2 : ¬ (((off : Nat) : Int) < (0 : Int)) := h2
      refine WP.valG rfl rfl rfl rfl rfl rfl rfl (Val.move rfl rfl) ?_
      refine WP.valG rfl rfl rfl rfl rfl rfl rfl (Val.move rfl rfl) ?_
      refine WP.valG rfl rfl rfl rfl rfl rfl rfl (Val.lss rfl rfl rfl) ?_
      refine WP.val rfl rfl rfl (Val.pickF rfl rfl rfl) ?_
      refine WP.val rfl rfl rfl (Val.move rfl rfl) ?_
      refine WP.split 25 rfl (fun h3 => ?_) (fun h3 => ?_)
      · skip
        have h3 : (((B : Nat) : Int) < ((page : Nat) : Int)) := h3
        exfalso; omega
      · skip
        have h3 : ¬ (((B : Nat) : Int) < ((page : Nat) : Int)) := h3
        refine WP.valG rfl rfl rfl rfl rfl rfl rfl (Val.move rfl rfl) ?_
        refine WP.valG rfl rfl rfl rfl rfl rfl rfl (Val.gtr rfl rfl rfl) ?_
        refine WP.val rfl rfl rfl (Val.pickF rfl rfl rfl) ?_
        refine WP.nil ?_
        refine Out.next ?_
        refine WPc.ifP rfl (fun h4 => ?_) (fun h4 => ?_)
        · skip
          have h4 : ((1048576 : Int) < ((B : Nat) : Int)) := h4
          exfalso; omega
        · skip
          have h4 : ¬ ((1048576 : Int) < ((B : Nat) : Int)) := h4
          refine WPc.skip ?_
          refine Out.next ?_
          refine WPc.seq ?_
          refine WPc.region ?_
          refine WP.val rfl rfl rfl (Val.mk (cs := [.slice none 0 0]) rfl rfl (fun _ => by kernel_rfl)) ?_
          refine WP.eff rfl rfl rfl (Eff.box (C := [.slice none 0 0]) rfl rfl rfl) ?_
          rintro _ _ ⟨b1, rfl, rfl⟩
          refine WP.val rfl rfl rfl (Val.assign rfl rfl) ?_
          refine WP.nil ?_
          refine Out.next ?_
          refine WPc.seq ?_
          refine WPc.region ?_
          refine WP.val rfl rfl rfl (Val.move rfl rfl) ?_
          refine WP.val rfl rfl rfl (Val.iface rfl rfl Ty.ni76) ?_
          refine WP.val rfl rfl rfl (Val.move rfl rfl) ?_
          refine WP.val rfl rfl rfl (Val.move rfl rfl) ?_
          refine WP.val rfl rfl rfl (Val.move rfl rfl) ?_
          refine WP.eff rfl rfl rfl (Eff.call rfl rfl Try.call32 (zznew_spec b1 page B off hp hpb hB)) ?_
          rintro _ _ ⟨_, ⟨pw, bf, junk0, hj0, rfl, rfl⟩, rfl⟩
          show WP _ _ _ _ _ _ _ (Blk pw [.iface 76 (.pointer (some ⟨b1, 0, none⟩)), .int .i64 (((off : Nat) : Int)), .int .i64 (((page : Nat) : Int)), .int .i64 (((([] : List UInt8).length : Nat) : Int)), .slice (some ⟨bf, 0, none⟩) ((B + page)) ((B + page)), .int .i64 (((B : Nat) : Int))] 125 :: Blk bf (byt (([] : List UInt8)) ++ byt (junk0)) 5 :: Blk b1 [.slice none 0 0] 78 :: A :: F)
          refine WP.val rfl rfl rfl (Val.assign rfl rfl) ?_
          refine WP.nil ?_
          refine Out.next ?_
          refine WPc.seq ?_
          refine WPc.region ?_
          refine WP.val rfl rfl rfl (Val.assign rfl rfl) ?_
          refine WP.nil ?_
          refine Out.next ?_
          refine WPc.seq ?_
          refine WPc.seq ?_
          refine WPc.region ?_
          refine WP.val rfl rfl rfl (Val.assign rfl rfl) ?_
          refine WP.nil ?_
          refine Out.next ?_
          refine WPc.block ?_
          refine WPc.perm pl3 ?_
          refine WPc.perm pl2 ?_
          refine WPc.perm pl2 ?_
          refine WPc.perm pl3 ?_
          refine WPc.loop (ι := Nat × Value × Value × List UInt8 × List An) (fun ⟨i, v, wv0, jk, an⟩ => i ≤ ([] : List PgOp).length ∧ an.map An.key = answers page B (off, []) (([] : List PgOp).take i) ∧ PGood page B (behindOps page B (off, []) (([] : List PgOp).take i)) ∧ (behindOps page B (off, []) (([] : List PgOp).take i)).2.length + jk.length = B + page) (fun ⟨i, v, wv0, jk, an⟩ => [(3, .slice a 0 c), (9, .pointer (some ⟨b1, 0, none⟩)), (10, .pointer (some ⟨pw, 0, none⟩)), (11, v), (12, .int .i64 (((i : Nat) : Int)))]) (fun ⟨i, v, wv0, jk, an⟩ => Own 30 2 v an.length (flatOf An.cells an) :: Blk b1 [wv0] 78 :: Blk pw [.iface 76 (.pointer (some ⟨b1, 0, none⟩)), .int .i64 ((((behindOps page B (off, []) (([] : List PgOp).take i)).1 : Nat) : Int)), .int .i64 (((page : Nat) : Int)), .int .i64 ((((behindOps page B (off, []) (([] : List PgOp).take i)).2.length : Nat) : Int)), .slice (some ⟨bf, 0, none⟩) ((B + page)) ((B + page)), .int .i64 (((B : Nat) : Int))] 125 :: Blk bf (byt ((behindOps page B (off, []) (([] : List PgOp).take i)).2) ++ byt (jk)) 5 :: Ans an :: A :: F) (fun ⟨i, v, wv0, jk, an⟩ => ([] : List PgOp).length - i) (0, .slice none 0 0, .slice none 0 0, junk0, []) ⟨by omega, rfl, ⟨fit_small hp (by simp [behindOps]), by simpa [behindOps] using hoff⟩, hj0⟩ ((Sub.cons rfl (Sub.cons rfl (Sub.cons rfl (Sub.cons rfl (Sub.cons rfl Sub.nil)))))) (fun w h => (h.allNil.perm pl3 |>.perm pl3 |>.perm pl3).ownNil) ?_
          rintro ⟨i, v, wv0, jk, an⟩ ⟨hi, han, hg, hjk⟩
          show WPc _ _ _ _ _ [(3, .slice a 0 c), (9, .pointer (some ⟨b1, 0, none⟩)), (10, .pointer (some ⟨pw, 0, none⟩)), (11, v), (12, .int .i64 (((i : Nat) : Int)))] (Own 30 2 v an.length (flatOf An.cells an) :: Blk b1 [wv0] 78 :: Blk pw [.iface 76 (.pointer (some ⟨b1, 0, none⟩)), .int .i64 ((((behindOps page B (off, []) (([] : List PgOp).take i)).1 : Nat) : Int)), .int .i64 (((page : Nat) : Int)), .int .i64 ((((behindOps page B (off, []) (([] : List PgOp).take i)).2.length : Nat) : Int)), .slice (some ⟨bf, 0, none⟩) ((B + page)) ((B + page)), .int .i64 (((B : Nat) : Int))] 125 :: Blk bf (byt ((behindOps page B (off, []) (([] : List PgOp).take i)).2) ++ byt (jk)) 5 :: Ans an :: A :: F)
          try dsimp only at hi han hg hjk
          refine WPc.seq ?_
          refine WPc.seq ?_
          refine WPc.region ?_
          refine WP.val rfl rfl rfl (Val.move rfl rfl) ?_
          refine WP.val rfl rfl rfl (Val.move rfl rfl) ?_
          refine WP.val rfl rfl rfl (Val.len rfl Ty.sl22 rfl) ?_
          refine WP.val rfl rfl rfl (Val.lss rfl rfl rfl) ?_
          refine WP.nil ?_
          refine Out.next ?_
          refine WPc.ifP rfl (fun h5 => ?_) (fun h5 => ?_)
          · skip
            have h5 : (((i : Nat) : Int) < (0 : Int)) := h5
            exfalso; simp at *; omega
          · skip
            have h5 : ¬ (((i : Nat) : Int) < (0 : Int)) := h5
            refine WPc.exit ?_
            refine Out.then_exit ?_
            refine Out.then_exit ?_
            refine Out.block_exit ?_
            refine Out.next ?_
            refine WPc.seq ?_
            refine WPc.region ?_
            refine WP.val rfl rfl rfl (Val.move rfl rfl) ?_
            refine WP.val rfl rfl rfl (Val.assign rfl rfl) ?_
            refine WP.nil ?_
            refine Out.next ?_
            refine WPc.ret ?_
            have e : i = ([] : List PgOp).length := by simp at *; omega
            subst e
            rw [List.take_length] at han
            refine Out.perm pl1 ?_
            refine Out.drop ?_
            refine Out.perm pl1 ?_
            refine Out.drop ?_
            refine Out.perm pl1 ?_
            refine Out.drop ?_
            exact Out.ret1 (L' := _) Try.results12 rfl ⟨v, an, han, rfl, rfl⟩ (fun _ h => h)

set_option maxRecDepth 100000 in
set_option maxHeartbeats 2000000 in
theorem pages_row (A : HProp) (page B off : Nat) (hp : 0 < page) (hpb : page ≤ B) (hB : B ≤ 1048576) (hoff : off ≤ 4294967296) (l : List PgOp) (hl : l.length ≤ 1000) (htx : ∀ x ∈ l, x.text.size ≤ 2097152) (b0 o0 c0 : Nat) (hr : ∀ w, Holds A w → ∀ i x, l[i]? = some x → w.rangeAt b0 (o0 + i * 2) (PgOp.cells x)) : Does Try.prog 12 [.int .i64 (((B : Nat) : Int)), .int .i64 (((page : Nat) : Int)), .int .i64 (((off : Nat) : Int)), .slice (some ⟨b0, o0, none⟩) l.length c0] [A] (fun u L => ∃ v an, an.map An.key = answers page B (off, []) l ∧ u = v ∧ L = [Own 30 2 v an.length (flatOf An.cells an), Ans an, A]) := by
  refine Does.enter 76 Try.func12 rfl rfl rfl fun W F => ?_
  show WPc _ _ _ _ _ [(0, .int .i64 (((B : Nat) : Int))), (1, .int .i64 (((page : Nat) : Int))), (2, .int .i64 (((off : Nat) : Int))), (3, .slice (some ⟨b0, o0, none⟩) l.length c0)] (A :: F)
  refine WPc.seq ?_
  refine WPc.region ?_
  refine WP.val rfl rfl rfl (Val.assign rfl rfl) ?_
  refine WP.nil ?_
  refine Out.next ?_
  refine WPc.seq ?_
  refine WPc.seq ?_
  refine WPc.region ?_
  refine WP.val rfl rfl rfl (Val.move rfl rfl) ?_
  refine WP.val rfl rfl rfl (Val.lss rfl rfl rfl) ?_
  refine WP.val rfl rfl rfl (Val.move rfl rfl) ?_
  refine WP.split 16 rfl (fun h1 => ?_) (fun h1 => ?_)
  · skip
    have h1 : (((page : Nat) : Int) < (1 : Int)) := h1
    exfalso; omega
  · skip
    have h1 : ¬ (((page : Nat) : Int) < (1 : Int)) := h1
    refine WP.valG rfl rfl rfl rfl rfl rfl rfl (Val.move rfl rfl) ?_
    refine WP.valG rfl rfl rfl rfl rfl rfl rfl (Val.lss rfl rfl rfl) ?_
    refine WP.val rfl rfl rfl (Val.pickF rfl rfl rfl) ?_
    refine WP.val rfl rfl rfl (Val.move rfl rfl) ?_
    refine WP.split 20 rfl (fun h2 => ?_) (fun h2 => ?_)
    · skip
      have h2 : (((off : Nat) : Int) < (0 : Int)) := h2
      exfalso; omega
    · skip
      have h2 : ¬ (((off : Nat) : Int) < (0 : Int)) := h2
      refine WP.valG rfl rfl rfl rfl rfl rfl rfl (Val.move rfl rfl) ?_
      refine WP.valG rfl rfl rfl rfl rfl rfl rfl (Val.move rfl rfl) ?_
      refine WP.valG rfl rfl rfl rfl rfl rfl rfl (Val.lss rfl rfl rfl) ?_
      refine WP.val rfl rfl rfl (Val.pickF rfl rfl rfl) ?_
      refine WP.val rfl rfl rfl (Val.move rfl rfl) ?_
      refine WP.split 25 rfl (fun h3 => ?_) (fun h3 => ?_)
      · skip
        have h3 : (((B : Nat) : Int) < ((page : Nat) : Int)) := h3
        exfalso; omega
      · skip
        have h3 : ¬ (((B : Nat) : Int) < ((page : Nat) : Int)) := h3
        refine WP.valG rfl rfl rfl rfl rfl rfl rfl (Val.move rfl rfl) ?_
        refine WP.valG rfl rfl rfl rfl rfl rfl rfl (Val.gtr rfl rfl rfl) ?_
        refine WP.val rfl rfl rfl (Val.pickF rfl rfl rfl) ?_
        refine WP.nil ?_
        refine Out.next ?_
        refine WPc.ifP rfl (fun h4 => ?_) (fun h4 => ?_)
        · skip
          have h4 : ((1048576 : Int) < ((B : Nat) : Int)) := h4
          exfalso; omega
        · skip
          have h4 : ¬ ((1048576 : Int) < ((B : Nat) : Int)) := h4
          refine WPc.skip ?_
          refine Out.next ?_
          refine WPc.seq ?_
          refine WPc.region ?_
          refine WP.val rfl rfl rfl (Val.mk (cs := [.slice none 0 0]) rfl rfl (fun _ => by kernel_rfl)) ?_
          refine WP.eff rfl rfl rfl (Eff.box (C := [.slice none 0 0]) rfl rfl rfl) ?_
          rintro _ _ ⟨b1, rfl, rfl⟩
          refine WP.val rfl rfl rfl (Val.assign rfl rfl) ?_
          refine WP.nil ?_
          refine Out.next ?_
          refine WPc.seq ?_
          refine WPc.region ?_
          refine WP.val rfl rfl rfl (Val.move rfl rfl) ?_
          refine WP.val rfl rfl rfl (Val.iface rfl rfl Ty.ni76) ?_
          refine WP.val rfl rfl rfl (Val.move rfl rfl) ?_
          refine WP.val rfl rfl rfl (Val.move rfl rfl) ?_
          refine WP.val rfl rfl rfl (Val.move rfl rfl) ?_
          refine WP.eff rfl rfl rfl (Eff.call rfl rfl Try.call32 (zznew_spec b1 page B off hp hpb hB)) ?_
          rintro _ _ ⟨_, ⟨pw, bf, junk0, hj0, rfl, rfl⟩, rfl⟩
          show WP _ _ _ _ _ _ _ (Blk pw [.iface 76 (.pointer (some ⟨b1, 0, none⟩)), .int .i64 (((off : Nat) : Int)), .int .i64 (((page : Nat) : Int)), .int .i64 (((([] : List UInt8).length : Nat) : Int)), .slice (some ⟨bf, 0, none⟩) ((B + page)) ((B + page)), .int .i64 (((B : Nat) : Int))] 125 :: Blk bf (byt (([] : List UInt8)) ++ byt (junk0)) 5 :: Blk b1 [.slice none 0 0] 78 :: A :: F)
          refine WP.val rfl rfl rfl (Val.assign rfl rfl) ?_
          refine WP.nil ?_
          refine Out.next ?_
          refine WPc.seq ?_
          refine WPc.region ?_
          refine WP.val rfl rfl rfl (Val.assign rfl rfl) ?_
          refine WP.nil ?_
          refine Out.next ?_
          refine WPc.seq ?_
          refine WPc.seq ?_
          refine WPc.region ?_
          refine WP.val rfl rfl rfl (Val.assign rfl rfl) ?_
          refine WP.nil ?_
          refine Out.next ?_
          refine WPc.block ?_
          refine WPc.perm pl3 ?_
          refine WPc.perm pl2 ?_
          refine WPc.perm pl2 ?_
          refine WPc.perm pl3 ?_
          refine WPc.loop (ι := Nat × Value × Value × List UInt8 × List An) (fun ⟨i, v, wv0, jk, an⟩ => i ≤ l.length ∧ an.map An.key = answers page B (off, []) (l.take i) ∧ PGood page B (behindOps page B (off, []) (l.take i)) ∧ (behindOps page B (off, []) (l.take i)).2.length + jk.length = B + page) (fun ⟨i, v, wv0, jk, an⟩ => [(3, .slice (some ⟨b0, o0, none⟩) l.length c0), (9, .pointer (some ⟨b1, 0, none⟩)), (10, .pointer (some ⟨pw, 0, none⟩)), (11, v), (12, .int .i64 (((i : Nat) : Int)))]) (fun ⟨i, v, wv0, jk, an⟩ => Own 30 2 v an.length (flatOf An.cells an) :: Blk b1 [wv0] 78 :: Blk pw [.iface 76 (.pointer (some ⟨b1, 0, none⟩)), .int .i64 ((((behindOps page B (off, []) (l.take i)).1 : Nat) : Int)), .int .i64 (((page : Nat) : Int)), .int .i64 ((((behindOps page B (off, []) (l.take i)).2.length : Nat) : Int)), .slice (some ⟨bf, 0, none⟩) ((B + page)) ((B + page)), .int .i64 (((B : Nat) : Int))] 125 :: Blk bf (byt ((behindOps page B (off, []) (l.take i)).2) ++ byt (jk)) 5 :: Ans an :: A :: F) (fun ⟨i, v, wv0, jk, an⟩ => l.length - i) (0, .slice none 0 0, .slice none 0 0, junk0, []) ⟨by omega, rfl, ⟨fit_small hp (by simp [behindOps]), by simpa [behindOps] using hoff⟩, hj0⟩ ((Sub.cons rfl (Sub.cons rfl (Sub.cons rfl (Sub.cons rfl (Sub.cons rfl Sub.nil)))))) (fun w h => (h.allNil.perm pl3 |>.perm pl3 |>.perm pl3).ownNil) ?_
          rintro ⟨i, v, wv0, jk, an⟩ ⟨hi, han, hg, hjk⟩
          show WPc _ _ _ _ _ [(3, .slice (some ⟨b0, o0, none⟩) l.length c0), (9, .pointer (some ⟨b1, 0, none⟩)), (10, .pointer (some ⟨pw, 0, none⟩)), (11, v), (12, .int .i64 (((i : Nat) : Int)))] (Own 30 2 v an.length (flatOf An.cells an) :: Blk b1 [wv0] 78 :: Blk pw [.iface 76 (.pointer (some ⟨b1, 0, none⟩)), .int .i64 ((((behindOps page B (off, []) (l.take i)).1 : Nat) : Int)), .int .i64 (((page : Nat) : Int)), .int .i64 ((((behindOps page B (off, []) (l.take i)).2.length : Nat) : Int)), .slice (some ⟨bf, 0, none⟩) ((B + page)) ((B + page)), .int .i64 (((B : Nat) : Int))] 125 :: Blk bf (byt ((behindOps page B (off, []) (l.take i)).2) ++ byt (jk)) 5 :: Ans an :: A :: F)
          try dsimp only at hi han hg hjk
          refine WPc.seq ?_
          refine WPc.seq ?_
          refine WPc.region ?_
          refine WP.val rfl rfl rfl (Val.move rfl rfl) ?_
          refine WP.val rfl rfl rfl (Val.move rfl rfl) ?_
          refine WP.val rfl rfl rfl (Val.len rfl Ty.sl22 rfl) ?_
          refine WP.val rfl rfl rfl (Val.lss rfl rfl rfl) ?_
          refine WP.nil ?_
          refine Out.next ?_
          refine WPc.ifP rfl (fun h5 => ?_) (fun h5 => ?_)
          · skip
            have h5 : (((i : Nat) : Int) < ((l.length : Nat) : Int)) := h5
            refine WPc.skip ?_
            refine Out.next ?_
            refine WPc.seq ?_
            refine WPc.block ?_
            refine WPc.seq ?_
            generalize hst : behindOps page B (off, []) (l.take i) = st at *
            show WPc _ _ _ _ _ _ (Own 30 2 v an.length (flatOf An.cells an) :: Blk b1 [wv0] 78 :: Blk pw [.iface 76 (.pointer (some ⟨b1, 0, none⟩)), .int .i64 ((((st).1 : Nat) : Int)), .int .i64 (((page : Nat) : Int)), .int .i64 ((((st).2.length : Nat) : Int)), .slice (some ⟨bf, 0, none⟩) ((B + page)) ((B + page)), .int .i64 (((B : Nat) : Int))] 125 :: Blk bf (byt (st.2) ++ byt (jk)) 5 :: Ans an :: A :: F)
            have hlt : i < l.length := by omega
            obtain ⟨x, hx⟩ : ∃ x, l[i]? = some x := ⟨_, List.getElem?_eq_getElem hlt⟩
            have hxl := htx x (List.mem_of_getElem? hx)
            have hanl : an.length = i := by have := congrArg List.length han; rw [List.length_map, answers_len, List.length_take] at this; omega
            refine WPc.region ?_
            refine WP.val rfl rfl rfl (Val.mk (cs := [.int .i64 0, .slice none 0 0]) rfl rfl (fun _ => by kernel_rfl)) ?_
            refine WP.eff rfl rfl rfl (Eff.alloc rfl Ty.z30) ?_
            rintro _ _ ⟨b2, rfl, rfl⟩
            refine WP.eff0 rfl rfl (Eff.storeAgg (cs := [.int .i64 0, .slice none 0 0]) (C' := [.int .i64 0, .slice none 0 0]) rfl Ty.ag30 rfl rfl rfl rfl (by simp) rfl) ?_
            rintro _ _ rfl
            refine WP.nil ?_
            refine Out.next ?_
            refine WPc.seq ?_
            refine WPc.region ?_
            refine WP.val rfl rfl rfl (Val.move rfl rfl) ?_
            refine WP.val rfl rfl rfl (Val.nilCheck rfl rfl) ?_
            refine WP.val rfl rfl rfl (Val.fieldAddr (j := 0) rfl Ty.fo78_0 rfl rfl) ?_
            refine WP.perm pl2 ?_
            refine WP.eff0 rfl rfl (Eff.store rfl Ty.sc28 rfl rfl rfl (by simp) st0) ?_
            rintro _ _ rfl
            refine WP.nil ?_
            refine Out.next ?_
            refine WPc.seq ?_
            refine WPc.seq ?_
            refine WPc.conv (fun w h => h.ownNil (e := 9) (k := 1)) ?_
            show WPc _ _ _ _ _ _ (Own 9 1 (.slice none 0 0) (([] : List ByteArray).length) (strs ([] : List ByteArray)) :: Blk b1 [.slice none 0 0] 78 :: Blk b2 [.int .i64 0, .slice none 0 0] 30 :: Own 30 2 v an.length (flatOf An.cells an) :: Blk pw [.iface 76 (.pointer (some ⟨b1, 0, none⟩)), .int .i64 ((((st).1 : Nat) : Int)), .int .i64 (((page : Nat) : Int)), .int .i64 ((((st).2.length : Nat) : Int)), .slice (some ⟨bf, 0, none⟩) ((B + page)) ((B + page)), .int .i64 (((B : Nat) : Int))] 125 :: Blk bf (byt (st.2) ++ byt (jk)) 5 :: Ans an :: A :: F)
            refine WPc.region ?_
            refine WP.val rfl rfl rfl (Val.move rfl rfl) ?_
            refine WP.val rfl rfl rfl (Val.move rfl rfl) ?_
            refine WP.val rfl rfl rfl (Val.indexAddr (j := i) (q := o0 + i * 2) rfl Ty.sl22 rfl rfl (by omega) (by omega) (by omega)) ?_
            refine WP.val rfl rfl rfl (Val.fieldAddr (j := o0 + i * 2 + 1) rfl Ty.fo32_1 rfl rfl) ?_
            refine WP.val rfl rfl rfl (Val.load (v := .bool (x.fl)) rfl Ty.sc4 rfl (fun w h => hr w (h.at 7 rfl) i x hx 1 _ rfl)) ?_
            refine WP.nil ?_
            refine Out.next ?_
            refine WPc.cond rfl (fun h6 => ?_) (fun h6 => ?_)
            · skip
              have h6 : (x.fl) = true := h6
              refine WPc.region ?_
              refine WP.val rfl rfl rfl (Val.move rfl rfl) ?_
              refine WP.perm pl1 ?_
              refine WP.perm pl5 ?_
              refine WP.perm pl5 ?_
              refine WP.eff rfl rfl rfl (Eff.call rfl rfl Try.call33 (Flush_spec pw b1 bf page B st.1 st.2 jk [] (.slice none 0 0) hp hpb hB hg.off hjk (by simp))) ?_
              rintro _ _ ⟨_, ⟨wv1, jk1, hj1, rfl, rfl⟩, rfl⟩
              show WP _ _ _ _ _ _ _ (Blk pw [.iface 76 (.pointer (some ⟨b1, 0, none⟩)), .int .i64 (((offs page st.1 st.2 : Nat) : Int)), .int .i64 (((page : Nat) : Int)), .int .i64 (((([] : List UInt8).length : Nat) : Int)), .slice (some ⟨bf, 0, none⟩) ((B + page)) ((B + page)), .int .i64 (((B : Nat) : Int))] 125 :: Blk bf (byt (([] : List UInt8)) ++ byt (jk1)) 5 :: Blk b1 [wv1] 78 :: Own 9 1 wv1 (([] ++ (outs st.2).map str).length) (strs ([] ++ (outs st.2).map str)) :: Blk b2 [.int .i64 0, .slice none 0 0] 30 :: Own 30 2 v an.length (flatOf An.cells an) :: Ans an :: A :: F)
              refine WP.nil ?_
              refine Out.next ?_
              refine WPc.seq ?_
              refine WPc.perm pl3 ?_
              refine WPc.fact (fun w h => own_oneCell h) (fun onewv1 => ?_)
              refine WPc.conv (fun w h => Sat.seqMk h) ?_
              show WPc _ _ _ _ _ _ (Strs wv1 ((outs st.2).map str) :: Blk pw [.iface 76 (.pointer (some ⟨b1, 0, none⟩)), .int .i64 (((offs page st.1 st.2 : Nat) : Int)), .int .i64 (((page : Nat) : Int)), .int .i64 (((([] : List UInt8).length : Nat) : Int)), .slice (some ⟨bf, 0, none⟩) ((B + page)) ((B + page)), .int .i64 (((B : Nat) : Int))] 125 :: Blk bf (byt (([] : List UInt8)) ++ byt (jk1)) 5 :: Blk b1 [wv1] 78 :: Blk b2 [.int .i64 0, .slice none 0 0] 30 :: Own 30 2 v an.length (flatOf An.cells an) :: Ans an :: A :: F)
              refine WPc.region ?_
              refine WP.val rfl rfl rfl (Val.move rfl rfl) ?_
              refine WP.val rfl rfl rfl (Val.nilCheck rfl rfl) ?_
              refine WP.val rfl rfl rfl (Val.fieldAddr (j := 0) rfl Ty.fo78_0 rfl rfl) ?_
              refine WP.val rfl rfl rfl (Val.load rfl Ty.sc28 rfl (fun w h => h.cell 3 rfl rfl)) ?_
              refine WP.val rfl rfl rfl (Val.fieldAddr (j := 1) rfl Ty.fo30_1 rfl rfl) ?_
              refine WP.perm pl4 ?_
              refine WP.eff0 rfl rfl (Eff.store rfl Ty.sc28 rfl rfl onewv1 (by simp) st1) ?_
              rintro _ _ rfl
              refine WP.nil ?_
              refine Out.next ?_
              refine WPc.region ?_
              refine WP.val rfl rfl rfl (Val.move rfl rfl) ?_
              refine WP.val rfl rfl rfl (Val.loadAgg (cs := [.int .i64 0, wv1]) rfl Ty.ag30 rfl rfl (fun w h => h.range 0 rfl rfl)) ?_
              refine WP.eff rfl rfl rfl (Eff.mkSlice (C := [.int .i64 0, wv1]) rfl Ty.sl26 rfl (fun _ => by kernel_rfl)) ?_
              rintro _ _ ⟨b3, rfl, rfl⟩
              refine WP.perm pl6 ?_
              refine WP.eff rfl rfl rfl (Eff.append (m := 1) (n0 := an.length) (news := [.int .i64 0, wv1]) rfl Ty.sl26 Ty.z30 rfl rfl rfl (.slice Ty.sl26 rfl (by simp only [List.all_cons, List.all_nil, Bool.and_true, oc_int, oc_str, oc_bool, oc_ptr, oc_slice, oc_iface, oc_map, onewv1]) (fun w h => cells_range (h.range 1 rfl rfl))) (by omega) (by omega)) ?_
              rintro v4 _ ⟨onev4, rfl⟩
              refine WP.val rfl rfl rfl (Val.assign rfl rfl) ?_
              refine WP.nil ?_
              refine Out.block ?_
              refine Out.next ?_
              refine WPc.region ?_
              refine WP.val rfl rfl rfl (Val.move rfl rfl) ?_
              refine WP.val rfl rfl rfl (Val.add (z := ((i + 1 : Nat) : Int)) rfl rfl rfl ((w64 (by omega) (by omega)).trans (by omega))) ?_
              refine WP.val rfl rfl rfl (Val.assign rfl rfl) ?_
              refine WP.nil ?_
              refine Out.perm pl7 ?_
              refine Out.perm pl4 ?_
              refine Out.conv (fun w h => ans_add (n := (0 : Int)) h) ?_
              have hstep : opStep page B st x = (offs page st.1 st.2, []) := by unfold opStep; rw [if_pos (by simp [h6])]
              have hans : opAns page B st x = ((0 : Int), (outs st.2).map str) := by unfold opAns; rw [if_pos (by simp [h6])]
              have hbs : behindOps page B (off, []) (l.take (i + 1)) = opStep page B st x := by rw [take_more hx, behind_snoc, hst]
              refine Out.perm pl2 ?_
              refine Out.drop ?_
              refine Out.perm pl2 ?_
              refine Out.drop ?_
              refine Out.perm pl5 ?_
              refine Out.perm pl1 ?_
              refine Out.perm pl4 ?_
              refine Out.perm pl4 ?_
              refine Out.perm pl5 ?_
              refine Out.perm pl5 ?_
              refine Out.again (i + 1, v4, wv1, jk1, an ++ [⟨(0 : Int), wv1, (outs st.2).map str⟩]) ?_ ?_ ?_ ?_
              · exact ⟨by omega, by rw [List.map_append, han, take_more hx, answers_snoc, hst, hans]; rfl, by rw [hbs]; exact good_step hp hpb hB hg, by rw [hbs, hstep]; exact hj1⟩
              · first | omega | (dsimp only; omega)
              · exact (Sub.cons rfl (Sub.cons rfl (Sub.cons rfl (Sub.cons rfl (Sub.cons rfl Sub.nil)))))
              · exact (fun w h => by dsimp only; rw [hbs, hstep, List.length_append, flatOf_snoc]; exact h)
            · skip
              have h6 : (x.fl) = false := h6
              refine WPc.region ?_
              refine WP.val rfl rfl rfl (Val.move rfl rfl) ?_
              refine WP.val rfl rfl rfl (Val.move rfl rfl) ?_
              refine WP.val rfl rfl rfl (Val.move rfl rfl) ?_
              refine WP.val rfl rfl rfl (Val.indexAddr (j := i) (q := o0 + i * 2) rfl Ty.sl22 rfl rfl (by omega) (by omega) (by omega)) ?_
              refine WP.val rfl rfl rfl (Val.fieldAddr (j := o0 + i * 2) rfl Ty.fo32_0 rfl rfl) ?_
              refine WP.val rfl rfl rfl (Val.load (v := .string x.text) rfl Ty.sc9 rfl (fun w h => hr w (h.at 7 rfl) i x hx 0 _ rfl)) ?_
              refine WP.eff rfl rfl rfl (Eff.bytes rfl Ty.st9 Ty.by86 rfl) ?_
              rintro _ _ ⟨b5, capb5, spb5, rfl, hcb5, hsb5, rfl⟩
              refine WP.perm pl1 ?_
              refine WP.perm pl2 ?_
              refine WP.perm pl6 ?_
              refine WP.perm pl6 ?_
              refine WP.eff rfl rfl rfl (Eff.call rfl rfl Try.call34 (write_spec pw b1 bf page B st.1 st.2 jk [] (.slice none 0 0) hp hpb hB hg.off hjk (by simp) (Blk b5 (byteCells x.text ++ spb5) 5) b5 0 capb5 x.text.data.toList (fun w h => h.cell_range (by simp [byteCells_eq])) (by rw [Array.length_toList]; exact hxl) (by rw [Array.length_toList]; exact hcb5) hg.fit)) ?_
              rintro _ _ ⟨_, ⟨wv1, jk1, hj1, rfl, rfl⟩, rfl⟩
              show WP _ _ _ _ _ _ _ (Blk pw [.iface 76 (.pointer (some ⟨b1, 0, none⟩)), .int .i64 ((((wr page B st.1 st.2 x.text.data.toList).2.1 : Nat) : Int)), .int .i64 (((page : Nat) : Int)), .int .i64 ((((wr page B st.1 st.2 x.text.data.toList).2.2.length : Nat) : Int)), .slice (some ⟨bf, 0, none⟩) ((B + page)) ((B + page)), .int .i64 (((B : Nat) : Int))] 125 :: Blk bf (byt ((wr page B st.1 st.2 x.text.data.toList).2.2) ++ byt (jk1)) 5 :: Blk b1 [wv1] 78 :: Own 9 1 wv1 (([] ++ (wr page B st.1 st.2 x.text.data.toList).1.map str).length) (strs ([] ++ (wr page B st.1 st.2 x.text.data.toList).1.map str)) :: Blk b5 (byteCells x.text ++ spb5) 5 :: Blk b2 [.int .i64 0, .slice none 0 0] 30 :: Own 30 2 v an.length (flatOf An.cells an) :: Ans an :: A :: F)
              refine WP.val rfl rfl rfl (Val.move rfl rfl) ?_
              refine WP.val rfl rfl rfl (Val.extract rfl rfl rfl) ?_
              refine WP.val rfl rfl rfl (Val.extract rfl rfl rfl) ?_
              refine WP.val rfl rfl rfl (Val.fieldAddr (j := 0) rfl Ty.fo30_0 rfl rfl) ?_
              refine WP.perm pl5 ?_
              refine WP.eff0 rfl rfl (Eff.store rfl Ty.sc3 rfl rfl rfl (by simp) st0) ?_
              rintro _ _ rfl
              refine WP.nil ?_
              refine Out.next ?_
              refine WPc.seq ?_
              refine WPc.perm pl4 ?_
              refine WPc.fact (fun w h => own_oneCell h) (fun onewv1 => ?_)
              refine WPc.conv (fun w h => Sat.seqMk h) ?_
              show WPc _ _ _ _ _ _ (Strs wv1 ((wr page B st.1 st.2 x.text.data.toList).1.map str) :: Blk b2 [.int .i64 (((x.text.size : Nat) : Int)), .slice none 0 0] 30 :: Blk pw [.iface 76 (.pointer (some ⟨b1, 0, none⟩)), .int .i64 ((((wr page B st.1 st.2 x.text.data.toList).2.1 : Nat) : Int)), .int .i64 (((page : Nat) : Int)), .int .i64 ((((wr page B st.1 st.2 x.text.data.toList).2.2.length : Nat) : Int)), .slice (some ⟨bf, 0, none⟩) ((B + page)) ((B + page)), .int .i64 (((B : Nat) : Int))] 125 :: Blk bf (byt ((wr page B st.1 st.2 x.text.data.toList).2.2) ++ byt (jk1)) 5 :: Blk b1 [wv1] 78 :: Blk b5 (byteCells x.text ++ spb5) 5 :: Own 30 2 v an.length (flatOf An.cells an) :: Ans an :: A :: F)
              refine WPc.region ?_
              refine WP.val rfl rfl rfl (Val.move rfl rfl) ?_
              refine WP.val rfl rfl rfl (Val.nilCheck rfl rfl) ?_
              refine WP.val rfl rfl rfl (Val.fieldAddr (j := 0) rfl Ty.fo78_0 rfl rfl) ?_
              refine WP.val rfl rfl rfl (Val.load rfl Ty.sc28 rfl (fun w h => h.cell 4 rfl rfl)) ?_
              refine WP.val rfl rfl rfl (Val.fieldAddr (j := 1) rfl Ty.fo30_1 rfl rfl) ?_
              refine WP.perm pl1 ?_
              refine WP.eff0 rfl rfl (Eff.store rfl Ty.sc28 rfl rfl onewv1 (by simp) st1) ?_
              rintro _ _ rfl
              refine WP.nil ?_
              refine Out.next ?_
              refine WPc.region ?_
              refine WP.val rfl rfl rfl (Val.move rfl rfl) ?_
              refine WP.val rfl rfl rfl (Val.loadAgg (cs := [.int .i64 (((x.text.size : Nat) : Int)), wv1]) rfl Ty.ag30 rfl rfl (fun w h => h.range 0 rfl rfl)) ?_
              refine WP.eff rfl rfl rfl (Eff.mkSlice (C := [.int .i64 (((x.text.size : Nat) : Int)), wv1]) rfl Ty.sl26 rfl (fun _ => by kernel_rfl)) ?_
              rintro _ _ ⟨b6, rfl, rfl⟩
              refine WP.perm pl7 ?_
              refine WP.eff rfl rfl rfl (Eff.append (m := 1) (n0 := an.length) (news := [.int .i64 (((x.text.size : Nat) : Int)), wv1]) rfl Ty.sl26 Ty.z30 rfl rfl rfl (.slice Ty.sl26 rfl (by simp only [List.all_cons, List.all_nil, Bool.and_true, oc_int, oc_str, oc_bool, oc_ptr, oc_slice, oc_iface, oc_map, onewv1]) (fun w h => cells_range (h.range 1 rfl rfl))) (by omega) (by omega)) ?_
              rintro v7 _ ⟨onev7, rfl⟩
              refine WP.val rfl rfl rfl (Val.assign rfl rfl) ?_
              refine WP.nil ?_
              refine Out.block ?_
              refine Out.next ?_
              refine WPc.region ?_
              refine WP.val rfl rfl rfl (Val.move rfl rfl) ?_
              refine WP.val rfl rfl rfl (Val.add (z := ((i + 1 : Nat) : Int)) rfl rfl rfl ((w64 (by omega) (by omega)).trans (by omega))) ?_
              refine WP.val rfl rfl rfl (Val.assign rfl rfl) ?_
              refine WP.nil ?_
              refine Out.perm pl8 ?_
              refine Out.perm pl4 ?_
              refine Out.conv (fun w h => ans_add (n := ((x.text.size : Nat) : Int)) h) ?_
              have hstep : opStep page B st x = (wr page B st.1 st.2 x.text.data.toList).2 := by unfold opStep; rw [if_neg (by simp [h6])]
              have hans : opAns page B st x = (((x.text.size : Nat) : Int), (wr page B st.1 st.2 x.text.data.toList).1.map str) := by unfold opAns; rw [if_neg (by simp [h6])]
              have hbs : behindOps page B (off, []) (l.take (i + 1)) = opStep page B st x := by rw [take_more hx, behind_snoc, hst]
              refine Out.perm pl2 ?_
              refine Out.drop ?_
              refine Out.perm pl2 ?_
              refine Out.drop ?_
              refine Out.perm pl5 ?_
              refine Out.drop ?_
              refine Out.perm pl5 ?_
              refine Out.perm pl1 ?_
              refine Out.perm pl4 ?_
              refine Out.perm pl4 ?_
              refine Out.perm pl5 ?_
              refine Out.perm pl5 ?_
              refine Out.again (i + 1, v7, wv1, jk1, an ++ [⟨((x.text.size : Nat) : Int), wv1, (wr page B st.1 st.2 x.text.data.toList).1.map str⟩]) ?_ ?_ ?_ ?_
              · exact ⟨by omega, by rw [List.map_append, han, take_more hx, answers_snoc, hst, hans]; rfl, by rw [hbs]; exact good_step hp hpb hB hg, by rw [hbs, hstep]; exact hj1⟩
              · first | omega | (dsimp only; omega)
              · exact (Sub.cons rfl (Sub.cons rfl (Sub.cons rfl (Sub.cons rfl (Sub.cons rfl Sub.nil)))))
              · exact (fun w h => by dsimp only; rw [hbs, hstep, List.length_append, flatOf_snoc]; exact h)
          · skip
            have h5 : ¬ (((i : Nat) : Int) < ((l.length : Nat) : Int)) := h5
            refine WPc.exit ?_
            refine Out.then_exit ?_
            refine Out.then_exit ?_
            refine Out.block_exit ?_
            refine Out.next ?_
            refine WPc.seq ?_
            refine WPc.region ?_
            refine WP.val rfl rfl rfl (Val.move rfl rfl) ?_
            refine WP.val rfl rfl rfl (Val.assign rfl rfl) ?_
            refine WP.nil ?_
            refine Out.next ?_
            refine WPc.ret ?_
            have e : i = l.length := by omega
            subst e
            rw [List.take_length] at han
            refine Out.perm pl1 ?_
            refine Out.drop ?_
            refine Out.perm pl1 ?_
            refine Out.drop ?_
            refine Out.perm pl1 ?_
            refine Out.drop ?_
            exact Out.ret1 (L' := _) Try.results12 rfl ⟨v, an, han, rfl, rfl⟩ (fun _ h => h)

theorem pages_spec (A : HProp) (page B off : Nat) (hp : 0 < page) (hpb : page ≤ B) (hB : B ≤ 1048576) (hoff : off ≤ 4294967296) (l : List PgOp) (hl : l.length ≤ 1000) (htx : ∀ x ∈ l, x.text.size ≤ 2097152) (va : Value) (hva : Rd A 2 PgOp.cells va l) : Does Try.prog 12 [.int .i64 (((B : Nat) : Int)), .int .i64 (((page : Nat) : Int)), .int .i64 (((off : Nat) : Int)), va] [A] (fun u L => ∃ v an, an.map An.key = answers page B (off, []) l ∧ u = v ∧ L = [Own 30 2 v an.length (flatOf An.cells an), Ans an, A]) := by
  rcases hva with ⟨b0, o0, c0, rfl, hr⟩ | ⟨rfl, a, c, rfl⟩
  · exact pages_row A page B off hp hpb hB hoff l hl htx b0 o0 c0 hr
  · exact pages_nil A page B off hp hpb hB hoff a c

end Go.Proofs.Ythmkdioafjmclaa.Pg5
