import Derived.Test.YtibopfemknnocaaFlt2
namespace Go.Proofs.Ytibopfemknnocaa.Flt3
open Go.RowKit Go.Proofs.Ytibopfemknnocaa Go.Proofs.Ytibopfemknnocaa.Sl Go.Proofs.Ytibopfemknnocaa.KvRow Go.Proofs.Ytibopfemknnocaa.Flt Go.Proofs.Ytibopfemknnocaa.Flt2
set_option linter.unusedVariables false


def stg (b : Bool) (f : KV → Bool) (qs : List (Nat × KV)) : List (Nat × KV) := if b then qs.filter (fun q => !f q.2) else qs
theorem stg_len (b : Bool) (f : KV → Bool) (qs : List (Nat × KV)) : (stg b f qs).length ≤ qs.length := by unfold stg; split; exact List.length_filter_le _ _; exact Nat.le_refl _
theorem stg_mem {b : Bool} {f : KV → Bool} {qs : List (Nat × KV)} : ∀ q ∈ stg b f qs, q ∈ qs := by unfold stg; split; (intro q hq; exact (List.mem_filter.1 hq).1); (intro q hq; exact hq)
theorem kvps_sub {W w : World} {qs qs' : List (Nat × KV)} {L : List HProp} (h : Sat W (Kvps qs :: L) w) (hs : ∀ q ∈ qs', q ∈ qs) : Sat W (Kvps qs' :: Kvps qs :: L) w := (h.dup (A := Kvps qs) Pers.all).allSub hs
theorem resp_ex {W w : World} {rb : Nat} {qs : List (Nat × KV)} {L : List HProp} (h : Sat W (Resp rb qs :: L) w) : ∃ u, Sat W (Own 70 1 u qs.length (row qs) :: Blk rb [u, .int .i64 0, .int .i64 0] 93 :: L) w := by
  obtain ⟨u, h⟩ := h.ex
  exact ⟨u, h.sep⟩
def s1 (mm xm mc xc : Int) (qs : List (Nat × KV)) := stg (decide (xm ≠ 0)) (pred 68 mm xm mc xc) qs
def s2 (mm xm mc xc : Int) (qs : List (Nat × KV)) := stg (decide (mm ≠ 0)) (pred 69 mm xm mc xc) (s1 mm xm mc xc qs)
def s3 (mm xm mc xc : Int) (qs : List (Nat × KV)) := stg (decide (xc ≠ 0)) (pred 70 mm xm mc xc) (s2 mm xm mc xc qs)
def s4 (mm xm mc xc : Int) (qs : List (Nat × KV)) := stg (decide (mc ≠ 0)) (pred 71 mm xm mc xc) (s3 mm xm mc xc qs)
theorem s1_mem {mm xm mc xc : Int} {qs : List (Nat × KV)} : ∀ q ∈ s1 mm xm mc xc qs, q ∈ qs := stg_mem
theorem s2_mem {mm xm mc xc : Int} {qs : List (Nat × KV)} : ∀ q ∈ s2 mm xm mc xc qs, q ∈ qs := fun q h => s1_mem q (stg_mem q h)
theorem s3_mem {mm xm mc xc : Int} {qs : List (Nat × KV)} : ∀ q ∈ s3 mm xm mc xc qs, q ∈ qs := fun q h => s2_mem q (stg_mem q h)
theorem s4_mem {mm xm mc xc : Int} {qs : List (Nat × KV)} : ∀ q ∈ s4 mm xm mc xc qs, q ∈ qs := fun q h => s3_mem q (stg_mem q h)
theorem s1_len (mm xm mc xc : Int) (qs : List (Nat × KV)) : (s1 mm xm mc xc qs).length ≤ qs.length := stg_len _ _ _
theorem s2_len (mm xm mc xc : Int) (qs : List (Nat × KV)) : (s2 mm xm mc xc qs).length ≤ qs.length := Nat.le_trans (stg_len _ _ _) (s1_len _ _ _ _ _)
theorem s3_len (mm xm mc xc : Int) (qs : List (Nat × KV)) : (s3 mm xm mc xc qs).length ≤ qs.length := Nat.le_trans (stg_len _ _ _) (s2_len _ _ _ _ _)
theorem s4_len (mm xm mc xc : Int) (qs : List (Nat × KV)) : (s4 mm xm mc xc qs).length ≤ qs.length := Nat.le_trans (stg_len _ _ _) (s3_len _ _ _ _ _)
set_option maxRecDepth 100000 in
set_option maxHeartbeats 1000000 in
theorem filter_spec (rb rq : Nat) (mm xm mc xc : Int) (qs : List (Nat × KV)) (hn : qs.length ≤ 1000) : Does Try.prog 56 [.pointer (some ⟨rb, 0, none⟩), .pointer (some ⟨rq, 0, none⟩)] [Resp rb qs, Kvps qs, Req rq mm xm mc xc] (fun v L => v = .tuple #[] ∧ L = [Resp rb (s4 mm xm mc xc qs), Kvps qs, Req rq mm xm mc xc]) := by
  refine Does.enter 36 Try.func56 rfl rfl rfl fun W F => ?_
  show WPc _ _ _ _ _ [(0, .pointer (some ⟨rb, 0, none⟩)), (1, .pointer (some ⟨rq, 0, none⟩))] (Resp rb qs :: Kvps qs :: Req rq mm xm mc xc :: F)
  refine WPc.seq ?_
  refine WPc.region ?_
  refine WP.eff rfl rfl rfl (Eff.box (C := [.pointer (some ⟨rq, 0, none⟩)]) rfl rfl rfl) ?_
  rintro _ _ ⟨b1, rfl, rfl⟩
  refine WP.nil ?_
  refine Out.next ?_
  refine WPc.cut (ι := Unit) (fun _ => True) (fun _ => [(0, .pointer (some ⟨rb, 0, none⟩)), (3, .pointer (some ⟨b1, 0, none⟩))]) (fun _ => Resp rb (s1 mm xm mc xc qs) :: Kvps qs :: Blk b1 [.pointer (some ⟨rq, 0, none⟩)] 59 :: Req rq mm xm mc xc :: F) ?_ ?_
  · skip
    refine WPc.seq ?_
    refine WPc.region ?_
    refine WP.val rfl rfl rfl (Val.load rfl Ty.sc59 rfl (fun w h => h.cell 0 rfl rfl)) ?_
    refine WP.val rfl rfl rfl (Val.nilCheck rfl rfl) ?_
    refine WP.val rfl rfl rfl (Val.fieldAddr (j := 10) rfl Ty.fo88_10 rfl rfl) ?_
    refine WP.val rfl rfl rfl (Val.load (v := .int .i64 (xm)) rfl Ty.sc2 rfl (fun w h => Req.c10 (h.at 3 rfl))) ?_
    refine WP.val rfl rfl rfl (Val.neq rfl rfl rfl) ?_
    refine WP.nil ?_
    refine Out.next ?_
    refine WPc.ifP rfl (fun h1 => ?_) (fun h1 => ?_)
    · skip
      have h1 : (xm ≠ (0 : Int)) := h1
      refine WPc.region ?_
      refine WP.val rfl rfl rfl (Val.move rfl rfl) ?_
      refine WP.val rfl rfl rfl (Val.mkFunc rfl rfl rfl) ?_
      refine WP.perm pl2 ?_
      refine WP.conv (fun w h => kvps_sub (qs' := qs) h (fun _ h => h)) ?_
      refine WP.perm pl3 ?_
      show WP _ _ _ _ _ _ _ (Resp rb qs :: Kvps qs :: Kvps qs :: Blk b1 [.pointer (some ⟨rq, 0, none⟩)] 59 :: Req rq mm xm mc xc :: F)
      refine WP.perm pl4 ?_
      refine WP.perm pl4 ?_
      refine WP.perm pl3 ?_
      refine WP.perm pl3 ?_
      refine WP.eff rfl rfl rfl (Eff.call rfl rfl Try.call67 (prune_spec 68 Try.call68 (pred 68 mm xm mc xc) rb b1 rq mm xm mc xc qs (hn) (fun b x => clo68 b b1 rq mm xm mc xc x))) ?_
      rintro _ _ ⟨_, ⟨rfl, rfl⟩, rfl⟩
      show WP _ _ _ _ _ _ _ (Resp rb (qs.filter fun q => !pred 68 mm xm mc xc q.2) :: Kvps qs :: Blk b1 [.pointer (some ⟨rq, 0, none⟩)] 59 :: Req rq mm xm mc xc :: Kvps qs :: F)
      refine WP.nil ?_
      refine Out.perm pl1 ?_
      refine Out.drop ?_
      refine Out.perm pl2 ?_
      refine Out.perm pl2 ?_
      refine Out.perm pl3 ?_
      refine Out.perm pl3 ?_
      refine Out.meet () ?_ ?_ ?_
      · exact trivial
      · exact (Sub.cons rfl (Sub.cons rfl Sub.nil))
      · exact (fun w h => by rw [s1, stg, if_pos (by simpa using h1)]; exact h)
    · skip
      have h1 : ¬ (xm ≠ (0 : Int)) := h1
      refine WPc.skip ?_
      refine Out.perm pl3 ?_
      refine Out.perm pl1 ?_
      refine Out.perm pl3 ?_
      refine Out.perm pl3 ?_
      refine Out.meet () ?_ ?_ ?_
      · exact trivial
      · exact (Sub.cons rfl (Sub.cons rfl Sub.nil))
      · exact (fun w h => by rw [s1, stg, if_neg (by simpa using h1)]; exact h)
  · skip
    rintro _ _
    show WPc _ _ _ _ _ [(0, .pointer (some ⟨rb, 0, none⟩)), (3, .pointer (some ⟨b1, 0, none⟩))] (Resp rb (s1 mm xm mc xc qs) :: Kvps qs :: Blk b1 [.pointer (some ⟨rq, 0, none⟩)] 59 :: Req rq mm xm mc xc :: F)
    refine WPc.cut (ι := Unit) (fun _ => True) (fun _ => [(0, .pointer (some ⟨rb, 0, none⟩)), (3, .pointer (some ⟨b1, 0, none⟩))]) (fun _ => Resp rb (s2 mm xm mc xc qs) :: Kvps qs :: Blk b1 [.pointer (some ⟨rq, 0, none⟩)] 59 :: Req rq mm xm mc xc :: F) ?_ ?_
    · skip
      refine WPc.seq ?_
      refine WPc.region ?_
      refine WP.val rfl rfl rfl (Val.load rfl Ty.sc59 rfl (fun w h => h.cell 2 rfl rfl)) ?_
      refine WP.val rfl rfl rfl (Val.nilCheck rfl rfl) ?_
      refine WP.val rfl rfl rfl (Val.fieldAddr (j := 9) rfl Ty.fo88_9 rfl rfl) ?_
      refine WP.val rfl rfl rfl (Val.load (v := .int .i64 (mm)) rfl Ty.sc2 rfl (fun w h => Req.c9 (h.at 3 rfl))) ?_
      refine WP.val rfl rfl rfl (Val.neq rfl rfl rfl) ?_
      refine WP.nil ?_
      refine Out.next ?_
      refine WPc.ifP rfl (fun h2 => ?_) (fun h2 => ?_)
      · skip
        have h2 : (mm ≠ (0 : Int)) := h2
        refine WPc.region ?_
        refine WP.val rfl rfl rfl (Val.move rfl rfl) ?_
        refine WP.val rfl rfl rfl (Val.mkFunc rfl rfl rfl) ?_
        refine WP.perm pl1 ?_
        refine WP.conv (fun w h => kvps_sub (qs' := s1 mm xm mc xc qs) h s1_mem) ?_
        refine WP.perm pl2 ?_
        show WP _ _ _ _ _ _ _ (Resp rb (s1 mm xm mc xc qs) :: Kvps (s1 mm xm mc xc qs) :: Kvps qs :: Blk b1 [.pointer (some ⟨rq, 0, none⟩)] 59 :: Req rq mm xm mc xc :: F)
        refine WP.perm pl4 ?_
        refine WP.perm pl4 ?_
        refine WP.perm pl3 ?_
        refine WP.perm pl3 ?_
        refine WP.eff rfl rfl rfl (Eff.call rfl rfl Try.call67 (prune_spec 69 Try.call69 (pred 69 mm xm mc xc) rb b1 rq mm xm mc xc (s1 mm xm mc xc qs) (Nat.le_trans (s1_len _ _ _ _ _) hn) (fun b x => clo69 b b1 rq mm xm mc xc x))) ?_
        rintro _ _ ⟨_, ⟨rfl, rfl⟩, rfl⟩
        show WP _ _ _ _ _ _ _ (Resp rb ((s1 mm xm mc xc qs).filter fun q => !pred 69 mm xm mc xc q.2) :: Kvps (s1 mm xm mc xc qs) :: Blk b1 [.pointer (some ⟨rq, 0, none⟩)] 59 :: Req rq mm xm mc xc :: Kvps qs :: F)
        refine WP.nil ?_
        refine Out.perm pl1 ?_
        refine Out.drop ?_
        refine Out.perm pl2 ?_
        refine Out.perm pl2 ?_
        refine Out.perm pl3 ?_
        refine Out.perm pl3 ?_
        refine Out.meet () ?_ ?_ ?_
        · exact trivial
        · exact (Sub.cons rfl (Sub.cons rfl Sub.nil))
        · exact (fun w h => by rw [s2, stg, if_pos (by simpa using h2)]; exact h)
      · skip
        have h2 : ¬ (mm ≠ (0 : Int)) := h2
        refine WPc.skip ?_
        refine Out.meet () ?_ ?_ ?_
        · exact trivial
        · exact (Sub.cons rfl (Sub.cons rfl Sub.nil))
        · exact (fun w h => by rw [s2, stg, if_neg (by simpa using h2)]; exact h)
    · skip
      rintro _ _
      show WPc _ _ _ _ _ [(0, .pointer (some ⟨rb, 0, none⟩)), (3, .pointer (some ⟨b1, 0, none⟩))] (Resp rb (s2 mm xm mc xc qs) :: Kvps qs :: Blk b1 [.pointer (some ⟨rq, 0, none⟩)] 59 :: Req rq mm xm mc xc :: F)
      refine WPc.cut (ι := Unit) (fun _ => True) (fun _ => [(0, .pointer (some ⟨rb, 0, none⟩)), (3, .pointer (some ⟨b1, 0, none⟩))]) (fun _ => Resp rb (s3 mm xm mc xc qs) :: Kvps qs :: Blk b1 [.pointer (some ⟨rq, 0, none⟩)] 59 :: Req rq mm xm mc xc :: F) ?_ ?_
      · skip
        refine WPc.seq ?_
        refine WPc.region ?_
        refine WP.val rfl rfl rfl (Val.load rfl Ty.sc59 rfl (fun w h => h.cell 2 rfl rfl)) ?_
        refine WP.val rfl rfl rfl (Val.nilCheck rfl rfl) ?_
        refine WP.val rfl rfl rfl (Val.fieldAddr (j := 12) rfl Ty.fo88_12 rfl rfl) ?_
        refine WP.val rfl rfl rfl (Val.load (v := .int .i64 (xc)) rfl Ty.sc2 rfl (fun w h => Req.c12 (h.at 3 rfl))) ?_
        refine WP.val rfl rfl rfl (Val.neq rfl rfl rfl) ?_
        refine WP.nil ?_
        refine Out.next ?_
        refine WPc.ifP rfl (fun h3 => ?_) (fun h3 => ?_)
        · skip
          have h3 : (xc ≠ (0 : Int)) := h3
          refine WPc.region ?_
          refine WP.val rfl rfl rfl (Val.move rfl rfl) ?_
          refine WP.val rfl rfl rfl (Val.mkFunc rfl rfl rfl) ?_
          refine WP.perm pl1 ?_
          refine WP.conv (fun w h => kvps_sub (qs' := s2 mm xm mc xc qs) h s2_mem) ?_
          refine WP.perm pl2 ?_
          show WP _ _ _ _ _ _ _ (Resp rb (s2 mm xm mc xc qs) :: Kvps (s2 mm xm mc xc qs) :: Kvps qs :: Blk b1 [.pointer (some ⟨rq, 0, none⟩)] 59 :: Req rq mm xm mc xc :: F)
          refine WP.perm pl4 ?_
          refine WP.perm pl4 ?_
          refine WP.perm pl3 ?_
          refine WP.perm pl3 ?_
          refine WP.eff rfl rfl rfl (Eff.call rfl rfl Try.call67 (prune_spec 70 Try.call70 (pred 70 mm xm mc xc) rb b1 rq mm xm mc xc (s2 mm xm mc xc qs) (Nat.le_trans (s2_len _ _ _ _ _) hn) (fun b x => clo70 b b1 rq mm xm mc xc x))) ?_
          rintro _ _ ⟨_, ⟨rfl, rfl⟩, rfl⟩
          show WP _ _ _ _ _ _ _ (Resp rb ((s2 mm xm mc xc qs).filter fun q => !pred 70 mm xm mc xc q.2) :: Kvps (s2 mm xm mc xc qs) :: Blk b1 [.pointer (some ⟨rq, 0, none⟩)] 59 :: Req rq mm xm mc xc :: Kvps qs :: F)
          refine WP.nil ?_
          refine Out.perm pl1 ?_
          refine Out.drop ?_
          refine Out.perm pl2 ?_
          refine Out.perm pl2 ?_
          refine Out.perm pl3 ?_
          refine Out.perm pl3 ?_
          refine Out.meet () ?_ ?_ ?_
          · exact trivial
          · exact (Sub.cons rfl (Sub.cons rfl Sub.nil))
          · exact (fun w h => by rw [s3, stg, if_pos (by simpa using h3)]; exact h)
        · skip
          have h3 : ¬ (xc ≠ (0 : Int)) := h3
          refine WPc.skip ?_
          refine Out.meet () ?_ ?_ ?_
          · exact trivial
          · exact (Sub.cons rfl (Sub.cons rfl Sub.nil))
          · exact (fun w h => by rw [s3, stg, if_neg (by simpa using h3)]; exact h)
      · skip
        rintro _ _
        show WPc _ _ _ _ _ [(0, .pointer (some ⟨rb, 0, none⟩)), (3, .pointer (some ⟨b1, 0, none⟩))] (Resp rb (s3 mm xm mc xc qs) :: Kvps qs :: Blk b1 [.pointer (some ⟨rq, 0, none⟩)] 59 :: Req rq mm xm mc xc :: F)
        refine WPc.seq ?_
        refine WPc.region ?_
        refine WP.val rfl rfl rfl (Val.load rfl Ty.sc59 rfl (fun w h => h.cell 2 rfl rfl)) ?_
        refine WP.val rfl rfl rfl (Val.nilCheck rfl rfl) ?_
        refine WP.val rfl rfl rfl (Val.fieldAddr (j := 11) rfl Ty.fo88_11 rfl rfl) ?_
        refine WP.val rfl rfl rfl (Val.load (v := .int .i64 (mc)) rfl Ty.sc2 rfl (fun w h => Req.c11 (h.at 3 rfl))) ?_
        refine WP.val rfl rfl rfl (Val.neq rfl rfl rfl) ?_
        refine WP.nil ?_
        refine Out.next ?_
        refine WPc.ifP rfl (fun h4 => ?_) (fun h4 => ?_)
        · skip
          have h4 : (mc ≠ (0 : Int)) := h4
          refine WPc.region ?_
          refine WP.val rfl rfl rfl (Val.move rfl rfl) ?_
          refine WP.val rfl rfl rfl (Val.mkFunc rfl rfl rfl) ?_
          refine WP.perm pl1 ?_
          refine WP.conv (fun w h => kvps_sub (qs' := s3 mm xm mc xc qs) h s3_mem) ?_
          refine WP.perm pl2 ?_
          show WP _ _ _ _ _ _ _ (Resp rb (s3 mm xm mc xc qs) :: Kvps (s3 mm xm mc xc qs) :: Kvps qs :: Blk b1 [.pointer (some ⟨rq, 0, none⟩)] 59 :: Req rq mm xm mc xc :: F)
          refine WP.perm pl4 ?_
          refine WP.perm pl4 ?_
          refine WP.perm pl3 ?_
          refine WP.perm pl3 ?_
          refine WP.eff rfl rfl rfl (Eff.call rfl rfl Try.call67 (prune_spec 71 Try.call71 (pred 71 mm xm mc xc) rb b1 rq mm xm mc xc (s3 mm xm mc xc qs) (Nat.le_trans (s3_len _ _ _ _ _) hn) (fun b x => clo71 b b1 rq mm xm mc xc x))) ?_
          rintro _ _ ⟨_, ⟨rfl, rfl⟩, rfl⟩
          show WP _ _ _ _ _ _ _ (Resp rb ((s3 mm xm mc xc qs).filter fun q => !pred 71 mm xm mc xc q.2) :: Kvps (s3 mm xm mc xc qs) :: Blk b1 [.pointer (some ⟨rq, 0, none⟩)] 59 :: Req rq mm xm mc xc :: Kvps qs :: F)
          refine WP.nil ?_
          refine Out.perm pl1 ?_
          refine Out.drop ?_
          refine Out.perm pl2 ?_
          refine Out.perm pl3 ?_
          refine Out.perm pl2 ?_
          refine Out.perm pl3 ?_
          exact Out.end0 (L' := [Resp rb (s4 mm xm mc xc qs), Kvps qs, Req rq mm xm mc xc]) Try.results56 ⟨rfl, rfl⟩ (fun w h => by rw [s4, stg, if_pos (by simpa using h4)]; exact h.drop)
        · skip
          have h4 : ¬ (mc ≠ (0 : Int)) := h4
          refine WPc.skip ?_
          refine Out.perm pl3 ?_
          refine Out.perm pl2 ?_
          refine Out.perm pl2 ?_
          refine Out.perm pl3 ?_
          exact Out.end0 (L' := [Resp rb (s4 mm xm mc xc qs), Kvps qs, Req rq mm xm mc xc]) Try.results56 ⟨rfl, rfl⟩ (fun w h => by rw [s4, stg, if_neg (by simpa using h4)]; exact h.drop)
set_option maxRecDepth 100000 in
set_option maxHeartbeats 1000000 in
theorem zz_nil (rq : Nat) (mm xm mc xc : Int) (qs : List (Nat × KV)) (hn : qs.length ≤ 1000) : Does Try.prog 35 [.slice none 0 0, .pointer (some ⟨rq, 0, none⟩)] [Own 70 1 (.slice none 0 0) qs.length (row qs), Kvps qs, Req rq mm xm mc xc] (fun v L => ∃ u, v = u ∧ L = [Own 70 1 u (s4 mm xm mc xc qs).length (row (s4 mm xm mc xc qs)), Kvps qs]) := by
  refine Does.enter 16 Try.func35 rfl rfl rfl fun W F => ?_
  show WPc _ _ _ _ _ [(0, .slice none 0 0), (1, .pointer (some ⟨rq, 0, none⟩))] (Own 70 1 (.slice none 0 0) qs.length (row qs) :: Kvps qs :: Req rq mm xm mc xc :: F)
  refine WPc.seq ?_
  refine WPc.region ?_
  refine WP.val rfl rfl rfl (Val.assign rfl rfl) ?_
  refine WP.nil ?_
  refine Out.next ?_
  refine WPc.seq ?_
  refine WPc.region ?_
  refine WP.val rfl rfl rfl (Val.move rfl rfl) ?_
  refine WP.val rfl rfl rfl (Val.mk (cs := [.slice none 0 0, .int .i64 0, .int .i64 0]) rfl rfl (fun _ => by kernel_rfl)) ?_
  refine WP.eff rfl rfl rfl (Eff.box (C := [.slice none 0 0, .int .i64 0, .int .i64 0]) rfl rfl rfl) ?_
  rintro _ _ ⟨b1, rfl, rfl⟩
  refine WP.val rfl rfl rfl (Val.assign rfl rfl) ?_
  refine WP.nil ?_
  refine Out.next ?_
  refine WPc.seq ?_
  refine WPc.region ?_
  refine WP.val rfl rfl rfl (Val.move rfl rfl) ?_
  refine WP.val rfl rfl rfl (Val.move rfl rfl) ?_
  refine WP.perm pl1 ?_
  refine WP.perm pl1 ?_
  refine WP.perm pl1 ?_
  refine WP.conv (fun w h => resp_mk h) ?_
  show WP _ _ _ _ _ _ _ (Resp b1 qs :: Kvps qs :: Req rq mm xm mc xc :: F)
  refine WP.perm pl2 ?_
  refine WP.perm pl2 ?_
  refine WP.perm pl2 ?_
  refine WP.eff rfl rfl rfl (Eff.call rfl rfl Try.call56 (filter_spec b1 rq mm xm mc xc qs hn)) ?_
  rintro _ _ ⟨_, ⟨rfl, rfl⟩, rfl⟩
  show WP _ _ _ _ _ _ _ (Resp b1 (s4 mm xm mc xc qs) :: Kvps qs :: Req rq mm xm mc xc :: F)
  refine WP.open (fun w h => resp_ex h) ?_
  rintro u
  show WP _ _ _ _ _ _ _ (Own 70 1 u ((s4 mm xm mc xc qs).length) (row (s4 mm xm mc xc qs)) :: Blk b1 [u, .int .i64 0, .int .i64 0] 93 :: Kvps qs :: Req rq mm xm mc xc :: F)
  refine WP.nil ?_
  refine Out.next ?_
  refine WPc.seq ?_
  refine WPc.region ?_
  refine WP.val rfl rfl rfl (Val.move rfl rfl) ?_
  refine WP.val rfl rfl rfl (Val.nilCheck rfl rfl) ?_
  refine WP.val rfl rfl rfl (Val.fieldAddr (j := 0) rfl Ty.fo93_0 rfl rfl) ?_
  refine WP.val rfl rfl rfl (Val.load rfl Ty.sc63 rfl (fun w h => h.cell 1 rfl rfl)) ?_
  refine WP.val rfl rfl rfl (Val.assign rfl rfl) ?_
  refine WP.nil ?_
  refine Out.next ?_
  refine WPc.ret ?_
  refine Out.perm pl1 ?_
  refine Out.drop ?_
  refine Out.perm pl2 ?_
  refine Out.drop ?_
  exact Out.ret1 (L' := [Own 70 1 u ((s4 mm xm mc xc qs).length) (row (s4 mm xm mc xc qs)), Kvps qs]) Try.results35 rfl ⟨u, rfl, rfl⟩ (fun _ h => h)
set_option maxRecDepth 100000 in
set_option maxHeartbeats 1000000 in
theorem zz_row (bv nv cv : Nat) (rq : Nat) (mm xm mc xc : Int) (qs : List (Nat × KV)) (hn : qs.length ≤ 1000) : Does Try.prog 35 [.slice (some ⟨bv, 0, none⟩) nv cv, .pointer (some ⟨rq, 0, none⟩)] [Own 70 1 (.slice (some ⟨bv, 0, none⟩) nv cv) qs.length (row qs), Kvps qs, Req rq mm xm mc xc] (fun v L => ∃ u, v = u ∧ L = [Own 70 1 u (s4 mm xm mc xc qs).length (row (s4 mm xm mc xc qs)), Kvps qs]) := by
  refine Does.enter 16 Try.func35 rfl rfl rfl fun W F => ?_
  show WPc _ _ _ _ _ [(0, .slice (some ⟨bv, 0, none⟩) nv cv), (1, .pointer (some ⟨rq, 0, none⟩))] (Own 70 1 (.slice (some ⟨bv, 0, none⟩) nv cv) qs.length (row qs) :: Kvps qs :: Req rq mm xm mc xc :: F)
  refine WPc.seq ?_
  refine WPc.region ?_
  refine WP.val rfl rfl rfl (Val.assign rfl rfl) ?_
  refine WP.nil ?_
  refine Out.next ?_
  refine WPc.seq ?_
  refine WPc.region ?_
  refine WP.val rfl rfl rfl (Val.move rfl rfl) ?_
  refine WP.val rfl rfl rfl (Val.mk (cs := [.slice (some ⟨bv, 0, none⟩) nv cv, .int .i64 0, .int .i64 0]) rfl rfl (fun _ => by kernel_rfl)) ?_
  refine WP.eff rfl rfl rfl (Eff.box (C := [.slice (some ⟨bv, 0, none⟩) nv cv, .int .i64 0, .int .i64 0]) rfl rfl rfl) ?_
  rintro _ _ ⟨b1, rfl, rfl⟩
  refine WP.val rfl rfl rfl (Val.assign rfl rfl) ?_
  refine WP.nil ?_
  refine Out.next ?_
  refine WPc.seq ?_
  refine WPc.region ?_
  refine WP.val rfl rfl rfl (Val.move rfl rfl) ?_
  refine WP.val rfl rfl rfl (Val.move rfl rfl) ?_
  refine WP.perm pl1 ?_
  refine WP.perm pl1 ?_
  refine WP.perm pl1 ?_
  refine WP.conv (fun w h => resp_mk h) ?_
  show WP _ _ _ _ _ _ _ (Resp b1 qs :: Kvps qs :: Req rq mm xm mc xc :: F)
  refine WP.perm pl2 ?_
  refine WP.perm pl2 ?_
  refine WP.perm pl2 ?_
  refine WP.eff rfl rfl rfl (Eff.call rfl rfl Try.call56 (filter_spec b1 rq mm xm mc xc qs hn)) ?_
  rintro _ _ ⟨_, ⟨rfl, rfl⟩, rfl⟩
  show WP _ _ _ _ _ _ _ (Resp b1 (s4 mm xm mc xc qs) :: Kvps qs :: Req rq mm xm mc xc :: F)
  refine WP.open (fun w h => resp_ex h) ?_
  rintro u
  show WP _ _ _ _ _ _ _ (Own 70 1 u ((s4 mm xm mc xc qs).length) (row (s4 mm xm mc xc qs)) :: Blk b1 [u, .int .i64 0, .int .i64 0] 93 :: Kvps qs :: Req rq mm xm mc xc :: F)
  refine WP.nil ?_
  refine Out.next ?_
  refine WPc.seq ?_
  refine WPc.region ?_
  refine WP.val rfl rfl rfl (Val.move rfl rfl) ?_
  refine WP.val rfl rfl rfl (Val.nilCheck rfl rfl) ?_
  refine WP.val rfl rfl rfl (Val.fieldAddr (j := 0) rfl Ty.fo93_0 rfl rfl) ?_
  refine WP.val rfl rfl rfl (Val.load rfl Ty.sc63 rfl (fun w h => h.cell 1 rfl rfl)) ?_
  refine WP.val rfl rfl rfl (Val.assign rfl rfl) ?_
  refine WP.nil ?_
  refine Out.next ?_
  refine WPc.ret ?_
  refine Out.perm pl1 ?_
  refine Out.drop ?_
  refine Out.perm pl2 ?_
  refine Out.drop ?_
  exact Out.ret1 (L' := [Own 70 1 u ((s4 mm xm mc xc qs).length) (row (s4 mm xm mc xc qs)), Kvps qs]) Try.results35 rfl ⟨u, rfl, rfl⟩ (fun _ h => h)

theorem own_form {W w : World} {e : TypeId} {k m : Nat} {v : Value} {xs : List Value} {L : List HProp} (h : Sat W (Own e k v m xs :: L) w) : v = .slice none 0 0 ∨ ∃ b n c, v = .slice (some ⟨b, 0, none⟩) n c := by
  rcases h.own with ⟨rfl, _⟩ | ⟨b, c, sp, rfl, _⟩
  · exact .inl rfl
  · exact .inr ⟨b, m, c, rfl⟩
theorem zz_spec (v : Value) (rq : Nat) (mm xm mc xc : Int) (qs : List (Nat × KV)) (hn : qs.length ≤ 1000) : Does Try.prog 35 [v, .pointer (some ⟨rq, 0, none⟩)] [Own 70 1 v qs.length (row qs), Kvps qs, Req rq mm xm mc xc]
    (fun v L => ∃ u, v = u ∧ L = [Own 70 1 u (s4 mm xm mc xc qs).length (row (s4 mm xm mc xc qs)), Kvps qs]) := by
  refine Does.fact (fun W w F h => own_form h) (fun hv => ?_)
  rcases hv with rfl | ⟨b, n, c, rfl⟩
  · exact zz_nil rq mm xm mc xc qs hn
  · exact zz_row b n c rq mm xm mc xc qs hn

end Go.Proofs.Ytibopfemknnocaa.Flt3
