import Derived.Test.YtibopfemknnocaaFlt
namespace Go.Proofs.Ytibopfemknnocaa.Flt2
open Go.RowKit Go.Proofs.Ytibopfemknnocaa Go.Proofs.Ytibopfemknnocaa.Sl Go.Proofs.Ytibopfemknnocaa.KvRow Go.Proofs.Ytibopfemknnocaa.Flt
set_option linter.unusedVariables false


/-- the answer's rows, which the call may write -/
def Resp (rb : Nat) (qs : List (Nat × KV)) : HProp := Ex fun v : Value => Sep [Own 70 1 v qs.length (row qs), Blk rb [v, .int .i64 0, .int .i64 0] 93]
theorem resp_mk {W w : World} {rb : Nat} {qs : List (Nat × KV)} {v : Value} {L : List HProp} (h : Sat W (Own 70 1 v qs.length (row qs) :: Blk rb [v, .int .i64 0, .int .i64 0] 93 :: L) w) : Sat W (Resp rb qs :: L) w := Sat.ex_mk v (Sat.sep_mk h)
theorem resp_or {W w : World} {rb : Nat} {qs : List (Nat × KV)} {L : List HProp} (h : Sat W (Resp rb qs :: L) w) :
    (qs = [] ∧ Sat W (Blk rb [.slice none 0 0, .int .i64 0, .int .i64 0] 93 :: L) w) ∨
    (True ∧ Sat W ((Ex fun q : Nat × Nat × List Value => Sep [Pure (qs.length ≤ q.2.1 ∧ q.2.2.length = q.2.1 - qs.length ∧ q.2.1 ≤ maxLen), Blk q.1 (row qs ++ q.2.2) 70, Blk rb [.slice (some ⟨q.1, 0, none⟩) qs.length q.2.1, .int .i64 0, .int .i64 0] 93]) :: L) w) := by
  obtain ⟨v, h⟩ := h.ex
  rcases h.sep.own with ⟨rfl, h1, h2, h3⟩ | ⟨b, cap, sp, rfl, h1, h2, h3, h4, h5⟩
  · exact .inl ⟨by simpa using h1, h3⟩
  · exact .inr ⟨trivial, Sat.ex_mk (b, cap, sp) (Sat.sep_mk (Sat.pure_mk ⟨h1, by simpa using h3, h4⟩ h5))⟩
section
variable {α : Type} {qs cs : List α} {q : α} {i j : Nat} {p : α → Bool}
theorem prune_len (hc : cs.length = qs.length) : (cs.set j q).length = qs.length := by simp [hc]
theorem prune_drop (hji : j ≤ i) (hdr : cs.drop i = qs.drop i) : (cs.set j q).drop (i + 1) = qs.drop (i + 1) := by
  rw [List.drop_set_of_lt (by omega)]
  have := congrArg (List.drop 1) hdr
  simpa [List.drop_drop] using this
theorem prune_at (hq : qs[i]? = some q) (hdr : cs.drop i = qs.drop i) : cs[i]? = some q := by
  have : (cs.drop i)[0]? = (qs.drop i)[0]? := by rw [hdr]
  simpa [hq] using this
theorem prune_no (hq : qs[i]? = some q) (htk : cs.take j = (qs.take i).filter (fun q => !p q)) (hp : (!(p q)) = false) : (cs.set j q).take j = (qs.take (i + 1)).filter (fun q => !p q) := by
  rw [take_more hq, List.filter_append, List.take_set_of_le (by omega), htk]
  simp [hp]
theorem prune_yes (hq : qs[i]? = some q) (hjn : j < cs.length) (htk : cs.take j = (qs.take i).filter (fun q => !p q)) (hp : (!(p q)) = true) : (cs.set j q).take (j + 1) = (qs.take (i + 1)).filter (fun q => !p q) := by
  rw [take_more hq, List.filter_append, take_more (x := q) (by rw [List.getElem?_set_self (by omega)]), List.take_set_of_le (by omega), htk]
  simp [hp]
end
theorem row_set (cs : List (Nat × KV)) (sp : List Value) (j : Nat) (q : Nat × KV) (hj : j < cs.length) : (row cs ++ sp).set j (.pointer (some ⟨q.1, 0, none⟩)) = row (cs.set j q) ++ sp := by
  rw [List.set_append_left _ _ (by simpa [row] using hj)]
  simp [row, List.map_set]
theorem row_at {cs : List (Nat × KV)} {sp : List Value} {i : Nat} {q : Nat × KV} (h : cs[i]? = some q) : (row cs ++ sp)[i]? = some (.pointer (some ⟨q.1, 0, none⟩)) := by
  have hlt := (List.getElem?_eq_some_iff.1 h).1
  rw [List.getElem?_append_left (by simpa [row] using hlt)]
  simp [row, h]
theorem resp_back {W w : World} {rb g j cap : Nat} {cs : List (Nat × KV)} {sp : List Value} {L : List HProp} (hj : j ≤ cs.length) (hc : cs.length ≤ cap) (hs : sp.length = cap - cs.length) (hm : cap ≤ maxLen)
    (h : Sat W (Blk g (row cs ++ sp) 70 :: Blk rb [.slice (some ⟨g, 0, none⟩) j cap, .int .i64 0, .int .i64 0] 93 :: L) w) : Sat W (Resp rb (cs.take j) :: L) w := by
  have e : row cs ++ sp = row (cs.take j) ++ (row (cs.drop j) ++ sp) := by
    rw [← List.append_assoc]
    congr 1
    simp only [row]
    rw [← List.map_append, List.take_append_drop]
  rw [e] at h
  have hl : (cs.take j).length = j := by rw [List.length_take]; omega
  refine resp_mk (v := .slice (some ⟨g, 0, none⟩) j cap) ?_
  rw [hl]
  exact h.ownMk (by omega) (by simp [row]; omega) (by simp [row]; omega) hm
set_option maxRecDepth 100000 in
set_option maxHeartbeats 1000000 in
theorem prune_row (fid : Nat) (hcall : ∀ (xs : Array Value) (w : World), (callFunc fid xs).run Try.prog w = .ok (.enter fid xs) w) (p : KV → Bool) (rb rv rq : Nat) (mm xm mc xc : Int) (qs : List (Nat × KV)) (hn : qs.length ≤ 1000)
    (hp : ∀ b x, Does Try.prog fid [.pointer (some ⟨b, 0, none⟩), .pointer (some ⟨rv, 0, none⟩)] [Kvp b x, Blk rv [.pointer (some ⟨rq, 0, none⟩)] 59, Req rq mm xm mc xc] (fun v L => v = .bool (p x) ∧ L = [Kvp b x, Blk rv [.pointer (some ⟨rq, 0, none⟩)] 59, Req rq mm xm mc xc])) (g cap : Nat) (sp : List Value) (hc : qs.length ≤ cap) (hs : sp.length = cap - qs.length) (hm : cap ≤ maxLen) : Does Try.prog 67 [.pointer (some ⟨rb, 0, none⟩), .func (.func fid) #[] #[.pointer (some ⟨rv, 0, none⟩)]] [Blk g (row qs ++ sp) 70, Blk rb [.slice (some ⟨g, 0, none⟩) qs.length cap, .int .i64 0, .int .i64 0] 93, Kvps qs, Blk rv [.pointer (some ⟨rq, 0, none⟩)] 59, Req rq mm xm mc xc] (fun v L => v = .tuple #[] ∧ L = [Resp rb (qs.filter fun q => !p q.2), Kvps qs, Blk rv [.pointer (some ⟨rq, 0, none⟩)] 59, Req rq mm xm mc xc]) := by
  refine Does.enter 49 Try.func67 rfl rfl rfl fun W F => ?_
  show WPc _ _ _ _ _ [(0, .pointer (some ⟨rb, 0, none⟩)), (1, .func (.func fid) #[] #[.pointer (some ⟨rv, 0, none⟩)])] (Blk g (row qs ++ sp) 70 :: Blk rb [.slice (some ⟨g, 0, none⟩) qs.length cap, .int .i64 0, .int .i64 0] 93 :: Kvps qs :: Blk rv [.pointer (some ⟨rq, 0, none⟩)] 59 :: Req rq mm xm mc xc :: F)
  refine WPc.seq ?_
  refine WPc.region ?_
  refine WP.val rfl rfl rfl (Val.assign rfl rfl) ?_
  refine WP.nil ?_
  refine Out.next ?_
  refine WPc.seq ?_
  refine WPc.seq ?_
  refine WPc.region ?_
  refine WP.val rfl rfl rfl (Val.move rfl rfl) ?_
  refine WP.val rfl rfl rfl (Val.nilCheck rfl rfl) ?_
  refine WP.val rfl rfl rfl (Val.fieldAddr (j := 0) rfl Ty.fo93_0 rfl rfl) ?_
  refine WP.val rfl rfl rfl (Val.load rfl Ty.sc63 rfl (fun w h => h.cell 1 rfl rfl)) ?_
  refine WP.val rfl rfl rfl (Val.len rfl Ty.sl63 rfl) ?_
  refine WP.val rfl rfl rfl (Val.move rfl rfl) ?_
  refine WP.nil ?_
  refine Out.next ?_
  refine WPc.block ?_
  refine WPc.loop (ι := Nat × Nat × List (Nat × KV)) (fun ⟨i, j, cs⟩ => i ≤ qs.length ∧ j ≤ i ∧ cs.length = qs.length ∧ cs.take j = (qs.take i).filter (fun q => !p q.2) ∧ cs.drop i = qs.drop i) (fun ⟨i, j, cs⟩ => [(0, .pointer (some ⟨rb, 0, none⟩)), (1, .func (.func fid) #[] #[.pointer (some ⟨rv, 0, none⟩)]), (4, .int .i64 (((j : Nat) : Int))), (10, .int .i64 (((qs.length : Nat) : Int))), (11, .int .i64 (((i : Nat) : Int)))]) (fun ⟨i, j, cs⟩ => Blk g (row cs ++ sp) 70 :: Blk rb [.slice (some ⟨g, 0, none⟩) qs.length cap, .int .i64 0, .int .i64 0] 93 :: Kvps qs :: Blk rv [.pointer (some ⟨rq, 0, none⟩)] 59 :: Req rq mm xm mc xc :: F) (fun ⟨i, j, cs⟩ => qs.length - i) (0, 0, qs) ⟨by omega, by omega, rfl, by simp, rfl⟩ ((Sub.cons rfl (Sub.cons rfl (Sub.cons rfl (Sub.cons rfl (Sub.cons rfl Sub.nil)))))) (fun _ h => h) ?_
  rintro ⟨i, j, cs⟩ ⟨hi, hji, hcl, htk, hdr⟩
  show WPc _ _ _ _ _ [(0, .pointer (some ⟨rb, 0, none⟩)), (1, .func (.func fid) #[] #[.pointer (some ⟨rv, 0, none⟩)]), (4, .int .i64 (((j : Nat) : Int))), (10, .int .i64 (((qs.length : Nat) : Int))), (11, .int .i64 (((i : Nat) : Int)))] (Blk g (row cs ++ sp) 70 :: Blk rb [.slice (some ⟨g, 0, none⟩) qs.length cap, .int .i64 0, .int .i64 0] 93 :: Kvps qs :: Blk rv [.pointer (some ⟨rq, 0, none⟩)] 59 :: Req rq mm xm mc xc :: F)
  refine WPc.seq ?_
  refine WPc.region ?_
  refine WP.val rfl rfl rfl (Val.lss rfl rfl rfl) ?_
  refine WP.nil ?_
  refine Out.next ?_
  refine WPc.seq ?_
  refine WPc.ifP rfl (fun h1 => ?_) (fun h1 => ?_)
  · skip
    have h1 : (((i : Nat) : Int) < ((qs.length : Nat) : Int)) := h1
    refine WPc.skip ?_
    refine Out.next ?_
    refine WPc.seq ?_
    refine WPc.block ?_
    refine WPc.seq ?_
    refine WPc.region ?_
    refine WP.val rfl rfl rfl (Val.move rfl rfl) ?_
    refine WP.val rfl rfl rfl (Val.assign rfl rfl) ?_
    refine WP.nil ?_
    refine Out.next ?_
    refine WPc.seq ?_
    have hlt : i < qs.length := by omega
    obtain ⟨q, hqi⟩ : ∃ q, qs[i]? = some q := ⟨_, List.getElem?_eq_getElem hlt⟩
    have hgi : (row cs ++ sp)[i]? = some (.pointer (some ⟨q.1, 0, none⟩)) := row_at (prune_at hqi hdr)
    have hset := row_set cs sp j q (by omega)
    have hgi2 : (row (cs.set j q) ++ sp)[i]? = some (.pointer (some ⟨q.1, 0, none⟩)) := row_at (by rw [List.getElem?_set]; split; (rw [if_pos (by omega)]); exact prune_at hqi hdr)
    refine WPD.start (fun w => w.cell? ⟨rb, 0, none⟩ = some (.slice (some ⟨g, 0, none⟩) qs.length cap) ∧ w.cell? ⟨g, i, none⟩ = some (.pointer (some ⟨q.1, 0, none⟩))) Ty.mixed ?_
    refine WPD.take 0 rfl rfl rfl rfl (by kernel_rfl) (by kernel_rfl) (by kernel_rfl) (fun _ _ _ h => h) (fun w h => ⟨h.cell 1 rfl rfl, h.cell 0 rfl hgi⟩) (Val.move rfl rfl) ?_
    refine WPD.take 1 rfl rfl rfl rfl (by kernel_rfl) (by kernel_rfl) (by kernel_rfl) (fun _ _ _ h => h) (fun w h => ⟨h.cell 1 rfl rfl, h.cell 0 rfl hgi⟩) (Val.nilCheck rfl rfl) ?_
    refine WPD.take 2 rfl rfl rfl rfl (by kernel_rfl) (by kernel_rfl) (by kernel_rfl) (fun _ _ _ h => h) (fun w h => ⟨h.cell 1 rfl rfl, h.cell 0 rfl hgi⟩) (Val.fieldAddr (j := 0) rfl Ty.fo93_0 rfl rfl) ?_
    refine WPD.take 3 rfl rfl rfl rfl (by kernel_rfl) (by kernel_rfl) (by kernel_rfl) (fun _ _ _ h => h) (fun w h => ⟨h.cell 1 rfl rfl, h.cell 0 rfl hgi⟩) (Val.load (v := .slice (some ⟨g, 0, none⟩) qs.length cap) rfl Ty.sc63 rfl (fun w h => h.1)) ?_
    refine WPD.take 4 rfl rfl rfl rfl (by kernel_rfl) (by kernel_rfl) (by kernel_rfl) (fun _ _ _ h => h) (fun w h => ⟨h.cell 1 rfl rfl, h.cell 0 rfl hgi⟩) (Val.move rfl rfl) ?_
    refine WPD.take 5 rfl rfl rfl rfl (by kernel_rfl) (by kernel_rfl) (by kernel_rfl) (fun _ _ _ h => h) (fun w h => ⟨h.cell 1 rfl rfl, h.cell 0 rfl hgi⟩) (Val.move rfl rfl) ?_
    refine WPD.take 6 rfl rfl rfl rfl (by kernel_rfl) (by kernel_rfl) (by kernel_rfl) (fun _ _ _ h => h) (fun w h => ⟨h.cell 1 rfl rfl, h.cell 0 rfl hgi⟩) (Val.nilCheck rfl rfl) ?_
    refine WPD.take 7 rfl rfl rfl rfl (by kernel_rfl) (by kernel_rfl) (by kernel_rfl) (fun _ _ _ h => h) (fun w h => ⟨h.cell 1 rfl rfl, h.cell 0 rfl hgi⟩) (Val.fieldAddr (j := 0) rfl Ty.fo93_0 rfl rfl) ?_
    refine WPD.take 8 rfl rfl rfl rfl (by kernel_rfl) (by kernel_rfl) (by kernel_rfl) (fun _ _ _ h => h) (fun w h => ⟨h.cell 1 rfl rfl, h.cell 0 rfl hgi⟩) (Val.load (v := .slice (some ⟨g, 0, none⟩) qs.length cap) rfl Ty.sc63 rfl (fun w h => h.1)) ?_
    refine WPD.take 9 rfl rfl rfl rfl (by kernel_rfl) (by kernel_rfl) (by kernel_rfl) (fun _ _ _ h => h) (fun w h => ⟨h.cell 1 rfl rfl, h.cell 0 rfl hgi⟩) (Val.move rfl rfl) ?_
    refine WPD.take 10 rfl rfl rfl rfl (by kernel_rfl) (by kernel_rfl) (by kernel_rfl) (fun _ _ _ h => h) (fun w h => ⟨h.cell 1 rfl rfl, h.cell 0 rfl hgi⟩) (Val.indexAddr (j := i) (q := i) rfl Ty.sl63 rfl rfl (by omega) (by omega) (by omega)) ?_
    refine WPD.take 11 rfl rfl rfl rfl (by kernel_rfl) (by kernel_rfl) (by kernel_rfl) (fun _ _ _ h => h) (fun w h => ⟨h.cell 1 rfl rfl, h.cell 0 rfl hgi⟩) (Val.load (v := .pointer (some ⟨q.1, 0, none⟩)) rfl Ty.sc70 rfl (fun w h => h.2)) ?_
    refine WPD.take 12 rfl rfl rfl rfl (by kernel_rfl) (by kernel_rfl) (by kernel_rfl) (fun _ _ _ h => h) (fun w h => ⟨h.cell 1 rfl rfl, h.cell 0 rfl hgi⟩) (Val.indexAddr (j := j) (q := j) rfl Ty.sl63 rfl rfl (by omega) (by omega) (by omega)) ?_
    refine WPD.step0 13 (by kernel_rfl) rfl rfl rfl (Eff.store (C' := row (cs.set j q) ++ sp) rfl Ty.sc70 rfl rfl rfl (by simp [row]; omega) hset) ?_
    rintro _ _ rfl
    refine ⟨(fun w h => ⟨h.cell 1 rfl rfl, h.cell 0 rfl hgi2⟩), ?_⟩
    refine WPD.done (by kernel_rfl) ?_
    refine Out.next ?_
    refine WPc.seq ?_
    refine WPc.region ?_
    refine WP.val rfl rfl rfl (Val.move rfl rfl) ?_
    refine WP.val rfl rfl rfl (Val.move rfl rfl) ?_
    refine WP.val rfl rfl rfl (Val.nilCheck rfl rfl) ?_
    refine WP.val rfl rfl rfl (Val.fieldAddr (j := 0) rfl Ty.fo93_0 rfl rfl) ?_
    refine WP.val rfl rfl rfl (Val.load rfl Ty.sc63 rfl (fun w h => h.cell 1 rfl rfl)) ?_
    refine WP.val rfl rfl rfl (Val.move rfl rfl) ?_
    refine WP.val rfl rfl rfl (Val.indexAddr (j := i) (q := i) rfl Ty.sl63 rfl rfl (by omega) (by omega) (by omega)) ?_
    refine WP.val rfl rfl rfl (Val.load (v := .pointer (some ⟨q.1, 0, none⟩)) rfl Ty.sc70 rfl (fun w h => h.cell 0 rfl hgi2)) ?_
    refine WP.perm pl2 ?_
    refine WP.conv (fun w h => h.allGet (f := fun q : Nat × KV => Kvp q.1 q.2) (x := q) (List.mem_of_getElem? hqi)) ?_
    show WP _ _ _ _ _ _ _ (Kvp q.1 q.2 :: Kvps qs :: Blk g (row (cs.set j q) ++ sp) 70 :: Blk rb [.slice (some ⟨g, 0, none⟩) qs.length cap, .int .i64 0, .int .i64 0] 93 :: Blk rv [.pointer (some ⟨rq, 0, none⟩)] 59 :: Req rq mm xm mc xc :: F)
    refine WP.perm pl5 ?_
    refine WP.perm pl5 ?_
    refine WP.perm pl2 ?_
    refine WP.eff rfl rfl rfl (Eff.callF (args' := [.pointer (some ⟨q.1, 0, none⟩), .pointer (some ⟨rv, 0, none⟩)]) rfl rfl rfl rfl hcall (hp q.1 q.2)) ?_
    rintro _ _ ⟨_, ⟨rfl, rfl⟩, rfl⟩
    show WP _ _ _ _ _ _ _ (Kvp q.1 q.2 :: Blk rv [.pointer (some ⟨rq, 0, none⟩)] 59 :: Req rq mm xm mc xc :: Kvps qs :: Blk g (row (cs.set j q) ++ sp) 70 :: Blk rb [.slice (some ⟨g, 0, none⟩) qs.length cap, .int .i64 0, .int .i64 0] 93 :: F)
    refine WP.val rfl rfl rfl (Val.not rfl rfl) ?_
    refine WP.nil ?_
    refine Out.next ?_
    refine WPc.cond rfl (fun h2 => ?_) (fun h2 => ?_)
    · skip
      have h2 : (!(p q.2)) = true := h2
      refine WPc.region ?_
      refine WP.val rfl rfl rfl (Val.move rfl rfl) ?_
      refine WP.val rfl rfl rfl (Val.add (z := ((j + 1 : Nat) : Int)) rfl rfl rfl ((w64 (by omega) (by omega)).trans (by omega))) ?_
      refine WP.val rfl rfl rfl (Val.assign rfl rfl) ?_
      refine WP.nil ?_
      refine Out.block ?_
      refine Out.next ?_
      refine WPc.region ?_
      refine WP.val rfl rfl rfl (Val.add (z := ((i + 1 : Nat) : Int)) rfl rfl rfl ((w64 (by omega) (by omega)).trans (by omega))) ?_
      refine WP.val rfl rfl rfl (Val.move rfl rfl) ?_
      refine WP.nil ?_
      refine Out.drop ?_
      refine Out.perm pl1 ?_
      refine Out.perm pl1 ?_
      refine Out.perm pl2 ?_
      refine Out.perm pl4 ?_
      refine Out.perm pl4 ?_
      refine Out.again (i + 1, j + 1, cs.set j q) ?_ ?_ ?_ ?_
      · exact ⟨by omega, by omega, prune_len hcl, prune_yes hqi (by omega) htk h2, prune_drop hji hdr⟩
      · first | omega | (dsimp only; omega)
      · exact (Sub.cons rfl (Sub.cons rfl (Sub.cons rfl (Sub.cons rfl (Sub.cons rfl Sub.nil)))))
      · exact (fun _ h => h)
    · skip
      have h2 : (!(p q.2)) = false := h2
      refine WPc.skip ?_
      refine Out.block ?_
      refine Out.next ?_
      refine WPc.region ?_
      refine WP.val rfl rfl rfl (Val.add (z := ((i + 1 : Nat) : Int)) rfl rfl rfl ((w64 (by omega) (by omega)).trans (by omega))) ?_
      refine WP.val rfl rfl rfl (Val.move rfl rfl) ?_
      refine WP.nil ?_
      refine Out.drop ?_
      refine Out.perm pl1 ?_
      refine Out.perm pl1 ?_
      refine Out.perm pl2 ?_
      refine Out.perm pl4 ?_
      refine Out.perm pl4 ?_
      refine Out.again (i + 1, j, cs.set j q) ?_ ?_ ?_ ?_
      · exact ⟨by omega, by omega, prune_len hcl, prune_no hqi htk h2, prune_drop hji hdr⟩
      · first | omega | (dsimp only; omega)
      · exact (Sub.cons rfl (Sub.cons rfl (Sub.cons rfl (Sub.cons rfl (Sub.cons rfl Sub.nil)))))
      · exact (fun _ h => h)
  · skip
    have h1 : ¬ (((i : Nat) : Int) < ((qs.length : Nat) : Int)) := h1
    refine WPc.exit ?_
    refine Out.then_exit ?_
    refine Out.then_exit ?_
    refine Out.block_exit ?_
    refine Out.next ?_
    refine WPc.region ?_
    refine WP.val rfl rfl rfl (Val.move rfl rfl) ?_
    refine WP.val rfl rfl rfl (Val.move rfl rfl) ?_
    refine WP.val rfl rfl rfl (Val.nilCheck rfl rfl) ?_
    refine WP.val rfl rfl rfl (Val.fieldAddr (j := 0) rfl Ty.fo93_0 rfl rfl) ?_
    refine WP.val rfl rfl rfl (Val.load rfl Ty.sc63 rfl (fun w h => h.cell 1 rfl rfl)) ?_
    refine WP.val rfl rfl rfl (Val.move rfl rfl) ?_
    refine WP.val rfl rfl rfl (Val.slice (lo := 0) (hi := j) (j := 0) (vlo := none) (vhi := some (.i64, ((j : Nat) : Int))) rfl Ty.sl63 rfl rfl rfl (by simp [bnd]) (by simp [bnd]; try omega) (by omega) (by omega) (by omega) (by simp)) ?_
    refine WP.val rfl rfl rfl (Val.nilCheck rfl rfl) ?_
    refine WP.val rfl rfl rfl (Val.fieldAddr (j := 0) rfl Ty.fo93_0 rfl rfl) ?_
    refine WP.perm pl1 ?_
    refine WP.eff0 rfl rfl (Eff.store rfl Ty.sc63 rfl rfl rfl (by simp) st0) ?_
    rintro _ _ rfl
    refine WP.nil ?_
    have e : i = qs.length := by omega
    subst e
    rw [List.take_length] at htk
    refine Out.perm pl4 ?_
    refine Out.perm pl4 ?_
    refine Out.perm pl4 ?_
    refine Out.perm pl3 ?_
    refine Out.perm pl4 ?_
    exact Out.end0 (L' := [Resp rb (qs.filter fun q => !p q.2), Kvps qs, Blk rv [.pointer (some ⟨rq, 0, none⟩)] 59, Req rq mm xm mc xc]) Try.results67 ⟨rfl, rfl⟩ (fun w h => by rw [← htk]; exact resp_back (by omega) (by omega) (by omega) hm h)
set_option maxRecDepth 100000 in
set_option maxHeartbeats 1000000 in
theorem prune_nil (fid : Nat) (hcall : ∀ (xs : Array Value) (w : World), (callFunc fid xs).run Try.prog w = .ok (.enter fid xs) w) (p : KV → Bool) (rb rv rq : Nat) (mm xm mc xc : Int) (qs : List (Nat × KV)) (hn : qs.length ≤ 1000)
    (hp : ∀ b x, Does Try.prog fid [.pointer (some ⟨b, 0, none⟩), .pointer (some ⟨rv, 0, none⟩)] [Kvp b x, Blk rv [.pointer (some ⟨rq, 0, none⟩)] 59, Req rq mm xm mc xc] (fun v L => v = .bool (p x) ∧ L = [Kvp b x, Blk rv [.pointer (some ⟨rq, 0, none⟩)] 59, Req rq mm xm mc xc])) (hq : qs = []) : Does Try.prog 67 [.pointer (some ⟨rb, 0, none⟩), .func (.func fid) #[] #[.pointer (some ⟨rv, 0, none⟩)]] [Blk rb [.slice none 0 0, .int .i64 0, .int .i64 0] 93, Kvps qs, Blk rv [.pointer (some ⟨rq, 0, none⟩)] 59, Req rq mm xm mc xc] (fun v L => v = .tuple #[] ∧ L = [Resp rb (qs.filter fun q => !p q.2), Kvps qs, Blk rv [.pointer (some ⟨rq, 0, none⟩)] 59, Req rq mm xm mc xc]) := by
  refine Does.enter 49 Try.func67 rfl rfl rfl fun W F => ?_
  show WPc _ _ _ _ _ [(0, .pointer (some ⟨rb, 0, none⟩)), (1, .func (.func fid) #[] #[.pointer (some ⟨rv, 0, none⟩)])] (Blk rb [.slice none 0 0, .int .i64 0, .int .i64 0] 93 :: Kvps qs :: Blk rv [.pointer (some ⟨rq, 0, none⟩)] 59 :: Req rq mm xm mc xc :: F)
  refine WPc.seq ?_
  refine WPc.region ?_
  refine WP.val rfl rfl rfl (Val.assign rfl rfl) ?_
  refine WP.nil ?_
  refine Out.next ?_
  refine WPc.seq ?_
  refine WPc.seq ?_
  refine WPc.region ?_
  refine WP.val rfl rfl rfl (Val.move rfl rfl) ?_
  refine WP.val rfl rfl rfl (Val.nilCheck rfl rfl) ?_
  refine WP.val rfl rfl rfl (Val.fieldAddr (j := 0) rfl Ty.fo93_0 rfl rfl) ?_
  refine WP.val rfl rfl rfl (Val.load rfl Ty.sc63 rfl (fun w h => h.cell 0 rfl rfl)) ?_
  refine WP.val rfl rfl rfl (Val.len rfl Ty.sl63 rfl) ?_
  refine WP.val rfl rfl rfl (Val.move rfl rfl) ?_
  refine WP.nil ?_
  refine Out.next ?_
  refine WPc.block ?_
  refine WPc.loop (ι := Unit) (fun _ => True) (fun _ => [(0, .pointer (some ⟨rb, 0, none⟩)), (4, .int .i64 0), (10, .int .i64 0), (11, .int .i64 0)]) (fun _ => Blk rb [.slice none 0 0, .int .i64 0, .int .i64 0] 93 :: Kvps qs :: Blk rv [.pointer (some ⟨rq, 0, none⟩)] 59 :: Req rq mm xm mc xc :: F) (fun _ => 0) () trivial ((Sub.cons rfl (Sub.cons rfl (Sub.cons rfl (Sub.cons rfl Sub.nil))))) (fun _ h => h) ?_
  rintro _ hI
  show WPc _ _ _ _ _ [(0, .pointer (some ⟨rb, 0, none⟩)), (4, .int .i64 0), (10, .int .i64 0), (11, .int .i64 0)] (Blk rb [.slice none 0 0, .int .i64 0, .int .i64 0] 93 :: Kvps qs :: Blk rv [.pointer (some ⟨rq, 0, none⟩)] 59 :: Req rq mm xm mc xc :: F)
  refine WPc.seq ?_
  refine WPc.region ?_
  refine WP.val rfl rfl rfl (Val.lss rfl rfl rfl) ?_
  refine WP.nil ?_
  refine Out.next ?_
  refine WPc.seq ?_
  refine WPc.ifP rfl (fun h1 => ?_) (fun h1 => ?_)
  · skip
    have h1 : ((0 : Int) < (0 : Int)) := h1
    omega
  · skip
    have h1 : ¬ ((0 : Int) < (0 : Int)) := h1
    refine WPc.exit ?_
    refine Out.then_exit ?_
    refine Out.then_exit ?_
    refine Out.block_exit ?_
    refine Out.next ?_
    refine WPc.region ?_
    refine WP.val rfl rfl rfl (Val.move rfl rfl) ?_
    refine WP.val rfl rfl rfl (Val.move rfl rfl) ?_
    refine WP.val rfl rfl rfl (Val.nilCheck rfl rfl) ?_
    refine WP.val rfl rfl rfl (Val.fieldAddr (j := 0) rfl Ty.fo93_0 rfl rfl) ?_
    refine WP.val rfl rfl rfl (Val.load rfl Ty.sc63 rfl (fun w h => h.cell 0 rfl rfl)) ?_
    refine WP.val rfl rfl rfl (Val.move rfl rfl) ?_
    refine WP.val rfl rfl rfl (Val.sliceNil (vlo := none) (vhi := some (.i64, (0 : Int))) rfl Ty.sl63 rfl rfl rfl (by simp [bnd]; try omega) (by simp [bnd]; try omega)) ?_
    refine WP.val rfl rfl rfl (Val.nilCheck rfl rfl) ?_
    refine WP.val rfl rfl rfl (Val.fieldAddr (j := 0) rfl Ty.fo93_0 rfl rfl) ?_
    refine WP.eff0 rfl rfl (Eff.store rfl Ty.sc63 rfl rfl rfl (by simp) st0) ?_
    rintro _ _ rfl
    refine WP.nil ?_
    exact Out.end0 (L' := [Resp rb (qs.filter fun q => !p q.2), Kvps qs, Blk rv [.pointer (some ⟨rq, 0, none⟩)] 59, Req rq mm xm mc xc]) Try.results67 ⟨rfl, rfl⟩ (fun w h => by subst hq; exact resp_mk h.ownNil)

theorem prune_spec (fid : Nat) (hcall : ∀ (xs : Array Value) (w : World), (callFunc fid xs).run Try.prog w = .ok (.enter fid xs) w) (p : KV → Bool) (rb rv rq : Nat) (mm xm mc xc : Int) (qs : List (Nat × KV)) (hn : qs.length ≤ 1000)
    (hp : ∀ b x, Does Try.prog fid [.pointer (some ⟨b, 0, none⟩), .pointer (some ⟨rv, 0, none⟩)] [Kvp b x, Blk rv [.pointer (some ⟨rq, 0, none⟩)] 59, Req rq mm xm mc xc] (fun v L => v = .bool (p x) ∧ L = [Kvp b x, Blk rv [.pointer (some ⟨rq, 0, none⟩)] 59, Req rq mm xm mc xc])) : Does Try.prog 67 [.pointer (some ⟨rb, 0, none⟩), .func (.func fid) #[] #[.pointer (some ⟨rv, 0, none⟩)]] [Resp rb qs, Kvps qs, Blk rv [.pointer (some ⟨rq, 0, none⟩)] 59, Req rq mm xm mc xc] (fun v L => v = .tuple #[] ∧ L = [Resp rb (qs.filter fun q => !p q.2), Kvps qs, Blk rv [.pointer (some ⟨rq, 0, none⟩)] 59, Req rq mm xm mc xc]) := by
  refine Does.or (M := [Blk rb [.slice none 0 0, .int .i64 0, .int .i64 0] 93, Kvps qs, Blk rv [.pointer (some ⟨rq, 0, none⟩)] 59, Req rq mm xm mc xc]) (M' := [Ex fun q : Nat × Nat × List Value => Sep [Pure (qs.length ≤ q.2.1 ∧ q.2.2.length = q.2.1 - qs.length ∧ q.2.1 ≤ maxLen), Blk q.1 (row qs ++ q.2.2) 70, Blk rb [.slice (some ⟨q.1, 0, none⟩) qs.length q.2.1, .int .i64 0, .int .i64 0] 93], Kvps qs, Blk rv [.pointer (some ⟨rq, 0, none⟩)] 59, Req rq mm xm mc xc]) (fun W w F h => resp_or h) (fun hq => ?_) (fun _ => ?_)
  · exact prune_nil fid hcall p rb rv rq mm xm mc xc qs hn hp hq
  · refine Does.open (g := fun q : Nat × Nat × List Value => [Sep [Pure (qs.length ≤ q.2.1 ∧ q.2.2.length = q.2.1 - qs.length ∧ q.2.1 ≤ maxLen), Blk q.1 (row qs ++ q.2.2) 70, Blk rb [.slice (some ⟨q.1, 0, none⟩) qs.length q.2.1, .int .i64 0, .int .i64 0] 93], Kvps qs, Blk rv [.pointer (some ⟨rq, 0, none⟩)] 59, Req rq mm xm mc xc]) (fun W w F h => h.ex) (fun q => ?_)
    obtain ⟨g, cap, sp⟩ := q
    refine Does.fact (A := qs.length ≤ cap ∧ sp.length = cap - qs.length ∧ cap ≤ maxLen) (fun W w F h => h.sep.pure) (fun ⟨h1, h2, h3⟩ => ?_)
    refine Does.conv (M := [Blk g (row qs ++ sp) 70, Blk rb [.slice (some ⟨g, 0, none⟩) qs.length cap, .int .i64 0, .int .i64 0] 93, Kvps qs, Blk rv [.pointer (some ⟨rq, 0, none⟩)] 59, Req rq mm xm mc xc]) (fun W w F h => h.sep.drop) ?_
    exact prune_row fid hcall p rb rv rq mm xm mc xc qs hn hp g cap sp h1 h2 h3

end Go.Proofs.Ytibopfemknnocaa.Flt2
