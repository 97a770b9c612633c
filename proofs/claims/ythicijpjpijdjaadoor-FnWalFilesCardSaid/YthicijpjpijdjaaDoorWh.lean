import Derived.Test.YthicijpjpijdjaaDoorWg
namespace Go.Proofs.YthicijpjpijdjaaDoor.Wh
open Go.RowKit Go.Proofs.YthicijpjpijdjaaDoor Go.Proofs.YthicijpjpijdjaaDoor.Sl Go.Proofs.YthicijpjpijdjaaDoor.Wa Go.Proofs.YthicijpjpijdjaaDoor.Wb Go.Proofs.YthicijpjpijdjaaDoor.Wc Go.Proofs.YthicijpjpijdjaaDoor.Wd Go.Proofs.YthicijpjpijdjaaDoor.We Go.Proofs.YthicijpjpijdjaaDoor.Wf Go.Proofs.YthicijpjpijdjaaDoor.Wg
set_option linter.unusedVariables false
set_option linter.unusedSimpArgs false
set_option linter.unusedSectionVars false


def slack (page off k : Nat) : Nat := page - (off + k) % page
def outs (pend : List UInt8) : List (List UInt8) := if pend = [] then [] else [pend]
def offs (page off : Nat) (pend : List UInt8) : Nat := if pend = [] then off else (off + pend.length) % page
/-- behind the buffer's flush: what is left of a write -/
def rest (page off : Nat) (pend p : List UInt8) : List (List UInt8) × Nat × List UInt8 :=
  if page < p.length then (outs pend ++ [p.take (p.length / page * page)], offs page off pend, p.drop (p.length / page * page)) else (outs pend, offs page off pend, p)
/-- a write of p: what is handed on, the new offset, what waits -/
def wr (page B off : Nat) (pend p : List UInt8) : List (List UInt8) × Nat × List UInt8 :=
  if p.length + pend.length ≤ B then ([], off, pend ++ p)
  else if slack page off pend.length ≠ page then
    (if p.length < slack page off pend.length then ([], off, pend ++ p) else rest page off (pend ++ p.take (slack page off pend.length)) (p.drop (slack page off pend.length)))
  else rest page off pend p
/-- what the buffer has room for -/
def Fit (page B off k : Nat) : Prop := k + (slack page off k) % page ≤ B + page
theorem slack_pos {page off k : Nat} (hp : 0 < page) : 0 < slack page off k ∧ slack page off k ≤ page := by
  have := Nat.mod_lt (off + k) hp
  unfold slack; omega
theorem mod_one {a page : Nat} (h : a < page) : a % page = a := Nat.mod_eq_of_lt h
theorem fit_small {page B off k : Nat} (hp : 0 < page) (h : k ≤ B) : Fit page B off k := by
  have := Nat.mod_lt (slack page off k) hp
  unfold Fit; omega
theorem slack_add {page off k n : Nat} (hp : 0 < page) (h1 : n < slack page off k) (h2 : slack page off k ≠ page) : slack page off (k + n) = slack page off k - n := by
  unfold slack at *
  have hm := Nat.mod_lt (off + k) hp
  have e : (off + (k + n)) % page = (off + k) % page + n := by
    rw [← Nat.add_assoc, Nat.add_mod, Nat.mod_eq_of_lt (a := n) (by omega)]
    exact Nat.mod_eq_of_lt (by omega)
  rw [e]; omega
theorem wr_fit {page B off : Nat} {pend p : List UInt8} (hp : 0 < page) (hB : page ≤ B) (h : Fit page B off pend.length) : Fit page B (wr page B off pend p).2.1 (wr page B off pend p).2.2.length := by
  have hs := slack_pos (off := off) (k := pend.length) hp
  have hrest : ∀ q r, Fit page B (rest page off q r).2.1 (rest page off q r).2.2.length := by
    intro q r
    unfold rest
    split
    · refine fit_small hp ?_
      simp only [List.length_drop]
      have := Nat.mod_lt r.length hp
      have e := Nat.mod_add_div r.length page
      rw [Nat.mul_comm] at e
      omega
    · exact fit_small hp (by dsimp only; omega)
  unfold wr
  split
  · exact fit_small hp (by simp; omega)
  · split
    · rename_i hne
      split
      · rename_i hlt
        unfold Fit at *
        simp only [List.length_append]
        rw [slack_add hp hlt hne]
        rw [Nat.mod_eq_of_lt (by omega)] at h
        rw [Nat.mod_eq_of_lt (by omega)]
        omega
      · exact hrest _ _
    · exact hrest _ _
def tot (l : List (List UInt8)) : Nat := (l.map List.length).sum
theorem tot_append (a b : List (List UInt8)) : tot (a ++ b) = tot a + tot b := by simp [tot]
theorem outs_tot (q : List UInt8) : tot (outs q) = q.length := by unfold outs; split <;> simp_all [tot]
theorem rest_tot {page off : Nat} {q r : List UInt8} : tot (rest page off q r).1 + (rest page off q r).2.2.length = q.length + r.length := by
  unfold rest
  split
  · have : r.length / page * page ≤ r.length := Nat.div_mul_le_self _ _
    simp only [tot_append, outs_tot, List.length_drop]
    simp [tot]
    omega
  · simp [outs_tot]
/-- what waited and what came: handed on, or waiting -/
theorem wr_tot {page B off : Nat} {pend p : List UInt8} : tot (wr page B off pend p).1 + (wr page B off pend p).2.2.length = pend.length + p.length := by
  unfold wr
  split
  · simp [tot]
  · split
    · split
      · simp [tot]
      · rename_i h
        rw [rest_tot]
        simp
        omega
    · rw [rest_tot]
theorem wr_none {page B off : Nat} {pend p : List UInt8} (h : p.length + pend.length ≤ B) : (wr page B off pend p).1 = [] := by unfold wr; rw [if_pos h]
theorem fit_le {page B off k : Nat} (h : Fit page B off k) : k ≤ B + page := by unfold Fit at h; omega
set_option maxRecDepth 100000 in
set_option maxHeartbeats 1000000 in
theorem below_spec (A : HProp) (bb xb xo xc : Nat) (bs ss : List UInt8) (wv : Value) (hA : ∀ w, Holds A w → w.rangeAt xb xo (byt bs)) (hn : bs.length ≤ 4294967296) (hss : ss.length ≤ 4294967296) : Does Tryd.prog 69 [.pointer (some ⟨bb, 0, none⟩), .slice (some ⟨xb, xo, none⟩) bs.length xc] [Own 5 1 wv ((ss : List UInt8).length) (byt (ss)), Blk bb [wv] 72, A] (fun v L => ∃ wv', v = .tuple #[.int .i64 ((bs.length : Nat) : Int), .nilIface] ∧ L = [Blk bb [wv'] 72, Own 5 1 wv' (ss ++ bs : List UInt8).length (byt (ss ++ bs)), A]) := by
  refine Does.enter 17 Tryd.func69 rfl rfl rfl fun W F => ?_
  show WPc _ _ _ _ _ [(0, .pointer (some ⟨bb, 0, none⟩)), (1, .slice (some ⟨xb, xo, none⟩) bs.length xc)] (Own 5 1 wv ((ss : List UInt8).length) (byt (ss)) :: Blk bb [wv] 72 :: A :: F)
  refine WPc.seq ?_
  refine WPc.fact (fun w h => own_oneCell h) (fun onewv => ?_)
  refine WPc.region ?_
  refine WP.val rfl rfl rfl (Val.assign rfl rfl) ?_
  refine WP.val rfl rfl rfl (Val.assign rfl rfl) ?_
  refine WP.nil ?_
  refine Out.next ?_
  refine WPc.seq ?_
  refine WPc.region ?_
  refine WP.val rfl rfl rfl (Val.move rfl rfl) ?_
  refine WP.val rfl rfl rfl (Val.move rfl rfl) ?_
  refine WP.val rfl rfl rfl (Val.nilCheck rfl rfl) ?_
  refine WP.val rfl rfl rfl (Val.fieldAddr (j := 0) rfl Ty.fo72_0 rfl rfl) ?_
  refine WP.val rfl rfl rfl (Val.load rfl Ty.sc40 rfl (fun w h => h.cell 1 rfl rfl)) ?_
  refine WP.val rfl rfl rfl (Val.move rfl rfl) ?_
  refine WP.eff rfl rfl rfl (Eff.append (m := bs.length) (n0 := (ss : List UInt8).length) (news := byt bs) rfl Ty.sl40 Ty.z5 rfl rfl rfl (Srcs.slice Ty.sl40 (by simp [byt]) (byt_one _) (fun w h => cells_range (hA w (h.at 2 rfl)))) (by omega) (by omega)) ?_
  rintro v1 _ ⟨onev1, rfl⟩
  refine WP.val rfl rfl rfl (Val.nilCheck rfl rfl) ?_
  refine WP.val rfl rfl rfl (Val.fieldAddr (j := 0) rfl Ty.fo72_0 rfl rfl) ?_
  refine WP.perm pl1 ?_
  refine WP.eff0 rfl rfl (Eff.store rfl Ty.sc40 rfl rfl onev1 (by simp) st0) ?_
  rintro _ _ rfl
  refine WP.nil ?_
  refine Out.next ?_
  refine WPc.seq ?_
  refine WPc.region ?_
  refine WP.val rfl rfl rfl (Val.move rfl rfl) ?_
  refine WP.val rfl rfl rfl (Val.len rfl Ty.sl40 rfl) ?_
  refine WP.val rfl rfl rfl (Val.assign rfl rfl) ?_
  refine WP.val rfl rfl rfl (Val.assign rfl rfl) ?_
  refine WP.nil ?_
  refine Out.next ?_
  refine WPc.ret ?_
  exact Out.ret2 (L' := [Blk bb [v1] 72, Own 5 1 v1 (ss ++ bs : List UInt8).length (byt (ss ++ bs)), A]) Tryd.results69 rfl rfl ⟨v1, rfl, rfl⟩ (fun w h => by rw [List.length_append, byt_append]; exact h)
set_option maxRecDepth 100000 in
set_option maxHeartbeats 1000000 in
theorem flush_spec (pw bb bf page B off : Nat) (pend junk : List UInt8) (ss : List UInt8) (wv : Value) (hp : 0 < page) (hpb : page ≤ B) (hB : B ≤ 1048576) (hoff : off ≤ 4294967296) (hlen : pend.length + junk.length = B + page) (hss : ss.length ≤ 4294967296) : Does Tryd.prog 48 [.pointer (some ⟨pw, 0, none⟩)] [Blk pw [.iface 70 (.pointer (some ⟨bb, 0, none⟩)), .int .i64 (((off : Nat) : Int)), .int .i64 (((page : Nat) : Int)), .int .i64 ((((pend).length : Nat) : Int)), .slice (some ⟨bf, 0, none⟩) ((B + page)) ((B + page)), .int .i64 (((B : Nat) : Int))] 114, Blk bf (byt (pend) ++ byt (junk)) 5, Blk bb [wv] 72, Own 5 1 wv ((ss : List UInt8).length) (byt (ss))] (fun v L => ∃ (k : Int) (wv' : Value) (junk' : List UInt8), ([] : List UInt8).length + junk'.length = B + page ∧ v = .tuple #[.int .i64 k, .nilIface] ∧ L = [Blk pw [.iface 70 (.pointer (some ⟨bb, 0, none⟩)), .int .i64 ((offs page off pend : Nat) : Int), .int .i64 ((page : Nat) : Int), .int .i64 (((([] : List UInt8)).length : Nat) : Int), .slice (some ⟨bf, 0, none⟩) (B + page) (B + page), .int .i64 ((B : Nat) : Int)] 114, Blk bf (byt (([] : List UInt8)) ++ byt junk') 5, Blk bb [wv'] 72, Own 5 1 wv' (ss ++ (outs pend).flatten : List UInt8).length (byt (ss ++ (outs pend).flatten))]) := by
  refine Does.enter 52 Tryd.func48 rfl rfl rfl fun W F => ?_
  show WPc _ _ _ _ _ [(0, .pointer (some ⟨pw, 0, none⟩))] (Blk pw [.iface 70 (.pointer (some ⟨bb, 0, none⟩)), .int .i64 (((off : Nat) : Int)), .int .i64 (((page : Nat) : Int)), .int .i64 ((((pend).length : Nat) : Int)), .slice (some ⟨bf, 0, none⟩) ((B + page)) ((B + page)), .int .i64 (((B : Nat) : Int))] 114 :: Blk bf (byt (pend) ++ byt (junk)) 5 :: Blk bb [wv] 72 :: Own 5 1 wv ((ss : List UInt8).length) (byt (ss)) :: F)
  refine WPc.seq ?_
  refine WPc.region ?_
  refine WP.val rfl rfl rfl (Val.assign rfl rfl) ?_
  refine WP.val rfl rfl rfl (Val.assign rfl rfl) ?_
  refine WP.nil ?_
  refine Out.next ?_
  refine WPc.seq ?_
  refine WPc.seq ?_
  refine WPc.region ?_
  refine WP.val rfl rfl rfl (Val.move rfl rfl) ?_
  refine WP.val rfl rfl rfl (Val.nilCheck rfl rfl) ?_
  refine WP.val rfl rfl rfl (Val.fieldAddr (j := 3) rfl Ty.fo114_3 rfl rfl) ?_
  refine WP.val rfl rfl rfl (Val.load rfl Ty.sc3 rfl (fun w h => h.cell 0 rfl rfl)) ?_
  refine WP.val rfl rfl rfl (Val.eql rfl rfl rfl) ?_
  refine WP.nil ?_
  refine Out.next ?_
  refine WPc.ifP rfl (fun h1 => ?_) (fun h1 => ?_)
  · skip
    have h1 : ((((pend).length : Nat) : Int) = (0 : Int)) := h1
    refine WPc.seq ?_
    refine WPc.region ?_
    refine WP.val rfl rfl rfl (Val.assign rfl rfl) ?_
    refine WP.val rfl rfl rfl (Val.assign rfl rfl) ?_
    refine WP.nil ?_
    refine Out.next ?_
    refine WPc.ret ?_
    refine Out.then_ret ?_
    have e : pend = [] := List.eq_nil_of_length_eq_zero (by omega)
    subst e
    exact Out.ret2 (L' := _) Tryd.results48 rfl rfl ⟨_, wv, junk, by simpa using hlen, rfl, by simp only [offs, outs, if_true, List.flatten_nil, List.append_nil]; rfl⟩ (fun _ h => h)
  · skip
    have h1 : ¬ ((((pend).length : Nat) : Int) = (0 : Int)) := h1
    refine WPc.skip ?_
    refine Out.next ?_
    refine WPc.seq ?_
    have hne : pend ≠ [] := by intro e; rw [e] at h1; simp at h1
    refine WPD.start (Sat W (Blk pw [.iface 70 (.pointer (some ⟨bb, 0, none⟩)), .int .i64 (((off : Nat) : Int)), .int .i64 (((page : Nat) : Int)), .int .i64 ((((pend).length : Nat) : Int)), .slice (some ⟨bf, 0, none⟩) ((B + page)) ((B + page)), .int .i64 (((B : Nat) : Int))] 114 :: Blk bf (byt (pend) ++ byt (junk)) 5 :: Blk bb [wv] 72 :: Own 5 1 wv ((ss : List UInt8).length) (byt (ss)) :: F)) Ty.mixed ?_
    refine WPD.takeM 0 rfl rfl rfl rfl (by kernel_rfl) (by kernel_rfl) (by kernel_rfl) (by kernel_rfl) (fun _ _ _ h => h) (fun _ h => h) (Val.move rfl rfl) ?_
    refine WPD.takeM 1 rfl rfl rfl rfl (by kernel_rfl) (by kernel_rfl) (by kernel_rfl) (by kernel_rfl) (fun _ _ _ h => h) (fun _ h => h) (Val.nilCheck rfl rfl) ?_
    refine WPD.takeM 2 rfl rfl rfl rfl (by kernel_rfl) (by kernel_rfl) (by kernel_rfl) (by kernel_rfl) (fun _ _ _ h => h) (fun _ h => h) (Val.fieldAddr (j := 0) rfl Ty.fo114_0 rfl rfl) ?_
    refine WPD.take 3 rfl rfl rfl rfl (by kernel_rfl) (by kernel_rfl) (by kernel_rfl) (by kernel_rfl) (fun _ _ _ h => h) (by kernel_rfl) (fun _ h => h) (Val.load rfl Ty.sc92 rfl (fun w h => h.cell 0 rfl rfl)) ?_
    refine WPD.takeM 4 rfl rfl rfl rfl (by kernel_rfl) (by kernel_rfl) (by kernel_rfl) (by kernel_rfl) (fun _ _ _ h => h) (fun _ h => h) (Val.move rfl rfl) ?_
    refine WPD.takeM 5 rfl rfl rfl rfl (by kernel_rfl) (by kernel_rfl) (by kernel_rfl) (by kernel_rfl) (fun _ _ _ h => h) (fun _ h => h) (Val.nilCheck rfl rfl) ?_
    refine WPD.takeM 6 rfl rfl rfl rfl (by kernel_rfl) (by kernel_rfl) (by kernel_rfl) (by kernel_rfl) (fun _ _ _ h => h) (fun _ h => h) (Val.fieldAddr (j := 4) rfl Ty.fo114_4 rfl rfl) ?_
    refine WPD.take 7 rfl rfl rfl rfl (by kernel_rfl) (by kernel_rfl) (by kernel_rfl) (by kernel_rfl) (fun _ _ _ h => h) (by kernel_rfl) (fun _ h => h) (Val.load rfl Ty.sc40 rfl (fun w h => h.cell 0 rfl rfl)) ?_
    refine WPD.takeM 8 rfl rfl rfl rfl (by kernel_rfl) (by kernel_rfl) (by kernel_rfl) (by kernel_rfl) (fun _ _ _ h => h) (fun _ h => h) (Val.move rfl rfl) ?_
    refine WPD.takeM 9 rfl rfl rfl rfl (by kernel_rfl) (by kernel_rfl) (by kernel_rfl) (by kernel_rfl) (fun _ _ _ h => h) (fun _ h => h) (Val.nilCheck rfl rfl) ?_
    refine WPD.takeM 10 rfl rfl rfl rfl (by kernel_rfl) (by kernel_rfl) (by kernel_rfl) (by kernel_rfl) (fun _ _ _ h => h) (fun _ h => h) (Val.fieldAddr (j := 3) rfl Ty.fo114_3 rfl rfl) ?_
    refine WPD.take 11 rfl rfl rfl rfl (by kernel_rfl) (by kernel_rfl) (by kernel_rfl) (by kernel_rfl) (fun _ _ _ h => h) (by kernel_rfl) (fun _ h => h) (Val.load rfl Ty.sc3 rfl (fun w h => h.cell 0 rfl rfl)) ?_
    refine WPD.takeM 12 rfl rfl rfl rfl (by kernel_rfl) (by kernel_rfl) (by kernel_rfl) (by kernel_rfl) (fun _ _ _ h => h) (fun _ h => h) (Val.slice (lo := 0) (hi := (pend).length) (j := 0) (vlo := none) (vhi := some (.i64, (((pend).length : Nat) : Int))) rfl Ty.sl40 rfl rfl rfl (by simp [bnd]) (by simp [bnd]; try omega) (by omega) (by omega) (by omega) (by simp)) ?_
    refine WPD.takeM 13 rfl rfl rfl rfl (by kernel_rfl) (by kernel_rfl) (by kernel_rfl) (by kernel_rfl) (fun _ _ _ h => h) (fun _ h => h) (Val.nilCheckI rfl rfl) ?_
    refine WPD.takeM 14 rfl rfl rfl rfl (by kernel_rfl) (by kernel_rfl) (by kernel_rfl) (by kernel_rfl) (fun _ _ _ h => h) (fun _ h => h) (Val.move rfl rfl) ?_
    refine WPD.perm pl1 ?_
    refine WPD.perm pl2 ?_
    refine WPD.perm pl3 ?_
    refine WPD.stepC 15 (by kernel_rfl) rfl rfl rfl rfl (by kernel_rfl) (Eff.invoke (f := 69) rfl rfl rfl (fun _ => by kernel_rfl) Tryd.call69 (below_spec (Blk bf (byt (pend) ++ byt (junk)) 5) bb bf 0 ((B + page)) (pend) (ss) wv (fun w h => h.cell_range (by simp [byt])) (by omega) (by omega))) ?_
    rintro _ _ ⟨_, ⟨wv1, rfl, rfl⟩, rfl⟩
    refine ⟨(Sat W (Blk bb [wv1] 72 :: Own 5 1 wv1 ((ss ++ pend : List UInt8).length) (byt (ss ++ pend)) :: Blk bf (byt (pend) ++ byt (junk)) 5 :: Blk pw [.iface 70 (.pointer (some ⟨bb, 0, none⟩)), .int .i64 (((off : Nat) : Int)), .int .i64 (((page : Nat) : Int)), .int .i64 ((((pend).length : Nat) : Int)), .slice (some ⟨bf, 0, none⟩) ((B + page)) ((B + page)), .int .i64 (((B : Nat) : Int))] 114 :: F)), (fun _ h => h), ?_⟩
    show WPD _ _ _ _ _ _ _ _ _ (Blk bb [wv1] 72 :: Own 5 1 wv1 ((ss ++ pend : List UInt8).length) (byt (ss ++ pend)) :: Blk bf (byt (pend) ++ byt (junk)) 5 :: Blk pw [.iface 70 (.pointer (some ⟨bb, 0, none⟩)), .int .i64 (((off : Nat) : Int)), .int .i64 (((page : Nat) : Int)), .int .i64 ((((pend).length : Nat) : Int)), .slice (some ⟨bf, 0, none⟩) ((B + page)) ((B + page)), .int .i64 (((B : Nat) : Int))] 114 :: F)
    refine WPD.takeM 16 rfl rfl rfl rfl (by kernel_rfl) (by kernel_rfl) (by kernel_rfl) (by kernel_rfl) (fun _ _ _ h => h) (fun _ h => h) (Val.move rfl rfl) ?_
    refine WPD.takeM 17 rfl rfl rfl rfl (by kernel_rfl) (by kernel_rfl) (by kernel_rfl) (by kernel_rfl) (fun _ _ _ h => h) (fun _ h => h) (Val.extract rfl rfl rfl) ?_
    refine WPD.takeM 18 rfl rfl rfl rfl (by kernel_rfl) (by kernel_rfl) (by kernel_rfl) (by kernel_rfl) (fun _ _ _ h => h) (fun _ h => h) (Val.extract rfl rfl rfl) ?_
    refine WPD.takeM 19 rfl rfl rfl rfl (by kernel_rfl) (by kernel_rfl) (by kernel_rfl) (by kernel_rfl) (fun _ _ _ h => h) (fun _ h => h) (Val.assign rfl rfl) ?_
    refine WPD.takeM 20 rfl rfl rfl rfl (by kernel_rfl) (by kernel_rfl) (by kernel_rfl) (by kernel_rfl) (fun _ _ _ h => h) (fun _ h => h) (Val.assign rfl rfl) ?_
    refine WPD.done (by kernel_rfl) ?_
    refine Out.next ?_
    refine WPc.seq ?_
    refine WPD.start (Sat W (Blk bb [wv1] 72 :: Own 5 1 wv1 ((ss ++ pend : List UInt8).length) (byt (ss ++ pend)) :: Blk bf (byt (pend) ++ byt (junk)) 5 :: Blk pw [.iface 70 (.pointer (some ⟨bb, 0, none⟩)), .int .i64 (((off : Nat) : Int)), .int .i64 (((page : Nat) : Int)), .int .i64 ((((pend).length : Nat) : Int)), .slice (some ⟨bf, 0, none⟩) ((B + page)) ((B + page)), .int .i64 (((B : Nat) : Int))] 114 :: F)) Ty.mixed ?_
    refine WPD.takeM 0 rfl rfl rfl rfl (by kernel_rfl) (by kernel_rfl) (by kernel_rfl) (by kernel_rfl) (fun _ _ _ h => h) (fun _ h => h) (Val.move rfl rfl) ?_
    refine WPD.takeM 1 rfl rfl rfl rfl (by kernel_rfl) (by kernel_rfl) (by kernel_rfl) (by kernel_rfl) (fun _ _ _ h => h) (fun _ h => h) (Val.move rfl rfl) ?_
    refine WPD.takeM 2 rfl rfl rfl rfl (by kernel_rfl) (by kernel_rfl) (by kernel_rfl) (by kernel_rfl) (fun _ _ _ h => h) (fun _ h => h) (Val.nilCheck rfl rfl) ?_
    refine WPD.takeM 3 rfl rfl rfl rfl (by kernel_rfl) (by kernel_rfl) (by kernel_rfl) (by kernel_rfl) (fun _ _ _ h => h) (fun _ h => h) (Val.fieldAddr (j := 1) rfl Ty.fo114_1 rfl rfl) ?_
    refine WPD.take 4 rfl rfl rfl rfl (by kernel_rfl) (by kernel_rfl) (by kernel_rfl) (by kernel_rfl) (fun _ _ _ h => h) (by kernel_rfl) (fun _ h => h) (Val.load rfl Ty.sc3 rfl (fun w h => h.cell 3 rfl rfl)) ?_
    refine WPD.takeM 5 rfl rfl rfl rfl (by kernel_rfl) (by kernel_rfl) (by kernel_rfl) (by kernel_rfl) (fun _ _ _ h => h) (fun _ h => h) (Val.move rfl rfl) ?_
    refine WPD.takeM 6 rfl rfl rfl rfl (by kernel_rfl) (by kernel_rfl) (by kernel_rfl) (by kernel_rfl) (fun _ _ _ h => h) (fun _ h => h) (Val.nilCheck rfl rfl) ?_
    refine WPD.takeM 7 rfl rfl rfl rfl (by kernel_rfl) (by kernel_rfl) (by kernel_rfl) (by kernel_rfl) (fun _ _ _ h => h) (fun _ h => h) (Val.fieldAddr (j := 3) rfl Ty.fo114_3 rfl rfl) ?_
    refine WPD.take 8 rfl rfl rfl rfl (by kernel_rfl) (by kernel_rfl) (by kernel_rfl) (by kernel_rfl) (fun _ _ _ h => h) (by kernel_rfl) (fun _ h => h) (Val.load rfl Ty.sc3 rfl (fun w h => h.cell 3 rfl rfl)) ?_
    refine WPD.takeM 9 rfl rfl rfl rfl (by kernel_rfl) (by kernel_rfl) (by kernel_rfl) (by kernel_rfl) (fun _ _ _ h => h) (fun _ h => h) (Val.add (z := ((off + ((pend).length) : Nat) : Int)) rfl rfl rfl ((w64 (by omega) (by omega)).trans (by omega))) ?_
    refine WPD.takeM 10 rfl rfl rfl rfl (by kernel_rfl) (by kernel_rfl) (by kernel_rfl) (by kernel_rfl) (fun _ _ _ h => h) (fun _ h => h) (Val.move rfl rfl) ?_
    refine WPD.takeM 11 rfl rfl rfl rfl (by kernel_rfl) (by kernel_rfl) (by kernel_rfl) (by kernel_rfl) (fun _ _ _ h => h) (fun _ h => h) (Val.nilCheck rfl rfl) ?_
    refine WPD.takeM 12 rfl rfl rfl rfl (by kernel_rfl) (by kernel_rfl) (by kernel_rfl) (by kernel_rfl) (fun _ _ _ h => h) (fun _ h => h) (Val.fieldAddr (j := 2) rfl Ty.fo114_2 rfl rfl) ?_
    refine WPD.take 13 rfl rfl rfl rfl (by kernel_rfl) (by kernel_rfl) (by kernel_rfl) (by kernel_rfl) (fun _ _ _ h => h) (by kernel_rfl) (fun _ h => h) (Val.load rfl Ty.sc3 rfl (fun w h => h.cell 3 rfl rfl)) ?_
    refine WPD.takeM 14 rfl rfl rfl rfl (by kernel_rfl) (by kernel_rfl) (by kernel_rfl) (by kernel_rfl) (fun _ _ _ h => h) (fun _ h => h) (Val.rem (z := (((off + ((pend).length)) % page : Nat) : Int)) rfl rfl rfl (by omega) (by rfl)) ?_
    refine WPD.takeM 15 rfl rfl rfl rfl (by kernel_rfl) (by kernel_rfl) (by kernel_rfl) (by kernel_rfl) (fun _ _ _ h => h) (fun _ h => h) (Val.nilCheck rfl rfl) ?_
    refine WPD.takeM 16 rfl rfl rfl rfl (by kernel_rfl) (by kernel_rfl) (by kernel_rfl) (by kernel_rfl) (fun _ _ _ h => h) (fun _ h => h) (Val.fieldAddr (j := 1) rfl Ty.fo114_1 rfl rfl) ?_
    refine WPD.perm pl3 ?_
    refine WPD.stepC0 17 (by kernel_rfl) rfl rfl rfl (by kernel_rfl) (Eff.store rfl Ty.sc3 rfl rfl rfl (by simp) st1) ?_
    rintro _ _ rfl
    refine ⟨(Sat W (Blk pw [.iface 70 (.pointer (some ⟨bb, 0, none⟩)), .int .i64 ((((off + ((pend).length)) % page : Nat) : Int)), .int .i64 (((page : Nat) : Int)), .int .i64 ((((pend).length : Nat) : Int)), .slice (some ⟨bf, 0, none⟩) ((B + page)) ((B + page)), .int .i64 (((B : Nat) : Int))] 114 :: Blk bb [wv1] 72 :: Own 5 1 wv1 ((ss ++ pend : List UInt8).length) (byt (ss ++ pend)) :: Blk bf (byt (pend) ++ byt (junk)) 5 :: F)), (fun _ h => h), ?_⟩
    refine WPD.done (by kernel_rfl) ?_
    refine Out.next ?_
    refine WPc.seq ?_
    refine WPc.region ?_
    refine WP.val rfl rfl rfl (Val.move rfl rfl) ?_
    refine WP.val rfl rfl rfl (Val.nilCheck rfl rfl) ?_
    refine WP.val rfl rfl rfl (Val.fieldAddr (j := 3) rfl Ty.fo114_3 rfl rfl) ?_
    refine WP.eff0 rfl rfl (Eff.store rfl Ty.sc3 rfl rfl rfl (by simp) st3) ?_
    rintro _ _ rfl
    refine WP.nil ?_
    refine Out.next ?_
    refine WPc.seq ?_
    refine WPc.region ?_
    refine WP.val rfl rfl rfl (Val.move rfl rfl) ?_
    refine WP.val rfl rfl rfl (Val.move rfl rfl) ?_
    refine WP.val rfl rfl rfl (Val.assign rfl rfl) ?_
    refine WP.val rfl rfl rfl (Val.assign rfl rfl) ?_
    refine WP.nil ?_
    refine Out.next ?_
    refine WPc.ret ?_
    refine Out.perm pl2 ?_
    refine Out.perm pl2 ?_
    refine Out.perm pl3 ?_
    refine Out.perm pl3 ?_
    exact Out.ret2 (L' := _) Tryd.results48 rfl rfl ⟨_, wv1, pend ++ junk, by simp; omega, rfl, by simp only [offs, outs, if_neg hne, List.flatten_cons, List.flatten_nil, List.append_nil]; rfl⟩ (fun w h => by simpa [byt_append, show byt [] = [] from rfl] using h)
set_option maxRecDepth 100000 in
set_option maxHeartbeats 1000000 in
theorem Flush_spec (pw bb bf page B off : Nat) (pend junk : List UInt8) (ss : List UInt8) (wv : Value) (hp : 0 < page) (hpb : page ≤ B) (hB : B ≤ 1048576) (hoff : off ≤ 4294967296) (hlen : pend.length + junk.length = B + page) (hss : ss.length ≤ 4294967296) : Does Tryd.prog 44 [.pointer (some ⟨pw, 0, none⟩)] [Blk pw [.iface 70 (.pointer (some ⟨bb, 0, none⟩)), .int .i64 (((off : Nat) : Int)), .int .i64 (((page : Nat) : Int)), .int .i64 ((((pend).length : Nat) : Int)), .slice (some ⟨bf, 0, none⟩) ((B + page)) ((B + page)), .int .i64 (((B : Nat) : Int))] 114, Blk bf (byt (pend) ++ byt (junk)) 5, Blk bb [wv] 72, Own 5 1 wv ((ss : List UInt8).length) (byt (ss))] (fun v L => ∃ (wv' : Value) (junk' : List UInt8), ([] : List UInt8).length + junk'.length = B + page ∧ v = .nilIface ∧ L = [Blk pw [.iface 70 (.pointer (some ⟨bb, 0, none⟩)), .int .i64 ((offs page off pend : Nat) : Int), .int .i64 ((page : Nat) : Int), .int .i64 (((([] : List UInt8)).length : Nat) : Int), .slice (some ⟨bf, 0, none⟩) (B + page) (B + page), .int .i64 ((B : Nat) : Int)] 114, Blk bf (byt (([] : List UInt8)) ++ byt junk') 5, Blk bb [wv'] 72, Own 5 1 wv' (ss ++ (outs pend).flatten : List UInt8).length (byt (ss ++ (outs pend).flatten))]) := by
  refine Does.enter 11 Tryd.func44 rfl rfl rfl fun W F => ?_
  show WPc _ _ _ _ _ [(0, .pointer (some ⟨pw, 0, none⟩))] (Blk pw [.iface 70 (.pointer (some ⟨bb, 0, none⟩)), .int .i64 (((off : Nat) : Int)), .int .i64 (((page : Nat) : Int)), .int .i64 ((((pend).length : Nat) : Int)), .slice (some ⟨bf, 0, none⟩) ((B + page)) ((B + page)), .int .i64 (((B : Nat) : Int))] 114 :: Blk bf (byt (pend) ++ byt (junk)) 5 :: Blk bb [wv] 72 :: Own 5 1 wv ((ss : List UInt8).length) (byt (ss)) :: F)
  refine WPc.seq ?_
  refine WPc.region ?_
  refine WP.val rfl rfl rfl (Val.assign rfl rfl) ?_
  refine WP.nil ?_
  refine Out.next ?_
  refine WPc.seq ?_
  refine WPc.region ?_
  refine WP.val rfl rfl rfl (Val.move rfl rfl) ?_
  refine WP.perm pl3 ?_
  refine WP.perm pl3 ?_
  refine WP.perm pl3 ?_
  refine WP.perm pl3 ?_
  refine WP.eff rfl rfl rfl (Eff.call rfl rfl Tryd.call48 (flush_spec pw bb bf page B (off) (pend) junk (ss) wv hp hpb hB (by omega) (by first | omega | (simp; omega)) (by first | omega | (simp; omega)))) ?_
  rintro _ _ ⟨_, ⟨kk1, wv1, jk1, hj1, rfl, rfl⟩, rfl⟩
  show WP _ _ _ _ _ _ _ (Blk pw [.iface 70 (.pointer (some ⟨bb, 0, none⟩)), .int .i64 (((offs page (off) (pend) : Nat) : Int)), .int .i64 (((page : Nat) : Int)), .int .i64 (((([] : List UInt8).length : Nat) : Int)), .slice (some ⟨bf, 0, none⟩) ((B + page)) ((B + page)), .int .i64 (((B : Nat) : Int))] 114 :: Blk bf (byt (([] : List UInt8)) ++ byt (jk1)) 5 :: Blk bb [wv1] 72 :: Own 5 1 wv1 ((ss ++ (outs (pend)).flatten : List UInt8).length) (byt (ss ++ (outs (pend)).flatten)) :: F)
  refine WP.val rfl rfl rfl (Val.move rfl rfl) ?_
  refine WP.val rfl rfl rfl (Val.extract rfl rfl rfl) ?_
  refine WP.val rfl rfl rfl (Val.extract rfl rfl rfl) ?_
  refine WP.val rfl rfl rfl (Val.assign rfl rfl) ?_
  refine WP.val rfl rfl rfl (Val.assign rfl rfl) ?_
  refine WP.nil ?_
  refine Out.next ?_
  refine WPc.seq ?_
  refine WPc.region ?_
  refine WP.val rfl rfl rfl (Val.move rfl rfl) ?_
  refine WP.val rfl rfl rfl (Val.assign rfl rfl) ?_
  refine WP.nil ?_
  refine Out.next ?_
  refine WPc.ret ?_
  exact Out.ret1 (L' := _) Tryd.results44 rfl ⟨wv1, jk1, hj1, rfl, rfl⟩ (fun _ h => h)
set_option maxRecDepth 100000 in
set_option maxHeartbeats 1000000 in
theorem small_spec (pw bb bf page B off : Nat) (pend junk : List UInt8) (ss : List UInt8) (wv : Value) (hp : 0 < page) (hpb : page ≤ B) (hB : B ≤ 1048576) (hoff : off ≤ 4294967296) (hlen : pend.length + junk.length = B + page) (hss : ss.length ≤ 4294967296) (A : HProp) (pb po pc : Nat) (p : List UInt8) (hA : ∀ w, Holds A w → w.rangeAt pb po (byt p)) (hpn : p.length ≤ 2097152) (hpc : p.length ≤ pc) (hsm : p.length + pend.length ≤ B) : Does Tryd.prog 86 [.pointer (some ⟨pw, 0, none⟩), .slice (some ⟨pb, po, none⟩) p.length pc] [Blk pw [.iface 70 (.pointer (some ⟨bb, 0, none⟩)), .int .i64 (((off : Nat) : Int)), .int .i64 (((page : Nat) : Int)), .int .i64 ((((pend).length : Nat) : Int)), .slice (some ⟨bf, 0, none⟩) ((B + page)) ((B + page)), .int .i64 (((B : Nat) : Int))] 114, Blk bf (byt (pend) ++ byt (junk)) 5, Blk bb [wv] 72, Own 5 1 wv ((ss : List UInt8).length) (byt (ss)), A] (fun v L => ∃ (wv' : Value) (junk' : List UInt8), (pend ++ p).length + junk'.length = B + page ∧ v = .tuple #[.int .i64 ((p.length : Nat) : Int), .nilIface] ∧ L = [Blk pw [.iface 70 (.pointer (some ⟨bb, 0, none⟩)), .int .i64 ((off : Nat) : Int), .int .i64 ((page : Nat) : Int), .int .i64 (((pend ++ p).length : Nat) : Int), .slice (some ⟨bf, 0, none⟩) (B + page) (B + page), .int .i64 ((B : Nat) : Int)] 114, Blk bf (byt (pend ++ p) ++ byt junk') 5, Blk bb [wv'] 72, Own 5 1 wv' (ss : List UInt8).length (byt (ss)), A]) := by
  refine Does.enter 170 Tryd.func86 rfl rfl rfl fun W F => ?_
  show WPc _ _ _ _ _ [(0, .pointer (some ⟨pw, 0, none⟩)), (1, .slice (some ⟨pb, po, none⟩) p.length pc)] (Blk pw [.iface 70 (.pointer (some ⟨bb, 0, none⟩)), .int .i64 (((off : Nat) : Int)), .int .i64 (((page : Nat) : Int)), .int .i64 ((((pend).length : Nat) : Int)), .slice (some ⟨bf, 0, none⟩) ((B + page)) ((B + page)), .int .i64 (((B : Nat) : Int))] 114 :: Blk bf (byt (pend) ++ byt (junk)) 5 :: Blk bb [wv] 72 :: Own 5 1 wv ((ss : List UInt8).length) (byt (ss)) :: A :: F)
  refine WPc.seq ?_
  refine WPc.region ?_
  refine WP.val rfl rfl rfl (Val.assign rfl rfl) ?_
  refine WP.val rfl rfl rfl (Val.assign rfl rfl) ?_
  refine WP.nil ?_
  refine Out.next ?_
  refine WPc.seq ?_
  refine WPc.seq ?_
  refine WPD.start (Sat W (Blk pw [.iface 70 (.pointer (some ⟨bb, 0, none⟩)), .int .i64 (((off : Nat) : Int)), .int .i64 (((page : Nat) : Int)), .int .i64 ((((pend).length : Nat) : Int)), .slice (some ⟨bf, 0, none⟩) ((B + page)) ((B + page)), .int .i64 (((B : Nat) : Int))] 114 :: Blk bf (byt (pend) ++ byt (junk)) 5 :: Blk bb [wv] 72 :: Own 5 1 wv ((ss : List UInt8).length) (byt (ss)) :: A :: F)) Ty.mixed ?_
  refine WPD.takeM 0 rfl rfl rfl rfl (by kernel_rfl) (by kernel_rfl) (by kernel_rfl) (by kernel_rfl) (fun _ _ _ h => h) (fun _ h => h) (Val.move rfl rfl) ?_
  refine WPD.take 1 rfl rfl rfl rfl (by kernel_rfl) (by kernel_rfl) (by kernel_rfl) (by kernel_rfl) (fun _ _ _ h => h) (by kernel_rfl) (fun _ h => h) (Val.len rfl Ty.sl40 rfl) ?_
  refine WPD.takeM 2 rfl rfl rfl rfl (by kernel_rfl) (by kernel_rfl) (by kernel_rfl) (by kernel_rfl) (fun _ _ _ h => h) (fun _ h => h) (Val.move rfl rfl) ?_
  refine WPD.takeM 3 rfl rfl rfl rfl (by kernel_rfl) (by kernel_rfl) (by kernel_rfl) (by kernel_rfl) (fun _ _ _ h => h) (fun _ h => h) (Val.nilCheck rfl rfl) ?_
  refine WPD.takeM 4 rfl rfl rfl rfl (by kernel_rfl) (by kernel_rfl) (by kernel_rfl) (by kernel_rfl) (fun _ _ _ h => h) (fun _ h => h) (Val.fieldAddr (j := 3) rfl Ty.fo114_3 rfl rfl) ?_
  refine WPD.take 5 rfl rfl rfl rfl (by kernel_rfl) (by kernel_rfl) (by kernel_rfl) (by kernel_rfl) (fun _ _ _ h => h) (by kernel_rfl) (fun _ h => h) (Val.load rfl Ty.sc3 rfl (fun w h => h.cell 0 rfl rfl)) ?_
  refine WPD.takeM 6 rfl rfl rfl rfl (by kernel_rfl) (by kernel_rfl) (by kernel_rfl) (by kernel_rfl) (fun _ _ _ h => h) (fun _ h => h) (Val.add (z := ((p.length + ((pend).length) : Nat) : Int)) rfl rfl rfl ((w64 (by omega) (by omega)).trans (by omega))) ?_
  refine WPD.takeM 7 rfl rfl rfl rfl (by kernel_rfl) (by kernel_rfl) (by kernel_rfl) (by kernel_rfl) (fun _ _ _ h => h) (fun _ h => h) (Val.move rfl rfl) ?_
  refine WPD.takeM 8 rfl rfl rfl rfl (by kernel_rfl) (by kernel_rfl) (by kernel_rfl) (by kernel_rfl) (fun _ _ _ h => h) (fun _ h => h) (Val.nilCheck rfl rfl) ?_
  refine WPD.takeM 9 rfl rfl rfl rfl (by kernel_rfl) (by kernel_rfl) (by kernel_rfl) (by kernel_rfl) (fun _ _ _ h => h) (fun _ h => h) (Val.fieldAddr (j := 5) rfl Ty.fo114_5 rfl rfl) ?_
  refine WPD.take 10 rfl rfl rfl rfl (by kernel_rfl) (by kernel_rfl) (by kernel_rfl) (by kernel_rfl) (fun _ _ _ h => h) (by kernel_rfl) (fun _ h => h) (Val.load rfl Ty.sc3 rfl (fun w h => h.cell 0 rfl rfl)) ?_
  refine WPD.takeM 11 rfl rfl rfl rfl (by kernel_rfl) (by kernel_rfl) (by kernel_rfl) (by kernel_rfl) (fun _ _ _ h => h) (fun _ h => h) (Val.leq rfl rfl rfl) ?_
  refine WPD.done (by kernel_rfl) ?_
  refine Out.next ?_
  refine WPc.ifP rfl (fun h1 => ?_) (fun h1 => ?_)
  · skip
    have h1 : (((p.length + ((pend).length) : Nat) : Int) ≤ ((B : Nat) : Int)) := h1
    refine WPc.seq ?_
    refine WPD.start (Sat W (Blk pw [.iface 70 (.pointer (some ⟨bb, 0, none⟩)), .int .i64 (((off : Nat) : Int)), .int .i64 (((page : Nat) : Int)), .int .i64 ((((pend).length : Nat) : Int)), .slice (some ⟨bf, 0, none⟩) ((B + page)) ((B + page)), .int .i64 (((B : Nat) : Int))] 114 :: Blk bf (byt (pend) ++ byt (junk)) 5 :: Blk bb [wv] 72 :: Own 5 1 wv ((ss : List UInt8).length) (byt (ss)) :: A :: F)) Ty.mixed ?_
    refine WPD.takeM 0 rfl rfl rfl rfl (by kernel_rfl) (by kernel_rfl) (by kernel_rfl) (by kernel_rfl) (fun _ _ _ h => h) (fun _ h => h) (Val.move rfl rfl) ?_
    refine WPD.takeM 1 rfl rfl rfl rfl (by kernel_rfl) (by kernel_rfl) (by kernel_rfl) (by kernel_rfl) (fun _ _ _ h => h) (fun _ h => h) (Val.nilCheck rfl rfl) ?_
    refine WPD.takeM 2 rfl rfl rfl rfl (by kernel_rfl) (by kernel_rfl) (by kernel_rfl) (by kernel_rfl) (fun _ _ _ h => h) (fun _ h => h) (Val.fieldAddr (j := 4) rfl Ty.fo114_4 rfl rfl) ?_
    refine WPD.take 3 rfl rfl rfl rfl (by kernel_rfl) (by kernel_rfl) (by kernel_rfl) (by kernel_rfl) (fun _ _ _ h => h) (by kernel_rfl) (fun _ h => h) (Val.load rfl Ty.sc40 rfl (fun w h => h.cell 0 rfl rfl)) ?_
    refine WPD.takeM 4 rfl rfl rfl rfl (by kernel_rfl) (by kernel_rfl) (by kernel_rfl) (by kernel_rfl) (fun _ _ _ h => h) (fun _ h => h) (Val.move rfl rfl) ?_
    refine WPD.takeM 5 rfl rfl rfl rfl (by kernel_rfl) (by kernel_rfl) (by kernel_rfl) (by kernel_rfl) (fun _ _ _ h => h) (fun _ h => h) (Val.nilCheck rfl rfl) ?_
    refine WPD.takeM 6 rfl rfl rfl rfl (by kernel_rfl) (by kernel_rfl) (by kernel_rfl) (by kernel_rfl) (fun _ _ _ h => h) (fun _ h => h) (Val.fieldAddr (j := 3) rfl Ty.fo114_3 rfl rfl) ?_
    refine WPD.take 7 rfl rfl rfl rfl (by kernel_rfl) (by kernel_rfl) (by kernel_rfl) (by kernel_rfl) (fun _ _ _ h => h) (by kernel_rfl) (fun _ h => h) (Val.load rfl Ty.sc3 rfl (fun w h => h.cell 0 rfl rfl)) ?_
    refine WPD.takeM 8 rfl rfl rfl rfl (by kernel_rfl) (by kernel_rfl) (by kernel_rfl) (by kernel_rfl) (fun _ _ _ h => h) (fun _ h => h) (Val.slice (lo := (pend).length) (hi := (B + page)) (j := (pend).length) (vlo := some (.i64, (((pend).length : Nat) : Int))) (vhi := none) rfl Ty.sl40 rfl rfl rfl (by simp [bnd]; try omega) (by simp [bnd]; try omega) (by omega) (by omega) (by omega) (by rw [if_neg (by omega)]; all_goals omega)) ?_
    refine WPD.takeM 9 rfl rfl rfl rfl (by kernel_rfl) (by kernel_rfl) (by kernel_rfl) (by kernel_rfl) (fun _ _ _ h => h) (fun _ h => h) (Val.move rfl rfl) ?_
    refine WPD.perm pl1 ?_
    refine WPD.stepC 10 (by kernel_rfl) rfl rfl rfl rfl (by kernel_rfl) (Eff.copySl (cs := byt p) (C' := byt (pend ++ p) ++ byt (junk.drop p.length)) rfl Ty.sl40 rfl rfl (fun w h => hA w (h.at 4 rfl)) (by simp) (by omega) (byt_one _) (by first | omega | (simp; omega)) (byt_copy (by omega))) ?_
    rintro _ _ ⟨rfl, rfl⟩
    refine ⟨(Sat W (Blk bf (byt (pend ++ p) ++ byt (junk.drop p.length)) 5 :: Blk pw [.iface 70 (.pointer (some ⟨bb, 0, none⟩)), .int .i64 (((off : Nat) : Int)), .int .i64 (((page : Nat) : Int)), .int .i64 ((((pend).length : Nat) : Int)), .slice (some ⟨bf, 0, none⟩) ((B + page)) ((B + page)), .int .i64 (((B : Nat) : Int))] 114 :: Blk bb [wv] 72 :: Own 5 1 wv ((ss : List UInt8).length) (byt (ss)) :: A :: F)), (fun _ h => h), ?_⟩
    refine WPD.done (by kernel_rfl) ?_
    refine Out.next ?_
    refine WPc.seq ?_
    refine WPc.region ?_
    refine WP.val rfl rfl rfl (Val.move rfl rfl) ?_
    refine WP.val rfl rfl rfl (Val.nilCheck rfl rfl) ?_
    refine WP.val rfl rfl rfl (Val.fieldAddr (j := 3) rfl Ty.fo114_3 rfl rfl) ?_
    refine WP.val rfl rfl rfl (Val.load rfl Ty.sc3 rfl (fun w h => h.cell 1 rfl rfl)) ?_
    refine WP.val rfl rfl rfl (Val.move rfl rfl) ?_
    refine WP.val rfl rfl rfl (Val.len rfl Ty.sl40 rfl) ?_
    refine WP.val rfl rfl rfl (Val.add (z := ((((pend).length) + p.length : Nat) : Int)) rfl rfl rfl ((w64 (by omega) (by omega)).trans (by omega))) ?_
    refine WP.val rfl rfl rfl (Val.nilCheck rfl rfl) ?_
    refine WP.val rfl rfl rfl (Val.fieldAddr (j := 3) rfl Ty.fo114_3 rfl rfl) ?_
    refine WP.perm pl1 ?_
    refine WP.eff0 rfl rfl (Eff.store rfl Ty.sc3 rfl rfl rfl (by simp) st3) ?_
    rintro _ _ rfl
    refine WP.nil ?_
    refine Out.next ?_
    refine WPc.seq ?_
    refine WPc.region ?_
    refine WP.val rfl rfl rfl (Val.move rfl rfl) ?_
    refine WP.val rfl rfl rfl (Val.len rfl Ty.sl40 rfl) ?_
    refine WP.val rfl rfl rfl (Val.assign rfl rfl) ?_
    refine WP.val rfl rfl rfl (Val.assign rfl rfl) ?_
    refine WP.nil ?_
    refine Out.next ?_
    refine WPc.ret ?_
    refine Out.then_ret ?_
    exact Out.ret2 (L' := _) Tryd.results86 rfl rfl ⟨wv, junk.drop p.length, by simp; omega, rfl, rfl⟩ (fun w h => by simpa using h)
  · skip
    have h1 : ¬ (((p.length + ((pend).length) : Nat) : Int) ≤ ((B : Nat) : Int)) := h1
    exfalso; omega

theorem outs_flat (q : List UInt8) : (outs q).flatten = q := by unfold outs; split <;> simp_all
theorem outs_len (q : List UInt8) : (outs q).flatten.length = q.length ∧ (List.map List.length (outs q)).sum = q.length := ⟨by rw [outs_flat], outs_tot q⟩
theorem offs_le {page B off : Nat} {q : List UInt8} (hp : 0 < page) (hpb : page ≤ B) (hB : B ≤ 1048576) (h : off ≤ 4294967296) : offs page off q ≤ 4294967296 := by
  unfold offs
  split
  · exact h
  · have := Nat.mod_lt (off + q.length) hp; omega
set_option maxRecDepth 100000 in
set_option maxHeartbeats 1000000 in
theorem write_spec (pw bb bf page B off : Nat) (pend junk : List UInt8) (ss : List UInt8) (wv : Value) (hp : 0 < page) (hpb : page ≤ B) (hB : B ≤ 1048576) (hoff : off ≤ 4294967296) (hlen : pend.length + junk.length = B + page) (hss : ss.length ≤ 4000000000) (A : HProp) (pb po pc : Nat) (p : List UInt8) (hA : ∀ w, Holds A w → w.rangeAt pb po (byt p)) (hpn : p.length ≤ 2097152) (hpc : p.length ≤ pc) (hfit : Fit page B off pend.length) : Does Tryd.prog 86 [.pointer (some ⟨pw, 0, none⟩), .slice (some ⟨pb, po, none⟩) p.length pc] [Blk pw [.iface 70 (.pointer (some ⟨bb, 0, none⟩)), .int .i64 (((off : Nat) : Int)), .int .i64 (((page : Nat) : Int)), .int .i64 ((((pend).length : Nat) : Int)), .slice (some ⟨bf, 0, none⟩) ((B + page)) ((B + page)), .int .i64 (((B : Nat) : Int))] 114, Blk bf (byt (pend) ++ byt (junk)) 5, Blk bb [wv] 72, Own 5 1 wv ((ss : List UInt8).length) (byt (ss)), A] (fun v L => ∃ (wv' : Value) (junk' : List UInt8), (wr page B off pend p).2.2.length + junk'.length = B + page ∧ v = .tuple #[.int .i64 ((p.length : Nat) : Int), .nilIface] ∧ L = [Blk pw [.iface 70 (.pointer (some ⟨bb, 0, none⟩)), .int .i64 (((wr page B off pend p).2.1 : Nat) : Int), .int .i64 ((page : Nat) : Int), .int .i64 ((((wr page B off pend p).2.2).length : Nat) : Int), .slice (some ⟨bf, 0, none⟩) (B + page) (B + page), .int .i64 ((B : Nat) : Int)] 114, Blk bf (byt ((wr page B off pend p).2.2) ++ byt junk') 5, Blk bb [wv'] 72, Own 5 1 wv' (ss ++ (wr page B off pend p).1.flatten : List UInt8).length (byt (ss ++ (wr page B off pend p).1.flatten)), A]) := by
  unfold Fit at hfit
  have hsl := slack_pos (off := off) (k := pend.length) hp
  have hmd := Nat.mod_lt (off + pend.length) hp
  refine Does.enter 170 Tryd.func86 rfl rfl rfl fun W F => ?_
  show WPc _ _ _ _ _ [(0, .pointer (some ⟨pw, 0, none⟩)), (1, .slice (some ⟨pb, po, none⟩) p.length pc)] (Blk pw [.iface 70 (.pointer (some ⟨bb, 0, none⟩)), .int .i64 (((off : Nat) : Int)), .int .i64 (((page : Nat) : Int)), .int .i64 ((((pend).length : Nat) : Int)), .slice (some ⟨bf, 0, none⟩) ((B + page)) ((B + page)), .int .i64 (((B : Nat) : Int))] 114 :: Blk bf (byt (pend) ++ byt (junk)) 5 :: Blk bb [wv] 72 :: Own 5 1 wv ((ss : List UInt8).length) (byt (ss)) :: A :: F)
  refine WPc.seq ?_
  refine WPc.region ?_
  refine WP.val rfl rfl rfl (Val.assign rfl rfl) ?_
  refine WP.val rfl rfl rfl (Val.assign rfl rfl) ?_
  refine WP.nil ?_
  refine Out.next ?_
  refine WPc.seq ?_
  refine WPc.seq ?_
  refine WPD.start (Sat W (Blk pw [.iface 70 (.pointer (some ⟨bb, 0, none⟩)), .int .i64 (((off : Nat) : Int)), .int .i64 (((page : Nat) : Int)), .int .i64 ((((pend).length : Nat) : Int)), .slice (some ⟨bf, 0, none⟩) ((B + page)) ((B + page)), .int .i64 (((B : Nat) : Int))] 114 :: Blk bf (byt (pend) ++ byt (junk)) 5 :: Blk bb [wv] 72 :: Own 5 1 wv ((ss : List UInt8).length) (byt (ss)) :: A :: F)) Ty.mixed ?_
  refine WPD.takeM 0 rfl rfl rfl rfl (by kernel_rfl) (by kernel_rfl) (by kernel_rfl) (by kernel_rfl) (fun _ _ _ h => h) (fun _ h => h) (Val.move rfl rfl) ?_
  refine WPD.take 1 rfl rfl rfl rfl (by kernel_rfl) (by kernel_rfl) (by kernel_rfl) (by kernel_rfl) (fun _ _ _ h => h) (by kernel_rfl) (fun _ h => h) (Val.len rfl Ty.sl40 rfl) ?_
  refine WPD.takeM 2 rfl rfl rfl rfl (by kernel_rfl) (by kernel_rfl) (by kernel_rfl) (by kernel_rfl) (fun _ _ _ h => h) (fun _ h => h) (Val.move rfl rfl) ?_
  refine WPD.takeM 3 rfl rfl rfl rfl (by kernel_rfl) (by kernel_rfl) (by kernel_rfl) (by kernel_rfl) (fun _ _ _ h => h) (fun _ h => h) (Val.nilCheck rfl rfl) ?_
  refine WPD.takeM 4 rfl rfl rfl rfl (by kernel_rfl) (by kernel_rfl) (by kernel_rfl) (by kernel_rfl) (fun _ _ _ h => h) (fun _ h => h) (Val.fieldAddr (j := 3) rfl Ty.fo114_3 rfl rfl) ?_
  refine WPD.take 5 rfl rfl rfl rfl (by kernel_rfl) (by kernel_rfl) (by kernel_rfl) (by kernel_rfl) (fun _ _ _ h => h) (by kernel_rfl) (fun _ h => h) (Val.load rfl Ty.sc3 rfl (fun w h => h.cell 0 rfl rfl)) ?_
  refine WPD.takeM 6 rfl rfl rfl rfl (by kernel_rfl) (by kernel_rfl) (by kernel_rfl) (by kernel_rfl) (fun _ _ _ h => h) (fun _ h => h) (Val.add (z := ((p.length + ((pend).length) : Nat) : Int)) rfl rfl rfl ((w64 (by omega) (by omega)).trans (by omega))) ?_
  refine WPD.takeM 7 rfl rfl rfl rfl (by kernel_rfl) (by kernel_rfl) (by kernel_rfl) (by kernel_rfl) (fun _ _ _ h => h) (fun _ h => h) (Val.move rfl rfl) ?_
  refine WPD.takeM 8 rfl rfl rfl rfl (by kernel_rfl) (by kernel_rfl) (by kernel_rfl) (by kernel_rfl) (fun _ _ _ h => h) (fun _ h => h) (Val.nilCheck rfl rfl) ?_
  refine WPD.takeM 9 rfl rfl rfl rfl (by kernel_rfl) (by kernel_rfl) (by kernel_rfl) (by kernel_rfl) (fun _ _ _ h => h) (fun _ h => h) (Val.fieldAddr (j := 5) rfl Ty.fo114_5 rfl rfl) ?_
  refine WPD.take 10 rfl rfl rfl rfl (by kernel_rfl) (by kernel_rfl) (by kernel_rfl) (by kernel_rfl) (fun _ _ _ h => h) (by kernel_rfl) (fun _ h => h) (Val.load rfl Ty.sc3 rfl (fun w h => h.cell 0 rfl rfl)) ?_
  refine WPD.takeM 11 rfl rfl rfl rfl (by kernel_rfl) (by kernel_rfl) (by kernel_rfl) (by kernel_rfl) (fun _ _ _ h => h) (fun _ h => h) (Val.leq rfl rfl rfl) ?_
  refine WPD.done (by kernel_rfl) ?_
  refine Out.next ?_
  refine WPc.ifP rfl (fun h1 => ?_) (fun h1 => ?_)
  · skip
    have h1 : (((p.length + ((pend).length) : Nat) : Int) ≤ ((B : Nat) : Int)) := h1
    refine WPc.seq ?_
    refine WPD.start (Sat W (Blk pw [.iface 70 (.pointer (some ⟨bb, 0, none⟩)), .int .i64 (((off : Nat) : Int)), .int .i64 (((page : Nat) : Int)), .int .i64 ((((pend).length : Nat) : Int)), .slice (some ⟨bf, 0, none⟩) ((B + page)) ((B + page)), .int .i64 (((B : Nat) : Int))] 114 :: Blk bf (byt (pend) ++ byt (junk)) 5 :: Blk bb [wv] 72 :: Own 5 1 wv ((ss : List UInt8).length) (byt (ss)) :: A :: F)) Ty.mixed ?_
    refine WPD.takeM 0 rfl rfl rfl rfl (by kernel_rfl) (by kernel_rfl) (by kernel_rfl) (by kernel_rfl) (fun _ _ _ h => h) (fun _ h => h) (Val.move rfl rfl) ?_
    refine WPD.takeM 1 rfl rfl rfl rfl (by kernel_rfl) (by kernel_rfl) (by kernel_rfl) (by kernel_rfl) (fun _ _ _ h => h) (fun _ h => h) (Val.nilCheck rfl rfl) ?_
    refine WPD.takeM 2 rfl rfl rfl rfl (by kernel_rfl) (by kernel_rfl) (by kernel_rfl) (by kernel_rfl) (fun _ _ _ h => h) (fun _ h => h) (Val.fieldAddr (j := 4) rfl Ty.fo114_4 rfl rfl) ?_
    refine WPD.take 3 rfl rfl rfl rfl (by kernel_rfl) (by kernel_rfl) (by kernel_rfl) (by kernel_rfl) (fun _ _ _ h => h) (by kernel_rfl) (fun _ h => h) (Val.load rfl Ty.sc40 rfl (fun w h => h.cell 0 rfl rfl)) ?_
    refine WPD.takeM 4 rfl rfl rfl rfl (by kernel_rfl) (by kernel_rfl) (by kernel_rfl) (by kernel_rfl) (fun _ _ _ h => h) (fun _ h => h) (Val.move rfl rfl) ?_
    refine WPD.takeM 5 rfl rfl rfl rfl (by kernel_rfl) (by kernel_rfl) (by kernel_rfl) (by kernel_rfl) (fun _ _ _ h => h) (fun _ h => h) (Val.nilCheck rfl rfl) ?_
    refine WPD.takeM 6 rfl rfl rfl rfl (by kernel_rfl) (by kernel_rfl) (by kernel_rfl) (by kernel_rfl) (fun _ _ _ h => h) (fun _ h => h) (Val.fieldAddr (j := 3) rfl Ty.fo114_3 rfl rfl) ?_
    refine WPD.take 7 rfl rfl rfl rfl (by kernel_rfl) (by kernel_rfl) (by kernel_rfl) (by kernel_rfl) (fun _ _ _ h => h) (by kernel_rfl) (fun _ h => h) (Val.load rfl Ty.sc3 rfl (fun w h => h.cell 0 rfl rfl)) ?_
    refine WPD.takeM 8 rfl rfl rfl rfl (by kernel_rfl) (by kernel_rfl) (by kernel_rfl) (by kernel_rfl) (fun _ _ _ h => h) (fun _ h => h) (Val.slice (lo := (pend).length) (hi := (B + page)) (j := (pend).length) (vlo := some (.i64, (((pend).length : Nat) : Int))) (vhi := none) rfl Ty.sl40 rfl rfl rfl (by simp [bnd]; try omega) (by simp [bnd]; try omega) (by omega) (by omega) (by omega) (by rw [if_neg (by omega)]; all_goals omega)) ?_
    refine WPD.takeM 9 rfl rfl rfl rfl (by kernel_rfl) (by kernel_rfl) (by kernel_rfl) (by kernel_rfl) (fun _ _ _ h => h) (fun _ h => h) (Val.move rfl rfl) ?_
    refine WPD.perm pl1 ?_
    refine WPD.stepC 10 (by kernel_rfl) rfl rfl rfl rfl (by kernel_rfl) (Eff.copySl (cs := byt p) (C' := byt (pend ++ p) ++ byt (junk.drop p.length)) rfl Ty.sl40 rfl rfl (fun w h => hA w (h.at 4 rfl)) (by simp) (by omega) (byt_one _) (by first | omega | (simp; omega)) (byt_copy (by omega))) ?_
    rintro _ _ ⟨rfl, rfl⟩
    refine ⟨(Sat W (Blk bf (byt (pend ++ p) ++ byt (junk.drop p.length)) 5 :: Blk pw [.iface 70 (.pointer (some ⟨bb, 0, none⟩)), .int .i64 (((off : Nat) : Int)), .int .i64 (((page : Nat) : Int)), .int .i64 ((((pend).length : Nat) : Int)), .slice (some ⟨bf, 0, none⟩) ((B + page)) ((B + page)), .int .i64 (((B : Nat) : Int))] 114 :: Blk bb [wv] 72 :: Own 5 1 wv ((ss : List UInt8).length) (byt (ss)) :: A :: F)), (fun _ h => h), ?_⟩
    refine WPD.done (by kernel_rfl) ?_
    refine Out.next ?_
    refine WPc.seq ?_
    refine WPc.region ?_
    refine WP.val rfl rfl rfl (Val.move rfl rfl) ?_
    refine WP.val rfl rfl rfl (Val.nilCheck rfl rfl) ?_
    refine WP.val rfl rfl rfl (Val.fieldAddr (j := 3) rfl Ty.fo114_3 rfl rfl) ?_
    refine WP.val rfl rfl rfl (Val.load rfl Ty.sc3 rfl (fun w h => h.cell 1 rfl rfl)) ?_
    refine WP.val rfl rfl rfl (Val.move rfl rfl) ?_
    refine WP.val rfl rfl rfl (Val.len rfl Ty.sl40 rfl) ?_
    refine WP.val rfl rfl rfl (Val.add (z := ((((pend).length) + p.length : Nat) : Int)) rfl rfl rfl ((w64 (by omega) (by omega)).trans (by omega))) ?_
    refine WP.val rfl rfl rfl (Val.nilCheck rfl rfl) ?_
    refine WP.val rfl rfl rfl (Val.fieldAddr (j := 3) rfl Ty.fo114_3 rfl rfl) ?_
    refine WP.perm pl1 ?_
    refine WP.eff0 rfl rfl (Eff.store rfl Ty.sc3 rfl rfl rfl (by simp) st3) ?_
    rintro _ _ rfl
    refine WP.nil ?_
    refine Out.next ?_
    refine WPc.seq ?_
    refine WPc.region ?_
    refine WP.val rfl rfl rfl (Val.move rfl rfl) ?_
    refine WP.val rfl rfl rfl (Val.len rfl Ty.sl40 rfl) ?_
    refine WP.val rfl rfl rfl (Val.assign rfl rfl) ?_
    refine WP.val rfl rfl rfl (Val.assign rfl rfl) ?_
    refine WP.nil ?_
    refine Out.next ?_
    refine WPc.ret ?_
    refine Out.then_ret ?_
    have hwr : wr page B off pend p = ([], off, pend ++ p) := by unfold wr; rw [if_pos (by omega)]
    rw [hwr]
    exact Out.ret2 (L' := _) Tryd.results86 rfl rfl ⟨wv, junk.drop p.length, by simp; omega, rfl, rfl⟩ (fun w h => by simpa using h)
  · skip
    have h1 : ¬ (((p.length + ((pend).length) : Nat) : Int) ≤ ((B : Nat) : Int)) := h1
    refine WPc.skip ?_
    refine Out.next ?_
    refine WPc.seq ?_
    refine WPD.start (Sat W (Blk pw [.iface 70 (.pointer (some ⟨bb, 0, none⟩)), .int .i64 (((off : Nat) : Int)), .int .i64 (((page : Nat) : Int)), .int .i64 ((((pend).length : Nat) : Int)), .slice (some ⟨bf, 0, none⟩) ((B + page)) ((B + page)), .int .i64 (((B : Nat) : Int))] 114 :: Blk bf (byt (pend) ++ byt (junk)) 5 :: Blk bb [wv] 72 :: Own 5 1 wv ((ss : List UInt8).length) (byt (ss)) :: A :: F)) Ty.mixed ?_
    refine WPD.takeM 0 rfl rfl rfl rfl (by kernel_rfl) (by kernel_rfl) (by kernel_rfl) (by kernel_rfl) (fun _ _ _ h => h) (fun _ h => h) (Val.move rfl rfl) ?_
    refine WPD.takeM 1 rfl rfl rfl rfl (by kernel_rfl) (by kernel_rfl) (by kernel_rfl) (by kernel_rfl) (fun _ _ _ h => h) (fun _ h => h) (Val.nilCheck rfl rfl) ?_
    refine WPD.takeM 2 rfl rfl rfl rfl (by kernel_rfl) (by kernel_rfl) (by kernel_rfl) (by kernel_rfl) (fun _ _ _ h => h) (fun _ h => h) (Val.fieldAddr (j := 2) rfl Ty.fo114_2 rfl rfl) ?_
    refine WPD.take 3 rfl rfl rfl rfl (by kernel_rfl) (by kernel_rfl) (by kernel_rfl) (by kernel_rfl) (fun _ _ _ h => h) (by kernel_rfl) (fun _ h => h) (Val.load rfl Ty.sc3 rfl (fun w h => h.cell 0 rfl rfl)) ?_
    refine WPD.takeM 4 rfl rfl rfl rfl (by kernel_rfl) (by kernel_rfl) (by kernel_rfl) (by kernel_rfl) (fun _ _ _ h => h) (fun _ h => h) (Val.move rfl rfl) ?_
    refine WPD.takeM 5 rfl rfl rfl rfl (by kernel_rfl) (by kernel_rfl) (by kernel_rfl) (by kernel_rfl) (fun _ _ _ h => h) (fun _ h => h) (Val.nilCheck rfl rfl) ?_
    refine WPD.takeM 6 rfl rfl rfl rfl (by kernel_rfl) (by kernel_rfl) (by kernel_rfl) (by kernel_rfl) (fun _ _ _ h => h) (fun _ h => h) (Val.fieldAddr (j := 1) rfl Ty.fo114_1 rfl rfl) ?_
    refine WPD.take 7 rfl rfl rfl rfl (by kernel_rfl) (by kernel_rfl) (by kernel_rfl) (by kernel_rfl) (fun _ _ _ h => h) (by kernel_rfl) (fun _ h => h) (Val.load rfl Ty.sc3 rfl (fun w h => h.cell 0 rfl rfl)) ?_
    refine WPD.takeM 8 rfl rfl rfl rfl (by kernel_rfl) (by kernel_rfl) (by kernel_rfl) (by kernel_rfl) (fun _ _ _ h => h) (fun _ h => h) (Val.move rfl rfl) ?_
    refine WPD.takeM 9 rfl rfl rfl rfl (by kernel_rfl) (by kernel_rfl) (by kernel_rfl) (by kernel_rfl) (fun _ _ _ h => h) (fun _ h => h) (Val.nilCheck rfl rfl) ?_
    refine WPD.takeM 10 rfl rfl rfl rfl (by kernel_rfl) (by kernel_rfl) (by kernel_rfl) (by kernel_rfl) (fun _ _ _ h => h) (fun _ h => h) (Val.fieldAddr (j := 3) rfl Ty.fo114_3 rfl rfl) ?_
    refine WPD.take 11 rfl rfl rfl rfl (by kernel_rfl) (by kernel_rfl) (by kernel_rfl) (by kernel_rfl) (fun _ _ _ h => h) (by kernel_rfl) (fun _ h => h) (Val.load rfl Ty.sc3 rfl (fun w h => h.cell 0 rfl rfl)) ?_
    refine WPD.takeM 12 rfl rfl rfl rfl (by kernel_rfl) (by kernel_rfl) (by kernel_rfl) (by kernel_rfl) (fun _ _ _ h => h) (fun _ h => h) (Val.add (z := ((off + ((pend).length) : Nat) : Int)) rfl rfl rfl ((w64 (by omega) (by omega)).trans (by omega))) ?_
    refine WPD.takeM 13 rfl rfl rfl rfl (by kernel_rfl) (by kernel_rfl) (by kernel_rfl) (by kernel_rfl) (fun _ _ _ h => h) (fun _ h => h) (Val.move rfl rfl) ?_
    refine WPD.takeM 14 rfl rfl rfl rfl (by kernel_rfl) (by kernel_rfl) (by kernel_rfl) (by kernel_rfl) (fun _ _ _ h => h) (fun _ h => h) (Val.nilCheck rfl rfl) ?_
    refine WPD.takeM 15 rfl rfl rfl rfl (by kernel_rfl) (by kernel_rfl) (by kernel_rfl) (by kernel_rfl) (fun _ _ _ h => h) (fun _ h => h) (Val.fieldAddr (j := 2) rfl Ty.fo114_2 rfl rfl) ?_
    refine WPD.take 16 rfl rfl rfl rfl (by kernel_rfl) (by kernel_rfl) (by kernel_rfl) (by kernel_rfl) (fun _ _ _ h => h) (by kernel_rfl) (fun _ h => h) (Val.load rfl Ty.sc3 rfl (fun w h => h.cell 0 rfl rfl)) ?_
    refine WPD.takeM 17 rfl rfl rfl rfl (by kernel_rfl) (by kernel_rfl) (by kernel_rfl) (by kernel_rfl) (fun _ _ _ h => h) (fun _ h => h) (Val.rem (z := (((off + ((pend).length)) % page : Nat) : Int)) rfl rfl rfl (by omega) (by rfl)) ?_
    refine WPD.takeM 18 rfl rfl rfl rfl (by kernel_rfl) (by kernel_rfl) (by kernel_rfl) (by kernel_rfl) (fun _ _ _ h => h) (fun _ h => h) (Val.sub (z := ((page - ((off + ((pend).length)) % page) : Nat) : Int)) rfl rfl rfl ((w64 (by omega) (by omega)).trans (by omega))) ?_
    refine WPD.takeM 19 rfl rfl rfl rfl (by kernel_rfl) (by kernel_rfl) (by kernel_rfl) (by kernel_rfl) (fun _ _ _ h => h) (fun _ h => h) (Val.assign rfl rfl) ?_
    refine WPD.done (by kernel_rfl) ?_
    refine Out.next ?_
    refine WPc.seq ?_
    refine WPc.seq ?_
    refine WPc.know 6 (.int .i64 ((slack page off pend.length : Nat) : Int)) rfl rfl ?_
    refine WPc.region ?_
    refine WP.val rfl rfl rfl (Val.move rfl rfl) ?_
    refine WP.val rfl rfl rfl (Val.move rfl rfl) ?_
    refine WP.val rfl rfl rfl (Val.nilCheck rfl rfl) ?_
    refine WP.val rfl rfl rfl (Val.fieldAddr (j := 2) rfl Ty.fo114_2 rfl rfl) ?_
    refine WP.val rfl rfl rfl (Val.load rfl Ty.sc3 rfl (fun w h => h.cell 0 rfl rfl)) ?_
    refine WP.val rfl rfl rfl (Val.neq rfl rfl rfl) ?_
    refine WP.nil ?_
    refine Out.next ?_
    refine WPc.ifP rfl (fun h2 => ?_) (fun h2 => ?_)
    · skip
      have h2 : ((((slack page off pend.length) : Nat) : Int) ≠ ((page : Nat) : Int)) := h2
      refine WPc.seq ?_
      have hsm := Nat.mod_eq_of_lt (show slack page off pend.length < page by omega)
      refine WPc.region ?_
      refine WP.val rfl rfl rfl (Val.move rfl rfl) ?_
      refine WP.val rfl rfl rfl (Val.move rfl rfl) ?_
      refine WP.val rfl rfl rfl (Val.len rfl Ty.sl40 rfl) ?_
      refine WP.val rfl rfl rfl (Val.gtr rfl rfl rfl) ?_
      refine WP.val rfl rfl rfl (Val.assign rfl rfl) ?_
      refine WP.nil ?_
      refine Out.next ?_
      refine WPc.seq ?_
      refine WPc.seq ?_
      refine WPc.region ?_
      refine WP.val rfl rfl rfl (Val.move rfl rfl) ?_
      refine WP.nil ?_
      refine Out.next ?_
      refine WPc.ifP rfl (fun h3 => ?_) (fun h3 => ?_)
      · skip
        have h3 : (((p.length : Nat) : Int) < (((slack page off pend.length) : Nat) : Int)) := h3
        refine WPc.know 7 (.bool true) rfl (congrArg Value.bool (decide_eq_true h3)) ?_
        refine WPc.region ?_
        refine WP.val rfl rfl rfl (Val.move rfl rfl) ?_
        refine WP.val rfl rfl rfl (Val.len rfl Ty.sl40 rfl) ?_
        refine WP.val rfl rfl rfl (Val.assign rfl rfl) ?_
        refine WP.nil ?_
        refine Out.next ?_
        refine WPc.seq ?_
        refine WPD.start (Sat W (Blk pw [.iface 70 (.pointer (some ⟨bb, 0, none⟩)), .int .i64 (((off : Nat) : Int)), .int .i64 (((page : Nat) : Int)), .int .i64 ((((pend).length : Nat) : Int)), .slice (some ⟨bf, 0, none⟩) ((B + page)) ((B + page)), .int .i64 (((B : Nat) : Int))] 114 :: Blk bf (byt (pend) ++ byt (junk)) 5 :: Blk bb [wv] 72 :: Own 5 1 wv ((ss : List UInt8).length) (byt (ss)) :: A :: F)) Ty.mixed ?_
        refine WPD.takeM 0 rfl rfl rfl rfl (by kernel_rfl) (by kernel_rfl) (by kernel_rfl) (by kernel_rfl) (fun _ _ _ h => h) (fun _ h => h) (Val.move rfl rfl) ?_
        refine WPD.takeM 1 rfl rfl rfl rfl (by kernel_rfl) (by kernel_rfl) (by kernel_rfl) (by kernel_rfl) (fun _ _ _ h => h) (fun _ h => h) (Val.nilCheck rfl rfl) ?_
        refine WPD.takeM 2 rfl rfl rfl rfl (by kernel_rfl) (by kernel_rfl) (by kernel_rfl) (by kernel_rfl) (fun _ _ _ h => h) (fun _ h => h) (Val.fieldAddr (j := 4) rfl Ty.fo114_4 rfl rfl) ?_
        refine WPD.take 3 rfl rfl rfl rfl (by kernel_rfl) (by kernel_rfl) (by kernel_rfl) (by kernel_rfl) (fun _ _ _ h => h) (by kernel_rfl) (fun _ h => h) (Val.load rfl Ty.sc40 rfl (fun w h => h.cell 0 rfl rfl)) ?_
        refine WPD.takeM 4 rfl rfl rfl rfl (by kernel_rfl) (by kernel_rfl) (by kernel_rfl) (by kernel_rfl) (fun _ _ _ h => h) (fun _ h => h) (Val.move rfl rfl) ?_
        refine WPD.takeM 5 rfl rfl rfl rfl (by kernel_rfl) (by kernel_rfl) (by kernel_rfl) (by kernel_rfl) (fun _ _ _ h => h) (fun _ h => h) (Val.nilCheck rfl rfl) ?_
        refine WPD.takeM 6 rfl rfl rfl rfl (by kernel_rfl) (by kernel_rfl) (by kernel_rfl) (by kernel_rfl) (fun _ _ _ h => h) (fun _ h => h) (Val.fieldAddr (j := 3) rfl Ty.fo114_3 rfl rfl) ?_
        refine WPD.take 7 rfl rfl rfl rfl (by kernel_rfl) (by kernel_rfl) (by kernel_rfl) (by kernel_rfl) (fun _ _ _ h => h) (by kernel_rfl) (fun _ h => h) (Val.load rfl Ty.sc3 rfl (fun w h => h.cell 0 rfl rfl)) ?_
        refine WPD.takeM 8 rfl rfl rfl rfl (by kernel_rfl) (by kernel_rfl) (by kernel_rfl) (by kernel_rfl) (fun _ _ _ h => h) (fun _ h => h) (Val.slice (lo := (pend).length) (hi := (B + page)) (j := (pend).length) (vlo := some (.i64, (((pend).length : Nat) : Int))) (vhi := none) rfl Ty.sl40 rfl rfl rfl (by simp [bnd]; try omega) (by simp [bnd]; try omega) (by omega) (by omega) (by omega) (by rw [if_neg (by omega)]; all_goals omega)) ?_
        refine WPD.takeM 9 rfl rfl rfl rfl (by kernel_rfl) (by kernel_rfl) (by kernel_rfl) (by kernel_rfl) (fun _ _ _ h => h) (fun _ h => h) (Val.move rfl rfl) ?_
        refine WPD.takeM 10 rfl rfl rfl rfl (by kernel_rfl) (by kernel_rfl) (by kernel_rfl) (by kernel_rfl) (fun _ _ _ h => h) (fun _ h => h) (Val.move rfl rfl) ?_
        refine WPD.takeM 11 rfl rfl rfl rfl (by kernel_rfl) (by kernel_rfl) (by kernel_rfl) (by kernel_rfl) (fun _ _ _ h => h) (fun _ h => h) (Val.slice (lo := 0) (hi := p.length) (j := po) (vlo := none) (vhi := some (.i64, ((p.length : Nat) : Int))) rfl Ty.sl40 rfl rfl rfl (by simp [bnd]) (by simp [bnd]; try omega) (by omega) (by omega) (by omega) (by simp)) ?_
        refine WPD.perm pl1 ?_
        refine WPD.stepC 12 (by kernel_rfl) rfl rfl rfl rfl (by kernel_rfl) (Eff.copySl (cs := byt (p)) (C' := byt (pend ++ p) ++ byt (junk.drop (p).length)) rfl Ty.sl40 rfl rfl (fun w h => hA w (h.at 4 rfl)) (by simp) (by omega) (byt_one _) (by first | omega | (simp; omega)) (byt_copy (by first | omega | (simp; omega)))) ?_
        rintro _ _ ⟨rfl, rfl⟩
        refine ⟨(Sat W (Blk bf (byt (pend ++ p) ++ byt (junk.drop (p).length)) 5 :: Blk pw [.iface 70 (.pointer (some ⟨bb, 0, none⟩)), .int .i64 (((off : Nat) : Int)), .int .i64 (((page : Nat) : Int)), .int .i64 ((((pend).length : Nat) : Int)), .slice (some ⟨bf, 0, none⟩) ((B + page)) ((B + page)), .int .i64 (((B : Nat) : Int))] 114 :: Blk bb [wv] 72 :: Own 5 1 wv ((ss : List UInt8).length) (byt (ss)) :: A :: F)), (fun _ h => h), ?_⟩
        refine WPD.done (by kernel_rfl) ?_
        refine Out.next ?_
        refine WPc.seq ?_
        refine WPc.region ?_
        refine WP.val rfl rfl rfl (Val.move rfl rfl) ?_
        refine WP.val rfl rfl rfl (Val.nilCheck rfl rfl) ?_
        refine WP.val rfl rfl rfl (Val.fieldAddr (j := 3) rfl Ty.fo114_3 rfl rfl) ?_
        refine WP.val rfl rfl rfl (Val.load rfl Ty.sc3 rfl (fun w h => h.cell 1 rfl rfl)) ?_
        refine WP.val rfl rfl rfl (Val.move rfl rfl) ?_
        refine WP.val rfl rfl rfl (Val.add (z := ((((pend).length) + p.length : Nat) : Int)) rfl rfl rfl ((w64 (by omega) (by omega)).trans (by omega))) ?_
        refine WP.val rfl rfl rfl (Val.nilCheck rfl rfl) ?_
        refine WP.val rfl rfl rfl (Val.fieldAddr (j := 3) rfl Ty.fo114_3 rfl rfl) ?_
        refine WP.perm pl1 ?_
        refine WP.eff0 rfl rfl (Eff.store rfl Ty.sc3 rfl rfl rfl (by simp) st3) ?_
        rintro _ _ rfl
        refine WP.nil ?_
        refine Out.next ?_
        refine WPc.seq ?_
        refine WPc.region ?_
        refine WP.val rfl rfl rfl (Val.move rfl rfl) ?_
        refine WP.val rfl rfl rfl (Val.assign rfl rfl) ?_
        refine WP.nil ?_
        refine Out.next ?_
        refine WPc.seq ?_
        refine WPc.region ?_
        refine WP.val rfl rfl rfl (Val.move rfl rfl) ?_
        refine WP.val rfl rfl rfl (Val.move rfl rfl) ?_
        refine WP.val rfl rfl rfl (Val.slice (lo := p.length) (hi := p.length) (j := (if pc = p.length then po else po + p.length)) (vlo := some (.i64, ((p.length : Nat) : Int))) (vhi := none) rfl Ty.sl40 rfl rfl rfl (by simp [bnd]; try omega) (by simp [bnd]; try omega) (by omega) (by omega) (by omega) (by simp)) ?_
        refine WP.val rfl rfl rfl (Val.assign rfl rfl) ?_
        refine WP.nil ?_
        refine Out.next ?_
        refine WPc.seq ?_
        refine WPc.region ?_
        refine WP.val rfl rfl rfl (Val.move rfl rfl) ?_
        refine WP.nil ?_
        refine Out.next ?_
        refine WPc.condT rfl rfl ?_
        refine WPc.seq ?_
        refine WPc.region ?_
        refine WP.val rfl rfl rfl (Val.move rfl rfl) ?_
        refine WP.val rfl rfl rfl (Val.assign rfl rfl) ?_
        refine WP.val rfl rfl rfl (Val.assign rfl rfl) ?_
        refine WP.nil ?_
        refine Out.next ?_
        refine WPc.ret ?_
        refine Out.then_ret ?_
        have hwr : wr page B off pend p = ([], off, pend ++ p) := by unfold wr; rw [if_neg (by omega), if_pos (by omega), if_pos (by omega)]
        rw [hwr]
        exact Out.ret2 (L' := _) Tryd.results86 rfl rfl ⟨wv, junk.drop (p).length, by simp; omega, rfl, rfl⟩ (fun w h => by simpa using h)
      · skip
        have h3 : ¬ (((p.length : Nat) : Int) < (((slack page off pend.length) : Nat) : Int)) := h3
        refine WPc.know 7 (.bool false) rfl (congrArg Value.bool (decide_eq_false h3)) ?_
        refine WPc.skip ?_
        refine Out.next ?_
        refine WPc.seq ?_
        refine WPD.start (Sat W (Blk pw [.iface 70 (.pointer (some ⟨bb, 0, none⟩)), .int .i64 (((off : Nat) : Int)), .int .i64 (((page : Nat) : Int)), .int .i64 ((((pend).length : Nat) : Int)), .slice (some ⟨bf, 0, none⟩) ((B + page)) ((B + page)), .int .i64 (((B : Nat) : Int))] 114 :: Blk bf (byt (pend) ++ byt (junk)) 5 :: Blk bb [wv] 72 :: Own 5 1 wv ((ss : List UInt8).length) (byt (ss)) :: A :: F)) Ty.mixed ?_
        refine WPD.takeM 0 rfl rfl rfl rfl (by kernel_rfl) (by kernel_rfl) (by kernel_rfl) (by kernel_rfl) (fun _ _ _ h => h) (fun _ h => h) (Val.move rfl rfl) ?_
        refine WPD.takeM 1 rfl rfl rfl rfl (by kernel_rfl) (by kernel_rfl) (by kernel_rfl) (by kernel_rfl) (fun _ _ _ h => h) (fun _ h => h) (Val.nilCheck rfl rfl) ?_
        refine WPD.takeM 2 rfl rfl rfl rfl (by kernel_rfl) (by kernel_rfl) (by kernel_rfl) (by kernel_rfl) (fun _ _ _ h => h) (fun _ h => h) (Val.fieldAddr (j := 4) rfl Ty.fo114_4 rfl rfl) ?_
        refine WPD.take 3 rfl rfl rfl rfl (by kernel_rfl) (by kernel_rfl) (by kernel_rfl) (by kernel_rfl) (fun _ _ _ h => h) (by kernel_rfl) (fun _ h => h) (Val.load rfl Ty.sc40 rfl (fun w h => h.cell 0 rfl rfl)) ?_
        refine WPD.takeM 4 rfl rfl rfl rfl (by kernel_rfl) (by kernel_rfl) (by kernel_rfl) (by kernel_rfl) (fun _ _ _ h => h) (fun _ h => h) (Val.move rfl rfl) ?_
        refine WPD.takeM 5 rfl rfl rfl rfl (by kernel_rfl) (by kernel_rfl) (by kernel_rfl) (by kernel_rfl) (fun _ _ _ h => h) (fun _ h => h) (Val.nilCheck rfl rfl) ?_
        refine WPD.takeM 6 rfl rfl rfl rfl (by kernel_rfl) (by kernel_rfl) (by kernel_rfl) (by kernel_rfl) (fun _ _ _ h => h) (fun _ h => h) (Val.fieldAddr (j := 3) rfl Ty.fo114_3 rfl rfl) ?_
        refine WPD.take 7 rfl rfl rfl rfl (by kernel_rfl) (by kernel_rfl) (by kernel_rfl) (by kernel_rfl) (fun _ _ _ h => h) (by kernel_rfl) (fun _ h => h) (Val.load rfl Ty.sc3 rfl (fun w h => h.cell 0 rfl rfl)) ?_
        refine WPD.takeM 8 rfl rfl rfl rfl (by kernel_rfl) (by kernel_rfl) (by kernel_rfl) (by kernel_rfl) (fun _ _ _ h => h) (fun _ h => h) (Val.slice (lo := (pend).length) (hi := (B + page)) (j := (pend).length) (vlo := some (.i64, (((pend).length : Nat) : Int))) (vhi := none) rfl Ty.sl40 rfl rfl rfl (by simp [bnd]; try omega) (by simp [bnd]; try omega) (by omega) (by omega) (by omega) (by rw [if_neg (by omega)]; all_goals omega)) ?_
        refine WPD.takeM 9 rfl rfl rfl rfl (by kernel_rfl) (by kernel_rfl) (by kernel_rfl) (by kernel_rfl) (fun _ _ _ h => h) (fun _ h => h) (Val.move rfl rfl) ?_
        refine WPD.takeM 10 rfl rfl rfl rfl (by kernel_rfl) (by kernel_rfl) (by kernel_rfl) (by kernel_rfl) (fun _ _ _ h => h) (fun _ h => h) (Val.move rfl rfl) ?_
        refine WPD.takeM 11 rfl rfl rfl rfl (by kernel_rfl) (by kernel_rfl) (by kernel_rfl) (by kernel_rfl) (fun _ _ _ h => h) (fun _ h => h) (Val.slice (lo := 0) (hi := (slack page off pend.length)) (j := po) (vlo := none) (vhi := some (.i64, (((slack page off pend.length) : Nat) : Int))) rfl Ty.sl40 rfl rfl rfl (by simp [bnd]) (by simp [bnd]; try omega) (by omega) (by omega) (by omega) (by simp)) ?_
        refine WPD.perm pl1 ?_
        refine WPD.stepC 12 (by kernel_rfl) rfl rfl rfl rfl (by kernel_rfl) (Eff.copySl (cs := byt (p.take (slack page off pend.length))) (C' := byt (pend ++ p.take (slack page off pend.length)) ++ byt (junk.drop (p.take (slack page off pend.length)).length)) rfl Ty.sl40 rfl rfl (fun w h => rangeAt_take (hA w (h.at 4 rfl))) (by rw [byt_length, List.length_take]; omega) (by omega) (byt_one _) (by first | omega | (simp; omega)) (by have := byt_copy (pend := pend) (junk := junk) (p := p.take (slack page off pend.length)) (by rw [List.length_take]; omega); rw [show ((p.take (slack page off pend.length)).length) = slack page off pend.length from by rw [List.length_take]; omega] at this ⊢; exact this)) ?_
        rintro _ _ ⟨rfl, rfl⟩
        refine ⟨(Sat W (Blk bf (byt (pend ++ p.take (slack page off pend.length)) ++ byt (junk.drop (p.take (slack page off pend.length)).length)) 5 :: Blk pw [.iface 70 (.pointer (some ⟨bb, 0, none⟩)), .int .i64 (((off : Nat) : Int)), .int .i64 (((page : Nat) : Int)), .int .i64 ((((pend).length : Nat) : Int)), .slice (some ⟨bf, 0, none⟩) ((B + page)) ((B + page)), .int .i64 (((B : Nat) : Int))] 114 :: Blk bb [wv] 72 :: Own 5 1 wv ((ss : List UInt8).length) (byt (ss)) :: A :: F)), (fun _ h => h), ?_⟩
        refine WPD.done (by kernel_rfl) ?_
        refine Out.next ?_
        refine WPc.seq ?_
        refine WPc.region ?_
        refine WP.val rfl rfl rfl (Val.move rfl rfl) ?_
        refine WP.val rfl rfl rfl (Val.nilCheck rfl rfl) ?_
        refine WP.val rfl rfl rfl (Val.fieldAddr (j := 3) rfl Ty.fo114_3 rfl rfl) ?_
        refine WP.val rfl rfl rfl (Val.load rfl Ty.sc3 rfl (fun w h => h.cell 1 rfl rfl)) ?_
        refine WP.val rfl rfl rfl (Val.move rfl rfl) ?_
        refine WP.val rfl rfl rfl (Val.add (z := ((((pend).length) + ((slack page off pend.length)) : Nat) : Int)) rfl rfl rfl ((w64 (by omega) (by omega)).trans (by omega))) ?_
        refine WP.val rfl rfl rfl (Val.nilCheck rfl rfl) ?_
        refine WP.val rfl rfl rfl (Val.fieldAddr (j := 3) rfl Ty.fo114_3 rfl rfl) ?_
        refine WP.perm pl1 ?_
        refine WP.eff0 rfl rfl (Eff.store rfl Ty.sc3 rfl rfl rfl (by simp) st3) ?_
        rintro _ _ rfl
        refine WP.nil ?_
        refine Out.next ?_
        refine WPc.seq ?_
        refine WPc.region ?_
        refine WP.val rfl rfl rfl (Val.move rfl rfl) ?_
        refine WP.val rfl rfl rfl (Val.assign rfl rfl) ?_
        refine WP.nil ?_
        refine Out.next ?_
        refine WPc.seq ?_
        refine WPc.region ?_
        refine WP.val rfl rfl rfl (Val.move rfl rfl) ?_
        refine WP.val rfl rfl rfl (Val.move rfl rfl) ?_
        refine WP.val rfl rfl rfl (Val.slice (lo := (slack page off pend.length)) (hi := p.length) (j := (if pc = (slack page off pend.length) then po else po + ((slack page off pend.length)))) (vlo := some (.i64, (((slack page off pend.length) : Nat) : Int))) (vhi := none) rfl Ty.sl40 rfl rfl rfl (by simp [bnd]; try omega) (by simp [bnd]; try omega) (by omega) (by omega) (by omega) (by simp)) ?_
        refine WP.val rfl rfl rfl (Val.assign rfl rfl) ?_
        refine WP.nil ?_
        refine Out.next ?_
        refine WPc.seq ?_
        refine WPc.region ?_
        refine WP.val rfl rfl rfl (Val.move rfl rfl) ?_
        refine WP.nil ?_
        refine Out.next ?_
        refine WPc.condF rfl rfl ?_
        refine WPc.skip ?_
        refine Out.next ?_
        refine WPc.seq ?_
        refine WPc.seq ?_
        refine WPc.know 1 (.slice (some ⟨pb, (if pc = (slack page off pend.length) then po else po + (slack page off pend.length)), none⟩) (p.drop (slack page off pend.length)).length (pc - (slack page off pend.length))) rfl (by rw [List.length_drop]) ?_
        have hl1 : (p.drop (slack page off pend.length)).length = p.length - (slack page off pend.length) := List.length_drop ..
        refine WPc.conv (M := Blk pw [.iface 70 (.pointer (some ⟨bb, 0, none⟩)), .int .i64 (((off : Nat) : Int)), .int .i64 (((page : Nat) : Int)), .int .i64 ((((pend ++ p.take (slack page off pend.length)).length : Nat) : Int)), .slice (some ⟨bf, 0, none⟩) ((B + page)) ((B + page)), .int .i64 (((B : Nat) : Int))] 114 :: Blk bf (byt (pend ++ p.take (slack page off pend.length)) ++ byt (junk.drop (p.take (slack page off pend.length)).length)) 5 :: Blk bb [wv] 72 :: Own 5 1 wv ((ss : List UInt8).length) (byt (ss)) :: A :: F) (fun w h => by rw [show (pend ++ p.take (slack page off pend.length)).length = pend.length + (slack page off pend.length) from by rw [List.length_append, List.length_take]; omega]; exact h) ?_
        refine WPc.region ?_
        refine WP.val rfl rfl rfl (Val.move rfl rfl) ?_
        refine WP.perm pl3 ?_
        refine WP.perm pl3 ?_
        refine WP.perm pl3 ?_
        refine WP.perm pl3 ?_
        refine WP.eff rfl rfl rfl (Eff.call rfl rfl Tryd.call44 (Flush_spec pw bb bf page B (off) (pend ++ p.take (slack page off pend.length)) (junk.drop (p.take (slack page off pend.length)).length) (ss) wv hp hpb hB (by omega) (by first | omega | (simp; omega)) (by first | omega | (simp; omega)))) ?_
        rintro _ _ ⟨_, ⟨wv1, jk1, hj1, rfl, rfl⟩, rfl⟩
        show WP _ _ _ _ _ _ _ (Blk pw [.iface 70 (.pointer (some ⟨bb, 0, none⟩)), .int .i64 (((offs page (off) (pend ++ p.take (slack page off pend.length)) : Nat) : Int)), .int .i64 (((page : Nat) : Int)), .int .i64 (((([] : List UInt8).length : Nat) : Int)), .slice (some ⟨bf, 0, none⟩) ((B + page)) ((B + page)), .int .i64 (((B : Nat) : Int))] 114 :: Blk bf (byt (([] : List UInt8)) ++ byt (jk1)) 5 :: Blk bb [wv1] 72 :: Own 5 1 wv1 ((ss ++ (outs (pend ++ p.take (slack page off pend.length))).flatten : List UInt8).length) (byt (ss ++ (outs (pend ++ p.take (slack page off pend.length))).flatten)) :: A :: F)
        refine WP.val rfl rfl rfl (Val.assign rfl rfl) ?_
        refine WP.nil ?_
        refine Out.next ?_
        refine WPc.seq ?_
        have hoff2 : offs page (off) (pend ++ p.take (slack page off pend.length)) ≤ 4294967296 := offs_le hp hpb hB hoff
        have hol := outs_len (pend ++ p.take (slack page off pend.length))
        try simp only [List.length_append, List.length_take] at hol
        refine WPc.region ?_
        refine WP.val rfl rfl rfl (Val.move rfl rfl) ?_
        refine WP.val rfl rfl rfl (Val.nilIn rfl Ty.if61 rfl) ?_
        refine WP.nil ?_
        refine Out.next ?_
        refine WPc.condF rfl rfl ?_
        refine WPc.skip ?_
        refine Out.next ?_
        refine WPc.seq ?_
        refine WPc.seq ?_
        refine WPc.region ?_
        refine WP.val rfl rfl rfl (Val.move rfl rfl) ?_
        refine WP.val rfl rfl rfl (Val.len rfl Ty.sl40 rfl) ?_
        refine WP.val rfl rfl rfl (Val.move rfl rfl) ?_
        refine WP.val rfl rfl rfl (Val.nilCheck rfl rfl) ?_
        refine WP.val rfl rfl rfl (Val.fieldAddr (j := 2) rfl Ty.fo114_2 rfl rfl) ?_
        refine WP.val rfl rfl rfl (Val.load rfl Ty.sc3 rfl (fun w h => h.cell 0 rfl rfl)) ?_
        refine WP.val rfl rfl rfl (Val.gtr rfl rfl rfl) ?_
        refine WP.nil ?_
        refine Out.next ?_
        refine WPc.ifP rfl (fun h4 => ?_) (fun h4 => ?_)
        · skip
          have h4 : (((page : Nat) : Int) < (((p.drop (slack page off pend.length)).length : Nat) : Int)) := h4
          refine WPc.seq ?_
          have hq := Nat.div_mul_le_self (p.drop (slack page off pend.length)).length page
          have hq2 := Nat.div_le_self (p.drop (slack page off pend.length)).length page
          have hq3 := Nat.mod_lt (p.drop (slack page off pend.length)).length hp
          have hq4 := Nat.div_add_mod (p.drop (slack page off pend.length)).length page
          rw [Nat.mul_comm] at hq4
          have hq5 : (0 : Int) ≤ (((p.drop (slack page off pend.length)).length / page : Nat) : Int) := Int.natCast_nonneg _
          refine WPc.region ?_
          refine WP.val rfl rfl rfl (Val.move rfl rfl) ?_
          refine WP.val rfl rfl rfl (Val.len rfl Ty.sl40 rfl) ?_
          refine WP.val rfl rfl rfl (Val.move rfl rfl) ?_
          refine WP.val rfl rfl rfl (Val.nilCheck rfl rfl) ?_
          refine WP.val rfl rfl rfl (Val.fieldAddr (j := 2) rfl Ty.fo114_2 rfl rfl) ?_
          refine WP.val rfl rfl rfl (Val.load rfl Ty.sc3 rfl (fun w h => h.cell 0 rfl rfl)) ?_
          refine WP.val rfl rfl rfl (Val.quo (z := ((((p.drop (slack page off pend.length)).length) / page : Nat) : Int)) rfl rfl rfl (by omega) (show IntKind.i64.wrap ((((p.drop (slack page off pend.length)).length) / page : Nat) : Int) = _ from w64 (by omega) (by omega))) ?_
          refine WP.val rfl rfl rfl (Val.assign rfl rfl) ?_
          refine WP.nil ?_
          refine Out.next ?_
          refine WPc.seq ?_
          refine WPD.start (Sat W (Blk pw [.iface 70 (.pointer (some ⟨bb, 0, none⟩)), .int .i64 (((offs page (off) (pend ++ p.take (slack page off pend.length)) : Nat) : Int)), .int .i64 (((page : Nat) : Int)), .int .i64 (((([] : List UInt8).length : Nat) : Int)), .slice (some ⟨bf, 0, none⟩) ((B + page)) ((B + page)), .int .i64 (((B : Nat) : Int))] 114 :: Blk bf (byt (([] : List UInt8)) ++ byt (jk1)) 5 :: Blk bb [wv1] 72 :: Own 5 1 wv1 ((ss ++ (outs (pend ++ p.take (slack page off pend.length))).flatten : List UInt8).length) (byt (ss ++ (outs (pend ++ p.take (slack page off pend.length))).flatten)) :: A :: F)) Ty.mixed ?_
          refine WPD.takeM 0 rfl rfl rfl rfl (by kernel_rfl) (by kernel_rfl) (by kernel_rfl) (by kernel_rfl) (fun _ _ _ h => h) (fun _ h => h) (Val.move rfl rfl) ?_
          refine WPD.takeM 1 rfl rfl rfl rfl (by kernel_rfl) (by kernel_rfl) (by kernel_rfl) (by kernel_rfl) (fun _ _ _ h => h) (fun _ h => h) (Val.nilCheck rfl rfl) ?_
          refine WPD.takeM 2 rfl rfl rfl rfl (by kernel_rfl) (by kernel_rfl) (by kernel_rfl) (by kernel_rfl) (fun _ _ _ h => h) (fun _ h => h) (Val.fieldAddr (j := 0) rfl Ty.fo114_0 rfl rfl) ?_
          refine WPD.take 3 rfl rfl rfl rfl (by kernel_rfl) (by kernel_rfl) (by kernel_rfl) (by kernel_rfl) (fun _ _ _ h => h) (by kernel_rfl) (fun _ h => h) (Val.load rfl Ty.sc92 rfl (fun w h => h.cell 0 rfl rfl)) ?_
          refine WPD.takeM 4 rfl rfl rfl rfl (by kernel_rfl) (by kernel_rfl) (by kernel_rfl) (by kernel_rfl) (fun _ _ _ h => h) (fun _ h => h) (Val.move rfl rfl) ?_
          refine WPD.takeM 5 rfl rfl rfl rfl (by kernel_rfl) (by kernel_rfl) (by kernel_rfl) (by kernel_rfl) (fun _ _ _ h => h) (fun _ h => h) (Val.move rfl rfl) ?_
          refine WPD.takeM 6 rfl rfl rfl rfl (by kernel_rfl) (by kernel_rfl) (by kernel_rfl) (by kernel_rfl) (fun _ _ _ h => h) (fun _ h => h) (Val.move rfl rfl) ?_
          refine WPD.takeM 7 rfl rfl rfl rfl (by kernel_rfl) (by kernel_rfl) (by kernel_rfl) (by kernel_rfl) (fun _ _ _ h => h) (fun _ h => h) (Val.nilCheck rfl rfl) ?_
          refine WPD.takeM 8 rfl rfl rfl rfl (by kernel_rfl) (by kernel_rfl) (by kernel_rfl) (by kernel_rfl) (fun _ _ _ h => h) (fun _ h => h) (Val.fieldAddr (j := 2) rfl Ty.fo114_2 rfl rfl) ?_
          refine WPD.take 9 rfl rfl rfl rfl (by kernel_rfl) (by kernel_rfl) (by kernel_rfl) (by kernel_rfl) (fun _ _ _ h => h) (by kernel_rfl) (fun _ h => h) (Val.load rfl Ty.sc3 rfl (fun w h => h.cell 0 rfl rfl)) ?_
          refine WPD.takeM 10 rfl rfl rfl rfl (by kernel_rfl) (by kernel_rfl) (by kernel_rfl) (by kernel_rfl) (fun _ _ _ h => h) (fun _ h => h) (Val.mul (z := (((((p.drop (slack page off pend.length)).length) / page) * page : Nat) : Int)) rfl rfl rfl ((w64 (by omega) (by omega)).trans (by omega))) ?_
          refine WPD.takeM 11 rfl rfl rfl rfl (by kernel_rfl) (by kernel_rfl) (by kernel_rfl) (by kernel_rfl) (fun _ _ _ h => h) (fun _ h => h) (Val.slice (lo := 0) (hi := (((p.drop (slack page off pend.length)).length) / page) * page) (j := (if pc = (slack page off pend.length) then po else po + (slack page off pend.length))) (vlo := none) (vhi := some (.i64, (((((p.drop (slack page off pend.length)).length) / page) * page : Nat) : Int))) rfl Ty.sl40 rfl rfl rfl (by simp [bnd]) (by simp [bnd]; try omega) (by omega) (by omega) (by omega) (by simp)) ?_
          refine WPD.takeM 12 rfl rfl rfl rfl (by kernel_rfl) (by kernel_rfl) (by kernel_rfl) (by kernel_rfl) (fun _ _ _ h => h) (fun _ h => h) (Val.nilCheckI rfl rfl) ?_
          refine WPD.takeM 13 rfl rfl rfl rfl (by kernel_rfl) (by kernel_rfl) (by kernel_rfl) (by kernel_rfl) (fun _ _ _ h => h) (fun _ h => h) (Val.move rfl rfl) ?_
          have hl2 : ((p.drop (slack page off pend.length)).take ((p.drop (slack page off pend.length)).length / page * page)).length = ((p.drop (slack page off pend.length)).length / page * page) := by rw [List.length_take]; omega
          refine WPD.know 138 (.slice (some ⟨pb, (if pc = (slack page off pend.length) then po else po + (slack page off pend.length)), none⟩) ((p.drop (slack page off pend.length)).take ((p.drop (slack page off pend.length)).length / page * page)).length (pc - (slack page off pend.length))) rfl (by rw [hl2]; rfl) ?_
          refine WPD.perm pl4 ?_
          refine WPD.perm pl3 ?_
          refine WPD.perm pl4 ?_
          refine WPD.stepC 14 (by kernel_rfl) rfl rfl rfl rfl (by kernel_rfl) (Eff.invoke (f := 69) rfl rfl rfl (fun _ => by kernel_rfl) Tryd.call69 (below_spec A bb pb ((if pc = (slack page off pend.length) then po else po + (slack page off pend.length))) (pc - (slack page off pend.length)) ((p.drop (slack page off pend.length)).take ((p.drop (slack page off pend.length)).length / page * page)) (ss ++ (outs (pend ++ p.take (slack page off pend.length))).flatten) wv1 (fun w h => rangeAt_take (rangeAt_cut (hA w h) hpc)) (by omega) (by simp; omega))) ?_
          rintro _ _ ⟨_, ⟨wv2, rfl, rfl⟩, rfl⟩
          refine ⟨(Sat W (Blk bb [wv2] 72 :: Own 5 1 wv2 ((ss ++ (outs (pend ++ p.take (slack page off pend.length))).flatten ++ (p.drop (slack page off pend.length)).take ((p.drop (slack page off pend.length)).length / page * page) : List UInt8).length) (byt (ss ++ (outs (pend ++ p.take (slack page off pend.length))).flatten ++ (p.drop (slack page off pend.length)).take ((p.drop (slack page off pend.length)).length / page * page))) :: A :: Blk pw [.iface 70 (.pointer (some ⟨bb, 0, none⟩)), .int .i64 (((offs page (off) (pend ++ p.take (slack page off pend.length)) : Nat) : Int)), .int .i64 (((page : Nat) : Int)), .int .i64 (((([] : List UInt8).length : Nat) : Int)), .slice (some ⟨bf, 0, none⟩) ((B + page)) ((B + page)), .int .i64 (((B : Nat) : Int))] 114 :: Blk bf (byt (([] : List UInt8)) ++ byt (jk1)) 5 :: F)), (fun _ h => h), ?_⟩
          show WPD _ _ _ _ _ _ _ _ _ (Blk bb [wv2] 72 :: Own 5 1 wv2 ((ss ++ (outs (pend ++ p.take (slack page off pend.length))).flatten ++ (p.drop (slack page off pend.length)).take ((p.drop (slack page off pend.length)).length / page * page) : List UInt8).length) (byt (ss ++ (outs (pend ++ p.take (slack page off pend.length))).flatten ++ (p.drop (slack page off pend.length)).take ((p.drop (slack page off pend.length)).length / page * page))) :: A :: Blk pw [.iface 70 (.pointer (some ⟨bb, 0, none⟩)), .int .i64 (((offs page (off) (pend ++ p.take (slack page off pend.length)) : Nat) : Int)), .int .i64 (((page : Nat) : Int)), .int .i64 (((([] : List UInt8).length : Nat) : Int)), .slice (some ⟨bf, 0, none⟩) ((B + page)) ((B + page)), .int .i64 (((B : Nat) : Int))] 114 :: Blk bf (byt (([] : List UInt8)) ++ byt (jk1)) 5 :: F)
          refine WPD.takeM 15 rfl rfl rfl rfl (by kernel_rfl) (by kernel_rfl) (by kernel_rfl) (by kernel_rfl) (fun _ _ _ h => h) (fun _ h => h) (Val.move rfl rfl) ?_
          refine WPD.takeM 16 rfl rfl rfl rfl (by kernel_rfl) (by kernel_rfl) (by kernel_rfl) (by kernel_rfl) (fun _ _ _ h => h) (fun _ h => h) (Val.extract rfl rfl rfl) ?_
          refine WPD.takeM 17 rfl rfl rfl rfl (by kernel_rfl) (by kernel_rfl) (by kernel_rfl) (by kernel_rfl) (fun _ _ _ h => h) (fun _ h => h) (Val.extract rfl rfl rfl) ?_
          refine WPD.takeM 18 rfl rfl rfl rfl (by kernel_rfl) (by kernel_rfl) (by kernel_rfl) (by kernel_rfl) (fun _ _ _ h => h) (fun _ h => h) (Val.assign rfl rfl) ?_
          refine WPD.takeM 19 rfl rfl rfl rfl (by kernel_rfl) (by kernel_rfl) (by kernel_rfl) (by kernel_rfl) (fun _ _ _ h => h) (fun _ h => h) (Val.assign rfl rfl) ?_
          refine WPD.done (by kernel_rfl) ?_
          refine Out.next ?_
          refine WPc.seq ?_
          refine WPc.region ?_
          refine WP.val rfl rfl rfl (Val.move rfl rfl) ?_
          refine WP.val rfl rfl rfl (Val.move rfl rfl) ?_
          refine WP.val rfl rfl rfl (Val.add (z := ((((slack page off pend.length)) + (((p.drop (slack page off pend.length)).take ((p.drop (slack page off pend.length)).length / page * page)).length) : Nat) : Int)) rfl rfl rfl ((w64 (by omega) (by omega)).trans (by omega))) ?_
          refine WP.val rfl rfl rfl (Val.assign rfl rfl) ?_
          refine WP.nil ?_
          refine Out.next ?_
          refine WPc.seq ?_
          refine WPc.seq ?_
          refine WPc.region ?_
          refine WP.val rfl rfl rfl (Val.move rfl rfl) ?_
          refine WP.val rfl rfl rfl (Val.nilIn rfl Ty.if61 rfl) ?_
          refine WP.nil ?_
          refine Out.next ?_
          refine WPc.condF rfl rfl ?_
          refine WPc.skip ?_
          refine Out.next ?_
          refine WPc.region ?_
          refine WP.val rfl rfl rfl (Val.move rfl rfl) ?_
          refine WP.val rfl rfl rfl (Val.move rfl rfl) ?_
          refine WP.val rfl rfl rfl (Val.move rfl rfl) ?_
          refine WP.val rfl rfl rfl (Val.nilCheck rfl rfl) ?_
          refine WP.val rfl rfl rfl (Val.fieldAddr (j := 2) rfl Ty.fo114_2 rfl rfl) ?_
          refine WP.val rfl rfl rfl (Val.load rfl Ty.sc3 rfl (fun w h => h.cell 3 rfl rfl)) ?_
          refine WP.val rfl rfl rfl (Val.mul (z := (((((p.drop (slack page off pend.length)).length) / page) * page : Nat) : Int)) rfl rfl rfl ((w64 (by omega) (by omega)).trans (by omega))) ?_
          refine WP.val rfl rfl rfl (Val.slice (lo := (((p.drop (slack page off pend.length)).length) / page) * page) (hi := (p.drop (slack page off pend.length)).length) (j := (if pc - (slack page off pend.length) = (((p.drop (slack page off pend.length)).length) / page) * page then (if pc = (slack page off pend.length) then po else po + (slack page off pend.length)) else (if pc = (slack page off pend.length) then po else po + (slack page off pend.length)) + ((((p.drop (slack page off pend.length)).length) / page) * page))) (vlo := some (.i64, (((((p.drop (slack page off pend.length)).length) / page) * page : Nat) : Int))) (vhi := none) rfl Ty.sl40 rfl rfl rfl (by simp [bnd]; try omega) (by simp [bnd]; try omega) (by omega) (by omega) (by omega) (by simp)) ?_
          refine WP.val rfl rfl rfl (Val.assign rfl rfl) ?_
          refine WP.nil ?_
          refine Out.next ?_
          refine WPc.seq ?_
          have hl3 : ((p.drop (slack page off pend.length)).drop ((p.drop (slack page off pend.length)).length / page * page)).length = (p.drop (slack page off pend.length)).length - ((p.drop (slack page off pend.length)).length / page * page) := List.length_drop ..
          refine WPc.know 1 (.slice (some ⟨pb, (if pc - (slack page off pend.length) = (((p.drop (slack page off pend.length)).length) / page) * page then (if pc = (slack page off pend.length) then po else po + (slack page off pend.length)) else (if pc = (slack page off pend.length) then po else po + (slack page off pend.length)) + ((((p.drop (slack page off pend.length)).length) / page) * page)), none⟩) ((p.drop (slack page off pend.length)).drop ((p.drop (slack page off pend.length)).length / page * page)).length ((pc - (slack page off pend.length)) - ((((p.drop (slack page off pend.length)).length) / page) * page))) rfl (by rw [hl3]) ?_
          refine WPc.region ?_
          refine WP.val rfl rfl rfl (Val.move rfl rfl) ?_
          refine WP.val rfl rfl rfl (Val.move rfl rfl) ?_
          refine WP.perm pl2 ?_
          refine WP.perm pl2 ?_
          refine WP.perm pl2 ?_
          refine WP.perm pl4 ?_
          refine WP.perm pl4 ?_
          refine WP.eff rfl rfl rfl (Eff.call rfl rfl Tryd.call86 (small_spec pw bb bf page B (offs page (off) (pend ++ p.take (slack page off pend.length))) [] jk1 (ss ++ (outs (pend ++ p.take (slack page off pend.length))).flatten ++ (p.drop (slack page off pend.length)).take ((p.drop (slack page off pend.length)).length / page * page)) wv2 hp hpb hB hoff2 (by simpa using hj1) (by simp; omega) A pb ((if pc - (slack page off pend.length) = (((p.drop (slack page off pend.length)).length) / page) * page then (if pc = (slack page off pend.length) then po else po + (slack page off pend.length)) else (if pc = (slack page off pend.length) then po else po + (slack page off pend.length)) + ((((p.drop (slack page off pend.length)).length) / page) * page))) ((pc - (slack page off pend.length)) - ((((p.drop (slack page off pend.length)).length) / page) * page)) ((p.drop (slack page off pend.length)).drop ((p.drop (slack page off pend.length)).length / page * page)) (fun w h => rangeAt_cut (rangeAt_cut (hA w h) hpc) (by omega)) (by omega) (by omega) (by simp only [List.length_nil]; omega))) ?_
          rintro _ _ ⟨_, ⟨wv3, jk3, hj3, rfl, rfl⟩, rfl⟩
          show WP _ _ _ _ _ _ _ (Blk pw [.iface 70 (.pointer (some ⟨bb, 0, none⟩)), .int .i64 (((offs page (off) (pend ++ p.take (slack page off pend.length)) : Nat) : Int)), .int .i64 (((page : Nat) : Int)), .int .i64 (((([] ++ ((p.drop (slack page off pend.length)).drop ((p.drop (slack page off pend.length)).length / page * page))).length : Nat) : Int)), .slice (some ⟨bf, 0, none⟩) ((B + page)) ((B + page)), .int .i64 (((B : Nat) : Int))] 114 :: Blk bf (byt ([] ++ ((p.drop (slack page off pend.length)).drop ((p.drop (slack page off pend.length)).length / page * page))) ++ byt (jk3)) 5 :: Blk bb [wv3] 72 :: Own 5 1 wv3 ((ss ++ (outs (pend ++ p.take (slack page off pend.length))).flatten ++ (p.drop (slack page off pend.length)).take ((p.drop (slack page off pend.length)).length / page * page) : List UInt8).length) (byt (ss ++ (outs (pend ++ p.take (slack page off pend.length))).flatten ++ (p.drop (slack page off pend.length)).take ((p.drop (slack page off pend.length)).length / page * page))) :: A :: F)
          refine WP.val rfl rfl rfl (Val.move rfl rfl) ?_
          refine WP.val rfl rfl rfl (Val.extract rfl rfl rfl) ?_
          refine WP.val rfl rfl rfl (Val.extract rfl rfl rfl) ?_
          refine WP.val rfl rfl rfl (Val.assign rfl rfl) ?_
          refine WP.val rfl rfl rfl (Val.assign rfl rfl) ?_
          refine WP.nil ?_
          refine Out.next ?_
          refine WPc.seq ?_
          refine WPc.region ?_
          refine WP.val rfl rfl rfl (Val.move rfl rfl) ?_
          refine WP.val rfl rfl rfl (Val.move rfl rfl) ?_
          refine WP.val rfl rfl rfl (Val.add (z := (((((slack page off pend.length)) + (((p.drop (slack page off pend.length)).take ((p.drop (slack page off pend.length)).length / page * page)).length)) + (((p.drop (slack page off pend.length)).drop ((p.drop (slack page off pend.length)).length / page * page)).length) : Nat) : Int)) rfl rfl rfl ((w64 (by omega) (by omega)).trans (by omega))) ?_
          refine WP.val rfl rfl rfl (Val.assign rfl rfl) ?_
          refine WP.nil ?_
          refine Out.next ?_
          refine WPc.seq ?_
          refine WPc.know 4 (.int .i64 ((p.length : Nat) : Int)) rfl (by congr 1; omega) ?_
          refine WPc.region ?_
          refine WP.val rfl rfl rfl (Val.move rfl rfl) ?_
          refine WP.val rfl rfl rfl (Val.move rfl rfl) ?_
          refine WP.val rfl rfl rfl (Val.assign rfl rfl) ?_
          refine WP.val rfl rfl rfl (Val.assign rfl rfl) ?_
          refine WP.nil ?_
          refine Out.next ?_
          refine WPc.ret ?_
          have hwr : wr page B off pend p = (outs (pend ++ p.take (slack page off pend.length)) ++ [(p.drop (slack page off pend.length)).take ((p.drop (slack page off pend.length)).length / page * page)], offs page (off) (pend ++ p.take (slack page off pend.length)), ((p.drop (slack page off pend.length)).drop ((p.drop (slack page off pend.length)).length / page * page))) := by unfold wr; rw [if_neg (by omega), if_pos (show slack page off pend.length ≠ page by omega), if_neg (show ¬ (p.length < slack page off pend.length) by omega)]; unfold rest; rw [if_pos (show page < (p.drop (slack page off pend.length)).length by omega)]
          rw [hwr]
          exact Out.ret2 (L' := _) Tryd.results86 rfl rfl ⟨wv3, jk3, by simpa using hj3, rfl, rfl⟩ (fun w h => by simpa using h)
        · skip
          have h4 : ¬ (((page : Nat) : Int) < (((p.drop (slack page off pend.length)).length : Nat) : Int)) := h4
          refine WPc.skip ?_
          refine Out.next ?_
          refine WPc.seq ?_
          refine WPc.region ?_
          refine WP.val rfl rfl rfl (Val.move rfl rfl) ?_
          refine WP.val rfl rfl rfl (Val.move rfl rfl) ?_
          refine WP.perm pl4 ?_
          refine WP.perm pl4 ?_
          refine WP.perm pl4 ?_
          refine WP.perm pl4 ?_
          refine WP.perm pl4 ?_
          refine WP.eff rfl rfl rfl (Eff.call rfl rfl Tryd.call86 (small_spec pw bb bf page B (offs page (off) (pend ++ p.take (slack page off pend.length))) [] jk1 (ss ++ (outs (pend ++ p.take (slack page off pend.length))).flatten) wv1 hp hpb hB hoff2 (by simpa using hj1) (by simp; omega) A pb ((if pc = (slack page off pend.length) then po else po + (slack page off pend.length))) (pc - (slack page off pend.length)) (p.drop (slack page off pend.length)) (fun w h => rangeAt_cut (hA w h) hpc) (by omega) (by omega) (by simp only [List.length_nil]; omega))) ?_
          rintro _ _ ⟨_, ⟨wv4, jk4, hj4, rfl, rfl⟩, rfl⟩
          show WP _ _ _ _ _ _ _ (Blk pw [.iface 70 (.pointer (some ⟨bb, 0, none⟩)), .int .i64 (((offs page (off) (pend ++ p.take (slack page off pend.length)) : Nat) : Int)), .int .i64 (((page : Nat) : Int)), .int .i64 (((([] ++ (p.drop (slack page off pend.length))).length : Nat) : Int)), .slice (some ⟨bf, 0, none⟩) ((B + page)) ((B + page)), .int .i64 (((B : Nat) : Int))] 114 :: Blk bf (byt ([] ++ (p.drop (slack page off pend.length))) ++ byt (jk4)) 5 :: Blk bb [wv4] 72 :: Own 5 1 wv4 ((ss ++ (outs (pend ++ p.take (slack page off pend.length))).flatten : List UInt8).length) (byt (ss ++ (outs (pend ++ p.take (slack page off pend.length))).flatten)) :: A :: F)
          refine WP.val rfl rfl rfl (Val.move rfl rfl) ?_
          refine WP.val rfl rfl rfl (Val.extract rfl rfl rfl) ?_
          refine WP.val rfl rfl rfl (Val.extract rfl rfl rfl) ?_
          refine WP.val rfl rfl rfl (Val.assign rfl rfl) ?_
          refine WP.val rfl rfl rfl (Val.assign rfl rfl) ?_
          refine WP.nil ?_
          refine Out.next ?_
          refine WPc.seq ?_
          refine WPc.region ?_
          refine WP.val rfl rfl rfl (Val.move rfl rfl) ?_
          refine WP.val rfl rfl rfl (Val.move rfl rfl) ?_
          refine WP.val rfl rfl rfl (Val.add (z := ((((slack page off pend.length)) + ((p.drop (slack page off pend.length)).length) : Nat) : Int)) rfl rfl rfl ((w64 (by omega) (by omega)).trans (by omega))) ?_
          refine WP.val rfl rfl rfl (Val.assign rfl rfl) ?_
          refine WP.nil ?_
          refine Out.next ?_
          refine WPc.seq ?_
          refine WPc.know 4 (.int .i64 ((p.length : Nat) : Int)) rfl (by congr 1; omega) ?_
          refine WPc.region ?_
          refine WP.val rfl rfl rfl (Val.move rfl rfl) ?_
          refine WP.val rfl rfl rfl (Val.move rfl rfl) ?_
          refine WP.val rfl rfl rfl (Val.assign rfl rfl) ?_
          refine WP.val rfl rfl rfl (Val.assign rfl rfl) ?_
          refine WP.nil ?_
          refine Out.next ?_
          refine WPc.ret ?_
          have hwr : wr page B off pend p = (outs (pend ++ p.take (slack page off pend.length)), offs page (off) (pend ++ p.take (slack page off pend.length)), (p.drop (slack page off pend.length))) := by unfold wr; rw [if_neg (by omega), if_pos (show slack page off pend.length ≠ page by omega), if_neg (show ¬ (p.length < slack page off pend.length) by omega)]; unfold rest; rw [if_neg (show ¬ (page < (p.drop (slack page off pend.length)).length) by omega)]
          rw [hwr]
          exact Out.ret2 (L' := _) Tryd.results86 rfl rfl ⟨wv4, jk4, by simpa using hj4, rfl, rfl⟩ (fun w h => by simpa using h)
    · skip
      have h2 : ¬ ((((slack page off pend.length) : Nat) : Int) ≠ ((page : Nat) : Int)) := h2
      refine WPc.skip ?_
      refine Out.next ?_
      refine WPc.seq ?_
      refine WPc.seq ?_
      refine WPc.region ?_
      refine WP.val rfl rfl rfl (Val.move rfl rfl) ?_
      refine WP.perm pl3 ?_
      refine WP.perm pl3 ?_
      refine WP.perm pl3 ?_
      refine WP.perm pl3 ?_
      refine WP.eff rfl rfl rfl (Eff.call rfl rfl Tryd.call44 (Flush_spec pw bb bf page B (off) (pend) junk (ss) wv hp hpb hB (by omega) (by first | omega | (simp; omega)) (by first | omega | (simp; omega)))) ?_
      rintro _ _ ⟨_, ⟨wv5, jk5, hj5, rfl, rfl⟩, rfl⟩
      show WP _ _ _ _ _ _ _ (Blk pw [.iface 70 (.pointer (some ⟨bb, 0, none⟩)), .int .i64 (((offs page (off) (pend) : Nat) : Int)), .int .i64 (((page : Nat) : Int)), .int .i64 (((([] : List UInt8).length : Nat) : Int)), .slice (some ⟨bf, 0, none⟩) ((B + page)) ((B + page)), .int .i64 (((B : Nat) : Int))] 114 :: Blk bf (byt (([] : List UInt8)) ++ byt (jk5)) 5 :: Blk bb [wv5] 72 :: Own 5 1 wv5 ((ss ++ (outs (pend)).flatten : List UInt8).length) (byt (ss ++ (outs (pend)).flatten)) :: A :: F)
      refine WP.val rfl rfl rfl (Val.assign rfl rfl) ?_
      refine WP.nil ?_
      refine Out.next ?_
      refine WPc.seq ?_
      have hoff2 : offs page (off) (pend) ≤ 4294967296 := offs_le hp hpb hB hoff
      have hol := outs_len (pend)
      try simp only [List.length_append, List.length_take] at hol
      refine WPc.region ?_
      refine WP.val rfl rfl rfl (Val.move rfl rfl) ?_
      refine WP.val rfl rfl rfl (Val.nilIn rfl Ty.if61 rfl) ?_
      refine WP.nil ?_
      refine Out.next ?_
      refine WPc.condF rfl rfl ?_
      refine WPc.skip ?_
      refine Out.next ?_
      refine WPc.seq ?_
      refine WPc.seq ?_
      refine WPc.region ?_
      refine WP.val rfl rfl rfl (Val.move rfl rfl) ?_
      refine WP.val rfl rfl rfl (Val.len rfl Ty.sl40 rfl) ?_
      refine WP.val rfl rfl rfl (Val.move rfl rfl) ?_
      refine WP.val rfl rfl rfl (Val.nilCheck rfl rfl) ?_
      refine WP.val rfl rfl rfl (Val.fieldAddr (j := 2) rfl Ty.fo114_2 rfl rfl) ?_
      refine WP.val rfl rfl rfl (Val.load rfl Ty.sc3 rfl (fun w h => h.cell 0 rfl rfl)) ?_
      refine WP.val rfl rfl rfl (Val.gtr rfl rfl rfl) ?_
      refine WP.nil ?_
      refine Out.next ?_
      refine WPc.ifP rfl (fun h5 => ?_) (fun h5 => ?_)
      · skip
        have h5 : (((page : Nat) : Int) < ((p.length : Nat) : Int)) := h5
        refine WPc.seq ?_
        have hq := Nat.div_mul_le_self p.length page
        have hq2 := Nat.div_le_self p.length page
        have hq3 := Nat.mod_lt p.length hp
        have hq4 := Nat.div_add_mod p.length page
        rw [Nat.mul_comm] at hq4
        have hq5 : (0 : Int) ≤ ((p.length / page : Nat) : Int) := Int.natCast_nonneg _
        refine WPc.region ?_
        refine WP.val rfl rfl rfl (Val.move rfl rfl) ?_
        refine WP.val rfl rfl rfl (Val.len rfl Ty.sl40 rfl) ?_
        refine WP.val rfl rfl rfl (Val.move rfl rfl) ?_
        refine WP.val rfl rfl rfl (Val.nilCheck rfl rfl) ?_
        refine WP.val rfl rfl rfl (Val.fieldAddr (j := 2) rfl Ty.fo114_2 rfl rfl) ?_
        refine WP.val rfl rfl rfl (Val.load rfl Ty.sc3 rfl (fun w h => h.cell 0 rfl rfl)) ?_
        refine WP.val rfl rfl rfl (Val.quo (z := ((p.length / page : Nat) : Int)) rfl rfl rfl (by omega) (show IntKind.i64.wrap ((p.length / page : Nat) : Int) = _ from w64 (by omega) (by omega))) ?_
        refine WP.val rfl rfl rfl (Val.assign rfl rfl) ?_
        refine WP.nil ?_
        refine Out.next ?_
        refine WPc.seq ?_
        refine WPD.start (Sat W (Blk pw [.iface 70 (.pointer (some ⟨bb, 0, none⟩)), .int .i64 (((offs page (off) (pend) : Nat) : Int)), .int .i64 (((page : Nat) : Int)), .int .i64 (((([] : List UInt8).length : Nat) : Int)), .slice (some ⟨bf, 0, none⟩) ((B + page)) ((B + page)), .int .i64 (((B : Nat) : Int))] 114 :: Blk bf (byt (([] : List UInt8)) ++ byt (jk5)) 5 :: Blk bb [wv5] 72 :: Own 5 1 wv5 ((ss ++ (outs (pend)).flatten : List UInt8).length) (byt (ss ++ (outs (pend)).flatten)) :: A :: F)) Ty.mixed ?_
        refine WPD.takeM 0 rfl rfl rfl rfl (by kernel_rfl) (by kernel_rfl) (by kernel_rfl) (by kernel_rfl) (fun _ _ _ h => h) (fun _ h => h) (Val.move rfl rfl) ?_
        refine WPD.takeM 1 rfl rfl rfl rfl (by kernel_rfl) (by kernel_rfl) (by kernel_rfl) (by kernel_rfl) (fun _ _ _ h => h) (fun _ h => h) (Val.nilCheck rfl rfl) ?_
        refine WPD.takeM 2 rfl rfl rfl rfl (by kernel_rfl) (by kernel_rfl) (by kernel_rfl) (by kernel_rfl) (fun _ _ _ h => h) (fun _ h => h) (Val.fieldAddr (j := 0) rfl Ty.fo114_0 rfl rfl) ?_
        refine WPD.take 3 rfl rfl rfl rfl (by kernel_rfl) (by kernel_rfl) (by kernel_rfl) (by kernel_rfl) (fun _ _ _ h => h) (by kernel_rfl) (fun _ h => h) (Val.load rfl Ty.sc92 rfl (fun w h => h.cell 0 rfl rfl)) ?_
        refine WPD.takeM 4 rfl rfl rfl rfl (by kernel_rfl) (by kernel_rfl) (by kernel_rfl) (by kernel_rfl) (fun _ _ _ h => h) (fun _ h => h) (Val.move rfl rfl) ?_
        refine WPD.takeM 5 rfl rfl rfl rfl (by kernel_rfl) (by kernel_rfl) (by kernel_rfl) (by kernel_rfl) (fun _ _ _ h => h) (fun _ h => h) (Val.move rfl rfl) ?_
        refine WPD.takeM 6 rfl rfl rfl rfl (by kernel_rfl) (by kernel_rfl) (by kernel_rfl) (by kernel_rfl) (fun _ _ _ h => h) (fun _ h => h) (Val.move rfl rfl) ?_
        refine WPD.takeM 7 rfl rfl rfl rfl (by kernel_rfl) (by kernel_rfl) (by kernel_rfl) (by kernel_rfl) (fun _ _ _ h => h) (fun _ h => h) (Val.nilCheck rfl rfl) ?_
        refine WPD.takeM 8 rfl rfl rfl rfl (by kernel_rfl) (by kernel_rfl) (by kernel_rfl) (by kernel_rfl) (fun _ _ _ h => h) (fun _ h => h) (Val.fieldAddr (j := 2) rfl Ty.fo114_2 rfl rfl) ?_
        refine WPD.take 9 rfl rfl rfl rfl (by kernel_rfl) (by kernel_rfl) (by kernel_rfl) (by kernel_rfl) (fun _ _ _ h => h) (by kernel_rfl) (fun _ h => h) (Val.load rfl Ty.sc3 rfl (fun w h => h.cell 0 rfl rfl)) ?_
        refine WPD.takeM 10 rfl rfl rfl rfl (by kernel_rfl) (by kernel_rfl) (by kernel_rfl) (by kernel_rfl) (fun _ _ _ h => h) (fun _ h => h) (Val.mul (z := (((p.length / page) * page : Nat) : Int)) rfl rfl rfl ((w64 (by omega) (by omega)).trans (by omega))) ?_
        refine WPD.takeM 11 rfl rfl rfl rfl (by kernel_rfl) (by kernel_rfl) (by kernel_rfl) (by kernel_rfl) (fun _ _ _ h => h) (fun _ h => h) (Val.slice (lo := 0) (hi := (p.length / page) * page) (j := po) (vlo := none) (vhi := some (.i64, (((p.length / page) * page : Nat) : Int))) rfl Ty.sl40 rfl rfl rfl (by simp [bnd]) (by simp [bnd]; try omega) (by omega) (by omega) (by omega) (by simp)) ?_
        refine WPD.takeM 12 rfl rfl rfl rfl (by kernel_rfl) (by kernel_rfl) (by kernel_rfl) (by kernel_rfl) (fun _ _ _ h => h) (fun _ h => h) (Val.nilCheckI rfl rfl) ?_
        refine WPD.takeM 13 rfl rfl rfl rfl (by kernel_rfl) (by kernel_rfl) (by kernel_rfl) (by kernel_rfl) (fun _ _ _ h => h) (fun _ h => h) (Val.move rfl rfl) ?_
        have hl2 : (p.take (p.length / page * page)).length = (p.length / page * page) := by rw [List.length_take]; omega
        refine WPD.know 138 (.slice (some ⟨pb, po, none⟩) (p.take (p.length / page * page)).length (pc)) rfl (by rw [hl2]; rfl) ?_
        refine WPD.perm pl4 ?_
        refine WPD.perm pl3 ?_
        refine WPD.perm pl4 ?_
        refine WPD.stepC 14 (by kernel_rfl) rfl rfl rfl rfl (by kernel_rfl) (Eff.invoke (f := 69) rfl rfl rfl (fun _ => by kernel_rfl) Tryd.call69 (below_spec A bb pb po pc (p.take (p.length / page * page)) (ss ++ (outs (pend)).flatten) wv5 (fun w h => rangeAt_take (hA w h)) (by omega) (by simp; omega))) ?_
        rintro _ _ ⟨_, ⟨wv6, rfl, rfl⟩, rfl⟩
        refine ⟨(Sat W (Blk bb [wv6] 72 :: Own 5 1 wv6 ((ss ++ (outs (pend)).flatten ++ p.take (p.length / page * page) : List UInt8).length) (byt (ss ++ (outs (pend)).flatten ++ p.take (p.length / page * page))) :: A :: Blk pw [.iface 70 (.pointer (some ⟨bb, 0, none⟩)), .int .i64 (((offs page (off) (pend) : Nat) : Int)), .int .i64 (((page : Nat) : Int)), .int .i64 (((([] : List UInt8).length : Nat) : Int)), .slice (some ⟨bf, 0, none⟩) ((B + page)) ((B + page)), .int .i64 (((B : Nat) : Int))] 114 :: Blk bf (byt (([] : List UInt8)) ++ byt (jk5)) 5 :: F)), (fun _ h => h), ?_⟩
        show WPD _ _ _ _ _ _ _ _ _ (Blk bb [wv6] 72 :: Own 5 1 wv6 ((ss ++ (outs (pend)).flatten ++ p.take (p.length / page * page) : List UInt8).length) (byt (ss ++ (outs (pend)).flatten ++ p.take (p.length / page * page))) :: A :: Blk pw [.iface 70 (.pointer (some ⟨bb, 0, none⟩)), .int .i64 (((offs page (off) (pend) : Nat) : Int)), .int .i64 (((page : Nat) : Int)), .int .i64 (((([] : List UInt8).length : Nat) : Int)), .slice (some ⟨bf, 0, none⟩) ((B + page)) ((B + page)), .int .i64 (((B : Nat) : Int))] 114 :: Blk bf (byt (([] : List UInt8)) ++ byt (jk5)) 5 :: F)
        refine WPD.takeM 15 rfl rfl rfl rfl (by kernel_rfl) (by kernel_rfl) (by kernel_rfl) (by kernel_rfl) (fun _ _ _ h => h) (fun _ h => h) (Val.move rfl rfl) ?_
        refine WPD.takeM 16 rfl rfl rfl rfl (by kernel_rfl) (by kernel_rfl) (by kernel_rfl) (by kernel_rfl) (fun _ _ _ h => h) (fun _ h => h) (Val.extract rfl rfl rfl) ?_
        refine WPD.takeM 17 rfl rfl rfl rfl (by kernel_rfl) (by kernel_rfl) (by kernel_rfl) (by kernel_rfl) (fun _ _ _ h => h) (fun _ h => h) (Val.extract rfl rfl rfl) ?_
        refine WPD.takeM 18 rfl rfl rfl rfl (by kernel_rfl) (by kernel_rfl) (by kernel_rfl) (by kernel_rfl) (fun _ _ _ h => h) (fun _ h => h) (Val.assign rfl rfl) ?_
        refine WPD.takeM 19 rfl rfl rfl rfl (by kernel_rfl) (by kernel_rfl) (by kernel_rfl) (by kernel_rfl) (fun _ _ _ h => h) (fun _ h => h) (Val.assign rfl rfl) ?_
        refine WPD.done (by kernel_rfl) ?_
        refine Out.next ?_
        refine WPc.seq ?_
        refine WPc.region ?_
        refine WP.val rfl rfl rfl (Val.move rfl rfl) ?_
        refine WP.val rfl rfl rfl (Val.move rfl rfl) ?_
        refine WP.val rfl rfl rfl (Val.add (z := ((0 + ((p.take (p.length / page * page)).length) : Nat) : Int)) rfl rfl rfl ((w64 (by omega) (by omega)).trans (by omega))) ?_
        refine WP.val rfl rfl rfl (Val.assign rfl rfl) ?_
        refine WP.nil ?_
        refine Out.next ?_
        refine WPc.seq ?_
        refine WPc.seq ?_
        refine WPc.region ?_
        refine WP.val rfl rfl rfl (Val.move rfl rfl) ?_
        refine WP.val rfl rfl rfl (Val.nilIn rfl Ty.if61 rfl) ?_
        refine WP.nil ?_
        refine Out.next ?_
        refine WPc.condF rfl rfl ?_
        refine WPc.skip ?_
        refine Out.next ?_
        refine WPc.region ?_
        refine WP.val rfl rfl rfl (Val.move rfl rfl) ?_
        refine WP.val rfl rfl rfl (Val.move rfl rfl) ?_
        refine WP.val rfl rfl rfl (Val.move rfl rfl) ?_
        refine WP.val rfl rfl rfl (Val.nilCheck rfl rfl) ?_
        refine WP.val rfl rfl rfl (Val.fieldAddr (j := 2) rfl Ty.fo114_2 rfl rfl) ?_
        refine WP.val rfl rfl rfl (Val.load rfl Ty.sc3 rfl (fun w h => h.cell 3 rfl rfl)) ?_
        refine WP.val rfl rfl rfl (Val.mul (z := (((p.length / page) * page : Nat) : Int)) rfl rfl rfl ((w64 (by omega) (by omega)).trans (by omega))) ?_
        refine WP.val rfl rfl rfl (Val.slice (lo := (p.length / page) * page) (hi := p.length) (j := (if pc = (p.length / page) * page then po else po + ((p.length / page) * page))) (vlo := some (.i64, (((p.length / page) * page : Nat) : Int))) (vhi := none) rfl Ty.sl40 rfl rfl rfl (by simp [bnd]; try omega) (by simp [bnd]; try omega) (by omega) (by omega) (by omega) (by simp)) ?_
        refine WP.val rfl rfl rfl (Val.assign rfl rfl) ?_
        refine WP.nil ?_
        refine Out.next ?_
        refine WPc.seq ?_
        have hl3 : (p.drop (p.length / page * page)).length = p.length - (p.length / page * page) := List.length_drop ..
        refine WPc.know 1 (.slice (some ⟨pb, (if pc = (p.length / page) * page then po else po + ((p.length / page) * page)), none⟩) (p.drop (p.length / page * page)).length (pc - ((p.length / page) * page))) rfl (by rw [hl3]) ?_
        refine WPc.region ?_
        refine WP.val rfl rfl rfl (Val.move rfl rfl) ?_
        refine WP.val rfl rfl rfl (Val.move rfl rfl) ?_
        refine WP.perm pl2 ?_
        refine WP.perm pl2 ?_
        refine WP.perm pl2 ?_
        refine WP.perm pl4 ?_
        refine WP.perm pl4 ?_
        refine WP.eff rfl rfl rfl (Eff.call rfl rfl Tryd.call86 (small_spec pw bb bf page B (offs page (off) (pend)) [] jk5 (ss ++ (outs (pend)).flatten ++ p.take (p.length / page * page)) wv6 hp hpb hB hoff2 (by simpa using hj5) (by simp; omega) A pb ((if pc = (p.length / page) * page then po else po + ((p.length / page) * page))) (pc - ((p.length / page) * page)) (p.drop (p.length / page * page)) (fun w h => rangeAt_cut (hA w h) (by omega)) (by omega) (by omega) (by simp only [List.length_nil]; omega))) ?_
        rintro _ _ ⟨_, ⟨wv7, jk7, hj7, rfl, rfl⟩, rfl⟩
        show WP _ _ _ _ _ _ _ (Blk pw [.iface 70 (.pointer (some ⟨bb, 0, none⟩)), .int .i64 (((offs page (off) (pend) : Nat) : Int)), .int .i64 (((page : Nat) : Int)), .int .i64 (((([] ++ (p.drop (p.length / page * page))).length : Nat) : Int)), .slice (some ⟨bf, 0, none⟩) ((B + page)) ((B + page)), .int .i64 (((B : Nat) : Int))] 114 :: Blk bf (byt ([] ++ (p.drop (p.length / page * page))) ++ byt (jk7)) 5 :: Blk bb [wv7] 72 :: Own 5 1 wv7 ((ss ++ (outs (pend)).flatten ++ p.take (p.length / page * page) : List UInt8).length) (byt (ss ++ (outs (pend)).flatten ++ p.take (p.length / page * page))) :: A :: F)
        refine WP.val rfl rfl rfl (Val.move rfl rfl) ?_
        refine WP.val rfl rfl rfl (Val.extract rfl rfl rfl) ?_
        refine WP.val rfl rfl rfl (Val.extract rfl rfl rfl) ?_
        refine WP.val rfl rfl rfl (Val.assign rfl rfl) ?_
        refine WP.val rfl rfl rfl (Val.assign rfl rfl) ?_
        refine WP.nil ?_
        refine Out.next ?_
        refine WPc.seq ?_
        refine WPc.region ?_
        refine WP.val rfl rfl rfl (Val.move rfl rfl) ?_
        refine WP.val rfl rfl rfl (Val.move rfl rfl) ?_
        refine WP.val rfl rfl rfl (Val.add (z := (((0 + ((p.take (p.length / page * page)).length)) + ((p.drop (p.length / page * page)).length) : Nat) : Int)) rfl rfl rfl ((w64 (by omega) (by omega)).trans (by omega))) ?_
        refine WP.val rfl rfl rfl (Val.assign rfl rfl) ?_
        refine WP.nil ?_
        refine Out.next ?_
        refine WPc.seq ?_
        refine WPc.know 4 (.int .i64 ((p.length : Nat) : Int)) rfl (by congr 1; omega) ?_
        refine WPc.region ?_
        refine WP.val rfl rfl rfl (Val.move rfl rfl) ?_
        refine WP.val rfl rfl rfl (Val.move rfl rfl) ?_
        refine WP.val rfl rfl rfl (Val.assign rfl rfl) ?_
        refine WP.val rfl rfl rfl (Val.assign rfl rfl) ?_
        refine WP.nil ?_
        refine Out.next ?_
        refine WPc.ret ?_
        have hwr : wr page B off pend p = (outs (pend) ++ [p.take (p.length / page * page)], offs page (off) (pend), (p.drop (p.length / page * page))) := by unfold wr; rw [if_neg (by omega), if_neg (show ¬ (slack page off pend.length ≠ page) by omega)]; unfold rest; rw [if_pos (show page < p.length by omega)]
        rw [hwr]
        exact Out.ret2 (L' := _) Tryd.results86 rfl rfl ⟨wv7, jk7, by simpa using hj7, rfl, rfl⟩ (fun w h => by simpa using h)
      · skip
        have h5 : ¬ (((page : Nat) : Int) < ((p.length : Nat) : Int)) := h5
        refine WPc.skip ?_
        refine Out.next ?_
        refine WPc.seq ?_
        refine WPc.region ?_
        refine WP.val rfl rfl rfl (Val.move rfl rfl) ?_
        refine WP.val rfl rfl rfl (Val.move rfl rfl) ?_
        refine WP.perm pl4 ?_
        refine WP.perm pl4 ?_
        refine WP.perm pl4 ?_
        refine WP.perm pl4 ?_
        refine WP.perm pl4 ?_
        refine WP.eff rfl rfl rfl (Eff.call rfl rfl Tryd.call86 (small_spec pw bb bf page B (offs page (off) (pend)) [] jk5 (ss ++ (outs (pend)).flatten) wv5 hp hpb hB hoff2 (by simpa using hj5) (by simp; omega) A pb (po) (pc) p (fun w h => hA w h) (by omega) (by omega) (by simp only [List.length_nil]; omega))) ?_
        rintro _ _ ⟨_, ⟨wv8, jk8, hj8, rfl, rfl⟩, rfl⟩
        show WP _ _ _ _ _ _ _ (Blk pw [.iface 70 (.pointer (some ⟨bb, 0, none⟩)), .int .i64 (((offs page (off) (pend) : Nat) : Int)), .int .i64 (((page : Nat) : Int)), .int .i64 (((([] ++ p).length : Nat) : Int)), .slice (some ⟨bf, 0, none⟩) ((B + page)) ((B + page)), .int .i64 (((B : Nat) : Int))] 114 :: Blk bf (byt ([] ++ p) ++ byt (jk8)) 5 :: Blk bb [wv8] 72 :: Own 5 1 wv8 ((ss ++ (outs (pend)).flatten : List UInt8).length) (byt (ss ++ (outs (pend)).flatten)) :: A :: F)
        refine WP.val rfl rfl rfl (Val.move rfl rfl) ?_
        refine WP.val rfl rfl rfl (Val.extract rfl rfl rfl) ?_
        refine WP.val rfl rfl rfl (Val.extract rfl rfl rfl) ?_
        refine WP.val rfl rfl rfl (Val.assign rfl rfl) ?_
        refine WP.val rfl rfl rfl (Val.assign rfl rfl) ?_
        refine WP.nil ?_
        refine Out.next ?_
        refine WPc.seq ?_
        refine WPc.region ?_
        refine WP.val rfl rfl rfl (Val.move rfl rfl) ?_
        refine WP.val rfl rfl rfl (Val.move rfl rfl) ?_
        refine WP.val rfl rfl rfl (Val.add (z := ((0 + p.length : Nat) : Int)) rfl rfl rfl ((w64 (by omega) (by omega)).trans (by omega))) ?_
        refine WP.val rfl rfl rfl (Val.assign rfl rfl) ?_
        refine WP.nil ?_
        refine Out.next ?_
        refine WPc.seq ?_
        refine WPc.know 4 (.int .i64 ((p.length : Nat) : Int)) rfl (by congr 1; omega) ?_
        refine WPc.region ?_
        refine WP.val rfl rfl rfl (Val.move rfl rfl) ?_
        refine WP.val rfl rfl rfl (Val.move rfl rfl) ?_
        refine WP.val rfl rfl rfl (Val.assign rfl rfl) ?_
        refine WP.val rfl rfl rfl (Val.assign rfl rfl) ?_
        refine WP.nil ?_
        refine Out.next ?_
        refine WPc.ret ?_
        have hwr : wr page B off pend p = (outs (pend), offs page (off) (pend), p) := by unfold wr; rw [if_neg (by omega), if_neg (show ¬ (slack page off pend.length ≠ page) by omega)]; unfold rest; rw [if_neg (show ¬ (page < p.length) by omega)]
        rw [hwr]
        exact Out.ret2 (L' := _) Tryd.results86 rfl rfl ⟨wv8, jk8, by simpa using hj8, rfl, rfl⟩ (fun w h => by simpa using h)

end Go.Proofs.YthicijpjpijdjaaDoor.Wh
