import Derived.Test.YthmkdioafjmclaaPg2
namespace Go.Proofs.Ythmkdioafjmclaa.Pg3
open Go.RowKit Go.Proofs.Ythmkdioafjmclaa Go.Proofs.Ythmkdioafjmclaa.Sl Go.Proofs.Ythmkdioafjmclaa.PgModel Go.Proofs.Ythmkdioafjmclaa.Pg Go.Proofs.Ythmkdioafjmclaa.Pg2
set_option linter.unusedVariables false
set_option linter.unusedSimpArgs false


theorem outs_len {q : List UInt8} : (outs q).length ≤ 1 := by unfold outs; split <;> simp
theorem offs_le {page B off : Nat} {q : List UInt8} (hp : 0 < page) (hpb : page ≤ B) (hB : B ≤ 1048576) (h : off ≤ 4294967296) : offs page off q ≤ 4294967296 := by
  unfold offs
  split
  · exact h
  · have := Nat.mod_lt (off + q.length) hp; omega
set_option maxRecDepth 100000 in
set_option maxHeartbeats 1000000 in
theorem write_spec (pw bb bf page B off : Nat) (pend junk : List UInt8) (ss : List ByteArray) (wv : Value) (hp : 0 < page) (hpb : page ≤ B) (hB : B ≤ 1048576) (hoff : off ≤ 4294967296) (hlen : pend.length + junk.length = B + page) (hss : ss.length ≤ 4294967290) (A : HProp) (pb po pc : Nat) (p : List UInt8) (hA : ∀ w, Holds A w → w.rangeAt pb po (byt p)) (hpn : p.length ≤ 2097152) (hpc : p.length ≤ pc) (hfit : Fit page B off pend.length) : Does Try.prog 34 [.pointer (some ⟨pw, 0, none⟩), .slice (some ⟨pb, po, none⟩) p.length pc] [Blk pw [.iface 76 (.pointer (some ⟨bb, 0, none⟩)), .int .i64 (((off : Nat) : Int)), .int .i64 (((page : Nat) : Int)), .int .i64 ((((pend).length : Nat) : Int)), .slice (some ⟨bf, 0, none⟩) ((B + page)) ((B + page)), .int .i64 (((B : Nat) : Int))] 125, Blk bf (byt (pend) ++ byt (junk)) 5, Blk bb [wv] 78, Own 9 1 wv ((ss).length) (strs (ss)), A] (fun v L => ∃ (wv' : Value) (junk' : List UInt8), (wr page B off pend p).2.2.length + junk'.length = B + page ∧ v = .tuple #[.int .i64 ((p.length : Nat) : Int), .nilIface] ∧ L = [Blk pw [.iface 76 (.pointer (some ⟨bb, 0, none⟩)), .int .i64 (((wr page B off pend p).2.1 : Nat) : Int), .int .i64 ((page : Nat) : Int), .int .i64 ((((wr page B off pend p).2.2).length : Nat) : Int), .slice (some ⟨bf, 0, none⟩) (B + page) (B + page), .int .i64 ((B : Nat) : Int)] 125, Blk bf (byt ((wr page B off pend p).2.2) ++ byt junk') 5, Blk bb [wv'] 78, Own 9 1 wv' (ss ++ (wr page B off pend p).1.map str).length (strs (ss ++ (wr page B off pend p).1.map str)), A]) := by
  unfold Fit at hfit
  have hsl := slack_pos (off := off) (k := pend.length) hp
  have hmd := Nat.mod_lt (off + pend.length) hp
  refine Does.enter 170 Try.func34 rfl rfl rfl fun W F => ?_
  show WPc _ _ _ _ _ [(0, .pointer (some ⟨pw, 0, none⟩)), (1, .slice (some ⟨pb, po, none⟩) p.length pc)] (Blk pw [.iface 76 (.pointer (some ⟨bb, 0, none⟩)), .int .i64 (((off : Nat) : Int)), .int .i64 (((page : Nat) : Int)), .int .i64 ((((pend).length : Nat) : Int)), .slice (some ⟨bf, 0, none⟩) ((B + page)) ((B + page)), .int .i64 (((B : Nat) : Int))] 125 :: Blk bf (byt (pend) ++ byt (junk)) 5 :: Blk bb [wv] 78 :: Own 9 1 wv ((ss).length) (strs (ss)) :: A :: F)
  refine WPc.seq ?_
  refine WPc.region ?_
  refine WP.val rfl rfl rfl (Val.assign rfl rfl) ?_
  refine WP.val rfl rfl rfl (Val.assign rfl rfl) ?_
  refine WP.nil ?_
  refine Out.next ?_
  refine WPc.seq ?_
  refine WPc.seq ?_
  refine WPD.start (Sat W (Blk pw [.iface 76 (.pointer (some ⟨bb, 0, none⟩)), .int .i64 (((off : Nat) : Int)), .int .i64 (((page : Nat) : Int)), .int .i64 ((((pend).length : Nat) : Int)), .slice (some ⟨bf, 0, none⟩) ((B + page)) ((B + page)), .int .i64 (((B : Nat) : Int))] 125 :: Blk bf (byt (pend) ++ byt (junk)) 5 :: Blk bb [wv] 78 :: Own 9 1 wv ((ss).length) (strs (ss)) :: A :: F)) Ty.mixed ?_
  refine WPD.take 0 rfl rfl rfl rfl (by kernel_rfl) (by kernel_rfl) (by kernel_rfl) (by kernel_rfl) (fun _ _ _ h => h) (fun _ h => h) (Val.move rfl rfl) ?_
  refine WPD.take 1 rfl rfl rfl rfl (by kernel_rfl) (by kernel_rfl) (by kernel_rfl) (by kernel_rfl) (fun _ _ _ h => h) (fun _ h => h) (Val.len rfl Ty.sl86 rfl) ?_
  refine WPD.take 2 rfl rfl rfl rfl (by kernel_rfl) (by kernel_rfl) (by kernel_rfl) (by kernel_rfl) (fun _ _ _ h => h) (fun _ h => h) (Val.move rfl rfl) ?_
  refine WPD.take 3 rfl rfl rfl rfl (by kernel_rfl) (by kernel_rfl) (by kernel_rfl) (by kernel_rfl) (fun _ _ _ h => h) (fun _ h => h) (Val.nilCheck rfl rfl) ?_
  refine WPD.take 4 rfl rfl rfl rfl (by kernel_rfl) (by kernel_rfl) (by kernel_rfl) (by kernel_rfl) (fun _ _ _ h => h) (fun _ h => h) (Val.fieldAddr (j := 3) rfl Ty.fo125_3 rfl rfl) ?_
  refine WPD.take 5 rfl rfl rfl rfl (by kernel_rfl) (by kernel_rfl) (by kernel_rfl) (by kernel_rfl) (fun _ _ _ h => h) (fun _ h => h) (Val.load rfl Ty.sc3 rfl (fun w h => h.cell 0 rfl rfl)) ?_
  refine WPD.take 6 rfl rfl rfl rfl (by kernel_rfl) (by kernel_rfl) (by kernel_rfl) (by kernel_rfl) (fun _ _ _ h => h) (fun _ h => h) (Val.add (z := ((p.length + ((pend).length) : Nat) : Int)) rfl rfl rfl ((w64 (by omega) (by omega)).trans (by omega))) ?_
  refine WPD.take 7 rfl rfl rfl rfl (by kernel_rfl) (by kernel_rfl) (by kernel_rfl) (by kernel_rfl) (fun _ _ _ h => h) (fun _ h => h) (Val.move rfl rfl) ?_
  refine WPD.take 8 rfl rfl rfl rfl (by kernel_rfl) (by kernel_rfl) (by kernel_rfl) (by kernel_rfl) (fun _ _ _ h => h) (fun _ h => h) (Val.nilCheck rfl rfl) ?_
  refine WPD.take 9 rfl rfl rfl rfl (by kernel_rfl) (by kernel_rfl) (by kernel_rfl) (by kernel_rfl) (fun _ _ _ h => h) (fun _ h => h) (Val.fieldAddr (j := 5) rfl Ty.fo125_5 rfl rfl) ?_
  refine WPD.take 10 rfl rfl rfl rfl (by kernel_rfl) (by kernel_rfl) (by kernel_rfl) (by kernel_rfl) (fun _ _ _ h => h) (fun _ h => h) (Val.load rfl Ty.sc3 rfl (fun w h => h.cell 0 rfl rfl)) ?_
  refine WPD.take 11 rfl rfl rfl rfl (by kernel_rfl) (by kernel_rfl) (by kernel_rfl) (by kernel_rfl) (fun _ _ _ h => h) (fun _ h => h) (Val.leq rfl rfl rfl) ?_
  refine WPD.done (by kernel_rfl) ?_
  refine Out.next ?_
  refine WPc.ifP rfl (fun h1 => ?_) (fun h1 => ?_)
  · skip
    have h1 : (((p.length + ((pend).length) : Nat) : Int) ≤ ((B : Nat) : Int)) := h1
    refine WPc.seq ?_
    refine WPD.start (Sat W (Blk pw [.iface 76 (.pointer (some ⟨bb, 0, none⟩)), .int .i64 (((off : Nat) : Int)), .int .i64 (((page : Nat) : Int)), .int .i64 ((((pend).length : Nat) : Int)), .slice (some ⟨bf, 0, none⟩) ((B + page)) ((B + page)), .int .i64 (((B : Nat) : Int))] 125 :: Blk bf (byt (pend) ++ byt (junk)) 5 :: Blk bb [wv] 78 :: Own 9 1 wv ((ss).length) (strs (ss)) :: A :: F)) Ty.mixed ?_
    refine WPD.take 0 rfl rfl rfl rfl (by kernel_rfl) (by kernel_rfl) (by kernel_rfl) (by kernel_rfl) (fun _ _ _ h => h) (fun _ h => h) (Val.move rfl rfl) ?_
    refine WPD.take 1 rfl rfl rfl rfl (by kernel_rfl) (by kernel_rfl) (by kernel_rfl) (by kernel_rfl) (fun _ _ _ h => h) (fun _ h => h) (Val.nilCheck rfl rfl) ?_
    refine WPD.take 2 rfl rfl rfl rfl (by kernel_rfl) (by kernel_rfl) (by kernel_rfl) (by kernel_rfl) (fun _ _ _ h => h) (fun _ h => h) (Val.fieldAddr (j := 4) rfl Ty.fo125_4 rfl rfl) ?_
    refine WPD.take 3 rfl rfl rfl rfl (by kernel_rfl) (by kernel_rfl) (by kernel_rfl) (by kernel_rfl) (fun _ _ _ h => h) (fun _ h => h) (Val.load rfl Ty.sc86 rfl (fun w h => h.cell 0 rfl rfl)) ?_
    refine WPD.take 4 rfl rfl rfl rfl (by kernel_rfl) (by kernel_rfl) (by kernel_rfl) (by kernel_rfl) (fun _ _ _ h => h) (fun _ h => h) (Val.move rfl rfl) ?_
    refine WPD.take 5 rfl rfl rfl rfl (by kernel_rfl) (by kernel_rfl) (by kernel_rfl) (by kernel_rfl) (fun _ _ _ h => h) (fun _ h => h) (Val.nilCheck rfl rfl) ?_
    refine WPD.take 6 rfl rfl rfl rfl (by kernel_rfl) (by kernel_rfl) (by kernel_rfl) (by kernel_rfl) (fun _ _ _ h => h) (fun _ h => h) (Val.fieldAddr (j := 3) rfl Ty.fo125_3 rfl rfl) ?_
    refine WPD.take 7 rfl rfl rfl rfl (by kernel_rfl) (by kernel_rfl) (by kernel_rfl) (by kernel_rfl) (fun _ _ _ h => h) (fun _ h => h) (Val.load rfl Ty.sc3 rfl (fun w h => h.cell 0 rfl rfl)) ?_
    refine WPD.take 8 rfl rfl rfl rfl (by kernel_rfl) (by kernel_rfl) (by kernel_rfl) (by kernel_rfl) (fun _ _ _ h => h) (fun _ h => h) (Val.slice (lo := (pend).length) (hi := (B + page)) (j := (pend).length) (vlo := some (.i64, (((pend).length : Nat) : Int))) (vhi := none) rfl Ty.sl86 rfl rfl rfl (by simp [bnd]; try omega) (by simp [bnd]; try omega) (by omega) (by omega) (by omega) (by rw [if_neg (by omega)]; omega)) ?_
    refine WPD.take 9 rfl rfl rfl rfl (by kernel_rfl) (by kernel_rfl) (by kernel_rfl) (by kernel_rfl) (fun _ _ _ h => h) (fun _ h => h) (Val.move rfl rfl) ?_
    refine WPD.perm pl1 ?_
    refine WPD.step 10 (by kernel_rfl) rfl rfl rfl rfl (Eff.copySl (cs := byt p) (C' := byt (pend ++ p) ++ byt (junk.drop p.length)) rfl Ty.sl86 rfl rfl (fun w h => hA w (h.at 4 rfl)) (by simp) (by omega) (byt_one _) (by first | omega | (simp; omega)) (byt_copy (by omega))) ?_
    rintro _ _ ⟨rfl, rfl⟩
    refine ⟨.inr (by kernel_rfl), ?_⟩
    refine WPD.done (by kernel_rfl) ?_
    refine Out.next ?_
    refine WPc.seq ?_
    refine WPc.region ?_
    refine WP.val rfl rfl rfl (Val.move rfl rfl) ?_
    refine WP.val rfl rfl rfl (Val.nilCheck rfl rfl) ?_
    refine WP.val rfl rfl rfl (Val.fieldAddr (j := 3) rfl Ty.fo125_3 rfl rfl) ?_
    refine WP.val rfl rfl rfl (Val.load rfl Ty.sc3 rfl (fun w h => h.cell 1 rfl rfl)) ?_
    refine WP.val rfl rfl rfl (Val.move rfl rfl) ?_
    refine WP.val rfl rfl rfl (Val.len rfl Ty.sl86 rfl) ?_
    refine WP.val rfl rfl rfl (Val.add (z := ((((pend).length) + p.length : Nat) : Int)) rfl rfl rfl ((w64 (by omega) (by omega)).trans (by omega))) ?_
    refine WP.val rfl rfl rfl (Val.nilCheck rfl rfl) ?_
    refine WP.val rfl rfl rfl (Val.fieldAddr (j := 3) rfl Ty.fo125_3 rfl rfl) ?_
    refine WP.perm pl1 ?_
    refine WP.eff0 rfl rfl (Eff.store rfl Ty.sc3 rfl rfl rfl (by simp) st3) ?_
    rintro _ _ rfl
    refine WP.nil ?_
    refine Out.next ?_
    refine WPc.seq ?_
    refine WPc.region ?_
    refine WP.val rfl rfl rfl (Val.move rfl rfl) ?_
    refine WP.val rfl rfl rfl (Val.len rfl Ty.sl86 rfl) ?_
    refine WP.val rfl rfl rfl (Val.assign rfl rfl) ?_
    refine WP.val rfl rfl rfl (Val.assign rfl rfl) ?_
    refine WP.nil ?_
    refine Out.next ?_
    refine WPc.ret ?_
    refine Out.then_ret ?_
    have hwr : wr page B off pend p = ([], off, pend ++ p) := by unfold wr; rw [if_pos (by omega)]
    rw [hwr]
    exact Out.ret2 (L' := _) Try.results34 rfl rfl ⟨wv, junk.drop p.length, by simp; omega, rfl, rfl⟩ (fun w h => by simpa using h)
  · skip
    have h1 : ¬ (((p.length + ((pend).length) : Nat) : Int) ≤ ((B : Nat) : Int)) := h1
    refine WPc.skip ?_
    refine Out.next ?_
    refine WPc.seq ?_
    refine WPD.start (Sat W (Blk pw [.iface 76 (.pointer (some ⟨bb, 0, none⟩)), .int .i64 (((off : Nat) : Int)), .int .i64 (((page : Nat) : Int)), .int .i64 ((((pend).length : Nat) : Int)), .slice (some ⟨bf, 0, none⟩) ((B + page)) ((B + page)), .int .i64 (((B : Nat) : Int))] 125 :: Blk bf (byt (pend) ++ byt (junk)) 5 :: Blk bb [wv] 78 :: Own 9 1 wv ((ss).length) (strs (ss)) :: A :: F)) Ty.mixed ?_
    refine WPD.take 0 rfl rfl rfl rfl (by kernel_rfl) (by kernel_rfl) (by kernel_rfl) (by kernel_rfl) (fun _ _ _ h => h) (fun _ h => h) (Val.move rfl rfl) ?_
    refine WPD.take 1 rfl rfl rfl rfl (by kernel_rfl) (by kernel_rfl) (by kernel_rfl) (by kernel_rfl) (fun _ _ _ h => h) (fun _ h => h) (Val.nilCheck rfl rfl) ?_
    refine WPD.take 2 rfl rfl rfl rfl (by kernel_rfl) (by kernel_rfl) (by kernel_rfl) (by kernel_rfl) (fun _ _ _ h => h) (fun _ h => h) (Val.fieldAddr (j := 2) rfl Ty.fo125_2 rfl rfl) ?_
    refine WPD.take 3 rfl rfl rfl rfl (by kernel_rfl) (by kernel_rfl) (by kernel_rfl) (by kernel_rfl) (fun _ _ _ h => h) (fun _ h => h) (Val.load rfl Ty.sc3 rfl (fun w h => h.cell 0 rfl rfl)) ?_
    refine WPD.take 4 rfl rfl rfl rfl (by kernel_rfl) (by kernel_rfl) (by kernel_rfl) (by kernel_rfl) (fun _ _ _ h => h) (fun _ h => h) (Val.move rfl rfl) ?_
    refine WPD.take 5 rfl rfl rfl rfl (by kernel_rfl) (by kernel_rfl) (by kernel_rfl) (by kernel_rfl) (fun _ _ _ h => h) (fun _ h => h) (Val.nilCheck rfl rfl) ?_
    refine WPD.take 6 rfl rfl rfl rfl (by kernel_rfl) (by kernel_rfl) (by kernel_rfl) (by kernel_rfl) (fun _ _ _ h => h) (fun _ h => h) (Val.fieldAddr (j := 1) rfl Ty.fo125_1 rfl rfl) ?_
    refine WPD.take 7 rfl rfl rfl rfl (by kernel_rfl) (by kernel_rfl) (by kernel_rfl) (by kernel_rfl) (fun _ _ _ h => h) (fun _ h => h) (Val.load rfl Ty.sc3 rfl (fun w h => h.cell 0 rfl rfl)) ?_
    refine WPD.take 8 rfl rfl rfl rfl (by kernel_rfl) (by kernel_rfl) (by kernel_rfl) (by kernel_rfl) (fun _ _ _ h => h) (fun _ h => h) (Val.move rfl rfl) ?_
    refine WPD.take 9 rfl rfl rfl rfl (by kernel_rfl) (by kernel_rfl) (by kernel_rfl) (by kernel_rfl) (fun _ _ _ h => h) (fun _ h => h) (Val.nilCheck rfl rfl) ?_
    refine WPD.take 10 rfl rfl rfl rfl (by kernel_rfl) (by kernel_rfl) (by kernel_rfl) (by kernel_rfl) (fun _ _ _ h => h) (fun _ h => h) (Val.fieldAddr (j := 3) rfl Ty.fo125_3 rfl rfl) ?_
    refine WPD.take 11 rfl rfl rfl rfl (by kernel_rfl) (by kernel_rfl) (by kernel_rfl) (by kernel_rfl) (fun _ _ _ h => h) (fun _ h => h) (Val.load rfl Ty.sc3 rfl (fun w h => h.cell 0 rfl rfl)) ?_
    refine WPD.take 12 rfl rfl rfl rfl (by kernel_rfl) (by kernel_rfl) (by kernel_rfl) (by kernel_rfl) (fun _ _ _ h => h) (fun _ h => h) (Val.add (z := ((off + ((pend).length) : Nat) : Int)) rfl rfl rfl ((w64 (by omega) (by omega)).trans (by omega))) ?_
    refine WPD.take 13 rfl rfl rfl rfl (by kernel_rfl) (by kernel_rfl) (by kernel_rfl) (by kernel_rfl) (fun _ _ _ h => h) (fun _ h => h) (Val.move rfl rfl) ?_
    refine WPD.take 14 rfl rfl rfl rfl (by kernel_rfl) (by kernel_rfl) (by kernel_rfl) (by kernel_rfl) (fun _ _ _ h => h) (fun _ h => h) (Val.nilCheck rfl rfl) ?_
    refine WPD.take 15 rfl rfl rfl rfl (by kernel_rfl) (by kernel_rfl) (by kernel_rfl) (by kernel_rfl) (fun _ _ _ h => h) (fun _ h => h) (Val.fieldAddr (j := 2) rfl Ty.fo125_2 rfl rfl) ?_
    refine WPD.take 16 rfl rfl rfl rfl (by kernel_rfl) (by kernel_rfl) (by kernel_rfl) (by kernel_rfl) (fun _ _ _ h => h) (fun _ h => h) (Val.load rfl Ty.sc3 rfl (fun w h => h.cell 0 rfl rfl)) ?_
    refine WPD.take 17 rfl rfl rfl rfl (by kernel_rfl) (by kernel_rfl) (by kernel_rfl) (by kernel_rfl) (fun _ _ _ h => h) (fun _ h => h) (Val.rem (z := (((off + ((pend).length)) % page : Nat) : Int)) rfl rfl rfl (by omega) (by rfl)) ?_
    refine WPD.take 18 rfl rfl rfl rfl (by kernel_rfl) (by kernel_rfl) (by kernel_rfl) (by kernel_rfl) (fun _ _ _ h => h) (fun _ h => h) (Val.sub (z := ((page - ((off + ((pend).length)) % page) : Nat) : Int)) rfl rfl rfl ((w64 (by omega) (by omega)).trans (by omega))) ?_
    refine WPD.take 19 rfl rfl rfl rfl (by kernel_rfl) (by kernel_rfl) (by kernel_rfl) (by kernel_rfl) (fun _ _ _ h => h) (fun _ h => h) (Val.assign rfl rfl) ?_
    refine WPD.done (by kernel_rfl) ?_
    refine Out.next ?_
    refine WPc.seq ?_
    refine WPc.seq ?_
    refine WPc.know 6 (.int .i64 ((slack page off pend.length : Nat) : Int)) rfl rfl ?_
    refine WPc.region ?_
    refine WP.val rfl rfl rfl (Val.move rfl rfl) ?_
    refine WP.val rfl rfl rfl (Val.move rfl rfl) ?_
    refine WP.val rfl rfl rfl (Val.nilCheck rfl rfl) ?_
    refine WP.val rfl rfl rfl (Val.fieldAddr (j := 2) rfl Ty.fo125_2 rfl rfl) ?_
    refine WP.val rfl rfl rfl (Val.load rfl Ty.sc3 rfl (fun w h => h.cell 0 rfl rfl)) ?_
    refine WP.val rfl rfl rfl (Val.neq rfl rfl rfl) ?_
    refine WP.nil ?_
    refine Out.next ?_
    refine WPc.ifP rfl (fun h2 => ?_) (fun h2 => ?_)
    · skip
      have h2 : ((((slack page off pend.length) : Nat) : Int) ≠ ((page : Nat) : Int)) := h2
      refine WPc.seq ?_
      have hsm := Nat.mod_eq_of_lt (show slack page off pend.length < page by omega)
      refine WPc.region ?_
      refine WP.val rfl rfl rfl (Val.move rfl rfl) ?_
      refine WP.val rfl rfl rfl (Val.move rfl rfl) ?_
      refine WP.val rfl rfl rfl (Val.len rfl Ty.sl86 rfl) ?_
      refine WP.val rfl rfl rfl (Val.gtr rfl rfl rfl) ?_
      refine WP.val rfl rfl rfl (Val.assign rfl rfl) ?_
      refine WP.nil ?_
      refine Out.next ?_
      refine WPc.seq ?_
      refine WPc.seq ?_
      refine WPc.region ?_
      refine WP.val rfl rfl rfl (Val.move rfl rfl) ?_
      refine WP.nil ?_
      refine Out.next ?_
      refine WPc.ifP rfl (fun h3 => ?_) (fun h3 => ?_)
      · skip
        have h3 : (((p.length : Nat) : Int) < (((slack page off pend.length) : Nat) : Int)) := h3
        refine WPc.know 7 (.bool true) rfl (congrArg Value.bool (decide_eq_true h3)) ?_
        refine WPc.region ?_
        refine WP.val rfl rfl rfl (Val.move rfl rfl) ?_
        refine WP.val rfl rfl rfl (Val.len rfl Ty.sl86 rfl) ?_
        refine WP.val rfl rfl rfl (Val.assign rfl rfl) ?_
        refine WP.nil ?_
        refine Out.next ?_
        refine WPc.seq ?_
        refine WPD.start (Sat W (Blk pw [.iface 76 (.pointer (some ⟨bb, 0, none⟩)), .int .i64 (((off : Nat) : Int)), .int .i64 (((page : Nat) : Int)), .int .i64 ((((pend).length : Nat) : Int)), .slice (some ⟨bf, 0, none⟩) ((B + page)) ((B + page)), .int .i64 (((B : Nat) : Int))] 125 :: Blk bf (byt (pend) ++ byt (junk)) 5 :: Blk bb [wv] 78 :: Own 9 1 wv ((ss).length) (strs (ss)) :: A :: F)) Ty.mixed ?_
        refine WPD.take 0 rfl rfl rfl rfl (by kernel_rfl) (by kernel_rfl) (by kernel_rfl) (by kernel_rfl) (fun _ _ _ h => h) (fun _ h => h) (Val.move rfl rfl) ?_
        refine WPD.take 1 rfl rfl rfl rfl (by kernel_rfl) (by kernel_rfl) (by kernel_rfl) (by kernel_rfl) (fun _ _ _ h => h) (fun _ h => h) (Val.nilCheck rfl rfl) ?_
        refine WPD.take 2 rfl rfl rfl rfl (by kernel_rfl) (by kernel_rfl) (by kernel_rfl) (by kernel_rfl) (fun _ _ _ h => h) (fun _ h => h) (Val.fieldAddr (j := 4) rfl Ty.fo125_4 rfl rfl) ?_
        refine WPD.take 3 rfl rfl rfl rfl (by kernel_rfl) (by kernel_rfl) (by kernel_rfl) (by kernel_rfl) (fun _ _ _ h => h) (fun _ h => h) (Val.load rfl Ty.sc86 rfl (fun w h => h.cell 0 rfl rfl)) ?_
        refine WPD.take 4 rfl rfl rfl rfl (by kernel_rfl) (by kernel_rfl) (by kernel_rfl) (by kernel_rfl) (fun _ _ _ h => h) (fun _ h => h) (Val.move rfl rfl) ?_
        refine WPD.take 5 rfl rfl rfl rfl (by kernel_rfl) (by kernel_rfl) (by kernel_rfl) (by kernel_rfl) (fun _ _ _ h => h) (fun _ h => h) (Val.nilCheck rfl rfl) ?_
        refine WPD.take 6 rfl rfl rfl rfl (by kernel_rfl) (by kernel_rfl) (by kernel_rfl) (by kernel_rfl) (fun _ _ _ h => h) (fun _ h => h) (Val.fieldAddr (j := 3) rfl Ty.fo125_3 rfl rfl) ?_
        refine WPD.take 7 rfl rfl rfl rfl (by kernel_rfl) (by kernel_rfl) (by kernel_rfl) (by kernel_rfl) (fun _ _ _ h => h) (fun _ h => h) (Val.load rfl Ty.sc3 rfl (fun w h => h.cell 0 rfl rfl)) ?_
        refine WPD.take 8 rfl rfl rfl rfl (by kernel_rfl) (by kernel_rfl) (by kernel_rfl) (by kernel_rfl) (fun _ _ _ h => h) (fun _ h => h) (Val.slice (lo := (pend).length) (hi := (B + page)) (j := (pend).length) (vlo := some (.i64, (((pend).length : Nat) : Int))) (vhi := none) rfl Ty.sl86 rfl rfl rfl (by simp [bnd]; try omega) (by simp [bnd]; try omega) (by omega) (by omega) (by omega) (by rw [if_neg (by omega)]; omega)) ?_
        refine WPD.take 9 rfl rfl rfl rfl (by kernel_rfl) (by kernel_rfl) (by kernel_rfl) (by kernel_rfl) (fun _ _ _ h => h) (fun _ h => h) (Val.move rfl rfl) ?_
        refine WPD.take 10 rfl rfl rfl rfl (by kernel_rfl) (by kernel_rfl) (by kernel_rfl) (by kernel_rfl) (fun _ _ _ h => h) (fun _ h => h) (Val.move rfl rfl) ?_
        refine WPD.take 11 rfl rfl rfl rfl (by kernel_rfl) (by kernel_rfl) (by kernel_rfl) (by kernel_rfl) (fun _ _ _ h => h) (fun _ h => h) (Val.slice (lo := 0) (hi := p.length) (j := po) (vlo := none) (vhi := some (.i64, ((p.length : Nat) : Int))) rfl Ty.sl86 rfl rfl rfl (by simp [bnd]) (by simp [bnd]; try omega) (by omega) (by omega) (by omega) (by simp)) ?_
        refine WPD.perm pl1 ?_
        refine WPD.step 12 (by kernel_rfl) rfl rfl rfl rfl (Eff.copySl (cs := byt (p)) (C' := byt (pend ++ p) ++ byt (junk.drop (p).length)) rfl Ty.sl86 rfl rfl (fun w h => hA w (h.at 4 rfl)) (by simp) (by omega) (byt_one _) (by first | omega | (simp; omega)) (byt_copy (by first | omega | (simp; omega)))) ?_
        rintro _ _ ⟨rfl, rfl⟩
        refine ⟨.inr (by kernel_rfl), ?_⟩
        refine WPD.done (by kernel_rfl) ?_
        refine Out.next ?_
        refine WPc.seq ?_
        refine WPc.region ?_
        refine WP.val rfl rfl rfl (Val.move rfl rfl) ?_
        refine WP.val rfl rfl rfl (Val.nilCheck rfl rfl) ?_
        refine WP.val rfl rfl rfl (Val.fieldAddr (j := 3) rfl Ty.fo125_3 rfl rfl) ?_
        refine WP.val rfl rfl rfl (Val.load rfl Ty.sc3 rfl (fun w h => h.cell 1 rfl rfl)) ?_
        refine WP.val rfl rfl rfl (Val.move rfl rfl) ?_
        refine WP.val rfl rfl rfl (Val.add (z := ((((pend).length) + p.length : Nat) : Int)) rfl rfl rfl ((w64 (by omega) (by omega)).trans (by omega))) ?_
        refine WP.val rfl rfl rfl (Val.nilCheck rfl rfl) ?_
        refine WP.val rfl rfl rfl (Val.fieldAddr (j := 3) rfl Ty.fo125_3 rfl rfl) ?_
        refine WP.perm pl1 ?_
        refine WP.eff0 rfl rfl (Eff.store rfl Ty.sc3 rfl rfl rfl (by simp) st3) ?_
        rintro _ _ rfl
        refine WP.nil ?_
        refine Out.next ?_
        refine WPc.seq ?_
        refine WPc.region ?_
        refine WP.val rfl rfl rfl (Val.move rfl rfl) ?_
        refine WP.val rfl rfl rfl (Val.assign rfl rfl) ?_
        refine WP.nil ?_
        refine Out.next ?_
        refine WPc.seq ?_
        refine WPc.region ?_
        refine WP.val rfl rfl rfl (Val.move rfl rfl) ?_
        refine WP.val rfl rfl rfl (Val.move rfl rfl) ?_
        refine WP.val rfl rfl rfl (Val.slice (lo := p.length) (hi := p.length) (j := (if pc = p.length then po else po + p.length)) (vlo := some (.i64, ((p.length : Nat) : Int))) (vhi := none) rfl Ty.sl86 rfl rfl rfl (by simp [bnd]; try omega) (by simp [bnd]; try omega) (by omega) (by omega) (by omega) (by simp)) ?_
        refine WP.val rfl rfl rfl (Val.assign rfl rfl) ?_
        refine WP.nil ?_
        refine Out.next ?_
        refine WPc.seq ?_
        refine WPc.region ?_
        refine WP.val rfl rfl rfl (Val.move rfl rfl) ?_
        refine WP.nil ?_
        refine Out.next ?_
        refine WPc.condT rfl rfl ?_
        refine WPc.seq ?_
        refine WPc.region ?_
        refine WP.val rfl rfl rfl (Val.move rfl rfl) ?_
        refine WP.val rfl rfl rfl (Val.assign rfl rfl) ?_
        refine WP.val rfl rfl rfl (Val.assign rfl rfl) ?_
        refine WP.nil ?_
        refine Out.next ?_
        refine WPc.ret ?_
        refine Out.then_ret ?_
        have hwr : wr page B off pend p = ([], off, pend ++ p) := by unfold wr; rw [if_neg (by omega), if_pos (by omega), if_pos (by omega)]
        rw [hwr]
        exact Out.ret2 (L' := _) Try.results34 rfl rfl ⟨wv, junk.drop (p).length, by simp; omega, rfl, rfl⟩ (fun w h => by simpa using h)
      · skip
        have h3 : ¬ (((p.length : Nat) : Int) < (((slack page off pend.length) : Nat) : Int)) := h3
        refine WPc.know 7 (.bool false) rfl (congrArg Value.bool (decide_eq_false h3)) ?_
        refine WPc.skip ?_
        refine Out.next ?_
        refine WPc.seq ?_
        refine WPD.start (Sat W (Blk pw [.iface 76 (.pointer (some ⟨bb, 0, none⟩)), .int .i64 (((off : Nat) : Int)), .int .i64 (((page : Nat) : Int)), .int .i64 ((((pend).length : Nat) : Int)), .slice (some ⟨bf, 0, none⟩) ((B + page)) ((B + page)), .int .i64 (((B : Nat) : Int))] 125 :: Blk bf (byt (pend) ++ byt (junk)) 5 :: Blk bb [wv] 78 :: Own 9 1 wv ((ss).length) (strs (ss)) :: A :: F)) Ty.mixed ?_
        refine WPD.take 0 rfl rfl rfl rfl (by kernel_rfl) (by kernel_rfl) (by kernel_rfl) (by kernel_rfl) (fun _ _ _ h => h) (fun _ h => h) (Val.move rfl rfl) ?_
        refine WPD.take 1 rfl rfl rfl rfl (by kernel_rfl) (by kernel_rfl) (by kernel_rfl) (by kernel_rfl) (fun _ _ _ h => h) (fun _ h => h) (Val.nilCheck rfl rfl) ?_
        refine WPD.take 2 rfl rfl rfl rfl (by kernel_rfl) (by kernel_rfl) (by kernel_rfl) (by kernel_rfl) (fun _ _ _ h => h) (fun _ h => h) (Val.fieldAddr (j := 4) rfl Ty.fo125_4 rfl rfl) ?_
        refine WPD.take 3 rfl rfl rfl rfl (by kernel_rfl) (by kernel_rfl) (by kernel_rfl) (by kernel_rfl) (fun _ _ _ h => h) (fun _ h => h) (Val.load rfl Ty.sc86 rfl (fun w h => h.cell 0 rfl rfl)) ?_
        refine WPD.take 4 rfl rfl rfl rfl (by kernel_rfl) (by kernel_rfl) (by kernel_rfl) (by kernel_rfl) (fun _ _ _ h => h) (fun _ h => h) (Val.move rfl rfl) ?_
        refine WPD.take 5 rfl rfl rfl rfl (by kernel_rfl) (by kernel_rfl) (by kernel_rfl) (by kernel_rfl) (fun _ _ _ h => h) (fun _ h => h) (Val.nilCheck rfl rfl) ?_
        refine WPD.take 6 rfl rfl rfl rfl (by kernel_rfl) (by kernel_rfl) (by kernel_rfl) (by kernel_rfl) (fun _ _ _ h => h) (fun _ h => h) (Val.fieldAddr (j := 3) rfl Ty.fo125_3 rfl rfl) ?_
        refine WPD.take 7 rfl rfl rfl rfl (by kernel_rfl) (by kernel_rfl) (by kernel_rfl) (by kernel_rfl) (fun _ _ _ h => h) (fun _ h => h) (Val.load rfl Ty.sc3 rfl (fun w h => h.cell 0 rfl rfl)) ?_
        refine WPD.take 8 rfl rfl rfl rfl (by kernel_rfl) (by kernel_rfl) (by kernel_rfl) (by kernel_rfl) (fun _ _ _ h => h) (fun _ h => h) (Val.slice (lo := (pend).length) (hi := (B + page)) (j := (pend).length) (vlo := some (.i64, (((pend).length : Nat) : Int))) (vhi := none) rfl Ty.sl86 rfl rfl rfl (by simp [bnd]; try omega) (by simp [bnd]; try omega) (by omega) (by omega) (by omega) (by rw [if_neg (by omega)]; omega)) ?_
        refine WPD.take 9 rfl rfl rfl rfl (by kernel_rfl) (by kernel_rfl) (by kernel_rfl) (by kernel_rfl) (fun _ _ _ h => h) (fun _ h => h) (Val.move rfl rfl) ?_
        refine WPD.take 10 rfl rfl rfl rfl (by kernel_rfl) (by kernel_rfl) (by kernel_rfl) (by kernel_rfl) (fun _ _ _ h => h) (fun _ h => h) (Val.move rfl rfl) ?_
        refine WPD.take 11 rfl rfl rfl rfl (by kernel_rfl) (by kernel_rfl) (by kernel_rfl) (by kernel_rfl) (fun _ _ _ h => h) (fun _ h => h) (Val.slice (lo := 0) (hi := (slack page off pend.length)) (j := po) (vlo := none) (vhi := some (.i64, (((slack page off pend.length) : Nat) : Int))) rfl Ty.sl86 rfl rfl rfl (by simp [bnd]) (by simp [bnd]; try omega) (by omega) (by omega) (by omega) (by simp)) ?_
        refine WPD.perm pl1 ?_
        refine WPD.step 12 (by kernel_rfl) rfl rfl rfl rfl (Eff.copySl (cs := byt (p.take (slack page off pend.length))) (C' := byt (pend ++ p.take (slack page off pend.length)) ++ byt (junk.drop (p.take (slack page off pend.length)).length)) rfl Ty.sl86 rfl rfl (fun w h => rangeAt_take (hA w (h.at 4 rfl))) (by rw [byt_length, List.length_take]; omega) (by omega) (byt_one _) (by first | omega | (simp; omega)) (by have := byt_copy (pend := pend) (junk := junk) (p := p.take (slack page off pend.length)) (by rw [List.length_take]; omega); rw [show ((p.take (slack page off pend.length)).length) = slack page off pend.length from by rw [List.length_take]; omega] at this ⊢; exact this)) ?_
        rintro _ _ ⟨rfl, rfl⟩
        refine ⟨.inr (by kernel_rfl), ?_⟩
        refine WPD.done (by kernel_rfl) ?_
        refine Out.next ?_
        refine WPc.seq ?_
        refine WPc.region ?_
        refine WP.val rfl rfl rfl (Val.move rfl rfl) ?_
        refine WP.val rfl rfl rfl (Val.nilCheck rfl rfl) ?_
        refine WP.val rfl rfl rfl (Val.fieldAddr (j := 3) rfl Ty.fo125_3 rfl rfl) ?_
        refine WP.val rfl rfl rfl (Val.load rfl Ty.sc3 rfl (fun w h => h.cell 1 rfl rfl)) ?_
        refine WP.val rfl rfl rfl (Val.move rfl rfl) ?_
        refine WP.val rfl rfl rfl (Val.add (z := ((((pend).length) + ((slack page off pend.length)) : Nat) : Int)) rfl rfl rfl ((w64 (by omega) (by omega)).trans (by omega))) ?_
        refine WP.val rfl rfl rfl (Val.nilCheck rfl rfl) ?_
        refine WP.val rfl rfl rfl (Val.fieldAddr (j := 3) rfl Ty.fo125_3 rfl rfl) ?_
        refine WP.perm pl1 ?_
        refine WP.eff0 rfl rfl (Eff.store rfl Ty.sc3 rfl rfl rfl (by simp) st3) ?_
        rintro _ _ rfl
        refine WP.nil ?_
        refine Out.next ?_
        refine WPc.seq ?_
        refine WPc.region ?_
        refine WP.val rfl rfl rfl (Val.move rfl rfl) ?_
        refine WP.val rfl rfl rfl (Val.assign rfl rfl) ?_
        refine WP.nil ?_
        refine Out.next ?_
        refine WPc.seq ?_
        refine WPc.region ?_
        refine WP.val rfl rfl rfl (Val.move rfl rfl) ?_
        refine WP.val rfl rfl rfl (Val.move rfl rfl) ?_
        refine WP.val rfl rfl rfl (Val.slice (lo := (slack page off pend.length)) (hi := p.length) (j := (if pc = (slack page off pend.length) then po else po + ((slack page off pend.length)))) (vlo := some (.i64, (((slack page off pend.length) : Nat) : Int))) (vhi := none) rfl Ty.sl86 rfl rfl rfl (by simp [bnd]; try omega) (by simp [bnd]; try omega) (by omega) (by omega) (by omega) (by simp)) ?_
        refine WP.val rfl rfl rfl (Val.assign rfl rfl) ?_
        refine WP.nil ?_
        refine Out.next ?_
        refine WPc.seq ?_
        refine WPc.region ?_
        refine WP.val rfl rfl rfl (Val.move rfl rfl) ?_
        refine WP.nil ?_
        refine Out.next ?_
        refine WPc.condF rfl rfl ?_
        refine WPc.skip ?_
        refine Out.next ?_
        refine WPc.seq ?_
        refine WPc.seq ?_
        refine WPc.know 1 (.slice (some ⟨pb, (if pc = (slack page off pend.length) then po else po + (slack page off pend.length)), none⟩) (p.drop (slack page off pend.length)).length (pc - (slack page off pend.length))) rfl (by rw [List.length_drop]) ?_
        have hl1 : (p.drop (slack page off pend.length)).length = p.length - (slack page off pend.length) := List.length_drop ..
        refine WPc.conv (M := Blk pw [.iface 76 (.pointer (some ⟨bb, 0, none⟩)), .int .i64 (((off : Nat) : Int)), .int .i64 (((page : Nat) : Int)), .int .i64 ((((pend ++ p.take (slack page off pend.length)).length : Nat) : Int)), .slice (some ⟨bf, 0, none⟩) ((B + page)) ((B + page)), .int .i64 (((B : Nat) : Int))] 125 :: Blk bf (byt (pend ++ p.take (slack page off pend.length)) ++ byt (junk.drop (p.take (slack page off pend.length)).length)) 5 :: Blk bb [wv] 78 :: Own 9 1 wv ((ss).length) (strs (ss)) :: A :: F) (fun w h => by rw [show (pend ++ p.take (slack page off pend.length)).length = pend.length + (slack page off pend.length) from by rw [List.length_append, List.length_take]; omega]; exact h) ?_
        refine WPc.region ?_
        refine WP.val rfl rfl rfl (Val.move rfl rfl) ?_
        refine WP.perm pl3 ?_
        refine WP.perm pl3 ?_
        refine WP.perm pl3 ?_
        refine WP.perm pl3 ?_
        refine WP.eff rfl rfl rfl (Eff.call rfl rfl Try.call33 (Flush_spec pw bb bf page B (off) (pend ++ p.take (slack page off pend.length)) (junk.drop (p.take (slack page off pend.length)).length) (ss) wv hp hpb hB (by omega) (by first | omega | (simp; omega)) (by first | omega | (simp; omega)))) ?_
        rintro _ _ ⟨_, ⟨wv1, jk1, hj1, rfl, rfl⟩, rfl⟩
        show WP _ _ _ _ _ _ _ (Blk pw [.iface 76 (.pointer (some ⟨bb, 0, none⟩)), .int .i64 (((offs page (off) (pend ++ p.take (slack page off pend.length)) : Nat) : Int)), .int .i64 (((page : Nat) : Int)), .int .i64 (((([] : List UInt8).length : Nat) : Int)), .slice (some ⟨bf, 0, none⟩) ((B + page)) ((B + page)), .int .i64 (((B : Nat) : Int))] 125 :: Blk bf (byt (([] : List UInt8)) ++ byt (jk1)) 5 :: Blk bb [wv1] 78 :: Own 9 1 wv1 ((ss ++ (outs (pend ++ p.take (slack page off pend.length))).map str).length) (strs (ss ++ (outs (pend ++ p.take (slack page off pend.length))).map str)) :: A :: F)
        refine WP.val rfl rfl rfl (Val.assign rfl rfl) ?_
        refine WP.nil ?_
        refine Out.next ?_
        refine WPc.seq ?_
        have hoff2 : offs page (off) (pend ++ p.take (slack page off pend.length)) ≤ 4294967296 := offs_le hp hpb hB hoff
        have hol := outs_len (q := pend ++ p.take (slack page off pend.length))
        refine WPc.region ?_
        refine WP.val rfl rfl rfl (Val.move rfl rfl) ?_
        refine WP.val rfl rfl rfl (Val.nilIn rfl Ty.if82 rfl) ?_
        refine WP.nil ?_
        refine Out.next ?_
        refine WPc.condF rfl rfl ?_
        refine WPc.skip ?_
        refine Out.next ?_
        refine WPc.seq ?_
        refine WPc.seq ?_
        refine WPc.region ?_
        refine WP.val rfl rfl rfl (Val.move rfl rfl) ?_
        refine WP.val rfl rfl rfl (Val.len rfl Ty.sl86 rfl) ?_
        refine WP.val rfl rfl rfl (Val.move rfl rfl) ?_
        refine WP.val rfl rfl rfl (Val.nilCheck rfl rfl) ?_
        refine WP.val rfl rfl rfl (Val.fieldAddr (j := 2) rfl Ty.fo125_2 rfl rfl) ?_
        refine WP.val rfl rfl rfl (Val.load rfl Ty.sc3 rfl (fun w h => h.cell 0 rfl rfl)) ?_
        refine WP.val rfl rfl rfl (Val.gtr rfl rfl rfl) ?_
        refine WP.nil ?_
        refine Out.next ?_
        refine WPc.ifP rfl (fun h4 => ?_) (fun h4 => ?_)
        · skip
          have h4 : (((page : Nat) : Int) < (((p.drop (slack page off pend.length)).length : Nat) : Int)) := h4
          refine WPc.seq ?_
          have hq := Nat.div_mul_le_self (p.drop (slack page off pend.length)).length page
          have hq2 := Nat.div_le_self (p.drop (slack page off pend.length)).length page
          have hq3 := Nat.mod_lt (p.drop (slack page off pend.length)).length hp
          have hq4 := Nat.div_add_mod (p.drop (slack page off pend.length)).length page
          rw [Nat.mul_comm] at hq4
          have hq5 : (0 : Int) ≤ (((p.drop (slack page off pend.length)).length / page : Nat) : Int) := Int.natCast_nonneg _
          refine WPc.region ?_
          refine WP.val rfl rfl rfl (Val.move rfl rfl) ?_
          refine WP.val rfl rfl rfl (Val.len rfl Ty.sl86 rfl) ?_
          refine WP.val rfl rfl rfl (Val.move rfl rfl) ?_
          refine WP.val rfl rfl rfl (Val.nilCheck rfl rfl) ?_
          refine WP.val rfl rfl rfl (Val.fieldAddr (j := 2) rfl Ty.fo125_2 rfl rfl) ?_
          refine WP.val rfl rfl rfl (Val.load rfl Ty.sc3 rfl (fun w h => h.cell 0 rfl rfl)) ?_
          refine WP.val rfl rfl rfl (Val.quo (z := ((((p.drop (slack page off pend.length)).length) / page : Nat) : Int)) rfl rfl rfl (by omega) (show IntKind.i64.wrap ((((p.drop (slack page off pend.length)).length) / page : Nat) : Int) = _ from w64 (by omega) (by omega))) ?_
          refine WP.val rfl rfl rfl (Val.assign rfl rfl) ?_
          refine WP.nil ?_
          refine Out.next ?_
          refine WPc.seq ?_
          refine WPD.start (Sat W [Blk pw [.iface 76 (.pointer (some ⟨bb, 0, none⟩)), .int .i64 (((offs page (off) (pend ++ p.take (slack page off pend.length)) : Nat) : Int)), .int .i64 (((page : Nat) : Int)), .int .i64 (((([] : List UInt8).length : Nat) : Int)), .slice (some ⟨bf, 0, none⟩) ((B + page)) ((B + page)), .int .i64 (((B : Nat) : Int))] 125]) Ty.mixed ?_
          refine WPD.take 0 rfl rfl rfl rfl (by kernel_rfl) (by kernel_rfl) (by kernel_rfl) (by kernel_rfl) (fun _ _ _ h => h) (fun w h => (h).dropEnd (L := [_])) (Val.move rfl rfl) ?_
          refine WPD.take 1 rfl rfl rfl rfl (by kernel_rfl) (by kernel_rfl) (by kernel_rfl) (by kernel_rfl) (fun _ _ _ h => h) (fun w h => (h).dropEnd (L := [_])) (Val.nilCheck rfl rfl) ?_
          refine WPD.take 2 rfl rfl rfl rfl (by kernel_rfl) (by kernel_rfl) (by kernel_rfl) (by kernel_rfl) (fun _ _ _ h => h) (fun w h => (h).dropEnd (L := [_])) (Val.fieldAddr (j := 0) rfl Ty.fo125_0 rfl rfl) ?_
          refine WPD.take 3 rfl rfl rfl rfl (by kernel_rfl) (by kernel_rfl) (by kernel_rfl) (by kernel_rfl) (fun _ _ _ h => h) (fun w h => (h).dropEnd (L := [_])) (Val.load rfl Ty.sc122 rfl (fun w h => h.cell 0 rfl rfl)) ?_
          refine WPD.take 4 rfl rfl rfl rfl (by kernel_rfl) (by kernel_rfl) (by kernel_rfl) (by kernel_rfl) (fun _ _ _ h => h) (fun w h => (h).dropEnd (L := [_])) (Val.move rfl rfl) ?_
          refine WPD.take 5 rfl rfl rfl rfl (by kernel_rfl) (by kernel_rfl) (by kernel_rfl) (by kernel_rfl) (fun _ _ _ h => h) (fun w h => (h).dropEnd (L := [_])) (Val.move rfl rfl) ?_
          refine WPD.take 6 rfl rfl rfl rfl (by kernel_rfl) (by kernel_rfl) (by kernel_rfl) (by kernel_rfl) (fun _ _ _ h => h) (fun w h => (h).dropEnd (L := [_])) (Val.move rfl rfl) ?_
          refine WPD.take 7 rfl rfl rfl rfl (by kernel_rfl) (by kernel_rfl) (by kernel_rfl) (by kernel_rfl) (fun _ _ _ h => h) (fun w h => (h).dropEnd (L := [_])) (Val.nilCheck rfl rfl) ?_
          refine WPD.take 8 rfl rfl rfl rfl (by kernel_rfl) (by kernel_rfl) (by kernel_rfl) (by kernel_rfl) (fun _ _ _ h => h) (fun w h => (h).dropEnd (L := [_])) (Val.fieldAddr (j := 2) rfl Ty.fo125_2 rfl rfl) ?_
          refine WPD.take 9 rfl rfl rfl rfl (by kernel_rfl) (by kernel_rfl) (by kernel_rfl) (by kernel_rfl) (fun _ _ _ h => h) (fun w h => (h).dropEnd (L := [_])) (Val.load rfl Ty.sc3 rfl (fun w h => h.cell 0 rfl rfl)) ?_
          refine WPD.take 10 rfl rfl rfl rfl (by kernel_rfl) (by kernel_rfl) (by kernel_rfl) (by kernel_rfl) (fun _ _ _ h => h) (fun w h => (h).dropEnd (L := [_])) (Val.mul (z := (((((p.drop (slack page off pend.length)).length) / page) * page : Nat) : Int)) rfl rfl rfl ((w64 (by omega) (by omega)).trans (by omega))) ?_
          refine WPD.take 11 rfl rfl rfl rfl (by kernel_rfl) (by kernel_rfl) (by kernel_rfl) (by kernel_rfl) (fun _ _ _ h => h) (fun w h => (h).dropEnd (L := [_])) (Val.slice (lo := 0) (hi := (((p.drop (slack page off pend.length)).length) / page) * page) (j := (if pc = (slack page off pend.length) then po else po + (slack page off pend.length))) (vlo := none) (vhi := some (.i64, (((((p.drop (slack page off pend.length)).length) / page) * page : Nat) : Int))) rfl Ty.sl86 rfl rfl rfl (by simp [bnd]) (by simp [bnd]; try omega) (by omega) (by omega) (by omega) (by simp)) ?_
          refine WPD.take 12 rfl rfl rfl rfl (by kernel_rfl) (by kernel_rfl) (by kernel_rfl) (by kernel_rfl) (fun _ _ _ h => h) (fun w h => (h).dropEnd (L := [_])) (Val.nilCheckI rfl rfl) ?_
          refine WPD.take 13 rfl rfl rfl rfl (by kernel_rfl) (by kernel_rfl) (by kernel_rfl) (by kernel_rfl) (fun _ _ _ h => h) (fun w h => (h).dropEnd (L := [_])) (Val.move rfl rfl) ?_
          have hl2 : ((p.drop (slack page off pend.length)).take ((p.drop (slack page off pend.length)).length / page * page)).length = ((p.drop (slack page off pend.length)).length / page * page) := by rw [List.length_take]; omega
          refine WPD.know 138 (.slice (some ⟨pb, (if pc = (slack page off pend.length) then po else po + (slack page off pend.length)), none⟩) ((p.drop (slack page off pend.length)).take ((p.drop (slack page off pend.length)).length / page * page)).length (pc - (slack page off pend.length))) rfl (by rw [hl2]; rfl) ?_
          refine WPD.perm pl4 ?_
          refine WPD.perm pl3 ?_
          refine WPD.perm pl4 ?_
          refine WPD.step 14 (by kernel_rfl) rfl rfl rfl rfl (Eff.invoke (f := 161) rfl rfl rfl (fun _ => by kernel_rfl) Try.call161 (below_spec A bb pb ((if pc = (slack page off pend.length) then po else po + (slack page off pend.length))) (pc - (slack page off pend.length)) ((p.drop (slack page off pend.length)).take ((p.drop (slack page off pend.length)).length / page * page)) (ss ++ (outs (pend ++ p.take (slack page off pend.length))).map str) wv1 (fun w h => rangeAt_take (rangeAt_cut (hA w h) hpc)) (by omega) (by simp; omega))) ?_
          rintro _ _ ⟨_, ⟨wv2, rfl, rfl⟩, rfl⟩
          refine ⟨.inl (fun w h => ((h.perm pl3)).dropEnd (L := [_])), ?_⟩
          show WPD _ _ _ _ _ _ _ _ _ (Blk bb [wv2] 78 :: Own 9 1 wv2 ((ss ++ (outs (pend ++ p.take (slack page off pend.length))).map str ++ [str ((p.drop (slack page off pend.length)).take ((p.drop (slack page off pend.length)).length / page * page))]).length) (strs (ss ++ (outs (pend ++ p.take (slack page off pend.length))).map str ++ [str ((p.drop (slack page off pend.length)).take ((p.drop (slack page off pend.length)).length / page * page))])) :: A :: Blk pw [.iface 76 (.pointer (some ⟨bb, 0, none⟩)), .int .i64 (((offs page (off) (pend ++ p.take (slack page off pend.length)) : Nat) : Int)), .int .i64 (((page : Nat) : Int)), .int .i64 (((([] : List UInt8).length : Nat) : Int)), .slice (some ⟨bf, 0, none⟩) ((B + page)) ((B + page)), .int .i64 (((B : Nat) : Int))] 125 :: Blk bf (byt (([] : List UInt8)) ++ byt (jk1)) 5 :: F)
          refine WPD.take 15 rfl rfl rfl rfl (by kernel_rfl) (by kernel_rfl) (by kernel_rfl) (by kernel_rfl) (fun _ _ _ h => h) (fun w h => ((h.perm pl3)).dropEnd (L := [_])) (Val.move rfl rfl) ?_
          refine WPD.take 16 rfl rfl rfl rfl (by kernel_rfl) (by kernel_rfl) (by kernel_rfl) (by kernel_rfl) (fun _ _ _ h => h) (fun w h => ((h.perm pl3)).dropEnd (L := [_])) (Val.extract rfl rfl rfl) ?_
          refine WPD.take 17 rfl rfl rfl rfl (by kernel_rfl) (by kernel_rfl) (by kernel_rfl) (by kernel_rfl) (fun _ _ _ h => h) (fun w h => ((h.perm pl3)).dropEnd (L := [_])) (Val.extract rfl rfl rfl) ?_
          refine WPD.take 18 rfl rfl rfl rfl (by kernel_rfl) (by kernel_rfl) (by kernel_rfl) (by kernel_rfl) (fun _ _ _ h => h) (fun w h => ((h.perm pl3)).dropEnd (L := [_])) (Val.assign rfl rfl) ?_
          refine WPD.take 19 rfl rfl rfl rfl (by kernel_rfl) (by kernel_rfl) (by kernel_rfl) (by kernel_rfl) (fun _ _ _ h => h) (fun w h => ((h.perm pl3)).dropEnd (L := [_])) (Val.assign rfl rfl) ?_
          refine WPD.done (by kernel_rfl) ?_
          refine Out.next ?_
          refine WPc.seq ?_
          refine WPc.region ?_
          refine WP.val rfl rfl rfl (Val.move rfl rfl) ?_
          refine WP.val rfl rfl rfl (Val.move rfl rfl) ?_
          refine WP.val rfl rfl rfl (Val.add (z := ((((slack page off pend.length)) + (((p.drop (slack page off pend.length)).take ((p.drop (slack page off pend.length)).length / page * page)).length) : Nat) : Int)) rfl rfl rfl ((w64 (by omega) (by omega)).trans (by omega))) ?_
          refine WP.val rfl rfl rfl (Val.assign rfl rfl) ?_
          refine WP.nil ?_
          refine Out.next ?_
          refine WPc.seq ?_
          refine WPc.seq ?_
          refine WPc.region ?_
          refine WP.val rfl rfl rfl (Val.move rfl rfl) ?_
          refine WP.val rfl rfl rfl (Val.nilIn rfl Ty.if82 rfl) ?_
          refine WP.nil ?_
          refine Out.next ?_
          refine WPc.condF rfl rfl ?_
          refine WPc.skip ?_
          refine Out.next ?_
          refine WPc.region ?_
          refine WP.val rfl rfl rfl (Val.move rfl rfl) ?_
          refine WP.val rfl rfl rfl (Val.move rfl rfl) ?_
          refine WP.val rfl rfl rfl (Val.move rfl rfl) ?_
          refine WP.val rfl rfl rfl (Val.nilCheck rfl rfl) ?_
          refine WP.val rfl rfl rfl (Val.fieldAddr (j := 2) rfl Ty.fo125_2 rfl rfl) ?_
          refine WP.val rfl rfl rfl (Val.load rfl Ty.sc3 rfl (fun w h => h.cell 3 rfl rfl)) ?_
          refine WP.val rfl rfl rfl (Val.mul (z := (((((p.drop (slack page off pend.length)).length) / page) * page : Nat) : Int)) rfl rfl rfl ((w64 (by omega) (by omega)).trans (by omega))) ?_
          refine WP.val rfl rfl rfl (Val.slice (lo := (((p.drop (slack page off pend.length)).length) / page) * page) (hi := (p.drop (slack page off pend.length)).length) (j := (if pc - (slack page off pend.length) = (((p.drop (slack page off pend.length)).length) / page) * page then (if pc = (slack page off pend.length) then po else po + (slack page off pend.length)) else (if pc = (slack page off pend.length) then po else po + (slack page off pend.length)) + ((((p.drop (slack page off pend.length)).length) / page) * page))) (vlo := some (.i64, (((((p.drop (slack page off pend.length)).length) / page) * page : Nat) : Int))) (vhi := none) rfl Ty.sl86 rfl rfl rfl (by simp [bnd]; try omega) (by simp [bnd]; try omega) (by omega) (by omega) (by omega) (by simp)) ?_
          refine WP.val rfl rfl rfl (Val.assign rfl rfl) ?_
          refine WP.nil ?_
          refine Out.next ?_
          refine WPc.seq ?_
          have hl3 : ((p.drop (slack page off pend.length)).drop ((p.drop (slack page off pend.length)).length / page * page)).length = (p.drop (slack page off pend.length)).length - ((p.drop (slack page off pend.length)).length / page * page) := List.length_drop ..
          refine WPc.know 1 (.slice (some ⟨pb, (if pc - (slack page off pend.length) = (((p.drop (slack page off pend.length)).length) / page) * page then (if pc = (slack page off pend.length) then po else po + (slack page off pend.length)) else (if pc = (slack page off pend.length) then po else po + (slack page off pend.length)) + ((((p.drop (slack page off pend.length)).length) / page) * page)), none⟩) ((p.drop (slack page off pend.length)).drop ((p.drop (slack page off pend.length)).length / page * page)).length ((pc - (slack page off pend.length)) - ((((p.drop (slack page off pend.length)).length) / page) * page))) rfl (by rw [hl3]) ?_
          refine WPc.region ?_
          refine WP.val rfl rfl rfl (Val.move rfl rfl) ?_
          refine WP.val rfl rfl rfl (Val.move rfl rfl) ?_
          refine WP.perm pl2 ?_
          refine WP.perm pl2 ?_
          refine WP.perm pl2 ?_
          refine WP.perm pl4 ?_
          refine WP.perm pl4 ?_
          refine WP.eff rfl rfl rfl (Eff.call rfl rfl Try.call34 (small_spec pw bb bf page B (offs page (off) (pend ++ p.take (slack page off pend.length))) [] jk1 (ss ++ (outs (pend ++ p.take (slack page off pend.length))).map str ++ [str ((p.drop (slack page off pend.length)).take ((p.drop (slack page off pend.length)).length / page * page))]) wv2 hp hpb hB hoff2 (by simpa using hj1) (by simp; omega) A pb ((if pc - (slack page off pend.length) = (((p.drop (slack page off pend.length)).length) / page) * page then (if pc = (slack page off pend.length) then po else po + (slack page off pend.length)) else (if pc = (slack page off pend.length) then po else po + (slack page off pend.length)) + ((((p.drop (slack page off pend.length)).length) / page) * page))) ((pc - (slack page off pend.length)) - ((((p.drop (slack page off pend.length)).length) / page) * page)) ((p.drop (slack page off pend.length)).drop ((p.drop (slack page off pend.length)).length / page * page)) (fun w h => rangeAt_cut (rangeAt_cut (hA w h) hpc) (by omega)) (by omega) (by omega) (by simp only [List.length_nil]; omega))) ?_
          rintro _ _ ⟨_, ⟨wv3, jk3, hj3, rfl, rfl⟩, rfl⟩
          show WP _ _ _ _ _ _ _ (Blk pw [.iface 76 (.pointer (some ⟨bb, 0, none⟩)), .int .i64 (((offs page (off) (pend ++ p.take (slack page off pend.length)) : Nat) : Int)), .int .i64 (((page : Nat) : Int)), .int .i64 (((([] ++ ((p.drop (slack page off pend.length)).drop ((p.drop (slack page off pend.length)).length / page * page))).length : Nat) : Int)), .slice (some ⟨bf, 0, none⟩) ((B + page)) ((B + page)), .int .i64 (((B : Nat) : Int))] 125 :: Blk bf (byt ([] ++ ((p.drop (slack page off pend.length)).drop ((p.drop (slack page off pend.length)).length / page * page))) ++ byt (jk3)) 5 :: Blk bb [wv3] 78 :: Own 9 1 wv3 ((ss ++ (outs (pend ++ p.take (slack page off pend.length))).map str ++ [str ((p.drop (slack page off pend.length)).take ((p.drop (slack page off pend.length)).length / page * page))]).length) (strs (ss ++ (outs (pend ++ p.take (slack page off pend.length))).map str ++ [str ((p.drop (slack page off pend.length)).take ((p.drop (slack page off pend.length)).length / page * page))])) :: A :: F)
          refine WP.val rfl rfl rfl (Val.move rfl rfl) ?_
          refine WP.val rfl rfl rfl (Val.extract rfl rfl rfl) ?_
          refine WP.val rfl rfl rfl (Val.extract rfl rfl rfl) ?_
          refine WP.val rfl rfl rfl (Val.assign rfl rfl) ?_
          refine WP.val rfl rfl rfl (Val.assign rfl rfl) ?_
          refine WP.nil ?_
          refine Out.next ?_
          refine WPc.seq ?_
          refine WPc.region ?_
          refine WP.val rfl rfl rfl (Val.move rfl rfl) ?_
          refine WP.val rfl rfl rfl (Val.move rfl rfl) ?_
          refine WP.val rfl rfl rfl (Val.add (z := (((((slack page off pend.length)) + (((p.drop (slack page off pend.length)).take ((p.drop (slack page off pend.length)).length / page * page)).length)) + (((p.drop (slack page off pend.length)).drop ((p.drop (slack page off pend.length)).length / page * page)).length) : Nat) : Int)) rfl rfl rfl ((w64 (by omega) (by omega)).trans (by omega))) ?_
          refine WP.val rfl rfl rfl (Val.assign rfl rfl) ?_
          refine WP.nil ?_
          refine Out.next ?_
          refine WPc.seq ?_
          refine WPc.know 4 (.int .i64 ((p.length : Nat) : Int)) rfl (by congr 1; omega) ?_
          refine WPc.region ?_
          refine WP.val rfl rfl rfl (Val.move rfl rfl) ?_
          refine WP.val rfl rfl rfl (Val.move rfl rfl) ?_
          refine WP.val rfl rfl rfl (Val.assign rfl rfl) ?_
          refine WP.val rfl rfl rfl (Val.assign rfl rfl) ?_
          refine WP.nil ?_
          refine Out.next ?_
          refine WPc.ret ?_
          have hwr : wr page B off pend p = (outs (pend ++ p.take (slack page off pend.length)) ++ [(p.drop (slack page off pend.length)).take ((p.drop (slack page off pend.length)).length / page * page)], offs page (off) (pend ++ p.take (slack page off pend.length)), ((p.drop (slack page off pend.length)).drop ((p.drop (slack page off pend.length)).length / page * page))) := by unfold wr; rw [if_neg (by omega), if_pos (show slack page off pend.length ≠ page by omega), if_neg (show ¬ (p.length < slack page off pend.length) by omega)]; unfold rest; rw [if_pos (show page < (p.drop (slack page off pend.length)).length by omega)]
          rw [hwr]
          exact Out.ret2 (L' := _) Try.results34 rfl rfl ⟨wv3, jk3, by simpa using hj3, rfl, rfl⟩ (fun w h => by simpa using h)
        · skip
          have h4 : ¬ (((page : Nat) : Int) < (((p.drop (slack page off pend.length)).length : Nat) : Int)) := h4
          refine WPc.skip ?_
          refine Out.next ?_
          refine WPc.seq ?_
          refine WPc.region ?_
          refine WP.val rfl rfl rfl (Val.move rfl rfl) ?_
          refine WP.val rfl rfl rfl (Val.move rfl rfl) ?_
          refine WP.perm pl4 ?_
          refine WP.perm pl4 ?_
          refine WP.perm pl4 ?_
          refine WP.perm pl4 ?_
          refine WP.perm pl4 ?_
          refine WP.eff rfl rfl rfl (Eff.call rfl rfl Try.call34 (small_spec pw bb bf page B (offs page (off) (pend ++ p.take (slack page off pend.length))) [] jk1 (ss ++ (outs (pend ++ p.take (slack page off pend.length))).map str) wv1 hp hpb hB hoff2 (by simpa using hj1) (by simp; omega) A pb ((if pc = (slack page off pend.length) then po else po + (slack page off pend.length))) (pc - (slack page off pend.length)) (p.drop (slack page off pend.length)) (fun w h => rangeAt_cut (hA w h) hpc) (by omega) (by omega) (by simp only [List.length_nil]; omega))) ?_
          rintro _ _ ⟨_, ⟨wv4, jk4, hj4, rfl, rfl⟩, rfl⟩
          show WP _ _ _ _ _ _ _ (Blk pw [.iface 76 (.pointer (some ⟨bb, 0, none⟩)), .int .i64 (((offs page (off) (pend ++ p.take (slack page off pend.length)) : Nat) : Int)), .int .i64 (((page : Nat) : Int)), .int .i64 (((([] ++ (p.drop (slack page off pend.length))).length : Nat) : Int)), .slice (some ⟨bf, 0, none⟩) ((B + page)) ((B + page)), .int .i64 (((B : Nat) : Int))] 125 :: Blk bf (byt ([] ++ (p.drop (slack page off pend.length))) ++ byt (jk4)) 5 :: Blk bb [wv4] 78 :: Own 9 1 wv4 ((ss ++ (outs (pend ++ p.take (slack page off pend.length))).map str).length) (strs (ss ++ (outs (pend ++ p.take (slack page off pend.length))).map str)) :: A :: F)
          refine WP.val rfl rfl rfl (Val.move rfl rfl) ?_
          refine WP.val rfl rfl rfl (Val.extract rfl rfl rfl) ?_
          refine WP.val rfl rfl rfl (Val.extract rfl rfl rfl) ?_
          refine WP.val rfl rfl rfl (Val.assign rfl rfl) ?_
          refine WP.val rfl rfl rfl (Val.assign rfl rfl) ?_
          refine WP.nil ?_
          refine Out.next ?_
          refine WPc.seq ?_
          refine WPc.region ?_
          refine WP.val rfl rfl rfl (Val.move rfl rfl) ?_
          refine WP.val rfl rfl rfl (Val.move rfl rfl) ?_
          refine WP.val rfl rfl rfl (Val.add (z := ((((slack page off pend.length)) + ((p.drop (slack page off pend.length)).length) : Nat) : Int)) rfl rfl rfl ((w64 (by omega) (by omega)).trans (by omega))) ?_
          refine WP.val rfl rfl rfl (Val.assign rfl rfl) ?_
          refine WP.nil ?_
          refine Out.next ?_
          refine WPc.seq ?_
          refine WPc.know 4 (.int .i64 ((p.length : Nat) : Int)) rfl (by congr 1; omega) ?_
          refine WPc.region ?_
          refine WP.val rfl rfl rfl (Val.move rfl rfl) ?_
          refine WP.val rfl rfl rfl (Val.move rfl rfl) ?_
          refine WP.val rfl rfl rfl (Val.assign rfl rfl) ?_
          refine WP.val rfl rfl rfl (Val.assign rfl rfl) ?_
          refine WP.nil ?_
          refine Out.next ?_
          refine WPc.ret ?_
          have hwr : wr page B off pend p = (outs (pend ++ p.take (slack page off pend.length)), offs page (off) (pend ++ p.take (slack page off pend.length)), (p.drop (slack page off pend.length))) := by unfold wr; rw [if_neg (by omega), if_pos (show slack page off pend.length ≠ page by omega), if_neg (show ¬ (p.length < slack page off pend.length) by omega)]; unfold rest; rw [if_neg (show ¬ (page < (p.drop (slack page off pend.length)).length) by omega)]
          rw [hwr]
          exact Out.ret2 (L' := _) Try.results34 rfl rfl ⟨wv4, jk4, by simpa using hj4, rfl, rfl⟩ (fun w h => by simpa using h)
    · skip
      have h2 : ¬ ((((slack page off pend.length) : Nat) : Int) ≠ ((page : Nat) : Int)) := h2
      refine WPc.skip ?_
      refine Out.next ?_
      refine WPc.seq ?_
      refine WPc.seq ?_
      refine WPc.region ?_
      refine WP.val rfl rfl rfl (Val.move rfl rfl) ?_
      refine WP.perm pl3 ?_
      refine WP.perm pl3 ?_
      refine WP.perm pl3 ?_
      refine WP.perm pl3 ?_
      refine WP.eff rfl rfl rfl (Eff.call rfl rfl Try.call33 (Flush_spec pw bb bf page B (off) (pend) junk (ss) wv hp hpb hB (by omega) (by first | omega | (simp; omega)) (by first | omega | (simp; omega)))) ?_
      rintro _ _ ⟨_, ⟨wv5, jk5, hj5, rfl, rfl⟩, rfl⟩
      show WP _ _ _ _ _ _ _ (Blk pw [.iface 76 (.pointer (some ⟨bb, 0, none⟩)), .int .i64 (((offs page (off) (pend) : Nat) : Int)), .int .i64 (((page : Nat) : Int)), .int .i64 (((([] : List UInt8).length : Nat) : Int)), .slice (some ⟨bf, 0, none⟩) ((B + page)) ((B + page)), .int .i64 (((B : Nat) : Int))] 125 :: Blk bf (byt (([] : List UInt8)) ++ byt (jk5)) 5 :: Blk bb [wv5] 78 :: Own 9 1 wv5 ((ss ++ (outs (pend)).map str).length) (strs (ss ++ (outs (pend)).map str)) :: A :: F)
      refine WP.val rfl rfl rfl (Val.assign rfl rfl) ?_
      refine WP.nil ?_
      refine Out.next ?_
      refine WPc.seq ?_
      have hoff2 : offs page (off) (pend) ≤ 4294967296 := offs_le hp hpb hB hoff
      have hol := outs_len (q := pend)
      refine WPc.region ?_
      refine WP.val rfl rfl rfl (Val.move rfl rfl) ?_
      refine WP.val rfl rfl rfl (Val.nilIn rfl Ty.if82 rfl) ?_
      refine WP.nil ?_
      refine Out.next ?_
      refine WPc.condF rfl rfl ?_
      refine WPc.skip ?_
      refine Out.next ?_
      refine WPc.seq ?_
      refine WPc.seq ?_
      refine WPc.region ?_
      refine WP.val rfl rfl rfl (Val.move rfl rfl) ?_
      refine WP.val rfl rfl rfl (Val.len rfl Ty.sl86 rfl) ?_
      refine WP.val rfl rfl rfl (Val.move rfl rfl) ?_
      refine WP.val rfl rfl rfl (Val.nilCheck rfl rfl) ?_
      refine WP.val rfl rfl rfl (Val.fieldAddr (j := 2) rfl Ty.fo125_2 rfl rfl) ?_
      refine WP.val rfl rfl rfl (Val.load rfl Ty.sc3 rfl (fun w h => h.cell 0 rfl rfl)) ?_
      refine WP.val rfl rfl rfl (Val.gtr rfl rfl rfl) ?_
      refine WP.nil ?_
      refine Out.next ?_
      refine WPc.ifP rfl (fun h5 => ?_) (fun h5 => ?_)
      · skip
        have h5 : (((page : Nat) : Int) < ((p.length : Nat) : Int)) := h5
        refine WPc.seq ?_
        have hq := Nat.div_mul_le_self p.length page
        have hq2 := Nat.div_le_self p.length page
        have hq3 := Nat.mod_lt p.length hp
        have hq4 := Nat.div_add_mod p.length page
        rw [Nat.mul_comm] at hq4
        have hq5 : (0 : Int) ≤ ((p.length / page : Nat) : Int) := Int.natCast_nonneg _
        refine WPc.region ?_
        refine WP.val rfl rfl rfl (Val.move rfl rfl) ?_
        refine WP.val rfl rfl rfl (Val.len rfl Ty.sl86 rfl) ?_
        refine WP.val rfl rfl rfl (Val.move rfl rfl) ?_
        refine WP.val rfl rfl rfl (Val.nilCheck rfl rfl) ?_
        refine WP.val rfl rfl rfl (Val.fieldAddr (j := 2) rfl Ty.fo125_2 rfl rfl) ?_
        refine WP.val rfl rfl rfl (Val.load rfl Ty.sc3 rfl (fun w h => h.cell 0 rfl rfl)) ?_
        refine WP.val rfl rfl rfl (Val.quo (z := ((p.length / page : Nat) : Int)) rfl rfl rfl (by omega) (show IntKind.i64.wrap ((p.length / page : Nat) : Int) = _ from w64 (by omega) (by omega))) ?_
        refine WP.val rfl rfl rfl (Val.assign rfl rfl) ?_
        refine WP.nil ?_
        refine Out.next ?_
        refine WPc.seq ?_
        refine WPD.start (Sat W [Blk pw [.iface 76 (.pointer (some ⟨bb, 0, none⟩)), .int .i64 (((offs page (off) (pend) : Nat) : Int)), .int .i64 (((page : Nat) : Int)), .int .i64 (((([] : List UInt8).length : Nat) : Int)), .slice (some ⟨bf, 0, none⟩) ((B + page)) ((B + page)), .int .i64 (((B : Nat) : Int))] 125]) Ty.mixed ?_
        refine WPD.take 0 rfl rfl rfl rfl (by kernel_rfl) (by kernel_rfl) (by kernel_rfl) (by kernel_rfl) (fun _ _ _ h => h) (fun w h => (h).dropEnd (L := [_])) (Val.move rfl rfl) ?_
        refine WPD.take 1 rfl rfl rfl rfl (by kernel_rfl) (by kernel_rfl) (by kernel_rfl) (by kernel_rfl) (fun _ _ _ h => h) (fun w h => (h).dropEnd (L := [_])) (Val.nilCheck rfl rfl) ?_
        refine WPD.take 2 rfl rfl rfl rfl (by kernel_rfl) (by kernel_rfl) (by kernel_rfl) (by kernel_rfl) (fun _ _ _ h => h) (fun w h => (h).dropEnd (L := [_])) (Val.fieldAddr (j := 0) rfl Ty.fo125_0 rfl rfl) ?_
        refine WPD.take 3 rfl rfl rfl rfl (by kernel_rfl) (by kernel_rfl) (by kernel_rfl) (by kernel_rfl) (fun _ _ _ h => h) (fun w h => (h).dropEnd (L := [_])) (Val.load rfl Ty.sc122 rfl (fun w h => h.cell 0 rfl rfl)) ?_
        refine WPD.take 4 rfl rfl rfl rfl (by kernel_rfl) (by kernel_rfl) (by kernel_rfl) (by kernel_rfl) (fun _ _ _ h => h) (fun w h => (h).dropEnd (L := [_])) (Val.move rfl rfl) ?_
        refine WPD.take 5 rfl rfl rfl rfl (by kernel_rfl) (by kernel_rfl) (by kernel_rfl) (by kernel_rfl) (fun _ _ _ h => h) (fun w h => (h).dropEnd (L := [_])) (Val.move rfl rfl) ?_
        refine WPD.take 6 rfl rfl rfl rfl (by kernel_rfl) (by kernel_rfl) (by kernel_rfl) (by kernel_rfl) (fun _ _ _ h => h) (fun w h => (h).dropEnd (L := [_])) (Val.move rfl rfl) ?_
        refine WPD.take 7 rfl rfl rfl rfl (by kernel_rfl) (by kernel_rfl) (by kernel_rfl) (by kernel_rfl) (fun _ _ _ h => h) (fun w h => (h).dropEnd (L := [_])) (Val.nilCheck rfl rfl) ?_
        refine WPD.take 8 rfl rfl rfl rfl (by kernel_rfl) (by kernel_rfl) (by kernel_rfl) (by kernel_rfl) (fun _ _ _ h => h) (fun w h => (h).dropEnd (L := [_])) (Val.fieldAddr (j := 2) rfl Ty.fo125_2 rfl rfl) ?_
        refine WPD.take 9 rfl rfl rfl rfl (by kernel_rfl) (by kernel_rfl) (by kernel_rfl) (by kernel_rfl) (fun _ _ _ h => h) (fun w h => (h).dropEnd (L := [_])) (Val.load rfl Ty.sc3 rfl (fun w h => h.cell 0 rfl rfl)) ?_
        refine WPD.take 10 rfl rfl rfl rfl (by kernel_rfl) (by kernel_rfl) (by kernel_rfl) (by kernel_rfl) (fun _ _ _ h => h) (fun w h => (h).dropEnd (L := [_])) (Val.mul (z := (((p.length / page) * page : Nat) : Int)) rfl rfl rfl ((w64 (by omega) (by omega)).trans (by omega))) ?_
        refine WPD.take 11 rfl rfl rfl rfl (by kernel_rfl) (by kernel_rfl) (by kernel_rfl) (by kernel_rfl) (fun _ _ _ h => h) (fun w h => (h).dropEnd (L := [_])) (Val.slice (lo := 0) (hi := (p.length / page) * page) (j := po) (vlo := none) (vhi := some (.i64, (((p.length / page) * page : Nat) : Int))) rfl Ty.sl86 rfl rfl rfl (by simp [bnd]) (by simp [bnd]; try omega) (by omega) (by omega) (by omega) (by simp)) ?_
        refine WPD.take 12 rfl rfl rfl rfl (by kernel_rfl) (by kernel_rfl) (by kernel_rfl) (by kernel_rfl) (fun _ _ _ h => h) (fun w h => (h).dropEnd (L := [_])) (Val.nilCheckI rfl rfl) ?_
        refine WPD.take 13 rfl rfl rfl rfl (by kernel_rfl) (by kernel_rfl) (by kernel_rfl) (by kernel_rfl) (fun _ _ _ h => h) (fun w h => (h).dropEnd (L := [_])) (Val.move rfl rfl) ?_
        have hl2 : (p.take (p.length / page * page)).length = (p.length / page * page) := by rw [List.length_take]; omega
        refine WPD.know 138 (.slice (some ⟨pb, po, none⟩) (p.take (p.length / page * page)).length (pc)) rfl (by rw [hl2]; rfl) ?_
        refine WPD.perm pl4 ?_
        refine WPD.perm pl3 ?_
        refine WPD.perm pl4 ?_
        refine WPD.step 14 (by kernel_rfl) rfl rfl rfl rfl (Eff.invoke (f := 161) rfl rfl rfl (fun _ => by kernel_rfl) Try.call161 (below_spec A bb pb po pc (p.take (p.length / page * page)) (ss ++ (outs (pend)).map str) wv5 (fun w h => rangeAt_take (hA w h)) (by omega) (by simp; omega))) ?_
        rintro _ _ ⟨_, ⟨wv6, rfl, rfl⟩, rfl⟩
        refine ⟨.inl (fun w h => ((h.perm pl3)).dropEnd (L := [_])), ?_⟩
        show WPD _ _ _ _ _ _ _ _ _ (Blk bb [wv6] 78 :: Own 9 1 wv6 ((ss ++ (outs (pend)).map str ++ [str (p.take (p.length / page * page))]).length) (strs (ss ++ (outs (pend)).map str ++ [str (p.take (p.length / page * page))])) :: A :: Blk pw [.iface 76 (.pointer (some ⟨bb, 0, none⟩)), .int .i64 (((offs page (off) (pend) : Nat) : Int)), .int .i64 (((page : Nat) : Int)), .int .i64 (((([] : List UInt8).length : Nat) : Int)), .slice (some ⟨bf, 0, none⟩) ((B + page)) ((B + page)), .int .i64 (((B : Nat) : Int))] 125 :: Blk bf (byt (([] : List UInt8)) ++ byt (jk5)) 5 :: F)
        refine WPD.take 15 rfl rfl rfl rfl (by kernel_rfl) (by kernel_rfl) (by kernel_rfl) (by kernel_rfl) (fun _ _ _ h => h) (fun w h => ((h.perm pl3)).dropEnd (L := [_])) (Val.move rfl rfl) ?_
        refine WPD.take 16 rfl rfl rfl rfl (by kernel_rfl) (by kernel_rfl) (by kernel_rfl) (by kernel_rfl) (fun _ _ _ h => h) (fun w h => ((h.perm pl3)).dropEnd (L := [_])) (Val.extract rfl rfl rfl) ?_
        refine WPD.take 17 rfl rfl rfl rfl (by kernel_rfl) (by kernel_rfl) (by kernel_rfl) (by kernel_rfl) (fun _ _ _ h => h) (fun w h => ((h.perm pl3)).dropEnd (L := [_])) (Val.extract rfl rfl rfl) ?_
        refine WPD.take 18 rfl rfl rfl rfl (by kernel_rfl) (by kernel_rfl) (by kernel_rfl) (by kernel_rfl) (fun _ _ _ h => h) (fun w h => ((h.perm pl3)).dropEnd (L := [_])) (Val.assign rfl rfl) ?_
        refine WPD.take 19 rfl rfl rfl rfl (by kernel_rfl) (by kernel_rfl) (by kernel_rfl) (by kernel_rfl) (fun _ _ _ h => h) (fun w h => ((h.perm pl3)).dropEnd (L := [_])) (Val.assign rfl rfl) ?_
        refine WPD.done (by kernel_rfl) ?_
        refine Out.next ?_
        refine WPc.seq ?_
        refine WPc.region ?_
        refine WP.val rfl rfl rfl (Val.move rfl rfl) ?_
        refine WP.val rfl rfl rfl (Val.move rfl rfl) ?_
        refine WP.val rfl rfl rfl (Val.add (z := ((0 + ((p.take (p.length / page * page)).length) : Nat) : Int)) rfl rfl rfl ((w64 (by omega) (by omega)).trans (by omega))) ?_
        refine WP.val rfl rfl rfl (Val.assign rfl rfl) ?_
        refine WP.nil ?_
        refine Out.next ?_
        refine WPc.seq ?_
        refine WPc.seq ?_
        refine WPc.region ?_
        refine WP.val rfl rfl rfl (Val.move rfl rfl) ?_
        refine WP.val rfl rfl rfl (Val.nilIn rfl Ty.if82 rfl) ?_
        refine WP.nil ?_
        refine Out.next ?_
        refine WPc.condF rfl rfl ?_
        refine WPc.skip ?_
        refine Out.next ?_
        refine WPc.region ?_
        refine WP.val rfl rfl rfl (Val.move rfl rfl) ?_
        refine WP.val rfl rfl rfl (Val.move rfl rfl) ?_
        refine WP.val rfl rfl rfl (Val.move rfl rfl) ?_
        refine WP.val rfl rfl rfl (Val.nilCheck rfl rfl) ?_
        refine WP.val rfl rfl rfl (Val.fieldAddr (j := 2) rfl Ty.fo125_2 rfl rfl) ?_
        refine WP.val rfl rfl rfl (Val.load rfl Ty.sc3 rfl (fun w h => h.cell 3 rfl rfl)) ?_
        refine WP.val rfl rfl rfl (Val.mul (z := (((p.length / page) * page : Nat) : Int)) rfl rfl rfl ((w64 (by omega) (by omega)).trans (by omega))) ?_
        refine WP.val rfl rfl rfl (Val.slice (lo := (p.length / page) * page) (hi := p.length) (j := (if pc = (p.length / page) * page then po else po + ((p.length / page) * page))) (vlo := some (.i64, (((p.length / page) * page : Nat) : Int))) (vhi := none) rfl Ty.sl86 rfl rfl rfl (by simp [bnd]; try omega) (by simp [bnd]; try omega) (by omega) (by omega) (by omega) (by simp)) ?_
        refine WP.val rfl rfl rfl (Val.assign rfl rfl) ?_
        refine WP.nil ?_
        refine Out.next ?_
        refine WPc.seq ?_
        have hl3 : (p.drop (p.length / page * page)).length = p.length - (p.length / page * page) := List.length_drop ..
        refine WPc.know 1 (.slice (some ⟨pb, (if pc = (p.length / page) * page then po else po + ((p.length / page) * page)), none⟩) (p.drop (p.length / page * page)).length (pc - ((p.length / page) * page))) rfl (by rw [hl3]) ?_
        refine WPc.region ?_
        refine WP.val rfl rfl rfl (Val.move rfl rfl) ?_
        refine WP.val rfl rfl rfl (Val.move rfl rfl) ?_
        refine WP.perm pl2 ?_
        refine WP.perm pl2 ?_
        refine WP.perm pl2 ?_
        refine WP.perm pl4 ?_
        refine WP.perm pl4 ?_
        refine WP.eff rfl rfl rfl (Eff.call rfl rfl Try.call34 (small_spec pw bb bf page B (offs page (off) (pend)) [] jk5 (ss ++ (outs (pend)).map str ++ [str (p.take (p.length / page * page))]) wv6 hp hpb hB hoff2 (by simpa using hj5) (by simp; omega) A pb ((if pc = (p.length / page) * page then po else po + ((p.length / page) * page))) (pc - ((p.length / page) * page)) (p.drop (p.length / page * page)) (fun w h => rangeAt_cut (hA w h) (by omega)) (by omega) (by omega) (by simp only [List.length_nil]; omega))) ?_
        rintro _ _ ⟨_, ⟨wv7, jk7, hj7, rfl, rfl⟩, rfl⟩
        show WP _ _ _ _ _ _ _ (Blk pw [.iface 76 (.pointer (some ⟨bb, 0, none⟩)), .int .i64 (((offs page (off) (pend) : Nat) : Int)), .int .i64 (((page : Nat) : Int)), .int .i64 (((([] ++ (p.drop (p.length / page * page))).length : Nat) : Int)), .slice (some ⟨bf, 0, none⟩) ((B + page)) ((B + page)), .int .i64 (((B : Nat) : Int))] 125 :: Blk bf (byt ([] ++ (p.drop (p.length / page * page))) ++ byt (jk7)) 5 :: Blk bb [wv7] 78 :: Own 9 1 wv7 ((ss ++ (outs (pend)).map str ++ [str (p.take (p.length / page * page))]).length) (strs (ss ++ (outs (pend)).map str ++ [str (p.take (p.length / page * page))])) :: A :: F)
        refine WP.val rfl rfl rfl (Val.move rfl rfl) ?_
        refine WP.val rfl rfl rfl (Val.extract rfl rfl rfl) ?_
        refine WP.val rfl rfl rfl (Val.extract rfl rfl rfl) ?_
        refine WP.val rfl rfl rfl (Val.assign rfl rfl) ?_
        refine WP.val rfl rfl rfl (Val.assign rfl rfl) ?_
        refine WP.nil ?_
        refine Out.next ?_
        refine WPc.seq ?_
        refine WPc.region ?_
        refine WP.val rfl rfl rfl (Val.move rfl rfl) ?_
        refine WP.val rfl rfl rfl (Val.move rfl rfl) ?_
        refine WP.val rfl rfl rfl (Val.add (z := (((0 + ((p.take (p.length / page * page)).length)) + ((p.drop (p.length / page * page)).length) : Nat) : Int)) rfl rfl rfl ((w64 (by omega) (by omega)).trans (by omega))) ?_
        refine WP.val rfl rfl rfl (Val.assign rfl rfl) ?_
        refine WP.nil ?_
        refine Out.next ?_
        refine WPc.seq ?_
        refine WPc.know 4 (.int .i64 ((p.length : Nat) : Int)) rfl (by congr 1; omega) ?_
        refine WPc.region ?_
        refine WP.val rfl rfl rfl (Val.move rfl rfl) ?_
        refine WP.val rfl rfl rfl (Val.move rfl rfl) ?_
        refine WP.val rfl rfl rfl (Val.assign rfl rfl) ?_
        refine WP.val rfl rfl rfl (Val.assign rfl rfl) ?_
        refine WP.nil ?_
        refine Out.next ?_
        refine WPc.ret ?_
        have hwr : wr page B off pend p = (outs (pend) ++ [p.take (p.length / page * page)], offs page (off) (pend), (p.drop (p.length / page * page))) := by unfold wr; rw [if_neg (by omega), if_neg (show ¬ (slack page off pend.length ≠ page) by omega)]; unfold rest; rw [if_pos (show page < p.length by omega)]
        rw [hwr]
        exact Out.ret2 (L' := _) Try.results34 rfl rfl ⟨wv7, jk7, by simpa using hj7, rfl, rfl⟩ (fun w h => by simpa using h)
      · skip
        have h5 : ¬ (((page : Nat) : Int) < ((p.length : Nat) : Int)) := h5
        refine WPc.skip ?_
        refine Out.next ?_
        refine WPc.seq ?_
        refine WPc.region ?_
        refine WP.val rfl rfl rfl (Val.move rfl rfl) ?_
        refine WP.val rfl rfl rfl (Val.move rfl rfl) ?_
        refine WP.perm pl4 ?_
        refine WP.perm pl4 ?_
        refine WP.perm pl4 ?_
        refine WP.perm pl4 ?_
        refine WP.perm pl4 ?_
        refine WP.eff rfl rfl rfl (Eff.call rfl rfl Try.call34 (small_spec pw bb bf page B (offs page (off) (pend)) [] jk5 (ss ++ (outs (pend)).map str) wv5 hp hpb hB hoff2 (by simpa using hj5) (by simp; omega) A pb (po) (pc) p (fun w h => hA w h) (by omega) (by omega) (by simp only [List.length_nil]; omega))) ?_
        rintro _ _ ⟨_, ⟨wv8, jk8, hj8, rfl, rfl⟩, rfl⟩
        show WP _ _ _ _ _ _ _ (Blk pw [.iface 76 (.pointer (some ⟨bb, 0, none⟩)), .int .i64 (((offs page (off) (pend) : Nat) : Int)), .int .i64 (((page : Nat) : Int)), .int .i64 (((([] ++ p).length : Nat) : Int)), .slice (some ⟨bf, 0, none⟩) ((B + page)) ((B + page)), .int .i64 (((B : Nat) : Int))] 125 :: Blk bf (byt ([] ++ p) ++ byt (jk8)) 5 :: Blk bb [wv8] 78 :: Own 9 1 wv8 ((ss ++ (outs (pend)).map str).length) (strs (ss ++ (outs (pend)).map str)) :: A :: F)
        refine WP.val rfl rfl rfl (Val.move rfl rfl) ?_
        refine WP.val rfl rfl rfl (Val.extract rfl rfl rfl) ?_
        refine WP.val rfl rfl rfl (Val.extract rfl rfl rfl) ?_
        refine WP.val rfl rfl rfl (Val.assign rfl rfl) ?_
        refine WP.val rfl rfl rfl (Val.assign rfl rfl) ?_
        refine WP.nil ?_
        refine Out.next ?_
        refine WPc.seq ?_
        refine WPc.region ?_
        refine WP.val rfl rfl rfl (Val.move rfl rfl) ?_
        refine WP.val rfl rfl rfl (Val.move rfl rfl) ?_
        refine WP.val rfl rfl rfl (Val.add (z := ((0 + p.length : Nat) : Int)) rfl rfl rfl ((w64 (by omega) (by omega)).trans (by omega))) ?_
        refine WP.val rfl rfl rfl (Val.assign rfl rfl) ?_
        refine WP.nil ?_
        refine Out.next ?_
        refine WPc.seq ?_
        refine WPc.know 4 (.int .i64 ((p.length : Nat) : Int)) rfl (by congr 1; omega) ?_
        refine WPc.region ?_
        refine WP.val rfl rfl rfl (Val.move rfl rfl) ?_
        refine WP.val rfl rfl rfl (Val.move rfl rfl) ?_
        refine WP.val rfl rfl rfl (Val.assign rfl rfl) ?_
        refine WP.val rfl rfl rfl (Val.assign rfl rfl) ?_
        refine WP.nil ?_
        refine Out.next ?_
        refine WPc.ret ?_
        have hwr : wr page B off pend p = (outs (pend), offs page (off) (pend), p) := by unfold wr; rw [if_neg (by omega), if_neg (show ¬ (slack page off pend.length ≠ page) by omega)]; unfold rest; rw [if_neg (show ¬ (page < p.length) by omega)]
        rw [hwr]
        exact Out.ret2 (L' := _) Try.results34 rfl rfl ⟨wv8, jk8, by simpa using hj8, rfl, rfl⟩ (fun w h => by simpa using h)

end Go.Proofs.Ythmkdioafjmclaa.Pg3
