import Derived.Test.YthmkdioafjmclaaPg
namespace Go.Proofs.Ythmkdioafjmclaa.Pg2
open Go.RowKit Go.Proofs.Ythmkdioafjmclaa Go.Proofs.Ythmkdioafjmclaa.Sl Go.Proofs.Ythmkdioafjmclaa.PgModel Go.Proofs.Ythmkdioafjmclaa.Pg
set_option linter.unusedVariables false
set_option linter.unusedSimpArgs false

set_option maxRecDepth 100000 in
set_option maxHeartbeats 1000000 in
theorem Flush_spec (pw bb bf page B off : Nat) (pend junk : List UInt8) (ss : List ByteArray) (wv : Value) (hp : 0 < page) (hpb : page ≤ B) (hB : B ≤ 1048576) (hoff : off ≤ 4294967296) (hlen : pend.length + junk.length = B + page) (hss : ss.length ≤ 4294967296) : Does Try.prog 33 [.pointer (some ⟨pw, 0, none⟩)] [Blk pw [.iface 76 (.pointer (some ⟨bb, 0, none⟩)), .int .i64 (((off : Nat) : Int)), .int .i64 (((page : Nat) : Int)), .int .i64 ((((pend).length : Nat) : Int)), .slice (some ⟨bf, 0, none⟩) ((B + page)) ((B + page)), .int .i64 (((B : Nat) : Int))] 125, Blk bf (byt (pend) ++ byt (junk)) 5, Blk bb [wv] 78, Own 9 1 wv ((ss).length) (strs (ss))] (fun v L => ∃ (wv' : Value) (junk' : List UInt8), ([] : List UInt8).length + junk'.length = B + page ∧ v = .nilIface ∧ L = [Blk pw [.iface 76 (.pointer (some ⟨bb, 0, none⟩)), .int .i64 ((offs page off pend : Nat) : Int), .int .i64 ((page : Nat) : Int), .int .i64 (((([] : List UInt8)).length : Nat) : Int), .slice (some ⟨bf, 0, none⟩) (B + page) (B + page), .int .i64 ((B : Nat) : Int)] 125, Blk bf (byt (([] : List UInt8)) ++ byt junk') 5, Blk bb [wv'] 78, Own 9 1 wv' (ss ++ (outs pend).map str).length (strs (ss ++ (outs pend).map str))]) := by
  refine Does.enter 11 Try.func33 rfl rfl rfl fun W F => ?_
  show WPc _ _ _ _ _ [(0, .pointer (some ⟨pw, 0, none⟩))] (Blk pw [.iface 76 (.pointer (some ⟨bb, 0, none⟩)), .int .i64 (((off : Nat) : Int)), .int .i64 (((page : Nat) : Int)), .int .i64 ((((pend).length : Nat) : Int)), .slice (some ⟨bf, 0, none⟩) ((B + page)) ((B + page)), .int .i64 (((B : Nat) : Int))] 125 :: Blk bf (byt (pend) ++ byt (junk)) 5 :: Blk bb [wv] 78 :: Own 9 1 wv ((ss).length) (strs (ss)) :: F)
  refine WPc.seq ?_
  refine WPc.region ?_
  refine WP.val rfl rfl rfl (Val.assign rfl rfl) ?_
  refine WP.nil ?_
  refine Out.next ?_
  refine WPc.seq ?_
  refine WPc.region ?_
  refine WP.val rfl rfl rfl (Val.move rfl rfl) ?_
  refine WP.perm pl3 ?_
  refine WP.perm pl3 ?_
  refine WP.perm pl3 ?_
  refine WP.perm pl3 ?_
  refine WP.eff rfl rfl rfl (Eff.call rfl rfl Try.call57 (flush_spec pw bb bf page B (off) (pend) junk (ss) wv hp hpb hB (by omega) (by first | omega | (simp; omega)) (by first | omega | (simp; omega)))) ?_
  rintro _ _ ⟨_, ⟨kk1, wv1, jk1, hj1, rfl, rfl⟩, rfl⟩
  show WP _ _ _ _ _ _ _ (Blk pw [.iface 76 (.pointer (some ⟨bb, 0, none⟩)), .int .i64 (((offs page (off) (pend) : Nat) : Int)), .int .i64 (((page : Nat) : Int)), .int .i64 (((([] : List UInt8).length : Nat) : Int)), .slice (some ⟨bf, 0, none⟩) ((B + page)) ((B + page)), .int .i64 (((B : Nat) : Int))] 125 :: Blk bf (byt (([] : List UInt8)) ++ byt (jk1)) 5 :: Blk bb [wv1] 78 :: Own 9 1 wv1 ((ss ++ (outs (pend)).map str).length) (strs (ss ++ (outs (pend)).map str)) :: F)
  refine WP.val rfl rfl rfl (Val.move rfl rfl) ?_
  refine WP.val rfl rfl rfl (Val.extract rfl rfl rfl) ?_
  refine WP.val rfl rfl rfl (Val.extract rfl rfl rfl) ?_
  refine WP.val rfl rfl rfl (Val.assign rfl rfl) ?_
  refine WP.val rfl rfl rfl (Val.assign rfl rfl) ?_
  refine WP.nil ?_
  refine Out.next ?_
  refine WPc.seq ?_
  refine WPc.region ?_
  refine WP.val rfl rfl rfl (Val.move rfl rfl) ?_
  refine WP.val rfl rfl rfl (Val.assign rfl rfl) ?_
  refine WP.nil ?_
  refine Out.next ?_
  refine WPc.ret ?_
  exact Out.ret1 (L' := _) Try.results33 rfl ⟨wv1, jk1, hj1, rfl, rfl⟩ (fun _ h => h)
set_option maxRecDepth 100000 in
set_option maxHeartbeats 1000000 in
theorem small_spec (pw bb bf page B off : Nat) (pend junk : List UInt8) (ss : List ByteArray) (wv : Value) (hp : 0 < page) (hpb : page ≤ B) (hB : B ≤ 1048576) (hoff : off ≤ 4294967296) (hlen : pend.length + junk.length = B + page) (hss : ss.length ≤ 4294967296) (A : HProp) (pb po pc : Nat) (p : List UInt8) (hA : ∀ w, Holds A w → w.rangeAt pb po (byt p)) (hpn : p.length ≤ 2097152) (hpc : p.length ≤ pc) (hsm : p.length + pend.length ≤ B) : Does Try.prog 34 [.pointer (some ⟨pw, 0, none⟩), .slice (some ⟨pb, po, none⟩) p.length pc] [Blk pw [.iface 76 (.pointer (some ⟨bb, 0, none⟩)), .int .i64 (((off : Nat) : Int)), .int .i64 (((page : Nat) : Int)), .int .i64 ((((pend).length : Nat) : Int)), .slice (some ⟨bf, 0, none⟩) ((B + page)) ((B + page)), .int .i64 (((B : Nat) : Int))] 125, Blk bf (byt (pend) ++ byt (junk)) 5, Blk bb [wv] 78, Own 9 1 wv ((ss).length) (strs (ss)), A] (fun v L => ∃ (wv' : Value) (junk' : List UInt8), (pend ++ p).length + junk'.length = B + page ∧ v = .tuple #[.int .i64 ((p.length : Nat) : Int), .nilIface] ∧ L = [Blk pw [.iface 76 (.pointer (some ⟨bb, 0, none⟩)), .int .i64 ((off : Nat) : Int), .int .i64 ((page : Nat) : Int), .int .i64 (((pend ++ p).length : Nat) : Int), .slice (some ⟨bf, 0, none⟩) (B + page) (B + page), .int .i64 ((B : Nat) : Int)] 125, Blk bf (byt (pend ++ p) ++ byt junk') 5, Blk bb [wv'] 78, Own 9 1 wv' (ss).length (strs (ss)), A]) := by
  refine Does.enter 170 Try.func34 rfl rfl rfl fun W F => ?_
  show WPc _ _ _ _ _ [(0, .pointer (some ⟨pw, 0, none⟩)), (1, .slice (some ⟨pb, po, none⟩) p.length pc)] (Blk pw [.iface 76 (.pointer (some ⟨bb, 0, none⟩)), .int .i64 (((off : Nat) : Int)), .int .i64 (((page : Nat) : Int)), .int .i64 ((((pend).length : Nat) : Int)), .slice (some ⟨bf, 0, none⟩) ((B + page)) ((B + page)), .int .i64 (((B : Nat) : Int))] 125 :: Blk bf (byt (pend) ++ byt (junk)) 5 :: Blk bb [wv] 78 :: Own 9 1 wv ((ss).length) (strs (ss)) :: A :: F)
  refine WPc.seq ?_
  refine WPc.region ?_
  refine WP.val rfl rfl rfl (Val.assign rfl rfl) ?_
  refine WP.val rfl rfl rfl (Val.assign rfl rfl) ?_
  refine WP.nil ?_
  refine Out.next ?_
  refine WPc.seq ?_
  refine WPc.seq ?_
  refine WPD.start (Sat W (Blk pw [.iface 76 (.pointer (some ⟨bb, 0, none⟩)), .int .i64 (((off : Nat) : Int)), .int .i64 (((page : Nat) : Int)), .int .i64 ((((pend).length : Nat) : Int)), .slice (some ⟨bf, 0, none⟩) ((B + page)) ((B + page)), .int .i64 (((B : Nat) : Int))] 125 :: Blk bf (byt (pend) ++ byt (junk)) 5 :: Blk bb [wv] 78 :: Own 9 1 wv ((ss).length) (strs (ss)) :: A :: F)) Ty.mixed ?_
  refine WPD.take 0 rfl rfl rfl rfl (by kernel_rfl) (by kernel_rfl) (by kernel_rfl) (by kernel_rfl) (fun _ _ _ h => h) (fun _ h => h) (Val.move rfl rfl) ?_
  refine WPD.take 1 rfl rfl rfl rfl (by kernel_rfl) (by kernel_rfl) (by kernel_rfl) (by kernel_rfl) (fun _ _ _ h => h) (fun _ h => h) (Val.len rfl Ty.sl86 rfl) ?_
  refine WPD.take 2 rfl rfl rfl rfl (by kernel_rfl) (by kernel_rfl) (by kernel_rfl) (by kernel_rfl) (fun _ _ _ h => h) (fun _ h => h) (Val.move rfl rfl) ?_
  refine WPD.take 3 rfl rfl rfl rfl (by kernel_rfl) (by kernel_rfl) (by kernel_rfl) (by kernel_rfl) (fun _ _ _ h => h) (fun _ h => h) (Val.nilCheck rfl rfl) ?_
  refine WPD.take 4 rfl rfl rfl rfl (by kernel_rfl) (by kernel_rfl) (by kernel_rfl) (by kernel_rfl) (fun _ _ _ h => h) (fun _ h => h) (Val.fieldAddr (j := 3) rfl Ty.fo125_3 rfl rfl) ?_
  refine WPD.take 5 rfl rfl rfl rfl (by kernel_rfl) (by kernel_rfl) (by kernel_rfl) (by kernel_rfl) (fun _ _ _ h => h) (fun _ h => h) (Val.load rfl Ty.sc3 rfl (fun w h => h.cell 0 rfl rfl)) ?_
  refine WPD.take 6 rfl rfl rfl rfl (by kernel_rfl) (by kernel_rfl) (by kernel_rfl) (by kernel_rfl) (fun _ _ _ h => h) (fun _ h => h) (Val.add (z := ((p.length + ((pend).length) : Nat) : Int)) rfl rfl rfl ((w64 (by omega) (by omega)).trans (by omega))) ?_
  refine WPD.take 7 rfl rfl rfl rfl (by kernel_rfl) (by kernel_rfl) (by kernel_rfl) (by kernel_rfl) (fun _ _ _ h => h) (fun _ h => h) (Val.move rfl rfl) ?_
  refine WPD.take 8 rfl rfl rfl rfl (by kernel_rfl) (by kernel_rfl) (by kernel_rfl) (by kernel_rfl) (fun _ _ _ h => h) (fun _ h => h) (Val.nilCheck rfl rfl) ?_
  refine WPD.take 9 rfl rfl rfl rfl (by kernel_rfl) (by kernel_rfl) (by kernel_rfl) (by kernel_rfl) (fun _ _ _ h => h) (fun _ h => h) (Val.fieldAddr (j := 5) rfl Ty.fo125_5 rfl rfl) ?_
  refine WPD.take 10 rfl rfl rfl rfl (by kernel_rfl) (by kernel_rfl) (by kernel_rfl) (by kernel_rfl) (fun _ _ _ h => h) (fun _ h => h) (Val.load rfl Ty.sc3 rfl (fun w h => h.cell 0 rfl rfl)) ?_
  refine WPD.take 11 rfl rfl rfl rfl (by kernel_rfl) (by kernel_rfl) (by kernel_rfl) (by kernel_rfl) (fun _ _ _ h => h) (fun _ h => h) (Val.leq rfl rfl rfl) ?_
  refine WPD.done (by kernel_rfl) ?_
  refine Out.next ?_
  refine WPc.ifP rfl (fun h1 => ?_) (fun h1 => ?_)
  · skip
    have h1 : (((p.length + ((pend).length) : Nat) : Int) ≤ ((B : Nat) : Int)) := h1
    refine WPc.seq ?_
    refine WPD.start (Sat W (Blk pw [.iface 76 (.pointer (some ⟨bb, 0, none⟩)), .int .i64 (((off : Nat) : Int)), .int .i64 (((page : Nat) : Int)), .int .i64 ((((pend).length : Nat) : Int)), .slice (some ⟨bf, 0, none⟩) ((B + page)) ((B + page)), .int .i64 (((B : Nat) : Int))] 125 :: Blk bf (byt (pend) ++ byt (junk)) 5 :: Blk bb [wv] 78 :: Own 9 1 wv ((ss).length) (strs (ss)) :: A :: F)) Ty.mixed ?_
    refine WPD.take 0 rfl rfl rfl rfl (by kernel_rfl) (by kernel_rfl) (by kernel_rfl) (by kernel_rfl) (fun _ _ _ h => h) (fun _ h => h) (Val.move rfl rfl) ?_
    refine WPD.take 1 rfl rfl rfl rfl (by kernel_rfl) (by kernel_rfl) (by kernel_rfl) (by kernel_rfl) (fun _ _ _ h => h) (fun _ h => h) (Val.nilCheck rfl rfl) ?_
    refine WPD.take 2 rfl rfl rfl rfl (by kernel_rfl) (by kernel_rfl) (by kernel_rfl) (by kernel_rfl) (fun _ _ _ h => h) (fun _ h => h) (Val.fieldAddr (j := 4) rfl Ty.fo125_4 rfl rfl) ?_
    refine WPD.take 3 rfl rfl rfl rfl (by kernel_rfl) (by kernel_rfl) (by kernel_rfl) (by kernel_rfl) (fun _ _ _ h => h) (fun _ h => h) (Val.load rfl Ty.sc86 rfl (fun w h => h.cell 0 rfl rfl)) ?_
    refine WPD.take 4 rfl rfl rfl rfl (by kernel_rfl) (by kernel_rfl) (by kernel_rfl) (by kernel_rfl) (fun _ _ _ h => h) (fun _ h => h) (Val.move rfl rfl) ?_
    refine WPD.take 5 rfl rfl rfl rfl (by kernel_rfl) (by kernel_rfl) (by kernel_rfl) (by kernel_rfl) (fun _ _ _ h => h) (fun _ h => h) (Val.nilCheck rfl rfl) ?_
    refine WPD.take 6 rfl rfl rfl rfl (by kernel_rfl) (by kernel_rfl) (by kernel_rfl) (by kernel_rfl) (fun _ _ _ h => h) (fun _ h => h) (Val.fieldAddr (j := 3) rfl Ty.fo125_3 rfl rfl) ?_
    refine WPD.take 7 rfl rfl rfl rfl (by kernel_rfl) (by kernel_rfl) (by kernel_rfl) (by kernel_rfl) (fun _ _ _ h => h) (fun _ h => h) (Val.load rfl Ty.sc3 rfl (fun w h => h.cell 0 rfl rfl)) ?_
    refine WPD.take 8 rfl rfl rfl rfl (by kernel_rfl) (by kernel_rfl) (by kernel_rfl) (by kernel_rfl) (fun _ _ _ h => h) (fun _ h => h) (Val.slice (lo := (pend).length) (hi := (B + page)) (j := (pend).length) (vlo := some (.i64, (((pend).length : Nat) : Int))) (vhi := none) rfl Ty.sl86 rfl rfl rfl (by simp [bnd]; try omega) (by simp [bnd]; try omega) (by omega) (by omega) (by omega) (by rw [if_neg (by omega)]; omega)) ?_
    refine WPD.take 9 rfl rfl rfl rfl (by kernel_rfl) (by kernel_rfl) (by kernel_rfl) (by kernel_rfl) (fun _ _ _ h => h) (fun _ h => h) (Val.move rfl rfl) ?_
    refine WPD.perm pl1 ?_
    refine WPD.step 10 (by kernel_rfl) rfl rfl rfl rfl (Eff.copySl (cs := byt p) (C' := byt (pend ++ p) ++ byt (junk.drop p.length)) rfl Ty.sl86 rfl rfl (fun w h => hA w (h.at 4 rfl)) (by simp) (by omega) (byt_one _) (by first | omega | (simp; omega)) (byt_copy (by omega))) ?_
    rintro _ _ ⟨rfl, rfl⟩
    refine ⟨.inr (by kernel_rfl), ?_⟩
    refine WPD.done (by kernel_rfl) ?_
    refine Out.next ?_
    refine WPc.seq ?_
    refine WPc.region ?_
    refine WP.val rfl rfl rfl (Val.move rfl rfl) ?_
    refine WP.val rfl rfl rfl (Val.nilCheck rfl rfl) ?_
    refine WP.val rfl rfl rfl (Val.fieldAddr (j := 3) rfl Ty.fo125_3 rfl rfl) ?_
    refine WP.val rfl rfl rfl (Val.load rfl Ty.sc3 rfl (fun w h => h.cell 1 rfl rfl)) ?_
    refine WP.val rfl rfl rfl (Val.move rfl rfl) ?_
    refine WP.val rfl rfl rfl (Val.len rfl Ty.sl86 rfl) ?_
    refine WP.val rfl rfl rfl (Val.add (z := ((((pend).length) + p.length : Nat) : Int)) rfl rfl rfl ((w64 (by omega) (by omega)).trans (by omega))) ?_
    refine WP.val rfl rfl rfl (Val.nilCheck rfl rfl) ?_
    refine WP.val rfl rfl rfl (Val.fieldAddr (j := 3) rfl Ty.fo125_3 rfl rfl) ?_
    refine WP.perm pl1 ?_
    refine WP.eff0 rfl rfl (Eff.store rfl Ty.sc3 rfl rfl rfl (by simp) st3) ?_
    rintro _ _ rfl
    refine WP.nil ?_
    refine Out.next ?_
    refine WPc.seq ?_
    refine WPc.region ?_
    refine WP.val rfl rfl rfl (Val.move rfl rfl) ?_
    refine WP.val rfl rfl rfl (Val.len rfl Ty.sl86 rfl) ?_
    refine WP.val rfl rfl rfl (Val.assign rfl rfl) ?_
    refine WP.val rfl rfl rfl (Val.assign rfl rfl) ?_
    refine WP.nil ?_
    refine Out.next ?_
    refine WPc.ret ?_
    refine Out.then_ret ?_
    exact Out.ret2 (L' := _) Try.results34 rfl rfl ⟨wv, junk.drop p.length, by simp; omega, rfl, rfl⟩ (fun w h => by simpa using h)
  · skip
    have h1 : ¬ (((p.length + ((pend).length) : Nat) : Int) ≤ ((B : Nat) : Int)) := h1
    exfalso; omega

end Go.Proofs.Ythmkdioafjmclaa.Pg2
