import Derived.Test.YthmkdioafjmclaaSlTerse
import Derived.Test.YthmkdioafjmclaaBt15
namespace Go.Proofs.Ythmkdioafjmclaa.Bt16
open Go.RowKit Go.Proofs.Ythmkdioafjmclaa Go.Proofs.Ythmkdioafjmclaa.Sl Go.Proofs.Ythmkdioafjmclaa.Bt Go.Proofs.Ythmkdioafjmclaa.Bt2 Go.Proofs.Ythmkdioafjmclaa.Bt3 Go.Proofs.Ythmkdioafjmclaa.Bt4 Go.Proofs.Ythmkdioafjmclaa.Bt5 Go.Proofs.Ythmkdioafjmclaa.Bt6 Go.Proofs.Ythmkdioafjmclaa.Bt7 Go.Proofs.Ythmkdioafjmclaa.Bt8 Go.Proofs.Ythmkdioafjmclaa.Bt9 Go.Proofs.Ythmkdioafjmclaa.Bt10 Go.Proofs.Ythmkdioafjmclaa.Bt11 Go.Proofs.Ythmkdioafjmclaa.Bt12 Go.Proofs.Ythmkdioafjmclaa.Bt13 Go.Proofs.Ythmkdioafjmclaa.Bt14 Go.Proofs.Ythmkdioafjmclaa.BtP Go.Proofs.Ythmkdioafjmclaa.Bt15
set_option linter.unusedVariables false
set_option linter.unusedSimpArgs false
set_option linter.unusedSectionVars false


structure BAns where
 err : Int
 ok : Bool
 n : Int
 el : El
 l : List El
def stepB (d : Nat) (s : St) (o : Bop) : St × BAns :=
 if o.kind = 1 then ((stepIns d s o.el).1, ⟨0, (stepIns d s o.el).2.isSome, 0, (stepIns d s o.el).2.getD El0, []⟩)
 else if o.kind = 3 then (s, ⟨0, (getS s o.el).isSome, 0, (getS s o.el).getD El0, []⟩)
 else if o.kind = 7 then ((stepMin d s).1, ⟨0, (stepMin d s).2.isSome, 0, (stepMin d s).2.getD El0, []⟩)
 else if o.kind = 8 then ((stepMax d s).1, ⟨0, (stepMax d s).2.isSome, 0, (stepMax d s).2.getD El0, []⟩)
 else if o.kind = 9 then (s, ⟨0, false, s.n, El0, []⟩)
 else (s, ⟨0, false, 0, El0, (vis o.most [] (elems s)).1⟩)
def ARc (a : BAns × Value) : List Value := [.int .i64 a.1.err, .bool a.1.ok, .int .i64 a.1.n, .int .i64 a.1.el.k, .int .i64 a.1.el.v, a.2]
theorem ARc_len (a : BAns × Value) : (ARc a).length = 6 := rfl
/-- an answer's list -/
def AnsP (a : BAns × Value) : HProp := Sep [Pure (a.2.oneCell' = true), Own 55 2 a.2 a.1.l.length (flatOf El.cells a.1.l)]
theorem ansP_mk {W w : World} {L : List HProp} {a : BAns} {lv : Value} (h1 : lv.oneCell' = true) (h : Sat W (Own 55 2 lv a.l.length (flatOf El.cells a.l) :: L) w) : Sat W (AnsP (a, lv) :: L) w := Sat.sep_mk (Sat.pure_mk h1 h)
theorem new_fl {W w : World} {L : List HProp} {f b : Nat} (h : Sat W (Blk f [.slice (some ⟨b, 0, none⟩) 0 32] 208 :: Blk b (List.replicate 32 [Value.pointer none]).flatten 171 :: L) w) : Sat W (FL f :: L) w := by
 have h1 := Sat.kNil (R := FNode) (h.perm (List.Perm.swap _ _ _))
 have h2 := (h1.perm pl2)
 exact Sat.flMk (qs := []) (sp := (List.replicate 32 [Value.pointer none]).flatten) (Nat.zero_le _) (by simp) (h2.perm ((List.Perm.swap _ _ _).cons _))
theorem own_nil0 {W w : World} {L : List HProp} (h : Sat W L w) : Sat W (Own 55 2 (.slice none 0 0) 0 [] :: L) w := h.ownNil
set_option maxRecDepth 100000 in
set_option maxHeartbeats 2000000 in
theorem listed_spec (c f d tb : Nat) (s : St) (hwf : Wf d s) (h6 : (elems s).length ≤ 1000000) (tr : Int) (e : El) (fr ti mo : Int) (ag : Bool) : Does Try.prog 84 [.pointer (some ⟨tb, 0, none⟩), .agg #[.int .i64 10, .int .i64 (tr), .int .i64 (e.k), .int .i64 (e.v), .int .i64 (fr), .int .i64 (ti), .int .i64 (mo), .bool (ag)]] [TreeP c d tb s] (fun v L => v.oneCell' = true ∧ L = [TreeP c d tb s, Own 55 2 v (vis mo [] (elems s)).1.length (flatOf El.cells (vis mo [] (elems s)).1)]) := by
 refine Does.enter 67 Try.func84 rfl rfl rfl fun W F => ?_
 show WPc _ _ _ _ _ [(0, .pointer (some ⟨tb, 0, none⟩)), (1, .agg #[.int .i64 10, .int .i64 (tr), .int .i64 (e.k), .int .i64 (e.v), .int .i64 (fr), .int .i64 (ti), .int .i64 (mo), .bool (ag)])] (TreeP c d tb s :: F)
 refine WPc.sr ?_
 refine WP.eff rfl rfl rfl (Eff.box (C := [.int .i64 10, .int .i64 (tr), .int .i64 (e.k), .int .i64 (e.v), .int .i64 (fr), .int .i64 (ti), .int .i64 (mo), .bool (ag)]) rfl rfl rfl) ?_
 rintro _ _ ⟨b1, rfl, rfl⟩
 refine WP.val rfl rfl rfl (Val.assign rfl rfl) ?_
 refine WP.nx ?_
 refine WPc.sr ?_
 refine WP.eff rfl rfl rfl (Eff.alloc rfl Ty.z52) ?_
 rintro _ _ ⟨b2, rfl, rfl⟩
 refine WP.nx ?_
 refine WPc.sr ?_
 refine WP.val rfl rfl rfl (Val.mkFunc rfl rfl rfl) ?_
 refine WP.val rfl rfl rfl (Val.assign rfl rfl) ?_
 refine WP.nx ?_
 refine WPc.sr ?_
 refine WP.val rfl rfl rfl (Val.fieldAddr (j := 4) rfl Ty.fo57_3 rfl rfl) ?_
 refine WP.val rfl rfl rfl (Val.load rfl Ty.sc3 rfl (fun w h => h.cell 1 rfl rfl)) ?_
 refine WP.val rfl rfl rfl (Val.mk (cs := [.int .i64 (fr), .int .i64 0]) rfl rfl (fun _ => by kernel_rfl)) ?_
 refine WP.eff rfl rfl rfl (Eff.alloc rfl Ty.z55) ?_
 rintro _ _ ⟨b3, rfl, rfl⟩
 refine WP.eff0 rfl rfl (Eff.storeAgg (cs := [.int .i64 (fr), .int .i64 0]) (C' := [.int .i64 (fr), .int .i64 0]) rfl Ty.ag55 rfl rfl rfl rfl (by simp) rfl) ?_
 rintro _ _ rfl
 refine WP.nx ?_
 refine WPc.sr ?_
 refine WP.val rfl rfl rfl (Val.fieldAddr (j := 5) rfl Ty.fo57_4 rfl rfl) ?_
 refine WP.val rfl rfl rfl (Val.load rfl Ty.sc3 rfl (fun w h => h.cell 2 rfl rfl)) ?_
 refine WP.val rfl rfl rfl (Val.mk (cs := [.int .i64 (ti), .int .i64 0]) rfl rfl (fun _ => by kernel_rfl)) ?_
 refine WP.eff rfl rfl rfl (Eff.alloc rfl Ty.z55) ?_
 rintro _ _ ⟨b4, rfl, rfl⟩
 refine WP.eff0 rfl rfl (Eff.storeAgg (cs := [.int .i64 (ti), .int .i64 0]) (C' := [.int .i64 (ti), .int .i64 0]) rfl Ty.ag55 rfl rfl rfl rfl (by simp) rfl) ?_
 rintro _ _ rfl
 refine WP.nx ?_
 refine WPc.seq ?_
 refine WPc.sr ?_
 refine WP.val rfl rfl rfl (Val.fieldAddr (j := 0) rfl Ty.fo57_0 rfl rfl) ?_
 refine WP.val rfl rfl rfl (Val.load rfl Ty.sc3 rfl (fun w h => h.cell 3 rfl rfl)) ?_
 refine WP.nx ?_
 refine WPc.block ?_
 refine WPc.sr ?_
 refine WP.val rfl rfl rfl (Val.eqlK rfl rfl rfl rfl) ?_
 refine WP.val rfl rfl rfl (Val.assign rfl rfl) ?_
 refine WP.nx ?_
 refine WPc.condT rfl rfl ?_
 refine WPc.conv (fun w h => own_nil0 h) ?_
 refine WPc.perm pl3 ?_
 refine WPc.conv (fun w h => Sat.outMk (out := []) h) ?_
 show WPc _ _ _ _ _ _ (OutP b2 [] :: Blk b4 [.int .i64 (ti), .int .i64 0] 55 :: Blk b3 [.int .i64 (fr), .int .i64 0] 55 :: Blk b1 [.int .i64 10, .int .i64 (tr), .int .i64 (e.k), .int .i64 (e.v), .int .i64 (fr), .int .i64 (ti), .int .i64 (mo), .bool (ag)] 57 :: _)
 refine WPc.region ?_
 refine WP.val rfl rfl rfl (Val.move rfl rfl) ?_
 refine WP.val rfl rfl rfl (Val.move rfl rfl) ?_
 refine WP.perm pl3 ?_
 refine WP.perm pl1 ?_
 refine WP.perm pl4 ?_
 refine WP.eff rfl rfl rfl (Eff.call rfl rfl Try.call110 (asc_tp c f d tb b2 b1 s hwf (Bop.mk 10 tr e fr ti mo ag) [] (by simpa using h6))) ?_
 rintro _ _ ⟨_, rfl, rfl⟩
 show WP _ _ _ _ _ _ _ (_ :: OutP b2 (vis mo [] (elems s)).1 :: _)
 refine WP.nil ?_
 refine Out.block ?_
 refine Out.next ?_
 refine WPc.seq ?_
 refine WPc.perm pl1 ?_
 refine WPc.open (fun w h => h.outOpen) ?_
 rintro lv
 show WPc _ _ _ _ _ _ (Blk b2 [lv] 52 :: Own 55 2 lv ((vis mo [] (elems s)).1.length) (flatOf El.cells (vis mo [] (elems s)).1) :: _)
 refine WPc.perm pl1 ?_
 refine WPc.fact (fun w h => own_oneCell h) (fun hlv => ?_)
 refine WPc.region ?_
 refine WP.val rfl rfl rfl (Val.load rfl Ty.sc52 rfl (fun w h => h.cell 1 rfl rfl)) ?_
 refine WP.val rfl rfl rfl (Val.assign rfl rfl) ?_
 refine WP.nx ?_
 refine WPc.ret ?_
 refine Out.perm pl1 ?_
 iterate 3 (refine Out.drop ?_; refine Out.perm pl2 ?_)
 refine Out.drop ?_
 refine Out.perm pl1 ?_
 exact Out.ret1 (L' := _) Try.results84 rfl ⟨hlv, rfl⟩ (fun _ h => h)
set_option maxRecDepth 100000 in
set_option maxHeartbeats 2000000 in
theorem grown_1 (c f d tb : Nat) (s : St) (hwf : Wf d s) (h6 : (elems s).length < 1000000) (tr : Int) (e : El) (fr ti mo : Int) (ag : Bool) : Does Try.prog 55 [.pointer (some ⟨tb, 0, none⟩), .agg #[.int .i64 1, .int .i64 (tr), .int .i64 (e.k), .int .i64 (e.v), .int .i64 (fr), .int .i64 (ti), .int .i64 (mo), .bool (ag)]] [TreeP c d tb s, Blk c [.pointer (some ⟨f, 0, none⟩), .func (.func 53) #[] #[]] 170, FL f] (fun v L => ∃ lv, lv.oneCell' = true ∧ v = .agg #[.int .i64 (stepB d s (Bop.mk 1 tr e fr ti mo ag)).2.err, .bool (stepB d s (Bop.mk 1 tr e fr ti mo ag)).2.ok, .int .i64 (stepB d s (Bop.mk 1 tr e fr ti mo ag)).2.n, .int .i64 (stepB d s (Bop.mk 1 tr e fr ti mo ag)).2.el.k, .int .i64 (stepB d s (Bop.mk 1 tr e fr ti mo ag)).2.el.v, lv] ∧ L = [TreeP c d tb (stepB d s (Bop.mk 1 tr e fr ti mo ag)).1, Blk c [.pointer (some ⟨f, 0, none⟩), .func (.func 53) #[] #[]] 170, FL f, Own 55 2 lv (stepB d s (Bop.mk 1 tr e fr ti mo ag)).2.l.length (flatOf El.cells (stepB d s (Bop.mk 1 tr e fr ti mo ag)).2.l)]) := by
 refine Does.enter 101 Try.func55 rfl rfl rfl fun W F => ?_
 show WPc _ _ _ _ _ [(0, .pointer (some ⟨tb, 0, none⟩)), (1, .agg #[.int .i64 1, .int .i64 (tr), .int .i64 (e.k), .int .i64 (e.v), .int .i64 (fr), .int .i64 (ti), .int .i64 (mo), .bool (ag)])] (TreeP c d tb s :: Blk c [.pointer (some ⟨f, 0, none⟩), .func (.func 53) #[] #[]] 170 :: FL f :: F)
 refine WPc.sr ?_
 refine WP.eff rfl rfl rfl (Eff.box (C := [.int .i64 1, .int .i64 (tr), .int .i64 (e.k), .int .i64 (e.v), .int .i64 (fr), .int .i64 (ti), .int .i64 (mo), .bool (ag)]) rfl rfl rfl) ?_
 rintro _ _ ⟨b1, rfl, rfl⟩
 refine WP.eff rfl rfl rfl (Eff.alloc rfl Ty.z62) ?_
 rintro _ _ ⟨b2, rfl, rfl⟩
 refine WP.nx ?_
 refine WPc.sr ?_
 refine WP.val rfl rfl rfl (Val.mk (cs := [.int .i64 0, .bool false, .int .i64 0, .int .i64 0, .int .i64 0, .slice none 0 0]) rfl rfl (fun _ => by kernel_rfl)) ?_
 refine WP.eff rfl rfl rfl (Eff.alloc rfl Ty.z62) ?_
 rintro _ _ ⟨b3, rfl, rfl⟩
 refine WP.eff0 rfl rfl (Eff.storeAgg (cs := [.int .i64 0, .bool false, .int .i64 0, .int .i64 0, .int .i64 0, .slice none 0 0]) (C' := [.int .i64 0, .bool false, .int .i64 0, .int .i64 0, .int .i64 0, .slice none 0 0]) rfl Ty.ag62 rfl rfl rfl rfl (by simp) rfl) ?_
 rintro _ _ rfl
 refine WP.nx ?_
 refine WPc.seq ?_
 refine WPc.sr ?_
 refine WP.val rfl rfl rfl (Val.fieldAddr (j := 0) rfl Ty.fo57_0 rfl rfl) ?_
 refine WP.val rfl rfl rfl (Val.load rfl Ty.sc3 rfl (fun w h => h.cell 2 rfl rfl)) ?_
 refine WP.nx ?_
 refine WPc.block ?_
 refine WPc.sr ?_
 refine WP.val rfl rfl rfl (Val.eqlK rfl rfl rfl rfl) ?_
 refine WP.val rfl rfl rfl (Val.assign rfl rfl) ?_
 refine WP.nx ?_
 refine WPc.condT rfl rfl ?_
 refine WPc.region ?_
 refine WP.val rfl rfl rfl (Val.move rfl rfl) ?_
 refine WP.val rfl rfl rfl (Val.fieldAddr (j := 2) rfl Ty.fo57_2 rfl rfl) ?_
 refine WP.val rfl rfl rfl (Val.loadAgg (cs := [.int .i64 (e.k), .int .i64 (e.v)]) rfl Ty.ag55 rfl rfl (fun w h => h.range 2 rfl rfl)) ?_
 iterate 3 (refine WP.perm pl5 ?_)
 refine WP.eff rfl rfl rfl (Eff.call rfl rfl Try.call74 (ins_tp c f d tb s hwf h6 e)) ?_
 rintro _ _ ⟨_, ⟨rfl, rfl⟩, rfl⟩
 show WP _ _ _ _ _ _ _ (TreeP c d tb (stepIns d s e).1 :: _ :: _ :: Blk b3 [.int .i64 0, .bool false, .int .i64 0, .int .i64 0, .int .i64 0, .slice none 0 0] 62 :: Blk b2 [.int .i64 0, .bool false, .int .i64 0, .int .i64 0, .int .i64 0, .slice none 0 0] 62 :: Blk b1 [.int .i64 1, .int .i64 (tr), .int .i64 (e.k), .int .i64 (e.v), .int .i64 (fr), .int .i64 (ti), .int .i64 (mo), .bool (ag)] 57 :: _)
 refine WP.val rfl rfl rfl (Val.move rfl rfl) ?_
 refine WP.val rfl rfl rfl (Val.extract rfl rfl rfl) ?_
 refine WP.val rfl rfl rfl (Val.extract rfl rfl rfl) ?_
 refine WP.val rfl rfl rfl (Val.fieldAddr (j := 3) rfl Ty.fo62_3 rfl rfl) ?_
 refine WP.perm pl3 ?_
 refine WP.eff0 rfl rfl (Eff.storeAgg (cs := [.int .i64 (((stepIns d s e).2.getD El0).k), .int .i64 (((stepIns d s e).2.getD El0).v)]) (C' := [.int .i64 0, .bool false, .int .i64 0, .int .i64 (((stepIns d s e).2.getD El0).k), .int .i64 (((stepIns d s e).2.getD El0).v), .slice none 0 0]) rfl Ty.ag55 rfl rfl rfl rfl (by simp) rfl) ?_
 rintro _ _ rfl
 refine WP.val rfl rfl rfl (Val.fieldAddr (j := 1) rfl Ty.fo62_1 rfl rfl) ?_
 refine WP.eff0 rfl rfl (Eff.store rfl Ty.sc4 rfl rfl rfl (by simp) st1) ?_
 rintro _ _ rfl
 refine WP.nil ?_
 refine Out.block ?_
 refine Out.next ?_
 refine WPc.sr ?_
 refine WP.val rfl rfl rfl (Val.loadAgg (cs := [.int .i64 0, .bool ((stepIns d s e).2.isSome), .int .i64 0, .int .i64 (((stepIns d s e).2.getD El0).k), .int .i64 (((stepIns d s e).2.getD El0).v), .slice none 0 0]) rfl Ty.ag62 rfl rfl (fun w h => h.range 0 rfl rfl)) ?_
 refine WP.perm pl4 ?_
 refine WP.eff0 rfl rfl (Eff.storeAgg (cs := [.int .i64 0, .bool ((stepIns d s e).2.isSome), .int .i64 0, .int .i64 (((stepIns d s e).2.getD El0).k), .int .i64 (((stepIns d s e).2.getD El0).v), .slice none 0 0]) (C' := [.int .i64 0, .bool ((stepIns d s e).2.isSome), .int .i64 0, .int .i64 (((stepIns d s e).2.getD El0).k), .int .i64 (((stepIns d s e).2.getD El0).v), .slice none 0 0]) rfl Ty.ag62 rfl rfl rfl rfl (by simp) rfl) ?_
 rintro _ _ rfl
 refine WP.nx ?_
 refine WPc.ret ?_
 have hst : stepB d s (Bop.mk 1 tr e fr ti mo ag) = ((stepIns d s e).1, ⟨0, (stepIns d s e).2.isSome, 0, (stepIns d s e).2.getD El0, []⟩) := by simp [stepB]
 refine Out.conv (fun w h => own_nil0 h) ?_
 refine Out.perm pl2 ?_
 refine Out.drop ?_
 refine Out.perm pl5 ?_
 refine Out.drop ?_
 iterate 4 (refine Out.perm pl4 ?_)
 exact Out.retRun (L' := [TreeP c d tb (stepIns d s e).1, Blk c [.pointer (some ⟨f, 0, none⟩), .func (.func 53) #[] #[]] 170, FL f, Own 55 2 (.slice none 0 0) 0 ([])]) (results_cell (cs := [.int .i64 0, .bool ((stepIns d s e).2.isSome), .int .i64 0, .int .i64 (((stepIns d s e).2.getD El0).k), .int .i64 (((stepIns d s e).2.getD El0).v), .slice none 0 0]) Try.results55 Ty.ag62 rfl rfl (fun w h => h.range 0 rfl rfl)) ⟨.slice none 0 0, rfl, by first | (rw [hst]; done) | (rw [hst]; rfl), by first | (rw [hst]; done) | (rw [hst]; rfl)⟩ (fun w h => h.drop)
set_option maxRecDepth 100000 in
set_option maxHeartbeats 2000000 in
theorem grown_3 (c f d tb : Nat) (s : St) (hwf : Wf d s) (h6 : (elems s).length < 1000000) (tr : Int) (e : El) (fr ti mo : Int) (ag : Bool) : Does Try.prog 55 [.pointer (some ⟨tb, 0, none⟩), .agg #[.int .i64 3, .int .i64 (tr), .int .i64 (e.k), .int .i64 (e.v), .int .i64 (fr), .int .i64 (ti), .int .i64 (mo), .bool (ag)]] [TreeP c d tb s, Blk c [.pointer (some ⟨f, 0, none⟩), .func (.func 53) #[] #[]] 170, FL f] (fun v L => ∃ lv, lv.oneCell' = true ∧ v = .agg #[.int .i64 (stepB d s (Bop.mk 3 tr e fr ti mo ag)).2.err, .bool (stepB d s (Bop.mk 3 tr e fr ti mo ag)).2.ok, .int .i64 (stepB d s (Bop.mk 3 tr e fr ti mo ag)).2.n, .int .i64 (stepB d s (Bop.mk 3 tr e fr ti mo ag)).2.el.k, .int .i64 (stepB d s (Bop.mk 3 tr e fr ti mo ag)).2.el.v, lv] ∧ L = [TreeP c d tb (stepB d s (Bop.mk 3 tr e fr ti mo ag)).1, Blk c [.pointer (some ⟨f, 0, none⟩), .func (.func 53) #[] #[]] 170, FL f, Own 55 2 lv (stepB d s (Bop.mk 3 tr e fr ti mo ag)).2.l.length (flatOf El.cells (stepB d s (Bop.mk 3 tr e fr ti mo ag)).2.l)]) := by
 refine Does.enter 101 Try.func55 rfl rfl rfl fun W F => ?_
 show WPc _ _ _ _ _ [(0, .pointer (some ⟨tb, 0, none⟩)), (1, .agg #[.int .i64 3, .int .i64 (tr), .int .i64 (e.k), .int .i64 (e.v), .int .i64 (fr), .int .i64 (ti), .int .i64 (mo), .bool (ag)])] (TreeP c d tb s :: Blk c [.pointer (some ⟨f, 0, none⟩), .func (.func 53) #[] #[]] 170 :: FL f :: F)
 refine WPc.sr ?_
 refine WP.eff rfl rfl rfl (Eff.box (C := [.int .i64 3, .int .i64 (tr), .int .i64 (e.k), .int .i64 (e.v), .int .i64 (fr), .int .i64 (ti), .int .i64 (mo), .bool (ag)]) rfl rfl rfl) ?_
 rintro _ _ ⟨b1, rfl, rfl⟩
 refine WP.eff rfl rfl rfl (Eff.alloc rfl Ty.z62) ?_
 rintro _ _ ⟨b2, rfl, rfl⟩
 refine WP.nx ?_
 refine WPc.sr ?_
 refine WP.val rfl rfl rfl (Val.mk (cs := [.int .i64 0, .bool false, .int .i64 0, .int .i64 0, .int .i64 0, .slice none 0 0]) rfl rfl (fun _ => by kernel_rfl)) ?_
 refine WP.eff rfl rfl rfl (Eff.alloc rfl Ty.z62) ?_
 rintro _ _ ⟨b3, rfl, rfl⟩
 refine WP.eff0 rfl rfl (Eff.storeAgg (cs := [.int .i64 0, .bool false, .int .i64 0, .int .i64 0, .int .i64 0, .slice none 0 0]) (C' := [.int .i64 0, .bool false, .int .i64 0, .int .i64 0, .int .i64 0, .slice none 0 0]) rfl Ty.ag62 rfl rfl rfl rfl (by simp) rfl) ?_
 rintro _ _ rfl
 refine WP.nx ?_
 refine WPc.seq ?_
 refine WPc.sr ?_
 refine WP.val rfl rfl rfl (Val.fieldAddr (j := 0) rfl Ty.fo57_0 rfl rfl) ?_
 refine WP.val rfl rfl rfl (Val.load rfl Ty.sc3 rfl (fun w h => h.cell 2 rfl rfl)) ?_
 refine WP.nx ?_
 refine WPc.block ?_
 refine WPc.sr ?_
 refine WP.val rfl rfl rfl (Val.eqlK rfl rfl rfl rfl) ?_
 refine WP.val rfl rfl rfl (Val.assign rfl rfl) ?_
 refine WP.nx ?_
 refine WPc.condF rfl rfl ?_
 refine WPc.sr ?_
 refine WP.val rfl rfl rfl (Val.eqlK rfl rfl rfl rfl) ?_
 refine WP.val rfl rfl rfl (Val.assign rfl rfl) ?_
 refine WP.nx ?_
 refine WPc.condF rfl rfl ?_
 refine WPc.sr ?_
 refine WP.val rfl rfl rfl (Val.eqlK rfl rfl rfl rfl) ?_
 refine WP.val rfl rfl rfl (Val.assign rfl rfl) ?_
 refine WP.nx ?_
 refine WPc.condT rfl rfl ?_
 refine WPc.region ?_
 refine WP.val rfl rfl rfl (Val.move rfl rfl) ?_
 refine WP.val rfl rfl rfl (Val.fieldAddr (j := 2) rfl Ty.fo57_2 rfl rfl) ?_
 refine WP.val rfl rfl rfl (Val.loadAgg (cs := [.int .i64 (e.k), .int .i64 (e.v)]) rfl Ty.ag55 rfl rfl (fun w h => h.range 2 rfl rfl)) ?_
 refine WP.perm pl4 ?_
 refine WP.perm pl4 ?_
 refine WP.eff rfl rfl rfl (Eff.call rfl rfl Try.call76 (get_tp c f d tb s hwf e)) ?_
 rintro _ _ ⟨_, ⟨rfl, rfl⟩, rfl⟩
 show WP _ _ _ _ _ _ _ (_ :: _ :: Blk b3 [.int .i64 0, .bool false, .int .i64 0, .int .i64 0, .int .i64 0, .slice none 0 0] 62 :: Blk b2 [.int .i64 0, .bool false, .int .i64 0, .int .i64 0, .int .i64 0, .slice none 0 0] 62 :: Blk b1 [.int .i64 3, .int .i64 (tr), .int .i64 (e.k), .int .i64 (e.v), .int .i64 (fr), .int .i64 (ti), .int .i64 (mo), .bool (ag)] 57 :: _)
 refine WP.val rfl rfl rfl (Val.move rfl rfl) ?_
 refine WP.val rfl rfl rfl (Val.extract rfl rfl rfl) ?_
 refine WP.val rfl rfl rfl (Val.extract rfl rfl rfl) ?_
 refine WP.val rfl rfl rfl (Val.fieldAddr (j := 3) rfl Ty.fo62_3 rfl rfl) ?_
 refine WP.perm pl2 ?_
 refine WP.eff0 rfl rfl (Eff.storeAgg (cs := [.int .i64 (((getS s e).getD El0).k), .int .i64 (((getS s e).getD El0).v)]) (C' := [.int .i64 0, .bool false, .int .i64 0, .int .i64 (((getS s e).getD El0).k), .int .i64 (((getS s e).getD El0).v), .slice none 0 0]) rfl Ty.ag55 rfl rfl rfl rfl (by simp) rfl) ?_
 rintro _ _ rfl
 refine WP.val rfl rfl rfl (Val.fieldAddr (j := 1) rfl Ty.fo62_1 rfl rfl) ?_
 refine WP.eff0 rfl rfl (Eff.store rfl Ty.sc4 rfl rfl rfl (by simp) st1) ?_
 rintro _ _ rfl
 refine WP.nil ?_
 refine Out.block ?_
 refine Out.next ?_
 refine WPc.sr ?_
 refine WP.val rfl rfl rfl (Val.loadAgg (cs := [.int .i64 0, .bool ((getS s e).isSome), .int .i64 0, .int .i64 (((getS s e).getD El0).k), .int .i64 (((getS s e).getD El0).v), .slice none 0 0]) rfl Ty.ag62 rfl rfl (fun w h => h.range 0 rfl rfl)) ?_
 refine WP.perm pl3 ?_
 refine WP.eff0 rfl rfl (Eff.storeAgg (cs := [.int .i64 0, .bool ((getS s e).isSome), .int .i64 0, .int .i64 (((getS s e).getD El0).k), .int .i64 (((getS s e).getD El0).v), .slice none 0 0]) (C' := [.int .i64 0, .bool ((getS s e).isSome), .int .i64 0, .int .i64 (((getS s e).getD El0).k), .int .i64 (((getS s e).getD El0).v), .slice none 0 0]) rfl Ty.ag62 rfl rfl rfl rfl (by simp) rfl) ?_
 rintro _ _ rfl
 refine WP.nx ?_
 refine WPc.ret ?_
 have hst : stepB d s (Bop.mk 3 tr e fr ti mo ag) = (s, ⟨0, (getS s e).isSome, 0, (getS s e).getD El0, []⟩) := by simp [stepB]
 refine Out.conv (fun w h => own_nil0 h) ?_
 refine Out.perm pl2 ?_
 refine Out.drop ?_
 refine Out.perm pl4 ?_
 refine Out.drop ?_
 iterate 4 (refine Out.perm pl4 ?_)
 exact Out.retRun (L' := [TreeP c d tb s, Blk c [.pointer (some ⟨f, 0, none⟩), .func (.func 53) #[] #[]] 170, FL f, Own 55 2 (.slice none 0 0) 0 ([])]) (results_cell (cs := [.int .i64 0, .bool ((getS s e).isSome), .int .i64 0, .int .i64 (((getS s e).getD El0).k), .int .i64 (((getS s e).getD El0).v), .slice none 0 0]) Try.results55 Ty.ag62 rfl rfl (fun w h => h.range 0 rfl rfl)) ⟨.slice none 0 0, rfl, by first | (rw [hst]; done) | (rw [hst]; rfl), by first | (rw [hst]; done) | (rw [hst]; rfl)⟩ (fun w h => h.drop)
set_option maxRecDepth 100000 in
set_option maxHeartbeats 2000000 in
theorem grown_7 (c f d tb : Nat) (s : St) (hwf : Wf d s) (h6 : (elems s).length < 1000000) (tr : Int) (e : El) (fr ti mo : Int) (ag : Bool) : Does Try.prog 55 [.pointer (some ⟨tb, 0, none⟩), .agg #[.int .i64 7, .int .i64 (tr), .int .i64 (e.k), .int .i64 (e.v), .int .i64 (fr), .int .i64 (ti), .int .i64 (mo), .bool (ag)]] [TreeP c d tb s, Blk c [.pointer (some ⟨f, 0, none⟩), .func (.func 53) #[] #[]] 170, FL f] (fun v L => ∃ lv, lv.oneCell' = true ∧ v = .agg #[.int .i64 (stepB d s (Bop.mk 7 tr e fr ti mo ag)).2.err, .bool (stepB d s (Bop.mk 7 tr e fr ti mo ag)).2.ok, .int .i64 (stepB d s (Bop.mk 7 tr e fr ti mo ag)).2.n, .int .i64 (stepB d s (Bop.mk 7 tr e fr ti mo ag)).2.el.k, .int .i64 (stepB d s (Bop.mk 7 tr e fr ti mo ag)).2.el.v, lv] ∧ L = [TreeP c d tb (stepB d s (Bop.mk 7 tr e fr ti mo ag)).1, Blk c [.pointer (some ⟨f, 0, none⟩), .func (.func 53) #[] #[]] 170, FL f, Own 55 2 lv (stepB d s (Bop.mk 7 tr e fr ti mo ag)).2.l.length (flatOf El.cells (stepB d s (Bop.mk 7 tr e fr ti mo ag)).2.l)]) := by
 refine Does.enter 101 Try.func55 rfl rfl rfl fun W F => ?_
 show WPc _ _ _ _ _ [(0, .pointer (some ⟨tb, 0, none⟩)), (1, .agg #[.int .i64 7, .int .i64 (tr), .int .i64 (e.k), .int .i64 (e.v), .int .i64 (fr), .int .i64 (ti), .int .i64 (mo), .bool (ag)])] (TreeP c d tb s :: Blk c [.pointer (some ⟨f, 0, none⟩), .func (.func 53) #[] #[]] 170 :: FL f :: F)
 refine WPc.sr ?_
 refine WP.eff rfl rfl rfl (Eff.box (C := [.int .i64 7, .int .i64 (tr), .int .i64 (e.k), .int .i64 (e.v), .int .i64 (fr), .int .i64 (ti), .int .i64 (mo), .bool (ag)]) rfl rfl rfl) ?_
 rintro _ _ ⟨b1, rfl, rfl⟩
 refine WP.eff rfl rfl rfl (Eff.alloc rfl Ty.z62) ?_
 rintro _ _ ⟨b2, rfl, rfl⟩
 refine WP.nx ?_
 refine WPc.sr ?_
 refine WP.val rfl rfl rfl (Val.mk (cs := [.int .i64 0, .bool false, .int .i64 0, .int .i64 0, .int .i64 0, .slice none 0 0]) rfl rfl (fun _ => by kernel_rfl)) ?_
 refine WP.eff rfl rfl rfl (Eff.alloc rfl Ty.z62) ?_
 rintro _ _ ⟨b3, rfl, rfl⟩
 refine WP.eff0 rfl rfl (Eff.storeAgg (cs := [.int .i64 0, .bool false, .int .i64 0, .int .i64 0, .int .i64 0, .slice none 0 0]) (C' := [.int .i64 0, .bool false, .int .i64 0, .int .i64 0, .int .i64 0, .slice none 0 0]) rfl Ty.ag62 rfl rfl rfl rfl (by simp) rfl) ?_
 rintro _ _ rfl
 refine WP.nx ?_
 refine WPc.seq ?_
 refine WPc.sr ?_
 refine WP.val rfl rfl rfl (Val.fieldAddr (j := 0) rfl Ty.fo57_0 rfl rfl) ?_
 refine WP.val rfl rfl rfl (Val.load rfl Ty.sc3 rfl (fun w h => h.cell 2 rfl rfl)) ?_
 refine WP.nx ?_
 refine WPc.block ?_
 refine WPc.sr ?_
 refine WP.val rfl rfl rfl (Val.eqlK rfl rfl rfl rfl) ?_
 refine WP.val rfl rfl rfl (Val.assign rfl rfl) ?_
 refine WP.nx ?_
 refine WPc.condF rfl rfl ?_
 refine WPc.sr ?_
 refine WP.val rfl rfl rfl (Val.eqlK rfl rfl rfl rfl) ?_
 refine WP.val rfl rfl rfl (Val.assign rfl rfl) ?_
 refine WP.nx ?_
 refine WPc.condF rfl rfl ?_
 refine WPc.sr ?_
 refine WP.val rfl rfl rfl (Val.eqlK rfl rfl rfl rfl) ?_
 refine WP.val rfl rfl rfl (Val.assign rfl rfl) ?_
 refine WP.nx ?_
 refine WPc.condF rfl rfl ?_
 refine WPc.sr ?_
 refine WP.val rfl rfl rfl (Val.eqlK rfl rfl rfl rfl) ?_
 refine WP.val rfl rfl rfl (Val.assign rfl rfl) ?_
 refine WP.nx ?_
 refine WPc.condF rfl rfl ?_
 refine WPc.sr ?_
 refine WP.val rfl rfl rfl (Val.eqlK rfl rfl rfl rfl) ?_
 refine WP.val rfl rfl rfl (Val.assign rfl rfl) ?_
 refine WP.nx ?_
 refine WPc.condF rfl rfl ?_
 refine WPc.sr ?_
 refine WP.val rfl rfl rfl (Val.eqlK rfl rfl rfl rfl) ?_
 refine WP.val rfl rfl rfl (Val.assign rfl rfl) ?_
 refine WP.nx ?_
 refine WPc.condF rfl rfl ?_
 refine WPc.sr ?_
 refine WP.val rfl rfl rfl (Val.eqlK rfl rfl rfl rfl) ?_
 refine WP.val rfl rfl rfl (Val.assign rfl rfl) ?_
 refine WP.nx ?_
 refine WPc.condT rfl rfl ?_
 refine WPc.region ?_
 refine WP.val rfl rfl rfl (Val.move rfl rfl) ?_
 iterate 3 (refine WP.perm pl5 ?_)
 refine WP.eff rfl rfl rfl (Eff.call rfl rfl Try.call80 (dMin_spec c f d tb s hwf h6)) ?_
 rintro _ _ ⟨_, ⟨rfl, rfl⟩, rfl⟩
 show WP _ _ _ _ _ _ _ (TreeP c d tb (stepMin d s).1 :: _ :: _ :: Blk b3 [.int .i64 0, .bool false, .int .i64 0, .int .i64 0, .int .i64 0, .slice none 0 0] 62 :: Blk b2 [.int .i64 0, .bool false, .int .i64 0, .int .i64 0, .int .i64 0, .slice none 0 0] 62 :: Blk b1 [.int .i64 7, .int .i64 (tr), .int .i64 (e.k), .int .i64 (e.v), .int .i64 (fr), .int .i64 (ti), .int .i64 (mo), .bool (ag)] 57 :: _)
 refine WP.val rfl rfl rfl (Val.move rfl rfl) ?_
 refine WP.val rfl rfl rfl (Val.extract rfl rfl rfl) ?_
 refine WP.val rfl rfl rfl (Val.extract rfl rfl rfl) ?_
 refine WP.val rfl rfl rfl (Val.fieldAddr (j := 3) rfl Ty.fo62_3 rfl rfl) ?_
 refine WP.perm pl3 ?_
 refine WP.eff0 rfl rfl (Eff.storeAgg (cs := [.int .i64 (((stepMin d s).2.getD El0).k), .int .i64 (((stepMin d s).2.getD El0).v)]) (C' := [.int .i64 0, .bool false, .int .i64 0, .int .i64 (((stepMin d s).2.getD El0).k), .int .i64 (((stepMin d s).2.getD El0).v), .slice none 0 0]) rfl Ty.ag55 rfl rfl rfl rfl (by simp) rfl) ?_
 rintro _ _ rfl
 refine WP.val rfl rfl rfl (Val.fieldAddr (j := 1) rfl Ty.fo62_1 rfl rfl) ?_
 refine WP.eff0 rfl rfl (Eff.store rfl Ty.sc4 rfl rfl rfl (by simp) st1) ?_
 rintro _ _ rfl
 refine WP.nil ?_
 refine Out.block ?_
 refine Out.next ?_
 refine WPc.sr ?_
 refine WP.val rfl rfl rfl (Val.loadAgg (cs := [.int .i64 0, .bool ((stepMin d s).2.isSome), .int .i64 0, .int .i64 (((stepMin d s).2.getD El0).k), .int .i64 (((stepMin d s).2.getD El0).v), .slice none 0 0]) rfl Ty.ag62 rfl rfl (fun w h => h.range 0 rfl rfl)) ?_
 refine WP.perm pl4 ?_
 refine WP.eff0 rfl rfl (Eff.storeAgg (cs := [.int .i64 0, .bool ((stepMin d s).2.isSome), .int .i64 0, .int .i64 (((stepMin d s).2.getD El0).k), .int .i64 (((stepMin d s).2.getD El0).v), .slice none 0 0]) (C' := [.int .i64 0, .bool ((stepMin d s).2.isSome), .int .i64 0, .int .i64 (((stepMin d s).2.getD El0).k), .int .i64 (((stepMin d s).2.getD El0).v), .slice none 0 0]) rfl Ty.ag62 rfl rfl rfl rfl (by simp) rfl) ?_
 rintro _ _ rfl
 refine WP.nx ?_
 refine WPc.ret ?_
 have hst : stepB d s (Bop.mk 7 tr e fr ti mo ag) = ((stepMin d s).1, ⟨0, (stepMin d s).2.isSome, 0, (stepMin d s).2.getD El0, []⟩) := by simp [stepB]
 refine Out.conv (fun w h => own_nil0 h) ?_
 refine Out.perm pl2 ?_
 refine Out.drop ?_
 refine Out.perm pl5 ?_
 refine Out.drop ?_
 iterate 4 (refine Out.perm pl4 ?_)
 exact Out.retRun (L' := [TreeP c d tb (stepMin d s).1, Blk c [.pointer (some ⟨f, 0, none⟩), .func (.func 53) #[] #[]] 170, FL f, Own 55 2 (.slice none 0 0) 0 ([])]) (results_cell (cs := [.int .i64 0, .bool ((stepMin d s).2.isSome), .int .i64 0, .int .i64 (((stepMin d s).2.getD El0).k), .int .i64 (((stepMin d s).2.getD El0).v), .slice none 0 0]) Try.results55 Ty.ag62 rfl rfl (fun w h => h.range 0 rfl rfl)) ⟨.slice none 0 0, rfl, by first | (rw [hst]; done) | (rw [hst]; rfl), by first | (rw [hst]; done) | (rw [hst]; rfl)⟩ (fun w h => h.drop)
set_option maxRecDepth 100000 in
set_option maxHeartbeats 2000000 in
theorem grown_8 (c f d tb : Nat) (s : St) (hwf : Wf d s) (h6 : (elems s).length < 1000000) (tr : Int) (e : El) (fr ti mo : Int) (ag : Bool) : Does Try.prog 55 [.pointer (some ⟨tb, 0, none⟩), .agg #[.int .i64 8, .int .i64 (tr), .int .i64 (e.k), .int .i64 (e.v), .int .i64 (fr), .int .i64 (ti), .int .i64 (mo), .bool (ag)]] [TreeP c d tb s, Blk c [.pointer (some ⟨f, 0, none⟩), .func (.func 53) #[] #[]] 170, FL f] (fun v L => ∃ lv, lv.oneCell' = true ∧ v = .agg #[.int .i64 (stepB d s (Bop.mk 8 tr e fr ti mo ag)).2.err, .bool (stepB d s (Bop.mk 8 tr e fr ti mo ag)).2.ok, .int .i64 (stepB d s (Bop.mk 8 tr e fr ti mo ag)).2.n, .int .i64 (stepB d s (Bop.mk 8 tr e fr ti mo ag)).2.el.k, .int .i64 (stepB d s (Bop.mk 8 tr e fr ti mo ag)).2.el.v, lv] ∧ L = [TreeP c d tb (stepB d s (Bop.mk 8 tr e fr ti mo ag)).1, Blk c [.pointer (some ⟨f, 0, none⟩), .func (.func 53) #[] #[]] 170, FL f, Own 55 2 lv (stepB d s (Bop.mk 8 tr e fr ti mo ag)).2.l.length (flatOf El.cells (stepB d s (Bop.mk 8 tr e fr ti mo ag)).2.l)]) := by
 refine Does.enter 101 Try.func55 rfl rfl rfl fun W F => ?_
 show WPc _ _ _ _ _ [(0, .pointer (some ⟨tb, 0, none⟩)), (1, .agg #[.int .i64 8, .int .i64 (tr), .int .i64 (e.k), .int .i64 (e.v), .int .i64 (fr), .int .i64 (ti), .int .i64 (mo), .bool (ag)])] (TreeP c d tb s :: Blk c [.pointer (some ⟨f, 0, none⟩), .func (.func 53) #[] #[]] 170 :: FL f :: F)
 refine WPc.sr ?_
 refine WP.eff rfl rfl rfl (Eff.box (C := [.int .i64 8, .int .i64 (tr), .int .i64 (e.k), .int .i64 (e.v), .int .i64 (fr), .int .i64 (ti), .int .i64 (mo), .bool (ag)]) rfl rfl rfl) ?_
 rintro _ _ ⟨b1, rfl, rfl⟩
 refine WP.eff rfl rfl rfl (Eff.alloc rfl Ty.z62) ?_
 rintro _ _ ⟨b2, rfl, rfl⟩
 refine WP.nx ?_
 refine WPc.sr ?_
 refine WP.val rfl rfl rfl (Val.mk (cs := [.int .i64 0, .bool false, .int .i64 0, .int .i64 0, .int .i64 0, .slice none 0 0]) rfl rfl (fun _ => by kernel_rfl)) ?_
 refine WP.eff rfl rfl rfl (Eff.alloc rfl Ty.z62) ?_
 rintro _ _ ⟨b3, rfl, rfl⟩
 refine WP.eff0 rfl rfl (Eff.storeAgg (cs := [.int .i64 0, .bool false, .int .i64 0, .int .i64 0, .int .i64 0, .slice none 0 0]) (C' := [.int .i64 0, .bool false, .int .i64 0, .int .i64 0, .int .i64 0, .slice none 0 0]) rfl Ty.ag62 rfl rfl rfl rfl (by simp) rfl) ?_
 rintro _ _ rfl
 refine WP.nx ?_
 refine WPc.seq ?_
 refine WPc.sr ?_
 refine WP.val rfl rfl rfl (Val.fieldAddr (j := 0) rfl Ty.fo57_0 rfl rfl) ?_
 refine WP.val rfl rfl rfl (Val.load rfl Ty.sc3 rfl (fun w h => h.cell 2 rfl rfl)) ?_
 refine WP.nx ?_
 refine WPc.block ?_
 refine WPc.sr ?_
 refine WP.val rfl rfl rfl (Val.eqlK rfl rfl rfl rfl) ?_
 refine WP.val rfl rfl rfl (Val.assign rfl rfl) ?_
 refine WP.nx ?_
 refine WPc.condF rfl rfl ?_
 refine WPc.sr ?_
 refine WP.val rfl rfl rfl (Val.eqlK rfl rfl rfl rfl) ?_
 refine WP.val rfl rfl rfl (Val.assign rfl rfl) ?_
 refine WP.nx ?_
 refine WPc.condF rfl rfl ?_
 refine WPc.sr ?_
 refine WP.val rfl rfl rfl (Val.eqlK rfl rfl rfl rfl) ?_
 refine WP.val rfl rfl rfl (Val.assign rfl rfl) ?_
 refine WP.nx ?_
 refine WPc.condF rfl rfl ?_
 refine WPc.sr ?_
 refine WP.val rfl rfl rfl (Val.eqlK rfl rfl rfl rfl) ?_
 refine WP.val rfl rfl rfl (Val.assign rfl rfl) ?_
 refine WP.nx ?_
 refine WPc.condF rfl rfl ?_
 refine WPc.sr ?_
 refine WP.val rfl rfl rfl (Val.eqlK rfl rfl rfl rfl) ?_
 refine WP.val rfl rfl rfl (Val.assign rfl rfl) ?_
 refine WP.nx ?_
 refine WPc.condF rfl rfl ?_
 refine WPc.sr ?_
 refine WP.val rfl rfl rfl (Val.eqlK rfl rfl rfl rfl) ?_
 refine WP.val rfl rfl rfl (Val.assign rfl rfl) ?_
 refine WP.nx ?_
 refine WPc.condF rfl rfl ?_
 refine WPc.sr ?_
 refine WP.val rfl rfl rfl (Val.eqlK rfl rfl rfl rfl) ?_
 refine WP.val rfl rfl rfl (Val.assign rfl rfl) ?_
 refine WP.nx ?_
 refine WPc.condF rfl rfl ?_
 refine WPc.sr ?_
 refine WP.val rfl rfl rfl (Val.eqlK rfl rfl rfl rfl) ?_
 refine WP.val rfl rfl rfl (Val.assign rfl rfl) ?_
 refine WP.nx ?_
 refine WPc.condT rfl rfl ?_
 refine WPc.region ?_
 refine WP.val rfl rfl rfl (Val.move rfl rfl) ?_
 iterate 3 (refine WP.perm pl5 ?_)
 refine WP.eff rfl rfl rfl (Eff.call rfl rfl Try.call81 (dMax_spec c f d tb s hwf h6)) ?_
 rintro _ _ ⟨_, ⟨rfl, rfl⟩, rfl⟩
 show WP _ _ _ _ _ _ _ (TreeP c d tb (stepMax d s).1 :: _ :: _ :: Blk b3 [.int .i64 0, .bool false, .int .i64 0, .int .i64 0, .int .i64 0, .slice none 0 0] 62 :: Blk b2 [.int .i64 0, .bool false, .int .i64 0, .int .i64 0, .int .i64 0, .slice none 0 0] 62 :: Blk b1 [.int .i64 8, .int .i64 (tr), .int .i64 (e.k), .int .i64 (e.v), .int .i64 (fr), .int .i64 (ti), .int .i64 (mo), .bool (ag)] 57 :: _)
 refine WP.val rfl rfl rfl (Val.move rfl rfl) ?_
 refine WP.val rfl rfl rfl (Val.extract rfl rfl rfl) ?_
 refine WP.val rfl rfl rfl (Val.extract rfl rfl rfl) ?_
 refine WP.val rfl rfl rfl (Val.fieldAddr (j := 3) rfl Ty.fo62_3 rfl rfl) ?_
 refine WP.perm pl3 ?_
 refine WP.eff0 rfl rfl (Eff.storeAgg (cs := [.int .i64 (((stepMax d s).2.getD El0).k), .int .i64 (((stepMax d s).2.getD El0).v)]) (C' := [.int .i64 0, .bool false, .int .i64 0, .int .i64 (((stepMax d s).2.getD El0).k), .int .i64 (((stepMax d s).2.getD El0).v), .slice none 0 0]) rfl Ty.ag55 rfl rfl rfl rfl (by simp) rfl) ?_
 rintro _ _ rfl
 refine WP.val rfl rfl rfl (Val.fieldAddr (j := 1) rfl Ty.fo62_1 rfl rfl) ?_
 refine WP.eff0 rfl rfl (Eff.store rfl Ty.sc4 rfl rfl rfl (by simp) st1) ?_
 rintro _ _ rfl
 refine WP.nil ?_
 refine Out.block ?_
 refine Out.next ?_
 refine WPc.sr ?_
 refine WP.val rfl rfl rfl (Val.loadAgg (cs := [.int .i64 0, .bool ((stepMax d s).2.isSome), .int .i64 0, .int .i64 (((stepMax d s).2.getD El0).k), .int .i64 (((stepMax d s).2.getD El0).v), .slice none 0 0]) rfl Ty.ag62 rfl rfl (fun w h => h.range 0 rfl rfl)) ?_
 refine WP.perm pl4 ?_
 refine WP.eff0 rfl rfl (Eff.storeAgg (cs := [.int .i64 0, .bool ((stepMax d s).2.isSome), .int .i64 0, .int .i64 (((stepMax d s).2.getD El0).k), .int .i64 (((stepMax d s).2.getD El0).v), .slice none 0 0]) (C' := [.int .i64 0, .bool ((stepMax d s).2.isSome), .int .i64 0, .int .i64 (((stepMax d s).2.getD El0).k), .int .i64 (((stepMax d s).2.getD El0).v), .slice none 0 0]) rfl Ty.ag62 rfl rfl rfl rfl (by simp) rfl) ?_
 rintro _ _ rfl
 refine WP.nx ?_
 refine WPc.ret ?_
 have hst : stepB d s (Bop.mk 8 tr e fr ti mo ag) = ((stepMax d s).1, ⟨0, (stepMax d s).2.isSome, 0, (stepMax d s).2.getD El0, []⟩) := by simp [stepB]
 refine Out.conv (fun w h => own_nil0 h) ?_
 refine Out.perm pl2 ?_
 refine Out.drop ?_
 refine Out.perm pl5 ?_
 refine Out.drop ?_
 iterate 4 (refine Out.perm pl4 ?_)
 exact Out.retRun (L' := [TreeP c d tb (stepMax d s).1, Blk c [.pointer (some ⟨f, 0, none⟩), .func (.func 53) #[] #[]] 170, FL f, Own 55 2 (.slice none 0 0) 0 ([])]) (results_cell (cs := [.int .i64 0, .bool ((stepMax d s).2.isSome), .int .i64 0, .int .i64 (((stepMax d s).2.getD El0).k), .int .i64 (((stepMax d s).2.getD El0).v), .slice none 0 0]) Try.results55 Ty.ag62 rfl rfl (fun w h => h.range 0 rfl rfl)) ⟨.slice none 0 0, rfl, by first | (rw [hst]; done) | (rw [hst]; rfl), by first | (rw [hst]; done) | (rw [hst]; rfl)⟩ (fun w h => h.drop)
set_option maxRecDepth 100000 in
set_option maxHeartbeats 2000000 in
theorem grown_9 (c f d tb : Nat) (s : St) (hwf : Wf d s) (h6 : (elems s).length < 1000000) (tr : Int) (e : El) (fr ti mo : Int) (ag : Bool) : Does Try.prog 55 [.pointer (some ⟨tb, 0, none⟩), .agg #[.int .i64 9, .int .i64 (tr), .int .i64 (e.k), .int .i64 (e.v), .int .i64 (fr), .int .i64 (ti), .int .i64 (mo), .bool (ag)]] [TreeP c d tb s, Blk c [.pointer (some ⟨f, 0, none⟩), .func (.func 53) #[] #[]] 170, FL f] (fun v L => ∃ lv, lv.oneCell' = true ∧ v = .agg #[.int .i64 (stepB d s (Bop.mk 9 tr e fr ti mo ag)).2.err, .bool (stepB d s (Bop.mk 9 tr e fr ti mo ag)).2.ok, .int .i64 (stepB d s (Bop.mk 9 tr e fr ti mo ag)).2.n, .int .i64 (stepB d s (Bop.mk 9 tr e fr ti mo ag)).2.el.k, .int .i64 (stepB d s (Bop.mk 9 tr e fr ti mo ag)).2.el.v, lv] ∧ L = [TreeP c d tb (stepB d s (Bop.mk 9 tr e fr ti mo ag)).1, Blk c [.pointer (some ⟨f, 0, none⟩), .func (.func 53) #[] #[]] 170, FL f, Own 55 2 lv (stepB d s (Bop.mk 9 tr e fr ti mo ag)).2.l.length (flatOf El.cells (stepB d s (Bop.mk 9 tr e fr ti mo ag)).2.l)]) := by
 refine Does.enter 101 Try.func55 rfl rfl rfl fun W F => ?_
 show WPc _ _ _ _ _ [(0, .pointer (some ⟨tb, 0, none⟩)), (1, .agg #[.int .i64 9, .int .i64 (tr), .int .i64 (e.k), .int .i64 (e.v), .int .i64 (fr), .int .i64 (ti), .int .i64 (mo), .bool (ag)])] (TreeP c d tb s :: Blk c [.pointer (some ⟨f, 0, none⟩), .func (.func 53) #[] #[]] 170 :: FL f :: F)
 refine WPc.sr ?_
 refine WP.eff rfl rfl rfl (Eff.box (C := [.int .i64 9, .int .i64 (tr), .int .i64 (e.k), .int .i64 (e.v), .int .i64 (fr), .int .i64 (ti), .int .i64 (mo), .bool (ag)]) rfl rfl rfl) ?_
 rintro _ _ ⟨b1, rfl, rfl⟩
 refine WP.eff rfl rfl rfl (Eff.alloc rfl Ty.z62) ?_
 rintro _ _ ⟨b2, rfl, rfl⟩
 refine WP.nx ?_
 refine WPc.sr ?_
 refine WP.val rfl rfl rfl (Val.mk (cs := [.int .i64 0, .bool false, .int .i64 0, .int .i64 0, .int .i64 0, .slice none 0 0]) rfl rfl (fun _ => by kernel_rfl)) ?_
 refine WP.eff rfl rfl rfl (Eff.alloc rfl Ty.z62) ?_
 rintro _ _ ⟨b3, rfl, rfl⟩
 refine WP.eff0 rfl rfl (Eff.storeAgg (cs := [.int .i64 0, .bool false, .int .i64 0, .int .i64 0, .int .i64 0, .slice none 0 0]) (C' := [.int .i64 0, .bool false, .int .i64 0, .int .i64 0, .int .i64 0, .slice none 0 0]) rfl Ty.ag62 rfl rfl rfl rfl (by simp) rfl) ?_
 rintro _ _ rfl
 refine WP.nx ?_
 refine WPc.seq ?_
 refine WPc.sr ?_
 refine WP.val rfl rfl rfl (Val.fieldAddr (j := 0) rfl Ty.fo57_0 rfl rfl) ?_
 refine WP.val rfl rfl rfl (Val.load rfl Ty.sc3 rfl (fun w h => h.cell 2 rfl rfl)) ?_
 refine WP.nx ?_
 refine WPc.block ?_
 refine WPc.sr ?_
 refine WP.val rfl rfl rfl (Val.eqlK rfl rfl rfl rfl) ?_
 refine WP.val rfl rfl rfl (Val.assign rfl rfl) ?_
 refine WP.nx ?_
 refine WPc.condF rfl rfl ?_
 refine WPc.sr ?_
 refine WP.val rfl rfl rfl (Val.eqlK rfl rfl rfl rfl) ?_
 refine WP.val rfl rfl rfl (Val.assign rfl rfl) ?_
 refine WP.nx ?_
 refine WPc.condF rfl rfl ?_
 refine WPc.sr ?_
 refine WP.val rfl rfl rfl (Val.eqlK rfl rfl rfl rfl) ?_
 refine WP.val rfl rfl rfl (Val.assign rfl rfl) ?_
 refine WP.nx ?_
 refine WPc.condF rfl rfl ?_
 refine WPc.sr ?_
 refine WP.val rfl rfl rfl (Val.eqlK rfl rfl rfl rfl) ?_
 refine WP.val rfl rfl rfl (Val.assign rfl rfl) ?_
 refine WP.nx ?_
 refine WPc.condF rfl rfl ?_
 refine WPc.sr ?_
 refine WP.val rfl rfl rfl (Val.eqlK rfl rfl rfl rfl) ?_
 refine WP.val rfl rfl rfl (Val.assign rfl rfl) ?_
 refine WP.nx ?_
 refine WPc.condF rfl rfl ?_
 refine WPc.sr ?_
 refine WP.val rfl rfl rfl (Val.eqlK rfl rfl rfl rfl) ?_
 refine WP.val rfl rfl rfl (Val.assign rfl rfl) ?_
 refine WP.nx ?_
 refine WPc.condF rfl rfl ?_
 refine WPc.sr ?_
 refine WP.val rfl rfl rfl (Val.eqlK rfl rfl rfl rfl) ?_
 refine WP.val rfl rfl rfl (Val.assign rfl rfl) ?_
 refine WP.nx ?_
 refine WPc.condF rfl rfl ?_
 refine WPc.sr ?_
 refine WP.val rfl rfl rfl (Val.eqlK rfl rfl rfl rfl) ?_
 refine WP.val rfl rfl rfl (Val.assign rfl rfl) ?_
 refine WP.nx ?_
 refine WPc.condF rfl rfl ?_
 refine WPc.sr ?_
 refine WP.val rfl rfl rfl (Val.eqlK rfl rfl rfl rfl) ?_
 refine WP.val rfl rfl rfl (Val.assign rfl rfl) ?_
 refine WP.nx ?_
 refine WPc.condT rfl rfl ?_
 refine WPc.region ?_
 refine WP.val rfl rfl rfl (Val.move rfl rfl) ?_
 refine WP.perm pl3 ?_
 refine WP.eff rfl rfl rfl (Eff.call rfl rfl Try.call82 (len_tp c f d tb s)) ?_
 rintro _ _ ⟨_, ⟨rfl, rfl⟩, rfl⟩
 show WP _ _ _ _ _ _ _ (_ :: Blk b3 [.int .i64 0, .bool false, .int .i64 0, .int .i64 0, .int .i64 0, .slice none 0 0] 62 :: Blk b2 [.int .i64 0, .bool false, .int .i64 0, .int .i64 0, .int .i64 0, .slice none 0 0] 62 :: Blk b1 [.int .i64 9, .int .i64 (tr), .int .i64 (e.k), .int .i64 (e.v), .int .i64 (fr), .int .i64 (ti), .int .i64 (mo), .bool (ag)] 57 :: _)
 refine WP.val rfl rfl rfl (Val.fieldAddr (j := 2) rfl Ty.fo62_2 rfl rfl) ?_
 refine WP.perm pl1 ?_
 refine WP.eff0 rfl rfl (Eff.store rfl Ty.sc3 rfl rfl rfl (by simp) st2) ?_
 rintro _ _ rfl
 refine WP.nil ?_
 refine Out.block ?_
 refine Out.next ?_
 refine WPc.sr ?_
 refine WP.val rfl rfl rfl (Val.loadAgg (cs := [.int .i64 0, .bool false, .int .i64 (s.n), .int .i64 0, .int .i64 0, .slice none 0 0]) rfl Ty.ag62 rfl rfl (fun w h => h.range 0 rfl rfl)) ?_
 refine WP.perm pl2 ?_
 refine WP.eff0 rfl rfl (Eff.storeAgg (cs := [.int .i64 0, .bool false, .int .i64 (s.n), .int .i64 0, .int .i64 0, .slice none 0 0]) (C' := [.int .i64 0, .bool false, .int .i64 (s.n), .int .i64 0, .int .i64 0, .slice none 0 0]) rfl Ty.ag62 rfl rfl rfl rfl (by simp) rfl) ?_
 rintro _ _ rfl
 refine WP.nx ?_
 refine WPc.ret ?_
 have hst : stepB d s (Bop.mk 9 tr e fr ti mo ag) = (s, ⟨0, false, s.n, El0, []⟩) := by simp [stepB]
 refine Out.conv (fun w h => own_nil0 h) ?_
 refine Out.perm pl2 ?_
 refine Out.drop ?_
 refine Out.perm pl3 ?_
 refine Out.drop ?_
 iterate 4 (refine Out.perm pl4 ?_)
 exact Out.retRun (L' := [TreeP c d tb s, Blk c [.pointer (some ⟨f, 0, none⟩), .func (.func 53) #[] #[]] 170, FL f, Own 55 2 (.slice none 0 0) 0 ([])]) (results_cell (cs := [.int .i64 0, .bool false, .int .i64 (s.n), .int .i64 0, .int .i64 0, .slice none 0 0]) Try.results55 Ty.ag62 rfl rfl (fun w h => h.range 0 rfl rfl)) ⟨.slice none 0 0, rfl, by first | (rw [hst]; done) | (rw [hst]; rfl), by first | (rw [hst]; done) | (rw [hst]; rfl)⟩ (fun w h => h.drop)
set_option maxRecDepth 100000 in
set_option maxHeartbeats 2000000 in
theorem grown_10 (c f d tb : Nat) (s : St) (hwf : Wf d s) (h6 : (elems s).length < 1000000) (tr : Int) (e : El) (fr ti mo : Int) (ag : Bool) : Does Try.prog 55 [.pointer (some ⟨tb, 0, none⟩), .agg #[.int .i64 10, .int .i64 (tr), .int .i64 (e.k), .int .i64 (e.v), .int .i64 (fr), .int .i64 (ti), .int .i64 (mo), .bool (ag)]] [TreeP c d tb s, Blk c [.pointer (some ⟨f, 0, none⟩), .func (.func 53) #[] #[]] 170, FL f] (fun v L => ∃ lv, lv.oneCell' = true ∧ v = .agg #[.int .i64 (stepB d s (Bop.mk 10 tr e fr ti mo ag)).2.err, .bool (stepB d s (Bop.mk 10 tr e fr ti mo ag)).2.ok, .int .i64 (stepB d s (Bop.mk 10 tr e fr ti mo ag)).2.n, .int .i64 (stepB d s (Bop.mk 10 tr e fr ti mo ag)).2.el.k, .int .i64 (stepB d s (Bop.mk 10 tr e fr ti mo ag)).2.el.v, lv] ∧ L = [TreeP c d tb (stepB d s (Bop.mk 10 tr e fr ti mo ag)).1, Blk c [.pointer (some ⟨f, 0, none⟩), .func (.func 53) #[] #[]] 170, FL f, Own 55 2 lv (stepB d s (Bop.mk 10 tr e fr ti mo ag)).2.l.length (flatOf El.cells (stepB d s (Bop.mk 10 tr e fr ti mo ag)).2.l)]) := by
 refine Does.enter 101 Try.func55 rfl rfl rfl fun W F => ?_
 show WPc _ _ _ _ _ [(0, .pointer (some ⟨tb, 0, none⟩)), (1, .agg #[.int .i64 10, .int .i64 (tr), .int .i64 (e.k), .int .i64 (e.v), .int .i64 (fr), .int .i64 (ti), .int .i64 (mo), .bool (ag)])] (TreeP c d tb s :: Blk c [.pointer (some ⟨f, 0, none⟩), .func (.func 53) #[] #[]] 170 :: FL f :: F)
 refine WPc.sr ?_
 refine WP.eff rfl rfl rfl (Eff.box (C := [.int .i64 10, .int .i64 (tr), .int .i64 (e.k), .int .i64 (e.v), .int .i64 (fr), .int .i64 (ti), .int .i64 (mo), .bool (ag)]) rfl rfl rfl) ?_
 rintro _ _ ⟨b1, rfl, rfl⟩
 refine WP.eff rfl rfl rfl (Eff.alloc rfl Ty.z62) ?_
 rintro _ _ ⟨b2, rfl, rfl⟩
 refine WP.nx ?_
 refine WPc.sr ?_
 refine WP.val rfl rfl rfl (Val.mk (cs := [.int .i64 0, .bool false, .int .i64 0, .int .i64 0, .int .i64 0, .slice none 0 0]) rfl rfl (fun _ => by kernel_rfl)) ?_
 refine WP.eff rfl rfl rfl (Eff.alloc rfl Ty.z62) ?_
 rintro _ _ ⟨b3, rfl, rfl⟩
 refine WP.eff0 rfl rfl (Eff.storeAgg (cs := [.int .i64 0, .bool false, .int .i64 0, .int .i64 0, .int .i64 0, .slice none 0 0]) (C' := [.int .i64 0, .bool false, .int .i64 0, .int .i64 0, .int .i64 0, .slice none 0 0]) rfl Ty.ag62 rfl rfl rfl rfl (by simp) rfl) ?_
 rintro _ _ rfl
 refine WP.nx ?_
 refine WPc.seq ?_
 refine WPc.sr ?_
 refine WP.val rfl rfl rfl (Val.fieldAddr (j := 0) rfl Ty.fo57_0 rfl rfl) ?_
 refine WP.val rfl rfl rfl (Val.load rfl Ty.sc3 rfl (fun w h => h.cell 2 rfl rfl)) ?_
 refine WP.nx ?_
 refine WPc.block ?_
 refine WPc.sr ?_
 refine WP.val rfl rfl rfl (Val.eqlK rfl rfl rfl rfl) ?_
 refine WP.val rfl rfl rfl (Val.assign rfl rfl) ?_
 refine WP.nx ?_
 refine WPc.condF rfl rfl ?_
 refine WPc.sr ?_
 refine WP.val rfl rfl rfl (Val.eqlK rfl rfl rfl rfl) ?_
 refine WP.val rfl rfl rfl (Val.assign rfl rfl) ?_
 refine WP.nx ?_
 refine WPc.condF rfl rfl ?_
 refine WPc.sr ?_
 refine WP.val rfl rfl rfl (Val.eqlK rfl rfl rfl rfl) ?_
 refine WP.val rfl rfl rfl (Val.assign rfl rfl) ?_
 refine WP.nx ?_
 refine WPc.condF rfl rfl ?_
 refine WPc.sr ?_
 refine WP.val rfl rfl rfl (Val.eqlK rfl rfl rfl rfl) ?_
 refine WP.val rfl rfl rfl (Val.assign rfl rfl) ?_
 refine WP.nx ?_
 refine WPc.condF rfl rfl ?_
 refine WPc.sr ?_
 refine WP.val rfl rfl rfl (Val.eqlK rfl rfl rfl rfl) ?_
 refine WP.val rfl rfl rfl (Val.assign rfl rfl) ?_
 refine WP.nx ?_
 refine WPc.condF rfl rfl ?_
 refine WPc.sr ?_
 refine WP.val rfl rfl rfl (Val.eqlK rfl rfl rfl rfl) ?_
 refine WP.val rfl rfl rfl (Val.assign rfl rfl) ?_
 refine WP.nx ?_
 refine WPc.condF rfl rfl ?_
 refine WPc.sr ?_
 refine WP.val rfl rfl rfl (Val.eqlK rfl rfl rfl rfl) ?_
 refine WP.val rfl rfl rfl (Val.assign rfl rfl) ?_
 refine WP.nx ?_
 refine WPc.condF rfl rfl ?_
 refine WPc.sr ?_
 refine WP.val rfl rfl rfl (Val.eqlK rfl rfl rfl rfl) ?_
 refine WP.val rfl rfl rfl (Val.assign rfl rfl) ?_
 refine WP.nx ?_
 refine WPc.condF rfl rfl ?_
 refine WPc.sr ?_
 refine WP.val rfl rfl rfl (Val.eqlK rfl rfl rfl rfl) ?_
 refine WP.val rfl rfl rfl (Val.assign rfl rfl) ?_
 refine WP.nx ?_
 refine WPc.condF rfl rfl ?_
 refine WPc.sr ?_
 refine WP.val rfl rfl rfl (Val.eqlK rfl rfl rfl rfl) ?_
 refine WP.val rfl rfl rfl (Val.assign rfl rfl) ?_
 refine WP.nx ?_
 refine WPc.condF rfl rfl ?_
 refine WPc.region ?_
 refine WP.val rfl rfl rfl (Val.move rfl rfl) ?_
 refine WP.val rfl rfl rfl (Val.loadAgg (cs := [.int .i64 10, .int .i64 (tr), .int .i64 (e.k), .int .i64 (e.v), .int .i64 (fr), .int .i64 (ti), .int .i64 (mo), .bool (ag)]) rfl Ty.ag57 rfl rfl (fun w h => h.range 2 rfl rfl)) ?_
 refine WP.perm pl3 ?_
 refine WP.eff rfl rfl rfl (Eff.call rfl rfl Try.call84 (listed_spec c f d tb s hwf (by omega) tr e fr ti mo ag)) ?_
 rintro lv _ ⟨_, ⟨hlv, rfl⟩, rfl⟩
 show WP _ _ _ _ _ _ _ (_ :: Own 55 2 lv ((vis mo [] (elems s)).1.length) (flatOf El.cells (vis mo [] (elems s)).1) :: Blk b3 [.int .i64 0, .bool false, .int .i64 0, .int .i64 0, .int .i64 0, .slice none 0 0] 62 :: Blk b2 [.int .i64 0, .bool false, .int .i64 0, .int .i64 0, .int .i64 0, .slice none 0 0] 62 :: Blk b1 [.int .i64 10, .int .i64 (tr), .int .i64 (e.k), .int .i64 (e.v), .int .i64 (fr), .int .i64 (ti), .int .i64 (mo), .bool (ag)] 57 :: _)
 refine WP.val rfl rfl rfl (Val.fieldAddr (j := 5) rfl Ty.fo62_4 rfl rfl) ?_
 refine WP.perm pl2 ?_
 refine WP.eff0 rfl rfl (Eff.store rfl Ty.sc52 rfl rfl hlv (by simp) st5) ?_
 rintro _ _ rfl
 refine WP.nil ?_
 refine Out.block ?_
 refine Out.next ?_
 refine WPc.sr ?_
 refine WP.val rfl rfl rfl (Val.loadAgg (cs := [.int .i64 0, .bool false, .int .i64 0, .int .i64 0, .int .i64 0, lv]) rfl Ty.ag62 rfl rfl (fun w h => h.range 0 rfl rfl)) ?_
 refine WP.perm pl3 ?_
 refine WP.eff0 rfl rfl (Eff.storeAgg (cs := [.int .i64 0, .bool false, .int .i64 0, .int .i64 0, .int .i64 0, lv]) (C' := [.int .i64 0, .bool false, .int .i64 0, .int .i64 0, .int .i64 0, lv]) rfl Ty.ag62 rfl rfl rfl (by simp only [List.all_cons, List.all_nil, Bool.and_true, oc_int, oc_str, oc_bool, oc_ptr, oc_slice, oc_iface, oc_map, hlv]) (by simp) rfl) ?_
 rintro _ _ rfl
 refine WP.nx ?_
 refine WPc.ret ?_
 have hst : stepB d s (Bop.mk 10 tr e fr ti mo ag) = (s, ⟨0, false, 0, El0, (vis mo [] (elems s)).1⟩) := by simp [stepB]
 refine Out.perm pl1 ?_
 refine Out.drop ?_
 refine Out.perm pl3 ?_
 refine Out.drop ?_
 refine Out.perm pl2 ?_
 iterate 4 (refine Out.perm pl4 ?_)
 exact Out.retRun (L' := [TreeP c d tb s, Blk c [.pointer (some ⟨f, 0, none⟩), .func (.func 53) #[] #[]] 170, FL f, Own 55 2 lv ((vis mo [] (elems s)).1.length) (flatOf El.cells (vis mo [] (elems s)).1)]) (results_cell (cs := [.int .i64 0, .bool false, .int .i64 0, .int .i64 0, .int .i64 0, lv]) Try.results55 Ty.ag62 rfl rfl (fun w h => h.range 0 rfl rfl)) ⟨lv, hlv, by first | (rw [hst]; done) | (rw [hst]; rfl), by first | (rw [hst]; done) | (rw [hst]; rfl)⟩ (fun w h => h.drop)

def Known (o : Bop) : Prop := o.tree = 0 ∧ (o.kind = 1 ∨ o.kind = 3 ∨ o.kind = 7 ∨ o.kind = 8 ∨ o.kind = 9 ∨ o.kind = 10)
theorem grown_spec (c f d tb : Nat) (s : St) (hwf : Wf d s) (h6 : (elems s).length < 1000000) (o : Bop) (hk : Known o) : Does Try.prog 55 [.pointer (some ⟨tb, 0, none⟩), .agg #[.int .i64 o.kind, .int .i64 o.tree, .int .i64 o.el.k, .int .i64 o.el.v, .int .i64 o.from_, .int .i64 o.till, .int .i64 o.most, .bool o.again]] [TreeP c d tb s, Blk c [.pointer (some ⟨f, 0, none⟩), .func (.func 53) #[] #[]] 170, FL f] (fun v L => ∃ lv, lv.oneCell' = true ∧ v = .agg #[.int .i64 (stepB d s o).2.err, .bool (stepB d s o).2.ok, .int .i64 (stepB d s o).2.n, .int .i64 (stepB d s o).2.el.k, .int .i64 (stepB d s o).2.el.v, lv] ∧ L = [TreeP c d tb (stepB d s o).1, Blk c [.pointer (some ⟨f, 0, none⟩), .func (.func 53) #[] #[]] 170, FL f, Own 55 2 lv (stepB d s o).2.l.length (flatOf El.cells (stepB d s o).2.l)]) := by
 obtain ⟨kind, tr, e, fr, ti, mo, ag⟩ := o
 obtain ⟨-, rfl | rfl | rfl | rfl | rfl | rfl⟩ := hk
 ·
  exact grown_1 c f d tb s hwf h6 tr e fr ti mo ag
 ·
  exact grown_3 c f d tb s hwf h6 tr e fr ti mo ag
 ·
  exact grown_7 c f d tb s hwf h6 tr e fr ti mo ag
 ·
  exact grown_8 c f d tb s hwf h6 tr e fr ti mo ag
 ·
  exact grown_9 c f d tb s hwf h6 tr e fr ti mo ag
 ·
  exact grown_10 c f d tb s hwf h6 tr e fr ti mo ag
set_option maxRecDepth 100000 in
set_option maxHeartbeats 2000000 in
theorem newfl_spec (z : Nat) : Does Try.prog 73 [.int .i64 32] [] (fun v L => ∃ f, v = .pointer (some ⟨f, 0, none⟩) ∧ L = [FL f]) := by
 refine Does.enter 7 Try.func73 rfl rfl rfl fun W F => ?_
 show WPc _ _ _ _ _ [(0, .int .i64 32)] (F)
 refine WPc.sr ?_
 refine WP.val rfl rfl rfl (Val.assign rfl rfl) ?_
 refine WP.nx ?_
 refine WPc.sr ?_
 refine WP.val rfl rfl rfl (Val.move rfl rfl) ?_
 refine WP.eff rfl rfl rfl (Eff.makeSlice (m := 0) (c := 32) (z := [.pointer none]) rfl Ty.sl205 Ty.z171 rfl rfl rfl rfl rfl (by omega) (by omega) (by omega)) ?_
 rintro _ _ ⟨b1, rfl, rfl⟩
 refine WP.val rfl rfl rfl (Val.mk (cs := [.slice (some ⟨b1, 0, none⟩) 0 32]) rfl rfl (fun _ => by kernel_rfl)) ?_
 refine WP.eff rfl rfl rfl (Eff.box (C := [.slice (some ⟨b1, 0, none⟩) 0 32]) rfl rfl rfl) ?_
 rintro _ _ ⟨b2, rfl, rfl⟩
 refine WP.val rfl rfl rfl (Val.assign rfl rfl) ?_
 refine WP.nx ?_
 refine WPc.ret ?_
 refine Out.conv (fun w h => new_fl h) ?_
 exact Out.ret1 (L' := _) Try.results73 rfl ⟨_, rfl, rfl⟩ (fun _ h => h)
set_option maxRecDepth 100000 in
set_option maxHeartbeats 2000000 in
theorem newwith_spec (d f : Nat) (hd : 2 ≤ d) : Does Try.prog 72 [.int .i64 (((d : Nat) : Int)), .func (.func 53) #[] #[], .pointer (some ⟨f, 0, none⟩)] [] (fun v L => ∃ tb c, v = .pointer (some ⟨tb, 0, none⟩) ∧ L = [TreeP c d tb ⟨0, none⟩, Blk c [.pointer (some ⟨f, 0, none⟩), .func (.func 53) #[] #[]] 170]) := by
 refine Does.enter 17 Try.func72 rfl rfl rfl fun W F => ?_
 show WPc _ _ _ _ _ [(0, .int .i64 (((d : Nat) : Int))), (1, .func (.func 53) #[] #[]), (2, .pointer (some ⟨f, 0, none⟩))] (F)
 refine WPc.sr ?_
 refine WP.val rfl rfl rfl (Val.assign rfl rfl) ?_
 refine WP.nx ?_
 refine WPc.seq ?_
 refine WPc.sr ?_
 refine WP.val rfl rfl rfl (Val.move rfl rfl) ?_
 refine WP.val rfl rfl rfl (Val.leq rfl rfl rfl) ?_
 refine WP.nx ?_
 refine WPc.ifP rfl (fun h1 => ?_) (fun h1 => ?_)
 ·
  have h1 : (((d : Nat) : Int) ≤ (1 : Int)) := h1
  exfalso; omega
 ·
  have h1 : ¬ (((d : Nat) : Int) ≤ (1 : Int)) := h1
  refine WPc.skip ?_
  refine Out.next ?_
  refine WPc.sr ?_
  iterate 3 (refine WP.val rfl rfl rfl (Val.move rfl rfl) ?_)
  refine WP.val rfl rfl rfl (Val.mk (cs := [.pointer (some ⟨f, 0, none⟩), .func (.func 53) #[] #[]]) rfl rfl (fun _ => by kernel_rfl)) ?_
  refine WP.eff rfl rfl rfl (Eff.box (C := [.pointer (some ⟨f, 0, none⟩), .func (.func 53) #[] #[]]) rfl rfl rfl) ?_
  rintro _ _ ⟨b1, rfl, rfl⟩
  refine WP.val rfl rfl rfl (Val.mk (cs := [.int .i64 (((d : Nat) : Int)), .int .i64 0, .pointer none, .pointer (some ⟨b1, 0, none⟩)]) rfl rfl (fun _ => by kernel_rfl)) ?_
  refine WP.eff rfl rfl rfl (Eff.box (C := [.int .i64 (((d : Nat) : Int)), .int .i64 0, .pointer none, .pointer (some ⟨b1, 0, none⟩)]) rfl rfl rfl) ?_
  rintro _ _ ⟨b2, rfl, rfl⟩
  refine WP.val rfl rfl rfl (Val.assign rfl rfl) ?_
  refine WP.nx ?_
  refine WPc.ret ?_
  exact Out.ret1 (L' := _) Try.results72 rfl ⟨_, _, rfl, rfl⟩ (fun _ h => h)
set_option maxRecDepth 100000 in
set_option maxHeartbeats 2000000 in
theorem new_spec (d : Nat) (hd : 2 ≤ d) : Does Try.prog 52 [.int .i64 (((d : Nat) : Int)), .func (.func 53) #[] #[]] [] (fun v L => ∃ tb c f, v = .pointer (some ⟨tb, 0, none⟩) ∧ L = [TreeP c d tb ⟨0, none⟩, Blk c [.pointer (some ⟨f, 0, none⟩), .func (.func 53) #[] #[]] 170, FL f]) := by
 refine Does.enter 9 Try.func52 rfl rfl rfl fun W F => ?_
 show WPc _ _ _ _ _ [(0, .int .i64 (((d : Nat) : Int))), (1, .func (.func 53) #[] #[])] (F)
 refine WPc.sr ?_
 refine WP.val rfl rfl rfl (Val.assign rfl rfl) ?_
 refine WP.nx ?_
 refine WPc.sr ?_
 refine WP.val rfl rfl rfl (Val.move rfl rfl) ?_
 refine WP.val rfl rfl rfl (Val.move rfl rfl) ?_
 refine WP.eff rfl rfl rfl (Eff.call rfl rfl Try.call73 (newfl_spec 0)) ?_
 rintro _ _ ⟨_, ⟨f, rfl, rfl⟩, rfl⟩
 show WP _ _ _ _ _ _ _ (FL f :: _)
 refine WP.eff rfl rfl rfl (Eff.call rfl rfl Try.call72 (newwith_spec d f hd)) ?_
 rintro _ _ ⟨_, ⟨tb, c, rfl, rfl⟩, rfl⟩
 show WP _ _ _ _ _ _ _ (TreeP c d tb ⟨0, none⟩ :: Blk c [.pointer (some ⟨f, 0, none⟩), .func (.func 53) #[] #[]] 170 :: _)
 refine WP.val rfl rfl rfl (Val.assign rfl rfl) ?_
 refine WP.nx ?_
 refine WPc.ret ?_
 exact Out.ret1 (L' := _) Try.results52 rfl ⟨_, _, _, rfl, rfl⟩ (fun _ h => h)

end Go.Proofs.Ythmkdioafjmclaa.Bt16
