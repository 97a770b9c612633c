import Derived.Test.YthicijpjpijdjaaKz
namespace Go.Proofs.Ythicijpjpijdjaa.La
open Go.RowKit Go.Proofs.Ythicijpjpijdjaa Go.Proofs.Ythicijpjpijdjaa.Sl Go.Proofs.Ythicijpjpijdjaa.KyP Go.Proofs.Ythicijpjpijdjaa.Ka Go.Proofs.Ythicijpjpijdjaa.Kb Go.Proofs.Ythicijpjpijdjaa.Kc Go.Proofs.Ythicijpjpijdjaa.Kd Go.Proofs.Ythicijpjpijdjaa.Ke Go.Proofs.Ythicijpjpijdjaa.Kf Go.Proofs.Ythicijpjpijdjaa.Kg Go.Proofs.Ythicijpjpijdjaa.Kh Go.Proofs.Ythicijpjpijdjaa.Ki Go.Proofs.Ythicijpjpijdjaa.Kj Go.Proofs.Ythicijpjpijdjaa.Kk Go.Proofs.Ythicijpjpijdjaa.Kl Go.Proofs.Ythicijpjpijdjaa.Km Go.Proofs.Ythicijpjpijdjaa.Kn Go.Proofs.Ythicijpjpijdjaa.Ko Go.Proofs.Ythicijpjpijdjaa.Kp Go.Proofs.Ythicijpjpijdjaa.Kq Go.Proofs.Ythicijpjpijdjaa.Kr Go.Proofs.Ythicijpjpijdjaa.Ks Go.Proofs.Ythicijpjpijdjaa.Kt Go.Proofs.Ythicijpjpijdjaa.Ku Go.Proofs.Ythicijpjpijdjaa.Kv Go.Proofs.Ythicijpjpijdjaa.Kw Go.Proofs.Ythicijpjpijdjaa.Kx Go.Proofs.Ythicijpjpijdjaa.Ky Go.Proofs.Ythicijpjpijdjaa.Kz
set_option linter.unusedVariables false
set_option linter.unusedSimpArgs false
set_option linter.unusedSectionVars false

set_option maxRecDepth 100000 in
set_option maxHeartbeats 2000000 in
theorem key_slice (Ad B : HProp) (key : ByteArray) (md : Rv) (St : Stp) (hS : StOk St) (ans : List (KA × KI)) (gl0 : List GV) (hsm : Small (gl0.map (·.1))) (l : List KOp) (hl : l.length ≤ 65540) (hruns : Runs St ⟨md, gl0.map (·.1)⟩ l ans) (sa oa : Option Addr) (sc oc : Nat) (hd : RdG Ad (.slice sa gl0.length sc) gl0) (ho : Rd B 7 KOp.cells (.slice oa l.length oc) l) : Does Try.prog 10 [.string key, .agg #[.int .i64 (md.m), .int .i64 (md.s), .slice sa gl0.length sc], .slice oa l.length oc] [Ad, B] (fun v L => ∃ (v5 : Value) (was : List WK), was.map WK.pr = ans ∧ (∀ x ∈ was, x.gl.map (·.1) = x.s.gs) ∧ v = .tuple #[v5, .bool true] ∧ L = [Own 42 10 v5 was.length (flatOf WK.cells was), Kds WKP was, Ad, B]) := by
  refine Does.enter 20 Try.func10 rfl rfl rfl fun W F => ?_
  show WPc _ _ _ _ _ [(0, .string key), (1, .agg #[.int .i64 (md.m), .int .i64 (md.s), .slice sa gl0.length sc]), (2, .slice oa l.length oc)] (Ad :: B :: F)
  refine WPc.seq ?_
  refine WPc.region ?_
  refine WP.eff rfl rfl rfl (Eff.box (C := [.int .i64 (md.m), .int .i64 (md.s), .slice sa gl0.length sc]) rfl rfl rfl) ?_
  rintro _ _ ⟨b1, rfl, rfl⟩
  refine WP.eff rfl rfl rfl (Eff.box (C := [.slice oa l.length oc]) rfl rfl rfl) ?_
  rintro _ _ ⟨b2, rfl, rfl⟩
  refine WP.val rfl rfl rfl (Val.assign rfl rfl) ?_
  refine WP.val rfl rfl rfl (Val.assign rfl rfl) ?_
  refine WP.nil ?_
  refine Out.next ?_
  refine WPc.seq ?_
  refine WPc.region ?_
  refine WP.val rfl rfl rfl (Val.move rfl rfl) ?_
  refine WP.eff rfl rfl rfl (Eff.bytes rfl Ty.st9 Ty.by80 rfl) ?_
  rintro _ _ ⟨b3, capb3, spb3, rfl, hcb3, hsb3, rfl⟩
  refine WP.val rfl rfl rfl (Val.loadAgg (cs := [.int .i64 (md.m), .int .i64 (md.s), .slice sa gl0.length sc]) rfl Ty.ag35 rfl rfl (fun w h => h.range 2 rfl rfl)) ?_
  refine WP.perm pl3 ?_
  refine WP.eff rfl rfl rfl (Eff.call rfl rfl Try.call32 (dumpin_spec Ad md gl0 hsm hd.inn (.slice sa gl0.length sc) hd.rd)) ?_
  rintro _ _ ⟨_, ⟨v2, g2, rfl, hg2, rfl⟩, rfl⟩
  show WP _ _ _ _ _ _ _ (Own 135 4 v2 g2.length (flatOf GV.cells g2) :: Kds (GVPe 81) g2 :: Ad :: Blk b3 (byteCells key ++ spb3) 5 :: Blk b2 [.slice oa l.length oc] 22 :: Blk b1 [.int .i64 (md.m), .int .i64 (md.s), .slice sa gl0.length sc] 35 :: B :: F)
  refine WP.perm pl1 ?_
  refine WP.perm pl1 ?_
  refine WP.open (fun w h => gens_open h) ?_
  rintro E2
  refine WP.pure (fun hE2 => ?_)
  obtain ⟨rE2, backE2⟩ := hE2
  show WP _ _ _ _ _ _ _ (E2 :: Ad :: Blk b3 (byteCells key ++ spb3) 5 :: Blk b2 [.slice oa l.length oc] 22 :: Blk b1 [.int .i64 (md.m), .int .i64 (md.s), .slice sa gl0.length sc] 35 :: B :: F)
  have hs2 : Small (g2.map (·.1)) := by rw [hg2]; exact hsm
  refine WP.eff rfl rfl rfl (Eff.call rfl rfl Try.call31 (newkey_spec E2 (some ⟨b3, 0, none⟩) ((key).size) capb3 md g2 hs2 v2 rE2)) ?_
  rintro _ _ ⟨_, ⟨b, v3, g3, rfl, hg3, rfl⟩, rfl⟩
  show WP _ _ _ _ _ _ _ (Blk b [.slice (some ⟨b3, 0, none⟩) ((key).size) capb3, .int .i64 (md.m), .int .i64 (md.s), v3] 153 :: Own 155 4 v3 g3.length (flatOf GV.cells g3) :: Kds (GVPe 81) g3 :: E2 :: Ad :: Blk b3 (byteCells key ++ spb3) 5 :: Blk b2 [.slice oa l.length oc] 22 :: Blk b1 [.int .i64 (md.m), .int .i64 (md.s), .slice sa gl0.length sc] 35 :: B :: F)
  refine WP.perm pl2 ?_
  refine WP.perm pl2 ?_
  refine WP.perm pl2 ?_
  refine WP.conv (fun w h => kis_new (s := ⟨md, gl0.map (·.1)⟩) (hg3.trans hg2) h) ?_
  show WP _ _ _ _ _ _ _ (KIs b (some ⟨b3, 0, none⟩) ((key).size) capb3 ⟨md, gl0.map (·.1)⟩ :: E2 :: Ad :: Blk b3 (byteCells key ++ spb3) 5 :: Blk b2 [.slice oa l.length oc] 22 :: Blk b1 [.int .i64 (md.m), .int .i64 (md.s), .slice sa gl0.length sc] 35 :: B :: F)
  refine WP.eff rfl rfl rfl (Eff.alloc rfl Ty.z78) ?_
  rintro _ _ ⟨b4, rfl, rfl⟩
  refine WP.eff0 rfl rfl (Eff.storeAgg (cs := [.pointer (some ⟨b, 0, none⟩)]) (C' := [.pointer (some ⟨b, 0, none⟩)]) rfl Ty.ag78 rfl rfl rfl rfl (by simp) rfl) ?_
  rintro _ _ rfl
  refine WP.nil ?_
  refine Out.next ?_
  refine WPc.seq ?_
  refine WPc.region ?_
  refine WP.eff rfl rfl rfl (Eff.alloc rfl Ty.z24) ?_
  rintro _ _ ⟨b5, rfl, rfl⟩
  refine WP.nil ?_
  refine Out.next ?_
  refine WPc.seq ?_
  refine WPc.region ?_
  refine WP.val rfl rfl rfl (Val.mkFunc rfl rfl rfl) ?_
  refine WP.perm pl8 ?_
  refine WP.perm pl3 ?_
  refine WP.perm pl3 ?_
  refine WP.perm pl3 ?_
  refine WP.perm pl7 ?_
  refine WP.eff rfl rfl rfl (Eff.call rfl rfl Try.call33 (fine_does (k := 34) (caps := [.pointer (some ⟨b2, 0, none⟩), .pointer (some ⟨b5, 0, none⟩), .pointer (some ⟨b4, 0, none⟩)]) Try.call34 (key1_spec B b2 b5 b4 b (some ⟨b3, 0, none⟩) ((key).size) capb3 St hS ⟨md, gl0.map (·.1)⟩ ans l hl hruns (.slice oa l.length oc) ho))) ?_
  rintro _ _ ⟨_, ⟨rfl, v5, was, hwas, hgs, rfl⟩, rfl⟩
  show WP _ _ _ _ _ _ _ (Blk b5 [v5] 24 :: Own 42 10 v5 was.length (flatOf WK.cells was) :: Kds WKP was :: KIs b (some ⟨b3, 0, none⟩) ((key).size) capb3 (stAt ⟨md, gl0.map (·.1)⟩ ans l.length) :: B :: E2 :: Ad :: Blk b3 (byteCells key ++ spb3) 5 :: Blk b1 [.int .i64 (md.m), .int .i64 (md.s), .slice sa gl0.length sc] 35 :: F)
  refine WP.val rfl rfl rfl (Val.assign rfl rfl) ?_
  refine WP.nil ?_
  refine Out.next ?_
  refine WPc.seq ?_
  refine WPc.region ?_
  refine WP.val rfl rfl rfl (Val.load rfl Ty.sc24 rfl (fun w h => h.cell 0 rfl rfl)) ?_
  refine WP.val rfl rfl rfl (Val.move rfl rfl) ?_
  refine WP.val rfl rfl rfl (Val.assign rfl rfl) ?_
  refine WP.val rfl rfl rfl (Val.assign rfl rfl) ?_
  refine WP.nil ?_
  refine Out.next ?_
  refine WPc.ret ?_
  refine Out.drop ?_
  refine Out.perm pl2 ?_
  refine Out.drop ?_
  refine Out.perm pl3 ?_
  refine Out.drop ?_
  refine Out.perm pl4 ?_
  refine Out.drop ?_
  refine Out.perm pl4 ?_
  refine Out.drop ?_
  refine Out.perm pl2 ?_
  refine Out.perm pl3 ?_
  refine Out.perm pl3 ?_
  refine Out.perm pl3 ?_
  exact Out.ret2 (L' := _) Try.results10 rfl rfl ⟨v5, was, hwas, hgs, rfl, rfl⟩ (fun _ h => h)
theorem key_spec (Ad B : HProp) (key : ByteArray) (md : Rv) (St : Stp) (hS : StOk St) (ans : List (KA × KI)) (gl0 : List GV) (hsm : Small (gl0.map (·.1))) (l : List KOp) (hl : l.length ≤ 65540) (hruns : Runs St ⟨md, gl0.map (·.1)⟩ l ans) (vd vo : Value) (hd : RdG Ad vd gl0) (ho : Rd B 7 KOp.cells vo l) : Does Try.prog 10 [.string key, .agg #[.int .i64 md.m, .int .i64 md.s, vd], vo] [Ad, B] (fun v L => ∃ (v5 : Value) (was : List WK), was.map WK.pr = ans ∧ (∀ x ∈ was, x.gl.map (·.1) = x.s.gs) ∧ v = .tuple #[v5, .bool true] ∧ L = [Own 42 10 v5 was.length (flatOf WK.cells was), Kds WKP was, Ad, B]) := by
  obtain ⟨sa, sc, rfl⟩ := Rd.slice hd.rd
  obtain ⟨oa, oc, rfl⟩ := Rd.slice ho
  exact key_slice Ad B key md St hS ans gl0 hsm l hl hruns sa oa sc oc hd ho

end Go.Proofs.Ythicijpjpijdjaa.La
