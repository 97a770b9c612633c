import Derived.Test.YthicijpjpijdjaaNi
namespace Go.Proofs.Ythicijpjpijdjaa.La
open Go.RowKit Go.Proofs.Ythicijpjpijdjaa Go.Proofs.Ythicijpjpijdjaa.Sl Go.Proofs.Ythicijpjpijdjaa.KyP Go.Proofs.Ythicijpjpijdjaa.Ka Go.Proofs.Ythicijpjpijdjaa.Kb Go.Proofs.Ythicijpjpijdjaa.Kc Go.Proofs.Ythicijpjpijdjaa.Kd Go.Proofs.Ythicijpjpijdjaa.Ke Go.Proofs.Ythicijpjpijdjaa.Kf Go.Proofs.Ythicijpjpijdjaa.Kg Go.Proofs.Ythicijpjpijdjaa.Kh Go.Proofs.Ythicijpjpijdjaa.Ki Go.Proofs.Ythicijpjpijdjaa.Kj Go.Proofs.Ythicijpjpijdjaa.Kk Go.Proofs.Ythicijpjpijdjaa.Kl Go.Proofs.Ythicijpjpijdjaa.Km Go.Proofs.Ythicijpjpijdjaa.Kn Go.Proofs.Ythicijpjpijdjaa.Ko Go.Proofs.Ythicijpjpijdjaa.Kp Go.Proofs.Ythicijpjpijdjaa.Kq Go.Proofs.Ythicijpjpijdjaa.Kr Go.Proofs.Ythicijpjpijdjaa.Ks Go.Proofs.Ythicijpjpijdjaa.Kt Go.Proofs.Ythicijpjpijdjaa.Ku Go.Proofs.Ythicijpjpijdjaa.Kv Go.Proofs.Ythicijpjpijdjaa.Kw Go.Proofs.Ythicijpjpijdjaa.Kx Go.Proofs.Ythicijpjpijdjaa.Ky Go.Proofs.Ythicijpjpijdjaa.Kz
set_option linter.unusedVariables false
set_option linter.unusedSimpArgs false
set_option linter.unusedSectionVars false

set_option maxRecDepth 100000 in
set_option maxHeartbeats 2000000 in
theorem key_slice (Ad B : HProp) (key : ByteArray) (md : Rv) (St : Stp) (hS : StOk St) (ans : List (KA × KI)) (gl0 : List GV) (hsm : Small (gl0.map (·.1))) (l : List KOp) (hl : l.length ≤ 65540) (hruns : Runs St ⟨md, gl0.map (·.1)⟩ l ans) (sa oa : Option Addr) (sc oc : Nat) (hd : RdG Ad (.slice sa gl0.length sc) gl0) (ho : Rd B 7 KOp.cells (.slice oa l.length oc) l) : Does Try.prog 10 [.string key, .agg #[.int .i64 (md.m), .int .i64 (md.s), .slice sa gl0.length sc], .slice oa l.length oc] [Ad, B] (fun v L => ∃ (v5 : Value) (was : List WK), was.map WK.pr = ans ∧ (∀ x ∈ was, x.gl.map (·.1) = x.s.gs) ∧ v = .tuple #[v5, .bool true] ∧ L = [Own 42 10 v5 was.length (flatOf WK.cells was), Kds WKP was, Ad, B]) := by
  refine Does.enter 20 Try.func10 rfl rfl rfl fun W F => ?_
  show WPc _ _ _ _ _ [(0, .string key), (1, .agg #[.int .i64 (md.m), .int .i64 (md.s), .slice sa gl0.length sc]), (2, .slice oa l.length oc)] (Ad :: B :: F)
  refine WPc.seq ?_
  refine WPc.region ?_
  refine WP.eff rfl rfl rfl (Eff.box (C := [.int .i64 (md.m), .int .i64 (md.s), .slice sa gl0.length sc]) rfl rfl rfl) ?_
  rintro _ _ ⟨b1, rfl, rfl⟩
  refine WP.eff rfl rfl rfl (Eff.box (C := [.slice oa l.length oc]) rfl rfl rfl) ?_
  rintro _ _ ⟨b2, rfl, rfl⟩
  refine WP.val rfl rfl rfl (Val.assign rfl rfl) ?_
  refine WP.val rfl rfl rfl (Val.assign rfl rfl) ?_
  refine WP.nil ?_
  refine Out.next ?_
  refine WPc.seq ?_
  refine WPc.region ?_
  refine WP.val rfl rfl rfl (Val.move rfl rfl) ?_
  refine WP.eff rfl rfl rfl (Eff.bytes rfl Ty.st9 Ty.by80 rfl) ?_
  rintro _ _ ⟨b3, capb3, spb3, rfl, hcb3, hsb3, rfl⟩
  refine WP.val rfl rfl rfl (Val.loadAgg (cs := [.int .i64 (md.m), .int .i64 (md.s), .slice sa gl0.length sc]) rfl Ty.ag35 rfl rfl (fun w h => h.range 2 rfl rfl)) ?_
  refine WP.perm pl3 ?_
  refine WP.eff rfl rfl rfl (Eff.call rfl rfl Try.call32 (dumpin_spec Ad md gl0 hsm hd.inn (.slice sa gl0.length sc) hd.rd)) ?_
  rintro _ _ ⟨_, ⟨v2, g2, rfl, hg2, rfl⟩, rfl⟩
  show WP _ _ _ _ _ _ _ (Own 135 4 v2 g2.length (flatOf GV.cells g2) :: Kds (GVPe 81) g2 :: Ad :: Blk b3 (byteCells key ++ spb3) 5 :: Blk b2 [.slice oa l.length oc] 22 :: Blk b1 [.int .i64 (md.m), .int .i64 (md.s), .slice sa gl0.length sc] 35 :: B :: F)
  refine WP.perm pl1 ?_
  refine WP.perm pl1 ?_
  refine WP.open (fun w h => gens_open h) ?_
  rintro E2
  refine WP.pure (fun hE2 => ?_)
  obtain ⟨rE2, backE2⟩ := hE2
  show WP _ _ _ _ _ _ _ (E2 :: Ad :: Blk b3 (byteCells key ++ spb3) 5 :: Blk b2 [.slice oa l.length oc] 22 :: Blk b1 [.int .i64 (md.m), .int .i64 (md.s), .slice sa gl0.length sc] 35 :: B :: F)
  have hs2 : Small (g2.map (·.1)) := by rw [hg2]; exact hsm
  refine WP.eff rfl rfl rfl (Eff.call rfl rfl Try.call31 (newkey_spec E2 (some ⟨b3, 0, none⟩) ((key).size) capb3 md g2 hs2 v2 rE2)) ?_
  rintro _ _ ⟨_, ⟨b, v3, g3, rfl, hg3, rfl⟩, rfl⟩
  show WP _ _ _ _ _ _ _ (Blk b [.slice (some ⟨b3, 0, none⟩) ((key).size) capb3, .int .i64 (md.m), .int .i64 (md.s), v3] 153 :: Own 155 4 v3 g3.length (flatOf GV.cells g3) :: Kds (GVPe 81) g3 :: E2 :: Ad :: Blk b3 (byteCells key ++ spb3) 5 :: Blk b2 [.slice oa l.length oc] 22 :: Blk b1 [.int .i64 (md.m), .int .i64 (md.s), .slice sa gl0.length sc] 35 :: B :: F)
  refine WP.perm pl2 ?_
  refine WP.perm pl2 ?_
  refine WP.perm pl2 ?_
  refine WP.conv (fun w h => kis_new (s := ⟨md, gl0.map (·.1)⟩) (hg3.trans hg2) h) ?_
  show WP _ _ _ _ _ _ _ (KIs b (some ⟨b3, 0, none⟩) ((key).size) capb3 ⟨md, gl0.map (·.1)⟩ :: E2 :: Ad :: Blk b3 (byteCells key ++ spb3) 5 :: Blk b2 [.slice oa l.length oc] 22 :: Blk b1 [.int .i64 (md.m), .int .i64 (md.s), .slice sa gl0.length sc] 35 :: B :: F)
  refine WP.eff rfl rfl rfl (Eff.alloc rfl Ty.z78) ?_
  rintro _ _ ⟨b4, rfl, rfl⟩
  refine WP.eff0 rfl rfl (Eff.storeAgg (cs := [.pointer (some ⟨b, 0, none⟩)]) (C' := [.pointer (some ⟨b, 0, none⟩)]) rfl Ty.ag78 rfl rfl rfl rfl (by simp) rfl) ?_
  rintro _ _ rfl
  refine WP.nil ?_
  refine Out.next ?_
  refine WPc.seq ?_
  refine WPc.region ?_
  refine WP.eff rfl rfl rfl (Eff.alloc rfl Ty.z24) ?_
  rintro _ _ ⟨b5, rfl, rfl⟩
  refine WP.nil ?_
  refine Out.next ?_
  refine WPc.seq ?_
  refine WPc.region ?_
  refine WP.val rfl rfl rfl (Val.mkFunc rfl rfl rfl) ?_
  refine WP.perm pl8 ?_
  refine WP.perm pl3 ?_
  refine WP.perm pl3 ?_
  refine WP.perm pl3 ?_
  refine WP.perm pl7 ?_
  refine WP.eff rfl rfl rfl (Eff.call rfl rfl Try.call33 (fine_does (k := 34) (caps := [.pointer (some ⟨b2, 0, none⟩), .pointer (some ⟨b5, 0, none⟩), .pointer (some ⟨b4, 0, none⟩)]) Try.call34 (key1_spec B b2 b5 b4 b (some ⟨b3, 0, none⟩) ((key).size) capb3 St hS ⟨md, gl0.map (·.1)⟩ ans l hl hruns (.slice oa l.length oc) ho))) ?_
  rintro _ _ ⟨_, ⟨rfl, v5, was, hwas, hgs, rfl⟩, rfl⟩
  show WP _ _ _ _ _ _ _ (Blk b5 [v5] 24 :: Own 42 10 v5 was.length (flatOf WK.cells was) :: Kds WKP was :: KIs b (some ⟨b3, 0, none⟩) ((key).size) capb3 (stAt ⟨md, gl0.map (·.1)⟩ ans l.length) :: B :: E2 :: Ad :: Blk b3 (byteCells key ++ spb3) 5 :: Blk b1 [.int .i64 (md.m), .int .i64 (md.s), .slice sa gl0.length sc] 35 :: F)
  refine WP.val rfl rfl rfl (Val.assign rfl rfl) ?_
  refine WP.nil ?_
  refine Out.next ?_
  refine WPc.seq ?_
  refine WPc.region ?_
  refine WP.val rfl rfl rfl (Val.load rfl Ty.sc24 rfl (fun w h => h.cell 0 rfl rfl)) ?_
  refine WP.val rfl rfl rfl (Val.move rfl rfl) ?_
  refine WP.val rfl rfl rfl (Val.assign rfl rfl) ?_
  refine WP.val rfl rfl rfl (Val.assign rfl rfl) ?_
  refine WP.nil ?_
  refine Out.next ?_
  refine WPc.ret ?_
  refine Out.drop ?_
  refine Out.perm pl2 ?_
  refine Out.drop ?_
  refine Out.perm pl3 ?_
  refine Out.drop ?_
  refine Out.perm pl4 ?_
  refine Out.drop ?_
  refine Out.perm pl4 ?_
  refine Out.drop ?_
  refine Out.perm pl2 ?_
  refine Out.perm pl3 ?_
  refine Out.perm pl3 ?_
  refine Out.perm pl3 ?_
  exact Out.ret2 (L' := _) Try.results10 rfl rfl ⟨v5, was, hwas, hgs, rfl, rfl⟩ (fun _ h => h)
theorem key_spec (Ad B : HProp) (key : ByteArray) (md : Rv) (St : Stp) (hS : StOk St) (ans : List (KA × KI)) (gl0 : List GV) (hsm : Small (gl0.map (·.1))) (l : List KOp) (hl : l.length ≤ 65540) (hruns : Runs St ⟨md, gl0.map (·.1)⟩ l ans) (vd vo : Value) (hd : RdG Ad vd gl0) (ho : Rd B 7 KOp.cells vo l) : Does Try.prog 10 [.string key, .agg #[.int .i64 md.m, .int .i64 md.s, vd], vo] [Ad, B] (fun v L => ∃ (v5 : Value) (was : List WK), was.map WK.pr = ans ∧ (∀ x ∈ was, x.gl.map (·.1) = x.s.gs) ∧ v = .tuple #[v5, .bool true] ∧ L = [Own 42 10 v5 was.length (flatOf WK.cells was), Kds WKP was, Ad, B]) := by
  obtain ⟨sa, sc, rfl⟩ := Rd.slice hd.rd
  obtain ⟨oa, oc, rfl⟩ := Rd.slice ho
  exact key_slice Ad B key md St hS ans gl0 hsm l hl hruns sa oa sc oc hd ho

end Go.Proofs.Ythicijpjpijdjaa.La

namespace Go.Proofs.Ythicijpjpijdjaa.Lb
open Go.RowKit Go.Proofs.Ythicijpjpijdjaa Go.Proofs.Ythicijpjpijdjaa.Sl Go.Proofs.Ythicijpjpijdjaa.KyP Go.Proofs.Ythicijpjpijdjaa.Ka Go.Proofs.Ythicijpjpijdjaa.Kb Go.Proofs.Ythicijpjpijdjaa.Kc Go.Proofs.Ythicijpjpijdjaa.Kd Go.Proofs.Ythicijpjpijdjaa.Ke Go.Proofs.Ythicijpjpijdjaa.Kf Go.Proofs.Ythicijpjpijdjaa.Kg Go.Proofs.Ythicijpjpijdjaa.Kh Go.Proofs.Ythicijpjpijdjaa.Ki Go.Proofs.Ythicijpjpijdjaa.Kj Go.Proofs.Ythicijpjpijdjaa.Kk Go.Proofs.Ythicijpjpijdjaa.Kl Go.Proofs.Ythicijpjpijdjaa.Km Go.Proofs.Ythicijpjpijdjaa.Kn Go.Proofs.Ythicijpjpijdjaa.Ko Go.Proofs.Ythicijpjpijdjaa.Kp Go.Proofs.Ythicijpjpijdjaa.Kq Go.Proofs.Ythicijpjpijdjaa.Kr Go.Proofs.Ythicijpjpijdjaa.Ks Go.Proofs.Ythicijpjpijdjaa.Kt Go.Proofs.Ythicijpjpijdjaa.Ku Go.Proofs.Ythicijpjpijdjaa.Kv Go.Proofs.Ythicijpjpijdjaa.Kw Go.Proofs.Ythicijpjpijdjaa.Kx Go.Proofs.Ythicijpjpijdjaa.Ky Go.Proofs.Ythicijpjpijdjaa.Kz Go.Proofs.Ythicijpjpijdjaa.La
set_option linter.unusedVariables false
set_option linter.unusedSimpArgs false
set_option linter.unusedSectionVars false


theorem equal_rv (d : Nat) (a b p q : Int) (w : World) : (Op.equalIn (d + 2) 32 (.agg #[.int .i64 a, .int .i64 b]) (.agg #[.int .i64 p, .int .i64 q])).run Try.prog w = .ok (a == p && b == q) w := by
  have hi : ∀ (a b : Int) (w : World), (Op.equalIn (d + 1) 2 (.int .i64 a) (.int .i64 b)).run Try.prog w = .ok (a == b) w := fun a b w => by
    unfold Op.equalIn
    simp
  unfold Op.equalIn
  simp [Try.stoodInHeld32, part, forIn, hi]
  by_cases h1 : a = p <;> by_cases h2 : b = q <;> simp [h1, h2, hi]
def rveq (a b : Rv) : Bool := a.m == b.m && a.s == b.s
theorem rveq_self (a : Rv) : rveq a a = true := by simp [rveq]
theorem rveq_of {a b : Rv} (h : a = b) : rveq a b = true := by rw [h, rveq_self]
theorem Val.eqRv {n : Nat} {l : List (Nat × Value)} {G : World → Prop} {o : Oper} {u : TypeId} {x y : Operand} (a b : Rv) (ho : o.op = .binOp .eql 32 x y u) (hx : ev l x = some (.agg #[.int .i64 a.m, .int .i64 a.s])) (hy : ev l y = some (.agg #[.int .i64 b.m, .int .i64 b.s])) : Val Try.prog n l G o (.bool (rveq a b)) := fun z w hf hs => by
  have h2 : (Op.equal 32 (.agg #[.int .i64 a.m, .int .i64 a.s]) (.agg #[.int .i64 b.m, .int .i64 b.s])).run Try.prog w = .ok (a.m == b.m && a.s == b.s) w := equal_rv 9998 a.m a.s b.m b.s w
  have he : (eqGuard .eql 32 x y (.agg #[.int .i64 a.m, .int .i64 a.s]) (.agg #[.int .i64 b.m, .int .i64 b.s])).run Try.prog w = .ok () w := by simp [eqGuard, Try.eqGuardType32]
  simp only [execOp, ho, hf.ev hx, hf.ev hy, Sem.run_bind, he, Result.andThen_ok, binOp, h2, Sem.run_pure]
  rfl
theorem Val.neqRv {n : Nat} {l : List (Nat × Value)} {G : World → Prop} {o : Oper} {u : TypeId} {x y : Operand} (a b : Rv) (ho : o.op = .binOp .neq 32 x y u) (hx : ev l x = some (.agg #[.int .i64 a.m, .int .i64 a.s])) (hy : ev l y = some (.agg #[.int .i64 b.m, .int .i64 b.s])) : Val Try.prog n l G o (.bool (!(rveq a b))) := fun z w hf hs => by
  have h2 : (Op.equal 32 (.agg #[.int .i64 a.m, .int .i64 a.s]) (.agg #[.int .i64 b.m, .int .i64 b.s])).run Try.prog w = .ok (a.m == b.m && a.s == b.s) w := equal_rv 9998 a.m a.s b.m b.s w
  have he : (eqGuard .neq 32 x y (.agg #[.int .i64 a.m, .int .i64 a.s]) (.agg #[.int .i64 b.m, .int .i64 b.s])).run Try.prog w = .ok () w := by simp [eqGuard, Try.eqGuardType32]
  simp only [execOp, ho, hf.ev hx, hf.ev hy, Sem.run_bind, he, Result.andThen_ok, binOp, h2, Sem.run_pure]
  rfl
/-! the smallest life -/
def StBase (s : KI) (o : KOp) (s' : KI) (a : KA) : Prop := (o.k = 1 ∧ less s.md o.r ∧ Small s.gs ∧ Small (kput s o.r).gs ∧ s' = kput s o.r ∧ a = { KA0 with ok := true }) ∨ (o.k = 5 ∧ emp s.gs = false ∧ Small s.gs ∧ s' = s ∧ a = kgetA s.gs o.at_)
theorem stBase_ok : StOk StBase := by
  intro b ka kn kc s o s' a h
  rcases h with ⟨h1, h2, h3, h4, rfl, rfl⟩ | ⟨h1, h2, h3, rfl, rfl⟩
  · exact keyed_put b ka kn kc s h3 o h1 h2 h4
  · exact keyed_get b ka kn kc s' h3 o h1 h2 h3
def lv1 : KOp := ⟨1, ⟨2, 0⟩, ⟨0, 0⟩, 0, 0⟩
def lv2 : KOp := ⟨5, ⟨0, 0⟩, ⟨0, 0⟩, 0, 2⟩
def ls1 : KI := ⟨⟨2, 0⟩, [⟨1, ⟨2, 0⟩, [⟨2, 0⟩]⟩]⟩
def lans : List (KA × KI) := [({ KA0 with ok := true }, ls1), (⟨true, ⟨2, 0⟩, ⟨2, 0⟩, 1, []⟩, ls1)]
theorem ls1_put : kput ⟨⟨0, 0⟩, []⟩ ⟨2, 0⟩ = ls1 := rfl
theorem ls1_get : kgetA ls1.gs 2 = ⟨true, ⟨2, 0⟩, ⟨2, 0⟩, 1, []⟩ := rfl
theorem ls1_small : Small ls1.gs := ⟨by decide, fun g hg => by rw [List.mem_singleton.1 hg]; decide⟩
theorem live_runs : Runs StBase ⟨⟨0, 0⟩, []⟩ [lv1, lv2] lans := by
  refine ⟨rfl, fun i o x ho hx => ?_⟩
  match i, ho, hx with
  | 0, ho, hx =>
    obtain rfl : lv1 = o := by simpa using ho
    obtain rfl : ({ KA0 with ok := true }, ls1) = x := by simpa [lans] using hx
    exact .inl ⟨rfl, by decide, ⟨by decide, fun g hg => by cases hg⟩, ls1_small, rfl, rfl⟩
  | 1, ho, hx =>
    obtain rfl : lv2 = o := by simpa using ho
    obtain rfl : ((⟨true, ⟨2, 0⟩, ⟨2, 0⟩, 1, []⟩ : KA), ls1) = x := by simpa [lans] using hx
    exact .inr ⟨rfl, rfl, ls1_small, rfl, rfl⟩
  | i + 2, ho, hx => simp at ho
theorem two_was {was : List WK} (h : was.map WK.pr = lans) : ∃ u v u' v' g g', was = [⟨{ KA0 with ok := true }, ls1, u, v, g⟩, ⟨⟨true, ⟨2, 0⟩, ⟨2, 0⟩, 1, []⟩, ls1, u', v', g'⟩] := by
  match was, h with
  | [⟨a, s, u, v, g⟩, ⟨a', s', u', v', g'⟩], h =>
    simp only [List.map_cons, List.map_nil, lans, WK.pr, List.cons.injEq, Prod.mk.injEq, and_true] at h
    obtain ⟨⟨rfl, rfl⟩, rfl, rfl⟩ := h
    exact ⟨u, v, u', v', g, g', rfl⟩
set_option maxRecDepth 100000 in
set_option maxHeartbeats 2000000 in
theorem live_spec (z : Nat) : Does Try.prog 9 [] [] (fun v L => v = .bool true ∧ L = []) := by
  refine Does.enter 39 Try.func9 rfl rfl rfl fun W F => ?_
  show WPc _ _ _ _ _ [] (F)
  refine WPc.seq ?_
  refine WPc.region ?_
  refine WP.val rfl rfl rfl (Val.assign rfl rfl) ?_
  refine WP.nil ?_
  refine Out.next ?_
  refine WPc.seq ?_
  refine WPc.region ?_
  refine WP.val rfl rfl rfl (Val.mk (cs := [.int .i64 0, .int .i64 0, .slice none 0 0]) rfl rfl (fun _ => by kernel_rfl)) ?_
  refine WP.val rfl rfl rfl (Val.mk (cs := [.int .i64 2, .int .i64 0]) rfl rfl (fun _ => by kernel_rfl)) ?_
  refine WP.val rfl rfl rfl (Val.mk (cs := [.int .i64 1, .int .i64 2, .int .i64 0, .int .i64 0, .int .i64 0, .int .i64 0, .int .i64 0]) rfl rfl (fun _ => by kernel_rfl)) ?_
  refine WP.val rfl rfl rfl (Val.mk (cs := [.int .i64 5, .int .i64 0, .int .i64 0, .int .i64 0, .int .i64 0, .int .i64 0, .int .i64 2]) rfl rfl (fun _ => by kernel_rfl)) ?_
  refine WP.eff rfl rfl rfl (Eff.mkSlice (C := [.int .i64 1, .int .i64 2, .int .i64 0, .int .i64 0, .int .i64 0, .int .i64 0, .int .i64 0, .int .i64 5, .int .i64 0, .int .i64 0, .int .i64 0, .int .i64 0, .int .i64 0, .int .i64 2]) rfl Ty.sl22 rfl (fun _ => by kernel_rfl)) ?_
  rintro _ _ ⟨b1, rfl, rfl⟩
  refine WP.conv (fun w h => Sat.pure_mk (φ := True) trivial h) ?_
  show WP _ _ _ _ _ _ _ (Pure True :: Blk b1 [.int .i64 1, .int .i64 2, .int .i64 0, .int .i64 0, .int .i64 0, .int .i64 0, .int .i64 0, .int .i64 5, .int .i64 0, .int .i64 0, .int .i64 0, .int .i64 0, .int .i64 0, .int .i64 2] 38 :: F)
  refine WP.eff rfl rfl rfl (Eff.call rfl rfl Try.call10 (key_spec (Pure True) (Blk b1 (flatOf KOp.cells [lv1, lv2]) 38) ⟨#[107]⟩ ⟨0, 0⟩ StBase stBase_ok lans [] ⟨Nat.zero_le _, fun g hg => by cases hg⟩ [lv1, lv2] (by decide) live_runs (.slice none 0 0) (.slice (some ⟨b1, 0, none⟩) 2 2) ⟨.inr ⟨rfl, none, 0, rfl⟩, fun p hp => by cases hp⟩ (rd_blk (cf := KOp.cells) (k := 7) KOp.len b1 2 38 [lv1, lv2]))) ?_
  rintro _ _ ⟨_, ⟨v5, was, hwas, hgs, rfl, rfl⟩, rfl⟩
  show WP _ _ _ _ _ _ _ (Own 42 10 v5 was.length (flatOf WK.cells was) :: Kds WKP was :: Pure True :: Blk b1 (flatOf KOp.cells [lv1, lv2]) 38 :: F)
  refine WP.val rfl rfl rfl (Val.move rfl rfl) ?_
  refine WP.val rfl rfl rfl (Val.extract rfl rfl rfl) ?_
  refine WP.val rfl rfl rfl (Val.extract rfl rfl rfl) ?_
  refine WP.val rfl rfl rfl (Val.assign rfl rfl) ?_
  refine WP.val rfl rfl rfl (Val.assign rfl rfl) ?_
  refine WP.nil ?_
  refine Out.next ?_
  refine WPc.seq ?_
  obtain ⟨u1, u2, u3, u4, u5, u6, rfl⟩ := two_was hwas
  show WPc _ _ _ _ _ _ (Own 42 10 v5 2 (flatOf WK.cells [(⟨{ KA0 with ok := true }, ls1, u1, u2, u5⟩ : WK), ⟨⟨true, ⟨2, 0⟩, ⟨2, 0⟩, 1, []⟩, ls1, u3, u4, u6⟩]) :: Kds WKP [(⟨{ KA0 with ok := true }, ls1, u1, u2, u5⟩ : WK), ⟨⟨true, ⟨2, 0⟩, ⟨2, 0⟩, 1, []⟩, ls1, u3, u4, u6⟩] :: Pure True :: Blk b1 (flatOf KOp.cells [lv1, lv2]) 38 :: F)
  refine WPc.open (fun w h => h.ownPos (by decide)) ?_
  rintro ⟨g2, cg2, spg2⟩
  refine WPc.pure (fun hvg2 => ?_)
  obtain ⟨rfl, hng2, hlg2, hsg2, hcg2⟩ := hvg2
  dsimp only at hng2 hlg2 hsg2 hcg2
  show WPc _ _ _ _ _ _ (Blk g2 (flatOf WK.cells [(⟨{ KA0 with ok := true }, ls1, u1, u2, u5⟩ : WK), ⟨⟨true, ⟨2, 0⟩, ⟨2, 0⟩, 1, []⟩, ls1, u3, u4, u6⟩] ++ spg2) 42 :: Kds WKP [(⟨{ KA0 with ok := true }, ls1, u1, u2, u5⟩ : WK), ⟨⟨true, ⟨2, 0⟩, ⟨2, 0⟩, 1, []⟩, ls1, u3, u4, u6⟩] :: Pure True :: Blk b1 (flatOf KOp.cells [lv1, lv2]) 38 :: F)
  refine WPc.region ?_
  refine WP.val rfl rfl rfl (Val.move rfl rfl) ?_
  refine WP.val rfl rfl rfl (Val.move rfl rfl) ?_
  refine WP.valG rfl rfl rfl rfl rfl rfl rfl (Val.move rfl rfl) ?_
  refine WP.valG rfl rfl rfl rfl rfl rfl rfl (Val.len rfl Ty.sl24 rfl) ?_
  refine WP.valG rfl rfl rfl rfl rfl rfl rfl (Val.eqlK rfl rfl rfl rfl) ?_
  refine WP.val rfl rfl rfl (Val.pickT rfl rfl rfl) ?_
  refine WP.val rfl rfl rfl (Val.move rfl rfl) ?_
  refine WP.valG rfl rfl rfl rfl rfl rfl rfl (Val.move rfl rfl) ?_
  refine WP.valG rfl rfl rfl rfl rfl rfl rfl (Val.indexAddr (j := 1) (q := 10) rfl Ty.sl24 rfl rfl (by omega) (by omega) (by omega)) ?_
  refine WP.valG rfl rfl rfl rfl rfl rfl rfl (Val.fieldAddr (j := 10) rfl Ty.fo42_0 rfl rfl) ?_
  refine WP.valG rfl rfl rfl rfl rfl rfl rfl (Val.load (v := .bool true) rfl Ty.sc4 rfl (fun w h => ((h.at 0 rfl).cell 10).trans rfl)) ?_
  refine WP.val rfl rfl rfl (Val.pickT rfl rfl rfl) ?_
  refine WP.val rfl rfl rfl (Val.move rfl rfl) ?_
  refine WP.valG rfl rfl rfl rfl rfl rfl rfl (Val.move rfl rfl) ?_
  refine WP.valG rfl rfl rfl rfl rfl rfl rfl (Val.indexAddr (j := 1) (q := 10) rfl Ty.sl24 rfl rfl (by omega) (by omega) (by omega)) ?_
  refine WP.valG rfl rfl rfl rfl rfl rfl rfl (Val.fieldAddr (j := 15) rfl Ty.fo42_3 rfl rfl) ?_
  refine WP.valG rfl rfl rfl rfl rfl rfl rfl (Val.load (v := .int .i64 1) rfl Ty.sc2 rfl (fun w h => ((h.at 0 rfl).cell 15).trans rfl)) ?_
  refine WP.valG rfl rfl rfl rfl rfl rfl rfl (Val.eqlK rfl rfl rfl rfl) ?_
  refine WP.val rfl rfl rfl (Val.pickT rfl rfl rfl) ?_
  refine WP.val rfl rfl rfl (Val.move rfl rfl) ?_
  refine WP.valG rfl rfl rfl rfl rfl rfl rfl (Val.move rfl rfl) ?_
  refine WP.valG rfl rfl rfl rfl rfl rfl rfl (Val.indexAddr (j := 1) (q := 10) rfl Ty.sl24 rfl rfl (by omega) (by omega) (by omega)) ?_
  refine WP.valG rfl rfl rfl rfl rfl rfl rfl (Val.fieldAddr (j := 11) rfl Ty.fo42_1 rfl rfl) ?_
  refine WP.valG rfl rfl rfl rfl rfl rfl rfl (Val.loadAgg (cs := [.int .i64 2, .int .i64 0]) rfl Ty.ag32 rfl (by rfl) (fun w h => (h.at 0 rfl).cell_range rfl)) ?_
  refine WP.valG rfl rfl rfl rfl rfl rfl rfl (Val.mk (cs := [.int .i64 2, .int .i64 0]) rfl rfl (fun _ => by kernel_rfl)) ?_
  refine WP.valG rfl rfl rfl rfl rfl rfl rfl (Val.eqRv ⟨2, 0⟩ ⟨2, 0⟩ rfl rfl rfl) ?_
  refine WP.val rfl rfl rfl (Val.pickT rfl rfl rfl) ?_
  refine WP.val rfl rfl rfl (Val.assign rfl rfl) ?_
  refine WP.nil ?_
  refine Out.next ?_
  refine WPc.ret ?_
  refine Out.drop ?_
  refine Out.drop ?_
  refine Out.drop ?_
  refine Out.drop ?_
  exact Out.ret1 (L' := []) Try.results9 rfl ⟨rfl, rfl⟩ (fun _ h => h)

end Go.Proofs.Ythicijpjpijdjaa.Lb

namespace Go.Proofs.Ythicijpjpijdjaa.Lc
open Go.RowKit Go.Proofs.Ythicijpjpijdjaa Go.Proofs.Ythicijpjpijdjaa.Sl Go.Proofs.Ythicijpjpijdjaa.KyP Go.Proofs.Ythicijpjpijdjaa.Ka Go.Proofs.Ythicijpjpijdjaa.Kb Go.Proofs.Ythicijpjpijdjaa.Kc Go.Proofs.Ythicijpjpijdjaa.Kd Go.Proofs.Ythicijpjpijdjaa.Ke Go.Proofs.Ythicijpjpijdjaa.Kf Go.Proofs.Ythicijpjpijdjaa.Kg Go.Proofs.Ythicijpjpijdjaa.Kh Go.Proofs.Ythicijpjpijdjaa.Ki Go.Proofs.Ythicijpjpijdjaa.Kj Go.Proofs.Ythicijpjpijdjaa.Kk Go.Proofs.Ythicijpjpijdjaa.Kl Go.Proofs.Ythicijpjpijdjaa.Km Go.Proofs.Ythicijpjpijdjaa.Kn Go.Proofs.Ythicijpjpijdjaa.Ko Go.Proofs.Ythicijpjpijdjaa.Kp Go.Proofs.Ythicijpjpijdjaa.Kq Go.Proofs.Ythicijpjpijdjaa.Kr Go.Proofs.Ythicijpjpijdjaa.Ks Go.Proofs.Ythicijpjpijdjaa.Kt Go.Proofs.Ythicijpjpijdjaa.Ku Go.Proofs.Ythicijpjpijdjaa.Kv Go.Proofs.Ythicijpjpijdjaa.Kw Go.Proofs.Ythicijpjpijdjaa.Kx Go.Proofs.Ythicijpjpijdjaa.Ky Go.Proofs.Ythicijpjpijdjaa.Kz Go.Proofs.Ythicijpjpijdjaa.La Go.Proofs.Ythicijpjpijdjaa.Lb
set_option linter.unusedVariables false
set_option linter.unusedSimpArgs false
set_option linter.unusedSectionVars false


theorem life_all (A0 A : HProp) (l0 : List Vn) (hl0 : l0.length ≤ 1000) (va : Value) (hva : Rd A0 6 Vn.cells va l0) (l : List KOp) (hl : l.length ≤ 2147483647) (vo : Value) (hvo : Rd A 7 KOp.cells vo l) :
    Does Try.prog 7 [va, vo] [A0, A] (fun v L => ∃ (X : HProp) (va2 v5 : Value) (vs : List Vn) (was : List WA) (ok : Bool), v = .tuple #[va2, v5, .bool ok] ∧ lifeR l0 l = (if ok then some (vs, was.map WA.pr) else none) ∧ (ok = false → vs = []) ∧ (∀ x ∈ was, x.gl.map (·.1) = dgens x.lb) ∧ Rd X 6 Vn.cells va2 vs ∧ vs.length ≤ l0.length + 300 ∧ (ok = true → ∃ E, X = Sep [E, A0]) ∧ L = [Own 42 10 v5 was.length (flatOf WA.cells was), Kds WAP was, X, A]) := by
  refine (life_spec A0 A l0 hl0 va hva l hl vo hvo).mono ?_
  rintro v L (⟨h1, rfl, rfl⟩ | ⟨E, va2, v5, vs, was, h1, h2, rfl, h4, h5, rfl⟩)
  · exact ⟨_, ⟨Pure True, _, _, [], [], false, rfl, h1, fun _ => rfl, fun x hx => (by cases hx), .inr ⟨rfl, none, 0, rfl⟩, Nat.zero_le _, fun h => (by cases h), rfl⟩, fun W w F h => (Sat.kNil (R := WAP) (Sat.pure_mk trivial h)).ownNil⟩
  · have hln : l.length ≤ 300 := by
      rcases Nat.lt_or_ge 300 l.length with h | h
      · unfold lifeR at h1; rw [if_pos h] at h1; cases h1
      · exact h
    exact ⟨_, ⟨Sep [E, A0], va2, v5, vs, was, true, rfl, h1, fun h => (by cases h), h2, h4, by omega, fun _ => ⟨E, rfl⟩, rfl⟩, fun W w F h => h⟩
theorem life_rise {l0 : List Vn} (h0 : Rise l0) : ∀ (ops : List KOp) {l : List Vn} {aa : List (KA × List Vn)}, life l0 ops = some (l, aa) → Rise l := by
  intro ops
  generalize hn : ops.length = n
  induction n generalizing ops with
  | zero =>
    intro l aa h
    rw [List.eq_nil_of_length_eq_zero hn] at h
    cases h
    exact h0
  | succ n ih =>
    intro l aa h
    rcases List.eq_nil_or_concat ops with rfl | ⟨m, o, rfl⟩
    · cases hn
    · rw [List.concat_eq_append] at h hn
      rw [life_snoc] at h
      cases hm : life l0 m with
      | none => rw [hm] at h; cases h
      | some q =>
        obtain ⟨l1, a1⟩ := q
        rw [hm] at h
        unfold lstep at h
        dsimp only at h
        split at h
        · cases h
        · cases h
          exact kdo_rise (ih m (by simpa using hn) hm)
theorem lifeR_rise {ops : List KOp} {l : List Vn} {aa : List (KA × List Vn)} (h : lifeR [] ops = some (l, aa)) : Rise l := by
  unfold lifeR at h
  split at h
  · cases h
  · exact life_rise rise_nil ops h
theorem dgens_pos {l : List Vn} (h : 0 < l.length) : 0 < (dgens l).length := by
  rcases List.eq_nil_or_concat l with rfl | ⟨m, x, rfl⟩
  · cases h
  · rw [List.concat_eq_append]
    unfold dgens
    rw [dgo_snoc, List.length_append]
    have : 0 < (dstep (dgo m) x).1.length := by
      unfold dstep
      dsimp only
      split <;> simp
    omega
theorem wl_step {gs : List Gn} {at_ : Int} {i : Nat} {g : Gn} (h : gs[i]? = some g) : wl gs at_ (i + 1) = if 0 < g.revs.length ∧ fstM g ≤ at_ ∧ (i + 1 = gs.length ∨ at_ < lstM g) then (i : Int) else wl gs at_ i := by
  conv => lhs; unfold wl
  rw [h]
set_option maxRecDepth 100000 in
set_option maxHeartbeats 2000000 in
theorem law_spec (W0 : World) (l : List KOp) (hl : l.length ≤ 9223372036854775807) (vo : Value) (hvo : Rd (Old W0) 7 KOp.cells vo l) (at_ : Int) : Does Try.prog 5 [vo, .int .i64 (at_)] [Old W0] (fun v L => v = .bool true ∧ L = [Old W0]) := by
  refine Does.enter 83 Try.func5 rfl rfl rfl fun W F => ?_
  show WPc _ _ _ _ _ [(0, vo), (1, .int .i64 (at_))] (Old W0 :: F)
  refine WPc.seq ?_
  refine WPc.region ?_
  refine WP.val rfl rfl rfl (Val.assign rfl rfl) ?_
  refine WP.nil ?_
  refine Out.next ?_
  refine WPc.seq ?_
  refine WPc.seq ?_
  refine WPc.region ?_
  refine WP.val rfl rfl rfl (Val.move rfl rfl) ?_
  refine WP.val rfl rfl rfl (Rd.len hvo rfl Ty.sl22 rfl) ?_
  refine WP.val rfl rfl rfl (Val.gtr rfl rfl rfl) ?_
  refine WP.nil ?_
  refine Out.next ?_
  refine WPc.ifP rfl (fun h1 => ?_) (fun h1 => ?_)
  · skip
    have h1 : ((2147483647 : Int) < ((l.length : Nat) : Int)) := h1
    refine WPc.seq ?_
    refine WPc.region ?_
    refine WP.val rfl rfl rfl (Val.assign rfl rfl) ?_
    refine WP.nil ?_
    refine Out.next ?_
    refine WPc.ret ?_
    refine Out.then_ret ?_
    exact Out.ret1 (L' := _) Try.results5 rfl ⟨rfl, rfl⟩ (fun _ h => h)
  · skip
    have h1 : ¬ ((2147483647 : Int) < ((l.length : Nat) : Int)) := h1
    refine WPc.skip ?_
    refine Out.next ?_
    refine WPc.seq ?_
    refine WPc.region ?_
    refine WP.val rfl rfl rfl (Val.move rfl rfl) ?_
    refine WP.conv (fun w h => Sat.pure_mk (φ := True) trivial h) ?_
    show WP _ _ _ _ _ _ _ (Pure True :: Old W0 :: F)
    refine WP.eff rfl rfl rfl (Eff.call rfl rfl Try.call7 (life_all (Pure True) (Old W0) [] (by decide) (.slice none 0 0) (.inr ⟨rfl, none, 0, rfl⟩) l (by omega) vo hvo)) ?_
    rintro _ _ ⟨_, ⟨X, va2, v5, vs, was, ok, rfl, hlife, hvs0, hgs, hX, hvn, -, rfl⟩, rfl⟩
    show WP _ _ _ _ _ _ _ (Own 42 10 v5 was.length (flatOf WA.cells was) :: Kds WAP was :: X :: Old W0 :: F)
    refine WP.val rfl rfl rfl (Val.move rfl rfl) ?_
    refine WP.val rfl rfl rfl (Val.extract rfl rfl rfl) ?_
    refine WP.val rfl rfl rfl (Val.extract rfl rfl rfl) ?_
    refine WP.val rfl rfl rfl (Val.extract rfl rfl rfl) ?_
    refine WP.val rfl rfl rfl (Val.assign rfl rfl) ?_
    refine WP.val rfl rfl rfl (Val.assign rfl rfl) ?_
    refine WP.val rfl rfl rfl (Val.assign rfl rfl) ?_
    refine WP.nil ?_
    refine Out.next ?_
    refine WPc.seq ?_
    refine WPc.seq ?_
    refine WPc.region ?_
    refine WP.val rfl rfl rfl (Val.move rfl rfl) ?_
    refine WP.val rfl rfl rfl (Val.not rfl rfl) ?_
    refine WP.val rfl rfl rfl (Val.move rfl rfl) ?_
    refine WP.splitB 24 rfl (fun h2 => ?_) (fun h2 => ?_)
    · skip
      refine WP.skip rfl rfl rfl rfl rfl rfl rfl ?_
      refine WP.skip rfl rfl rfl rfl rfl rfl rfl ?_
      refine WP.skip rfl rfl rfl rfl rfl rfl rfl ?_
      refine WP.val rfl rfl rfl (Val.pickT rfl rfl rfl) ?_
      refine WP.nil ?_
      refine Out.next ?_
      refine WPc.condT rfl rfl ?_
      refine WPc.seq ?_
      refine WPc.region ?_
      refine WP.eff rfl rfl rfl (Eff.call rfl rfl Try.call9 (live_spec 0)) ?_
      rintro _ _ ⟨_, ⟨rfl, rfl⟩, rfl⟩
      show WP _ _ _ _ _ _ _ (Own 42 10 v5 was.length (flatOf WA.cells was) :: Kds WAP was :: X :: Old W0 :: F)
      refine WP.val rfl rfl rfl (Val.assign rfl rfl) ?_
      refine WP.nil ?_
      refine Out.next ?_
      refine WPc.ret ?_
      refine Out.then_ret ?_
      refine Out.drop ?_
      refine Out.drop ?_
      refine Out.drop ?_
      exact Out.ret1 (L' := _) Try.results5 rfl ⟨rfl, rfl⟩ (fun _ h => h)
    · skip
      refine WP.valG rfl rfl rfl rfl rfl rfl rfl (Val.move rfl rfl) ?_
      refine WP.valG rfl rfl rfl rfl rfl rfl rfl (Rd.len hX rfl Ty.sl23 rfl) ?_
      refine WP.valG rfl rfl rfl rfl rfl rfl rfl (Val.eql rfl rfl rfl) ?_
      refine WP.val rfl rfl rfl (Val.pickF rfl rfl rfl) ?_
      refine WP.nil ?_
      refine Out.next ?_
      refine WPc.ifP rfl (fun h3 => ?_) (fun h3 => ?_)
      · skip
        have h3 : (((vs.length : Nat) : Int) = (0 : Int)) := h3
        refine WPc.seq ?_
        refine WPc.region ?_
        refine WP.eff rfl rfl rfl (Eff.call rfl rfl Try.call9 (live_spec 0)) ?_
        rintro _ _ ⟨_, ⟨rfl, rfl⟩, rfl⟩
        show WP _ _ _ _ _ _ _ (Own 42 10 v5 was.length (flatOf WA.cells was) :: Kds WAP was :: X :: Old W0 :: F)
        refine WP.val rfl rfl rfl (Val.assign rfl rfl) ?_
        refine WP.nil ?_
        refine Out.next ?_
        refine WPc.ret ?_
        refine Out.then_ret ?_
        refine Out.drop ?_
        refine Out.drop ?_
        refine Out.drop ?_
        exact Out.ret1 (L' := _) Try.results5 rfl ⟨rfl, rfl⟩ (fun _ h => h)
      · skip
        have h3 : ¬ (((vs.length : Nat) : Int) = (0 : Int)) := h3
        refine WPc.skip ?_
        refine Out.next ?_
        refine WPc.seq ?_
        have hvn2 : vs.length ≤ 300 := by simpa using hvn
        refine WPc.region ?_
        refine WP.val rfl rfl rfl (Val.move rfl rfl) ?_
        refine WP.perm pl2 ?_
        refine WP.eff rfl rfl rfl (Eff.call rfl rfl Try.call11 (dump_spec X vs (by omega) va2 hX)) ?_
        rintro _ _ ⟨_, ⟨vg, gl, rfl, hgl, rfl⟩, rfl⟩
        show WP _ _ _ _ _ _ _ (Own 53 4 vg gl.length (flatOf GV.cells gl) :: Kds (GVPe 32) gl :: X :: Own 42 10 v5 was.length (flatOf WA.cells was) :: Kds WAP was :: Old W0 :: F)
        refine WP.fact (fun w h => own_oneCell h) (fun ong => ?_)
        refine WP.eff rfl rfl rfl (Eff.alloc rfl Ty.z35) ?_
        rintro _ _ ⟨b1, rfl, rfl⟩
        refine WP.eff0 rfl rfl (Eff.storeAgg (cs := [.int .i64 ((modi vs).m), .int .i64 ((modi vs).s), vg]) (C' := [.int .i64 ((modi vs).m), .int .i64 ((modi vs).s), vg]) rfl Ty.ag35 rfl rfl rfl (by simp only [List.all_cons, List.all_nil, Bool.and_true, oc_int, oc_str, oc_bool, oc_ptr, oc_slice, oc_iface, oc_map, ong]) (by simp) rfl) ?_
        rintro _ _ rfl
        refine WP.nil ?_
        refine Out.next ?_
        refine WPc.seq ?_
        refine WPc.perm pl2 ?_
        refine WPc.perm pl2 ?_
        refine WPc.open (fun w h => gens_open (e2 := 32) h) ?_
        rintro EG
        refine WPc.pure (fun hEG => ?_)
        obtain ⟨rEG, backEG⟩ := hEG
        show WPc _ _ _ _ _ _ (EG :: Blk b1 [.int .i64 ((modi vs).m), .int .i64 ((modi vs).s), vg] 35 :: X :: Own 42 10 v5 was.length (flatOf WA.cells was) :: Kds WAP was :: Old W0 :: F)
        have hsg : Small (gl.map (·.1)) := by rw [hgl]; exact small_dgens (by omega)
        have hgp : 0 < gl.length := by have h9 := dgens_pos (l := vs) (by omega); rw [← hgl, List.length_map] at h9; exact h9
        have hlen := hsg.len
        obtain ⟨b0, o0, c0, rfl, hr⟩ := Rd.row rEG.rd hgp
        show WPc _ _ _ _ _ _ (EG :: Blk b1 [.int .i64 ((modi vs).m), .int .i64 ((modi vs).s), .slice (some ⟨b0, o0, none⟩) gl.length c0] 35 :: X :: Own 42 10 v5 was.length (flatOf WA.cells was) :: Kds WAP was :: Old W0 :: F)
        refine WPc.region ?_
        refine WP.val rfl rfl rfl (Val.assign rfl rfl) ?_
        refine WP.nil ?_
        refine Out.next ?_
        refine WPc.seq ?_
        refine WPc.seq ?_
        refine WPc.region ?_
        refine WP.val rfl rfl rfl (Val.fieldAddr (j := 2) rfl Ty.fo35_1 rfl rfl) ?_
        refine WP.val rfl rfl rfl (Val.load rfl Ty.sc33 rfl (fun w h => h.cell 1 rfl rfl)) ?_
        refine WP.val rfl rfl rfl (Val.len rfl Ty.sl33 rfl) ?_
        refine WP.val rfl rfl rfl (Val.move rfl rfl) ?_
        refine WP.nil ?_
        refine Out.next ?_
        refine WPc.block ?_
        refine WPc.perm pl2 ?_
        refine WPc.drop ?_
        refine WPc.perm pl2 ?_
        refine WPc.drop ?_
        refine WPc.perm pl2 ?_
        refine WPc.drop ?_
        refine WPc.loop (ι := Nat × Int) (fun ⟨i, wv⟩ => i ≤ gl.length ∧ wv = wl (gl.map (·.1)) at_ i) (fun ⟨i, wv⟩ => [(1, .int .i64 (at_)), (8, .pointer (some ⟨b1, 0, none⟩)), (9, .int .i64 (wv)), (33, .slice (some ⟨b0, o0, none⟩) gl.length c0), (34, .int .i64 (((gl.length : Nat) : Int))), (35, .int .i64 (((i : Nat) : Int)))]) (fun ⟨i, wv⟩ => EG :: Blk b1 [.int .i64 ((modi vs).m), .int .i64 ((modi vs).s), .slice (some ⟨b0, o0, none⟩) gl.length c0] 35 :: Old W0 :: F) (fun ⟨i, wv⟩ => gl.length - i) (0, -1) ⟨Nat.zero_le _, rfl⟩ ((Sub.cons rfl (Sub.cons rfl (Sub.cons rfl (Sub.cons rfl (Sub.cons rfl (Sub.cons rfl Sub.nil))))))) (fun _ h => h) ?_
        rintro ⟨i, wv⟩ ⟨hi, hwv⟩
        show WPc _ _ _ _ _ [(1, .int .i64 (at_)), (8, .pointer (some ⟨b1, 0, none⟩)), (9, .int .i64 (wv)), (33, .slice (some ⟨b0, o0, none⟩) gl.length c0), (34, .int .i64 (((gl.length : Nat) : Int))), (35, .int .i64 (((i : Nat) : Int)))] (EG :: Blk b1 [.int .i64 ((modi vs).m), .int .i64 ((modi vs).s), .slice (some ⟨b0, o0, none⟩) gl.length c0] 35 :: Old W0 :: F)
        replace hi : i ≤ gl.length := hi
        replace hwv : wv = _ := hwv
        refine WPc.seq ?_
        refine WPc.region ?_
        refine WP.val rfl rfl rfl (Val.lss rfl rfl rfl) ?_
        refine WP.nil ?_
        refine Out.next ?_
        refine WPc.seq ?_
        refine WPc.ifP rfl (fun h4 => ?_) (fun h4 => ?_)
        · skip
          have h4 : (((i : Nat) : Int) < ((gl.length : Nat) : Int)) := h4
          refine WPc.skip ?_
          refine Out.next ?_
          refine WPc.seq ?_
          refine WPc.block ?_
          refine WPc.seq ?_
          have hlt : i < gl.length := by omega
          obtain ⟨⟨g, u⟩, hx⟩ : ∃ x, gl[i]? = some x := ⟨_, List.getElem?_eq_getElem hlt⟩
          have hxm := List.mem_iff_getElem?.2 ⟨_, hx⟩
          have hin1 : Rd EG 2 Rv.cells u g.revs := rEG.inn _ hxm
          have hsx : g.revs.length ≤ 200000 := hsg.inn hxm
          have onu := Rd.one hin1
          have hgj : (gl.map (·.1))[i]? = some g := by rw [List.getElem?_map, hx]; rfl
          have hst := wl_step (at_ := at_) hgj
          rw [List.length_map] at hst
          refine WPc.region ?_
          refine WP.val rfl rfl rfl (Val.move rfl rfl) ?_
          refine WP.val rfl rfl rfl (Val.indexAddr (j := i) (q := o0 + i * 4) rfl Ty.sl33 rfl rfl (by omega) (by omega) (by omega)) ?_
          refine WP.val rfl rfl rfl (Val.loadAgg (cs := (GV.cells (g, u))) rfl Ty.ag53 rfl (by rfl) (fun w h => hr w (h.at 0 rfl) i (g, u) hx)) ?_
          refine WP.eff rfl rfl rfl (Eff.alloc rfl Ty.z53) ?_
          rintro _ _ ⟨b2, rfl, rfl⟩
          refine WP.val rfl rfl rfl (Val.assign rfl rfl) ?_
          refine WP.eff0 rfl rfl (Eff.storeAgg (cs := [.int .i64 (g.v), .int .i64 (g.c.m), .int .i64 (g.c.s), u]) (C' := [.int .i64 (g.v), .int .i64 (g.c.m), .int .i64 (g.c.s), u]) rfl Ty.ag53 rfl rfl rfl (by simp only [List.all_cons, List.all_nil, Bool.and_true, oc_int, oc_str, oc_bool, oc_ptr, oc_slice, oc_iface, oc_map, onu]) (by simp) rfl) ?_
          rintro _ _ rfl
          refine WP.nil ?_
          refine Out.next ?_
          refine WPc.seq ?_
          refine WPc.region ?_
          refine WP.val rfl rfl rfl (Val.fieldAddr (j := 3) rfl Ty.fo53_2 rfl rfl) ?_
          refine WP.val rfl rfl rfl (Val.load rfl Ty.sc40 rfl (fun w h => h.cell 0 rfl rfl)) ?_
          refine WP.val rfl rfl rfl (Rd.len hin1 rfl Ty.sl40 rfl) ?_
          refine WP.val rfl rfl rfl (Val.assign rfl rfl) ?_
          refine WP.nil ?_
          refine Out.next ?_
          refine WPc.cut (ι := Bool) (fun q => q = decide (0 < g.revs.length ∧ fstM g ≤ at_ ∧ (i + 1 = gl.length ∨ at_ < lstM g))) (fun q => [(1, .int .i64 (at_)), (8, .pointer (some ⟨b1, 0, none⟩)), (9, .int .i64 (wv)), (10, .int .i64 (((i : Nat) : Int))), (33, .slice (some ⟨b0, o0, none⟩) gl.length c0), (34, .int .i64 (((gl.length : Nat) : Int))), (35, .int .i64 (((i : Nat) : Int))), (72, .bool (q))]) (fun q => EG :: Blk b1 [.int .i64 ((modi vs).m), .int .i64 ((modi vs).s), .slice (some ⟨b0, o0, none⟩) gl.length c0] 35 :: Old W0 :: F) ?_ ?_
          · skip
            refine WPc.region ?_
            refine WP.val rfl rfl rfl (Val.move rfl rfl) ?_
            refine WP.val rfl rfl rfl (Val.gtr rfl rfl rfl) ?_
            refine WP.val rfl rfl rfl (Val.move rfl rfl) ?_
            refine WP.split 45 rfl (fun h5 => ?_) (fun h5 => ?_)
            · skip
              have h5 : ((0 : Int) < ((g.revs.length : Nat) : Int)) := h5
              obtain ⟨bi, oi, ci, rfl, hri⟩ := Rd.row hin1 (by omega)
              obtain ⟨y0, hy0⟩ : ∃ y, g.revs[0]? = some y := ⟨_, List.getElem?_eq_getElem (by omega)⟩
              obtain ⟨y1, hy1⟩ : ∃ y, g.revs[g.revs.length - 1]? = some y := ⟨_, List.getElem?_eq_getElem (by omega)⟩
              have hf0 := fst_at hy0
              have hl1 := lst_at hy1
              refine WP.valG rfl rfl rfl rfl rfl rfl rfl (Val.fieldAddr (j := 3) rfl Ty.fo53_2 rfl rfl) ?_
              refine WP.valG rfl rfl rfl rfl rfl rfl rfl (Val.load rfl Ty.sc40 rfl (fun w h => h.cell 0 rfl rfl)) ?_
              refine WP.valG rfl rfl rfl rfl rfl rfl rfl (Val.indexAddr (j := 0) (q := oi + 0 * 2) rfl Ty.sl40 rfl rfl (by omega) (by omega) (by omega)) ?_
              refine WP.valG rfl rfl rfl rfl rfl rfl rfl (Val.fieldAddr (j := oi + 0 * 2) rfl Ty.fo32_0 rfl rfl) ?_
              refine WP.valG rfl rfl rfl rfl rfl rfl rfl (Val.load (v := .int .i64 (y0.m)) rfl Ty.sc2 rfl (fun w h => hri w (h.at 1 rfl) 0 y0 hy0 0 _ rfl)) ?_
              refine WP.valG rfl rfl rfl rfl rfl rfl rfl (Val.move rfl rfl) ?_
              refine WP.valG rfl rfl rfl rfl rfl rfl rfl (Val.leq rfl rfl rfl) ?_
              refine WP.val rfl rfl rfl (Val.pickT rfl rfl rfl) ?_
              refine WP.val rfl rfl rfl (Val.move rfl rfl) ?_
              refine WP.split 54 rfl (fun h6 => ?_) (fun h6 => ?_)
              · skip
                have h6 : (y0.m ≤ at_) := h6
                refine WP.valG rfl rfl rfl rfl rfl rfl rfl (Val.move rfl rfl) ?_
                refine WP.valG rfl rfl rfl rfl rfl rfl rfl (Val.fieldAddr (j := 2) rfl Ty.fo35_1 rfl rfl) ?_
                refine WP.valG rfl rfl rfl rfl rfl rfl rfl (Val.load rfl Ty.sc33 rfl (fun w h => h.cell 2 rfl rfl)) ?_
                refine WP.valG rfl rfl rfl rfl rfl rfl rfl (Val.len rfl Ty.sl33 rfl) ?_
                refine WP.valG rfl rfl rfl rfl rfl rfl rfl (Val.sub (z := ((gl.length - 1 : Nat) : Int)) rfl rfl rfl ((w64 (by omega) (by omega)).trans (by omega))) ?_
                refine WP.valG rfl rfl rfl rfl rfl rfl rfl (Val.eql rfl rfl rfl) ?_
                refine WP.valG rfl rfl rfl rfl rfl rfl rfl (Val.move rfl rfl) ?_
                refine WP.split 61 rfl (fun h7 => ?_) (fun h7 => ?_)
                · skip
                  have h7 : (((i : Nat) : Int) = ((gl.length - 1 : Nat) : Int)) := h7
                  refine WP.skip rfl rfl rfl rfl rfl rfl rfl ?_
                  refine WP.skip rfl rfl rfl rfl rfl rfl rfl ?_
                  refine WP.skip rfl rfl rfl rfl rfl rfl rfl ?_
                  refine WP.skip rfl rfl rfl rfl rfl rfl rfl ?_
                  refine WP.skip rfl rfl rfl rfl rfl rfl rfl ?_
                  refine WP.skip rfl rfl rfl rfl rfl rfl rfl ?_
                  refine WP.skip rfl rfl rfl rfl rfl rfl rfl ?_
                  refine WP.skip rfl rfl rfl rfl rfl rfl rfl ?_
                  refine WP.skip rfl rfl rfl rfl rfl rfl rfl ?_
                  refine WP.valG rfl rfl rfl rfl rfl rfl rfl (Val.pickT rfl rfl rfl) ?_
                  refine WP.val rfl rfl rfl (Val.pickT rfl rfl rfl) ?_
                  refine WP.nil ?_
                  refine Out.drop ?_
                  refine Out.meet true ?_ ?_ ?_
                  · exact (show true = decide (0 < g.revs.length ∧ fstM g ≤ at_ ∧ (i + 1 = gl.length ∨ at_ < lstM g)) from (decide_eq_true (by omega)).symm)
                  · exact (Sub.cons rfl (Sub.cons rfl (Sub.cons rfl (Sub.cons rfl (Sub.cons rfl (Sub.cons rfl (Sub.cons rfl (Sub.cons rfl Sub.nil))))))))
                  · exact (fun _ h => h)
                · skip
                  have h7 : ¬ (((i : Nat) : Int) = ((gl.length - 1 : Nat) : Int)) := h7
                  refine WP.valG rfl rfl rfl rfl rfl rfl rfl (Val.fieldAddr (j := 3) rfl Ty.fo53_2 rfl rfl) ?_
                  refine WP.valG rfl rfl rfl rfl rfl rfl rfl (Val.load rfl Ty.sc40 rfl (fun w h => h.cell 0 rfl rfl)) ?_
                  refine WP.valG rfl rfl rfl rfl rfl rfl rfl (Val.move rfl rfl) ?_
                  refine WP.valG rfl rfl rfl rfl rfl rfl rfl (Val.sub (z := ((g.revs.length - 1 : Nat) : Int)) rfl rfl rfl ((w64 (by omega) (by omega)).trans (by omega))) ?_
                  refine WP.valG rfl rfl rfl rfl rfl rfl rfl (Val.indexAddr (j := g.revs.length - 1) (q := oi + (g.revs.length - 1) * 2) rfl Ty.sl40 rfl rfl (by omega) (by omega) (by omega)) ?_
                  refine WP.valG rfl rfl rfl rfl rfl rfl rfl (Val.fieldAddr (j := oi + (g.revs.length - 1) * 2) rfl Ty.fo32_0 rfl rfl) ?_
                  refine WP.valG rfl rfl rfl rfl rfl rfl rfl (Val.load (v := .int .i64 (y1.m)) rfl Ty.sc2 rfl (fun w h => hri w (h.at 1 rfl) _ y1 hy1 0 _ rfl)) ?_
                  refine WP.valG rfl rfl rfl rfl rfl rfl rfl (Val.move rfl rfl) ?_
                  refine WP.valG rfl rfl rfl rfl rfl rfl rfl (Val.gtr rfl rfl rfl) ?_
                  refine WP.valG rfl rfl rfl rfl rfl rfl rfl (Val.pickF rfl rfl rfl) ?_
                  refine WP.val rfl rfl rfl (Val.pickT rfl rfl rfl) ?_
                  refine WP.nil ?_
                  refine Out.drop ?_
                  refine Out.meet (decide (at_ < y1.m)) ?_ ?_ ?_
                  · exact (show (decide (at_ < y1.m)) = decide (0 < g.revs.length ∧ fstM g ≤ at_ ∧ (i + 1 = gl.length ∨ at_ < lstM g)) from decide_eq_decide.2 (by omega))
                  · exact (Sub.cons rfl (Sub.cons rfl (Sub.cons rfl (Sub.cons rfl (Sub.cons rfl (Sub.cons rfl (Sub.cons rfl (Sub.cons rfl Sub.nil))))))))
                  · exact (fun _ h => h)
              · skip
                have h6 : ¬ (y0.m ≤ at_) := h6
                refine WP.skip rfl rfl rfl rfl rfl rfl rfl ?_
                refine WP.skip rfl rfl rfl rfl rfl rfl rfl ?_
                refine WP.skip rfl rfl rfl rfl rfl rfl rfl ?_
                refine WP.skip rfl rfl rfl rfl rfl rfl rfl ?_
                refine WP.skip rfl rfl rfl rfl rfl rfl rfl ?_
                refine WP.skip rfl rfl rfl rfl rfl rfl rfl ?_
                refine WP.skip rfl rfl rfl rfl rfl rfl rfl ?_
                refine WP.skipU rfl rfl rfl rfl rfl rfl ?_
                refine WP.skipU rfl rfl rfl rfl rfl rfl ?_
                refine WP.skipU rfl rfl rfl rfl rfl rfl ?_
                refine WP.skipU rfl rfl rfl rfl rfl rfl ?_
                refine WP.skipU rfl rfl rfl rfl rfl rfl ?_
                refine WP.skipU rfl rfl rfl rfl rfl rfl ?_
                refine WP.skipU rfl rfl rfl rfl rfl rfl ?_
                refine WP.skipU rfl rfl rfl rfl rfl rfl ?_
                refine WP.skipU rfl rfl rfl rfl rfl rfl ?_
                refine WP.skip rfl rfl rfl rfl rfl rfl rfl ?_
                refine WP.val rfl rfl rfl (Val.pickF rfl rfl rfl) ?_
                refine WP.nil ?_
                refine Out.drop ?_
                refine Out.meet false ?_ ?_ ?_
                · exact (show false = decide (0 < g.revs.length ∧ fstM g ≤ at_ ∧ (i + 1 = gl.length ∨ at_ < lstM g)) from (decide_eq_false (by omega)).symm)
                · exact (Sub.cons rfl (Sub.cons rfl (Sub.cons rfl (Sub.cons rfl (Sub.cons rfl (Sub.cons rfl (Sub.cons rfl (Sub.cons rfl Sub.nil))))))))
                · exact (fun _ h => h)
            · skip
              have h5 : ¬ ((0 : Int) < ((g.revs.length : Nat) : Int)) := h5
              refine WP.skip rfl rfl rfl rfl rfl rfl rfl ?_
              refine WP.skip rfl rfl rfl rfl rfl rfl rfl ?_
              refine WP.skip rfl rfl rfl rfl rfl rfl rfl ?_
              refine WP.skip rfl rfl rfl rfl rfl rfl rfl ?_
              refine WP.skip rfl rfl rfl rfl rfl rfl rfl ?_
              refine WP.skip rfl rfl rfl rfl rfl rfl rfl ?_
              refine WP.skip rfl rfl rfl rfl rfl rfl rfl ?_
              refine WP.val rfl rfl rfl (Val.pickF rfl rfl rfl) ?_
              refine WP.val rfl rfl rfl (Val.move rfl rfl) ?_
              refine WP.skip rfl rfl rfl rfl rfl rfl rfl ?_
              refine WP.skip rfl rfl rfl rfl rfl rfl rfl ?_
              refine WP.skip rfl rfl rfl rfl rfl rfl rfl ?_
              refine WP.skip rfl rfl rfl rfl rfl rfl rfl ?_
              refine WP.skip rfl rfl rfl rfl rfl rfl rfl ?_
              refine WP.skip rfl rfl rfl rfl rfl rfl rfl ?_
              refine WP.skip rfl rfl rfl rfl rfl rfl rfl ?_
              refine WP.skipU rfl rfl rfl rfl rfl rfl ?_
              refine WP.skipU rfl rfl rfl rfl rfl rfl ?_
              refine WP.skipU rfl rfl rfl rfl rfl rfl ?_
              refine WP.skipU rfl rfl rfl rfl rfl rfl ?_
              refine WP.skipU rfl rfl rfl rfl rfl rfl ?_
              refine WP.skipU rfl rfl rfl rfl rfl rfl ?_
              refine WP.skipU rfl rfl rfl rfl rfl rfl ?_
              refine WP.skipU rfl rfl rfl rfl rfl rfl ?_
              refine WP.skipU rfl rfl rfl rfl rfl rfl ?_
              refine WP.skip rfl rfl rfl rfl rfl rfl rfl ?_
              refine WP.val rfl rfl rfl (Val.pickF rfl rfl rfl) ?_
              refine WP.nil ?_
              refine Out.drop ?_
              refine Out.meet false ?_ ?_ ?_
              · exact (show false = decide (0 < g.revs.length ∧ fstM g ≤ at_ ∧ (i + 1 = gl.length ∨ at_ < lstM g)) from (decide_eq_false (by omega)).symm)
              · exact (Sub.cons rfl (Sub.cons rfl (Sub.cons rfl (Sub.cons rfl (Sub.cons rfl (Sub.cons rfl (Sub.cons rfl (Sub.cons rfl Sub.nil))))))))
              · exact (fun _ h => h)
          · skip
            rintro q hq
            show WPc _ _ _ _ _ [(1, .int .i64 (at_)), (8, .pointer (some ⟨b1, 0, none⟩)), (9, .int .i64 (wv)), (10, .int .i64 (((i : Nat) : Int))), (33, .slice (some ⟨b0, o0, none⟩) gl.length c0), (34, .int .i64 (((gl.length : Nat) : Int))), (35, .int .i64 (((i : Nat) : Int))), (72, .bool (q))] (EG :: Blk b1 [.int .i64 ((modi vs).m), .int .i64 ((modi vs).s), .slice (some ⟨b0, o0, none⟩) gl.length c0] 35 :: Old W0 :: F)
            refine WPc.cond rfl (fun h8 => ?_) (fun h8 => ?_)
            · skip
              have h8 : (q) = true := h8
              refine WPc.region ?_
              refine WP.val rfl rfl rfl (Val.move rfl rfl) ?_
              refine WP.val rfl rfl rfl (Val.assign rfl rfl) ?_
              refine WP.nil ?_
              refine Out.block ?_
              refine Out.next ?_
              refine WPc.region ?_
              refine WP.val rfl rfl rfl (Val.add (z := ((i + 1 : Nat) : Int)) rfl rfl rfl ((w64 (by omega) (by omega)).trans (by omega))) ?_
              refine WP.val rfl rfl rfl (Val.move rfl rfl) ?_
              refine WP.nil ?_
              refine Out.again (i + 1, ((i : Nat) : Int)) ?_ ?_ ?_ ?_
              · exact ⟨by show i + 1 ≤ gl.length; omega, show _ = wl (gl.map (·.1)) at_ (i + 1) from by rw [hst, if_pos (of_decide_eq_true (by rw [← hq]; assumption))]⟩
              · (dsimp only; omega)
              · exact (Sub.cons rfl (Sub.cons rfl (Sub.cons rfl (Sub.cons rfl (Sub.cons rfl (Sub.cons rfl Sub.nil))))))
              · exact (fun _ h => h)
            · skip
              have h8 : (q) = false := h8
              refine WPc.skip ?_
              refine Out.block ?_
              refine Out.next ?_
              refine WPc.region ?_
              refine WP.val rfl rfl rfl (Val.add (z := ((i + 1 : Nat) : Int)) rfl rfl rfl ((w64 (by omega) (by omega)).trans (by omega))) ?_
              refine WP.val rfl rfl rfl (Val.move rfl rfl) ?_
              refine WP.nil ?_
              refine Out.again (i + 1, wv) ?_ ?_ ?_ ?_
              · exact ⟨by show i + 1 ≤ gl.length; omega, show _ = wl (gl.map (·.1)) at_ (i + 1) from by rw [hst, if_neg (of_decide_eq_false (by rw [← hq]; assumption))]; exact hwv⟩
              · (dsimp only; omega)
              · exact (Sub.cons rfl (Sub.cons rfl (Sub.cons rfl (Sub.cons rfl (Sub.cons rfl (Sub.cons rfl Sub.nil))))))
              · exact (fun _ h => h)
        · skip
          have h4 : ¬ (((i : Nat) : Int) < ((gl.length : Nat) : Int)) := h4
          refine WPc.exit ?_
          refine Out.then_exit ?_
          refine Out.then_exit ?_
          refine Out.block_exit ?_
          refine Out.next ?_
          refine WPc.seq ?_
          refine WPc.region ?_
          refine WP.val rfl rfl rfl (Val.loadAgg (cs := [.int .i64 ((modi vs).m), .int .i64 ((modi vs).s), .slice (some ⟨b0, o0, none⟩) gl.length c0]) rfl Ty.ag35 rfl rfl (fun w h => h.range 1 rfl rfl)) ?_
          refine WP.val rfl rfl rfl (Val.move rfl rfl) ?_
          refine WP.eff rfl rfl rfl (Eff.call rfl rfl Try.call18 (findg_spec EG (modi vs) at_ gl hsg _ rEG)) ?_
          rintro _ _ ⟨_, ⟨rfl, rfl⟩, rfl⟩
          show WP _ _ _ _ _ _ _ (EG :: Blk b1 [.int .i64 ((modi vs).m), .int .i64 ((modi vs).s), .slice (some ⟨b0, o0, none⟩) gl.length c0] 35 :: Old W0 :: F)
          refine WP.val rfl rfl rfl (Val.move rfl rfl) ?_
          refine WP.val rfl rfl rfl (Val.eql rfl rfl rfl) ?_
          refine WP.val rfl rfl rfl (Val.move rfl rfl) ?_
          refine WP.split 80 rfl (fun h9 => ?_) (fun h9 => ?_)
          · skip
            have h9 : ((fg (gl.map (·.1)) at_ gl.length) = wv) := h9
            refine WP.effG rfl rfl rfl rfl rfl rfl rfl (Eff.call rfl rfl Try.call9 (live_spec 0)) ?_
            rintro _ _ ⟨_, ⟨rfl, rfl⟩, rfl⟩
            show WP _ _ _ _ _ _ _ (EG :: Blk b1 [.int .i64 ((modi vs).m), .int .i64 ((modi vs).s), .slice (some ⟨b0, o0, none⟩) gl.length c0] 35 :: Old W0 :: F)
            refine WP.val rfl rfl rfl (Val.pickT rfl rfl rfl) ?_
            refine WP.val rfl rfl rfl (Val.assign rfl rfl) ?_
            refine WP.nil ?_
            refine Out.next ?_
            refine WPc.ret ?_
            refine Out.drop ?_
            refine Out.drop ?_
            exact Out.ret1 (L' := _) Try.results5 rfl ⟨rfl, rfl⟩ (fun _ h => h)
          · skip
            have h9 : ¬ ((fg (gl.map (·.1)) at_ gl.length) = wv) := h9
            exfalso; refine h9 ?_; have h9 := find_law (lifeR_rise (ops := l) (aa := was.map WA.pr) (by rw [hlife, if_pos (by simp_all)])) at_; rw [← hgl, List.length_map] at h9; rw [h9, hwv, show i = gl.length from by omega]

end Go.Proofs.Ythicijpjpijdjaa.Lc

