import Derived.Test.YthicijpjpijdjaaLa
namespace Go.Proofs.Ythicijpjpijdjaa.Lb
open Go.RowKit Go.Proofs.Ythicijpjpijdjaa Go.Proofs.Ythicijpjpijdjaa.Sl Go.Proofs.Ythicijpjpijdjaa.KyP Go.Proofs.Ythicijpjpijdjaa.Ka Go.Proofs.Ythicijpjpijdjaa.Kb Go.Proofs.Ythicijpjpijdjaa.Kc Go.Proofs.Ythicijpjpijdjaa.Kd Go.Proofs.Ythicijpjpijdjaa.Ke Go.Proofs.Ythicijpjpijdjaa.Kf Go.Proofs.Ythicijpjpijdjaa.Kg Go.Proofs.Ythicijpjpijdjaa.Kh Go.Proofs.Ythicijpjpijdjaa.Ki Go.Proofs.Ythicijpjpijdjaa.Kj Go.Proofs.Ythicijpjpijdjaa.Kk Go.Proofs.Ythicijpjpijdjaa.Kl Go.Proofs.Ythicijpjpijdjaa.Km Go.Proofs.Ythicijpjpijdjaa.Kn Go.Proofs.Ythicijpjpijdjaa.Ko Go.Proofs.Ythicijpjpijdjaa.Kp Go.Proofs.Ythicijpjpijdjaa.Kq Go.Proofs.Ythicijpjpijdjaa.Kr Go.Proofs.Ythicijpjpijdjaa.Ks Go.Proofs.Ythicijpjpijdjaa.Kt Go.Proofs.Ythicijpjpijdjaa.Ku Go.Proofs.Ythicijpjpijdjaa.Kv Go.Proofs.Ythicijpjpijdjaa.Kw Go.Proofs.Ythicijpjpijdjaa.Kx Go.Proofs.Ythicijpjpijdjaa.Ky Go.Proofs.Ythicijpjpijdjaa.Kz Go.Proofs.Ythicijpjpijdjaa.La
set_option linter.unusedVariables false
set_option linter.unusedSimpArgs false
set_option linter.unusedSectionVars false


theorem equal_rv (d : Nat) (a b p q : Int) (w : World) : (Op.equalIn (d + 2) 32 (.agg #[.int .i64 a, .int .i64 b]) (.agg #[.int .i64 p, .int .i64 q])).run Try.prog w = .ok (a == p && b == q) w := by
  have hi : ∀ (a b : Int) (w : World), (Op.equalIn (d + 1) 2 (.int .i64 a) (.int .i64 b)).run Try.prog w = .ok (a == b) w := fun a b w => by
    unfold Op.equalIn
    simp
  unfold Op.equalIn
  simp [Try.stoodInHeld32, part, forIn, hi]
  by_cases h1 : a = p <;> by_cases h2 : b = q <;> simp [h1, h2, hi]
def rveq (a b : Rv) : Bool := a.m == b.m && a.s == b.s
theorem rveq_self (a : Rv) : rveq a a = true := by simp [rveq]
theorem rveq_of {a b : Rv} (h : a = b) : rveq a b = true := by rw [h, rveq_self]
theorem Val.eqRv {n : Nat} {l : List (Nat × Value)} {G : World → Prop} {o : Oper} {u : TypeId} {x y : Operand} (a b : Rv) (ho : o.op = .binOp .eql 32 x y u) (hx : ev l x = some (.agg #[.int .i64 a.m, .int .i64 a.s])) (hy : ev l y = some (.agg #[.int .i64 b.m, .int .i64 b.s])) : Val Try.prog n l G o (.bool (rveq a b)) := fun z w hf hs => by
  have h2 : (Op.equal 32 (.agg #[.int .i64 a.m, .int .i64 a.s]) (.agg #[.int .i64 b.m, .int .i64 b.s])).run Try.prog w = .ok (a.m == b.m && a.s == b.s) w := equal_rv 9998 a.m a.s b.m b.s w
  have he : (eqGuard .eql 32 x y (.agg #[.int .i64 a.m, .int .i64 a.s]) (.agg #[.int .i64 b.m, .int .i64 b.s])).run Try.prog w = .ok () w := by simp [eqGuard, Try.eqGuardType32]
  simp only [execOp, ho, hf.ev hx, hf.ev hy, Sem.run_bind, he, Result.andThen_ok, binOp, h2, Sem.run_pure]
  rfl
theorem Val.neqRv {n : Nat} {l : List (Nat × Value)} {G : World → Prop} {o : Oper} {u : TypeId} {x y : Operand} (a b : Rv) (ho : o.op = .binOp .neq 32 x y u) (hx : ev l x = some (.agg #[.int .i64 a.m, .int .i64 a.s])) (hy : ev l y = some (.agg #[.int .i64 b.m, .int .i64 b.s])) : Val Try.prog n l G o (.bool (!(rveq a b))) := fun z w hf hs => by
  have h2 : (Op.equal 32 (.agg #[.int .i64 a.m, .int .i64 a.s]) (.agg #[.int .i64 b.m, .int .i64 b.s])).run Try.prog w = .ok (a.m == b.m && a.s == b.s) w := equal_rv 9998 a.m a.s b.m b.s w
  have he : (eqGuard .neq 32 x y (.agg #[.int .i64 a.m, .int .i64 a.s]) (.agg #[.int .i64 b.m, .int .i64 b.s])).run Try.prog w = .ok () w := by simp [eqGuard, Try.eqGuardType32]
  simp only [execOp, ho, hf.ev hx, hf.ev hy, Sem.run_bind, he, Result.andThen_ok, binOp, h2, Sem.run_pure]
  rfl
/-! the smallest life -/
def StBase (s : KI) (o : KOp) (s' : KI) (a : KA) : Prop := (o.k = 1 ∧ less s.md o.r ∧ Small s.gs ∧ Small (kput s o.r).gs ∧ s' = kput s o.r ∧ a = { KA0 with ok := true }) ∨ (o.k = 5 ∧ emp s.gs = false ∧ Small s.gs ∧ s' = s ∧ a = kgetA s.gs o.at_)
theorem stBase_ok : StOk StBase := by
  intro b ka kn kc s o s' a h
  rcases h with ⟨h1, h2, h3, h4, rfl, rfl⟩ | ⟨h1, h2, h3, rfl, rfl⟩
  · exact keyed_put b ka kn kc s h3 o h1 h2 h4
  · exact keyed_get b ka kn kc s' h3 o h1 h2 h3
def lv1 : KOp := ⟨1, ⟨2, 0⟩, ⟨0, 0⟩, 0, 0⟩
def lv2 : KOp := ⟨5, ⟨0, 0⟩, ⟨0, 0⟩, 0, 2⟩
def ls1 : KI := ⟨⟨2, 0⟩, [⟨1, ⟨2, 0⟩, [⟨2, 0⟩]⟩]⟩
def lans : List (KA × KI) := [({ KA0 with ok := true }, ls1), (⟨true, ⟨2, 0⟩, ⟨2, 0⟩, 1, []⟩, ls1)]
theorem ls1_put : kput ⟨⟨0, 0⟩, []⟩ ⟨2, 0⟩ = ls1 := rfl
theorem ls1_get : kgetA ls1.gs 2 = ⟨true, ⟨2, 0⟩, ⟨2, 0⟩, 1, []⟩ := rfl
theorem ls1_small : Small ls1.gs := ⟨by decide, fun g hg => by rw [List.mem_singleton.1 hg]; decide⟩
theorem live_runs : Runs StBase ⟨⟨0, 0⟩, []⟩ [lv1, lv2] lans := by
  refine ⟨rfl, fun i o x ho hx => ?_⟩
  match i, ho, hx with
  | 0, ho, hx =>
    obtain rfl : lv1 = o := by simpa using ho
    obtain rfl : ({ KA0 with ok := true }, ls1) = x := by simpa [lans] using hx
    exact .inl ⟨rfl, by decide, ⟨by decide, fun g hg => by cases hg⟩, ls1_small, rfl, rfl⟩
  | 1, ho, hx =>
    obtain rfl : lv2 = o := by simpa using ho
    obtain rfl : ((⟨true, ⟨2, 0⟩, ⟨2, 0⟩, 1, []⟩ : KA), ls1) = x := by simpa [lans] using hx
    exact .inr ⟨rfl, rfl, ls1_small, rfl, rfl⟩
  | i + 2, ho, hx => simp at ho
theorem two_was {was : List WK} (h : was.map WK.pr = lans) : ∃ u v u' v' g g', was = [⟨{ KA0 with ok := true }, ls1, u, v, g⟩, ⟨⟨true, ⟨2, 0⟩, ⟨2, 0⟩, 1, []⟩, ls1, u', v', g'⟩] := by
  match was, h with
  | [⟨a, s, u, v, g⟩, ⟨a', s', u', v', g'⟩], h =>
    simp only [List.map_cons, List.map_nil, lans, WK.pr, List.cons.injEq, Prod.mk.injEq, and_true] at h
    obtain ⟨⟨rfl, rfl⟩, rfl, rfl⟩ := h
    exact ⟨u, v, u', v', g, g', rfl⟩
set_option maxRecDepth 100000 in
set_option maxHeartbeats 2000000 in
theorem live_spec (z : Nat) : Does Try.prog 9 [] [] (fun v L => v = .bool true ∧ L = []) := by
  refine Does.enter 39 Try.func9 rfl rfl rfl fun W F => ?_
  show WPc _ _ _ _ _ [] (F)
  refine WPc.seq ?_
  refine WPc.region ?_
  refine WP.val rfl rfl rfl (Val.assign rfl rfl) ?_
  refine WP.nil ?_
  refine Out.next ?_
  refine WPc.seq ?_
  refine WPc.region ?_
  refine WP.val rfl rfl rfl (Val.mk (cs := [.int .i64 0, .int .i64 0, .slice none 0 0]) rfl rfl (fun _ => by kernel_rfl)) ?_
  refine WP.val rfl rfl rfl (Val.mk (cs := [.int .i64 2, .int .i64 0]) rfl rfl (fun _ => by kernel_rfl)) ?_
  refine WP.val rfl rfl rfl (Val.mk (cs := [.int .i64 1, .int .i64 2, .int .i64 0, .int .i64 0, .int .i64 0, .int .i64 0, .int .i64 0]) rfl rfl (fun _ => by kernel_rfl)) ?_
  refine WP.val rfl rfl rfl (Val.mk (cs := [.int .i64 5, .int .i64 0, .int .i64 0, .int .i64 0, .int .i64 0, .int .i64 0, .int .i64 2]) rfl rfl (fun _ => by kernel_rfl)) ?_
  refine WP.eff rfl rfl rfl (Eff.mkSlice (C := [.int .i64 1, .int .i64 2, .int .i64 0, .int .i64 0, .int .i64 0, .int .i64 0, .int .i64 0, .int .i64 5, .int .i64 0, .int .i64 0, .int .i64 0, .int .i64 0, .int .i64 0, .int .i64 2]) rfl Ty.sl22 rfl (fun _ => by kernel_rfl)) ?_
  rintro _ _ ⟨b1, rfl, rfl⟩
  refine WP.conv (fun w h => Sat.pure_mk (φ := True) trivial h) ?_
  show WP _ _ _ _ _ _ _ (Pure True :: Blk b1 [.int .i64 1, .int .i64 2, .int .i64 0, .int .i64 0, .int .i64 0, .int .i64 0, .int .i64 0, .int .i64 5, .int .i64 0, .int .i64 0, .int .i64 0, .int .i64 0, .int .i64 0, .int .i64 2] 38 :: F)
  refine WP.eff rfl rfl rfl (Eff.call rfl rfl Try.call10 (key_spec (Pure True) (Blk b1 (flatOf KOp.cells [lv1, lv2]) 38) ⟨#[107]⟩ ⟨0, 0⟩ StBase stBase_ok lans [] ⟨Nat.zero_le _, fun g hg => by cases hg⟩ [lv1, lv2] (by decide) live_runs (.slice none 0 0) (.slice (some ⟨b1, 0, none⟩) 2 2) ⟨.inr ⟨rfl, none, 0, rfl⟩, fun p hp => by cases hp⟩ (rd_blk (cf := KOp.cells) (k := 7) KOp.len b1 2 38 [lv1, lv2]))) ?_
  rintro _ _ ⟨_, ⟨v5, was, hwas, hgs, rfl, rfl⟩, rfl⟩
  show WP _ _ _ _ _ _ _ (Own 42 10 v5 was.length (flatOf WK.cells was) :: Kds WKP was :: Pure True :: Blk b1 (flatOf KOp.cells [lv1, lv2]) 38 :: F)
  refine WP.val rfl rfl rfl (Val.move rfl rfl) ?_
  refine WP.val rfl rfl rfl (Val.extract rfl rfl rfl) ?_
  refine WP.val rfl rfl rfl (Val.extract rfl rfl rfl) ?_
  refine WP.val rfl rfl rfl (Val.assign rfl rfl) ?_
  refine WP.val rfl rfl rfl (Val.assign rfl rfl) ?_
  refine WP.nil ?_
  refine Out.next ?_
  refine WPc.seq ?_
  obtain ⟨u1, u2, u3, u4, u5, u6, rfl⟩ := two_was hwas
  show WPc _ _ _ _ _ _ (Own 42 10 v5 2 (flatOf WK.cells [(⟨{ KA0 with ok := true }, ls1, u1, u2, u5⟩ : WK), ⟨⟨true, ⟨2, 0⟩, ⟨2, 0⟩, 1, []⟩, ls1, u3, u4, u6⟩]) :: Kds WKP [(⟨{ KA0 with ok := true }, ls1, u1, u2, u5⟩ : WK), ⟨⟨true, ⟨2, 0⟩, ⟨2, 0⟩, 1, []⟩, ls1, u3, u4, u6⟩] :: Pure True :: Blk b1 (flatOf KOp.cells [lv1, lv2]) 38 :: F)
  refine WPc.open (fun w h => h.ownPos (by decide)) ?_
  rintro ⟨g2, cg2, spg2⟩
  refine WPc.pure (fun hvg2 => ?_)
  obtain ⟨rfl, hng2, hlg2, hsg2, hcg2⟩ := hvg2
  dsimp only at hng2 hlg2 hsg2 hcg2
  show WPc _ _ _ _ _ _ (Blk g2 (flatOf WK.cells [(⟨{ KA0 with ok := true }, ls1, u1, u2, u5⟩ : WK), ⟨⟨true, ⟨2, 0⟩, ⟨2, 0⟩, 1, []⟩, ls1, u3, u4, u6⟩] ++ spg2) 42 :: Kds WKP [(⟨{ KA0 with ok := true }, ls1, u1, u2, u5⟩ : WK), ⟨⟨true, ⟨2, 0⟩, ⟨2, 0⟩, 1, []⟩, ls1, u3, u4, u6⟩] :: Pure True :: Blk b1 (flatOf KOp.cells [lv1, lv2]) 38 :: F)
  refine WPc.region ?_
  refine WP.val rfl rfl rfl (Val.move rfl rfl) ?_
  refine WP.val rfl rfl rfl (Val.move rfl rfl) ?_
  refine WP.valG rfl rfl rfl rfl rfl rfl rfl (Val.move rfl rfl) ?_
  refine WP.valG rfl rfl rfl rfl rfl rfl rfl (Val.len rfl Ty.sl24 rfl) ?_
  refine WP.valG rfl rfl rfl rfl rfl rfl rfl (Val.eqlK rfl rfl rfl rfl) ?_
  refine WP.val rfl rfl rfl (Val.pickT rfl rfl rfl) ?_
  refine WP.val rfl rfl rfl (Val.move rfl rfl) ?_
  refine WP.valG rfl rfl rfl rfl rfl rfl rfl (Val.move rfl rfl) ?_
  refine WP.valG rfl rfl rfl rfl rfl rfl rfl (Val.indexAddr (j := 1) (q := 10) rfl Ty.sl24 rfl rfl (by omega) (by omega) (by omega)) ?_
  refine WP.valG rfl rfl rfl rfl rfl rfl rfl (Val.fieldAddr (j := 10) rfl Ty.fo42_0 rfl rfl) ?_
  refine WP.valG rfl rfl rfl rfl rfl rfl rfl (Val.load (v := .bool true) rfl Ty.sc4 rfl (fun w h => ((h.at 0 rfl).cell 10).trans rfl)) ?_
  refine WP.val rfl rfl rfl (Val.pickT rfl rfl rfl) ?_
  refine WP.val rfl rfl rfl (Val.move rfl rfl) ?_
  refine WP.valG rfl rfl rfl rfl rfl rfl rfl (Val.move rfl rfl) ?_
  refine WP.valG rfl rfl rfl rfl rfl rfl rfl (Val.indexAddr (j := 1) (q := 10) rfl Ty.sl24 rfl rfl (by omega) (by omega) (by omega)) ?_
  refine WP.valG rfl rfl rfl rfl rfl rfl rfl (Val.fieldAddr (j := 15) rfl Ty.fo42_3 rfl rfl) ?_
  refine WP.valG rfl rfl rfl rfl rfl rfl rfl (Val.load (v := .int .i64 1) rfl Ty.sc2 rfl (fun w h => ((h.at 0 rfl).cell 15).trans rfl)) ?_
  refine WP.valG rfl rfl rfl rfl rfl rfl rfl (Val.eqlK rfl rfl rfl rfl) ?_
  refine WP.val rfl rfl rfl (Val.pickT rfl rfl rfl) ?_
  refine WP.val rfl rfl rfl (Val.move rfl rfl) ?_
  refine WP.valG rfl rfl rfl rfl rfl rfl rfl (Val.move rfl rfl) ?_
  refine WP.valG rfl rfl rfl rfl rfl rfl rfl (Val.indexAddr (j := 1) (q := 10) rfl Ty.sl24 rfl rfl (by omega) (by omega) (by omega)) ?_
  refine WP.valG rfl rfl rfl rfl rfl rfl rfl (Val.fieldAddr (j := 11) rfl Ty.fo42_1 rfl rfl) ?_
  refine WP.valG rfl rfl rfl rfl rfl rfl rfl (Val.loadAgg (cs := [.int .i64 2, .int .i64 0]) rfl Ty.ag32 rfl (by rfl) (fun w h => (h.at 0 rfl).cell_range rfl)) ?_
  refine WP.valG rfl rfl rfl rfl rfl rfl rfl (Val.mk (cs := [.int .i64 2, .int .i64 0]) rfl rfl (fun _ => by kernel_rfl)) ?_
  refine WP.valG rfl rfl rfl rfl rfl rfl rfl (Val.eqRv ⟨2, 0⟩ ⟨2, 0⟩ rfl rfl rfl) ?_
  refine WP.val rfl rfl rfl (Val.pickT rfl rfl rfl) ?_
  refine WP.val rfl rfl rfl (Val.assign rfl rfl) ?_
  refine WP.nil ?_
  refine Out.next ?_
  refine WPc.ret ?_
  refine Out.drop ?_
  refine Out.drop ?_
  refine Out.drop ?_
  refine Out.drop ?_
  exact Out.ret1 (L' := []) Try.results9 rfl ⟨rfl, rfl⟩ (fun _ h => h)

end Go.Proofs.Ythicijpjpijdjaa.Lb
