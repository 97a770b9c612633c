import Derived.Test.YthicijpjpijdjaaNc
namespace Go.Proofs.Ythicijpjpijdjaa.Ki
open Go.RowKit Go.Proofs.Ythicijpjpijdjaa Go.Proofs.Ythicijpjpijdjaa.Sl Go.Proofs.Ythicijpjpijdjaa.KyP Go.Proofs.Ythicijpjpijdjaa.Ka Go.Proofs.Ythicijpjpijdjaa.Kb Go.Proofs.Ythicijpjpijdjaa.Kc Go.Proofs.Ythicijpjpijdjaa.Kd Go.Proofs.Ythicijpjpijdjaa.Ke Go.Proofs.Ythicijpjpijdjaa.Kf Go.Proofs.Ythicijpjpijdjaa.Kg Go.Proofs.Ythicijpjpijdjaa.Kh
set_option linter.unusedVariables false
set_option linter.unusedSimpArgs false
set_option linter.unusedSectionVars false


structure KOp where
 k : Int
 r : Rv
 c : Rv
 v : Int
 at_ : Int
def KOp.cells (o : KOp) : List Value := [.int .i64 o.k, .int .i64 o.r.m, .int .i64 o.r.s, .int .i64 o.c.m, .int .i64 o.c.s, .int .i64 o.v, .int .i64 o.at_]
theorem KOp.len (o : KOp) : o.cells.length = 7 := rfl
/-- an answer, but for the index behind it -/
structure KA where
 ok : Bool
 mod : Rv
 cre : Rv
 ver : Int
 revs : List Rv
def KA0 : KA := ⟨false, Rv0, Rv0, 0, []⟩
def KA.val (a : KA) (vr : Value) : Value := .agg #[.bool a.ok, .int .i64 a.mod.m, .int .i64 a.mod.s, .int .i64 a.cre.m, .int .i64 a.cre.s, .int .i64 a.ver, vr, .int .i64 0, .int .i64 0, .slice none 0 0]
/-- what an operation does to the changes, its answer, and whether it is let in -/
def kdo (l : List Vn) (o : KOp) : List Vn × KA × Bool :=
 if o.k = 1 then (if less (modi l) o.r then (l ++ [putV l o.r], { KA0 with ok := true }, true) else (l, KA0, false))
 else if o.k = 2 then (match lives l, l[l.length - 1]? with
  | true, some x => if less (modi l) o.r then (l ++ [endV x o.r], { KA0 with ok := true }, true) else (l, KA0, false)
  | _, _ => (l, KA0, true))
 else if o.k = 5 then (l, ⟨(holdsV l o.at_).isSome, ((holdsV l o.at_).getD Vn0).r, ((holdsV l o.at_).getD Vn0).c, ((holdsV l o.at_).getD Vn0).v, []⟩, true)
 else if o.k = 6 then (l, { KA0 with revs := sinceV l o.at_ l.length }, true)
 else if o.k = 7 then (comp l o.at_ l.length, { KA0 with revs := keptV l o.at_ true l.length }, true)
 else if o.k = 8 then (l, { KA0 with revs := keptV l o.at_ false l.length }, true)
 else (l, KA0, true)
/-- the changes behind an operation: as they were, or new ones -/
def KeyL (va : Value) (l : List Vn) (va2 : Value) (l2 : List Vn) (E : HProp) : Prop := E = Own 47 6 va2 l2.length (flatOf Vn.cells l2) ∨ (E = Pure True ∧ va2 = va ∧ l2 = l)
theorem kdo_rise {l : List Vn} {o : KOp} (h : Rise l) : Rise (kdo l o).1 := by
 unfold kdo
 split
 ·
  split
  ·
   refine rise_snoc h (.inr ?_)
   rename_i h2
   unfold putV; split
   ·
    split <;> exact h2
   ·
    exact h2
  ·
   exact h
 split
 ·
  split
  ·
   split
   ·
    rename_i h2
    exact rise_snoc h (.inr h2)
   ·
    exact h
  ·
   exact h
 split
 ·
  exact h
 split
 ·
  exact h
 split
 ·
  exact rise_comp h _
 split <;> exact h
theorem rise_nil : Rise [] := List.Pairwise.nil

end Go.Proofs.Ythicijpjpijdjaa.Ki

namespace Go.Proofs.Ythicijpjpijdjaa.Kj
open Go.RowKit Go.Proofs.Ythicijpjpijdjaa Go.Proofs.Ythicijpjpijdjaa.Sl Go.Proofs.Ythicijpjpijdjaa.KyP Go.Proofs.Ythicijpjpijdjaa.Ka Go.Proofs.Ythicijpjpijdjaa.Kb Go.Proofs.Ythicijpjpijdjaa.Kc Go.Proofs.Ythicijpjpijdjaa.Kd Go.Proofs.Ythicijpjpijdjaa.Ke Go.Proofs.Ythicijpjpijdjaa.Kf Go.Proofs.Ythicijpjpijdjaa.Kg Go.Proofs.Ythicijpjpijdjaa.Kh Go.Proofs.Ythicijpjpijdjaa.Ki
set_option linter.unusedVariables false
set_option linter.unusedSimpArgs false
set_option linter.unusedSectionVars false


theorem results_tct {P : Program} {W : World} {fn : Func} {n : Nat} {l : List (Nat × Value)} {L : List HProp} {s t u : Tmp} {ty : TypeId} {v0 v : Value} {b k : Nat} {cs : List Value} (hr : fn.results = #[.tmp s, .cell u ty, .tmp t]) (h0 : Sl.look l s = some v0) (hv : Sl.look l t = some v) (ht : aggS P ty = some k) (hu : Sl.look l u = some (.pointer (some ⟨b, 0, none⟩))) (hk : cs.length = k)
  (hc : ∀ w, Sat W L w → w.rangeAt b 0 cs) : ∀ a w, Fr n a l → Sat W L w → (results fn a.tmps).run P w = .ok (.tuple #[v0, .agg cs.toArray, v]) w := fun a w hf hs => by
 obtain ⟨d, h1, h2, h3⟩ := aggS_row ht
 have := run_loadVar_mid (P := P) w b 0 ty cs d (hc w hs) h1 h2 (by rw [h3, hk])
 have e := hf.at_ u _ hu
 have e2 := hf.at_ t _ hv
 have e3 := hf.at_ s _ h0
 rw [Array.getD_eq_getD_getElem?] at e e2 e3
 simp [results, hr, e, e2, e3, asAddr, this]

end Go.Proofs.Ythicijpjpijdjaa.Kj

namespace Go.Proofs.Ythicijpjpijdjaa.Kk
open Go.RowKit Go.Proofs.Ythicijpjpijdjaa Go.Proofs.Ythicijpjpijdjaa.Sl Go.Proofs.Ythicijpjpijdjaa.KyP Go.Proofs.Ythicijpjpijdjaa.Ka Go.Proofs.Ythicijpjpijdjaa.Kb Go.Proofs.Ythicijpjpijdjaa.Kc Go.Proofs.Ythicijpjpijdjaa.Kd Go.Proofs.Ythicijpjpijdjaa.Ke Go.Proofs.Ythicijpjpijdjaa.Kf Go.Proofs.Ythicijpjpijdjaa.Kg Go.Proofs.Ythicijpjpijdjaa.Kh Go.Proofs.Ythicijpjpijdjaa.Ki Go.Proofs.Ythicijpjpijdjaa.Kj
set_option linter.unusedVariables false
set_option linter.unusedSimpArgs false
set_option linter.unusedSectionVars false

set_option maxRecDepth 100000 in
set_option maxHeartbeats 2000000 in
theorem kdo_spec (A : HProp) (o : KOp) (l : List Vn) (hl : l.length ≤ 100000) (va : Value) (hva : Rd A 6 Vn.cells va l) : Does Try.prog 29 [va, .agg #[.int .i64 (o.k), .int .i64 (o.r.m), .int .i64 (o.r.s), .int .i64 (o.c.m), .int .i64 (o.c.s), .int .i64 (o.v), .int .i64 (o.at_)]] [A] (fun v L => ∃ (va2 vr : Value) (E : HProp), v = .tuple #[va2, (kdo l o).2.1.val vr, .bool (kdo l o).2.2] ∧ KeyL va l va2 (kdo l o).1 E ∧ L = [E, Own 32 2 vr (kdo l o).2.1.revs.length (flatOf Rv.cells (kdo l o).2.1.revs), A]) := by
  refine Does.enter 90 Try.func29 rfl rfl rfl fun W F => ?_
  show WPc _ _ _ _ _ [(0, va), (1, .agg #[.int .i64 (o.k), .int .i64 (o.r.m), .int .i64 (o.r.s), .int .i64 (o.c.m), .int .i64 (o.c.s), .int .i64 (o.v), .int .i64 (o.at_)])] (A :: F)
  refine WPc.seq ?_
  refine WPc.region ?_
  refine WP.eff rfl rfl rfl (Eff.box (C := [.int .i64 (o.k), .int .i64 (o.r.m), .int .i64 (o.r.s), .int .i64 (o.c.m), .int .i64 (o.c.s), .int .i64 (o.v), .int .i64 (o.at_)]) rfl rfl rfl) ?_
  rintro _ _ ⟨b1, rfl, rfl⟩
  refine WP.val rfl rfl rfl (Val.assign rfl rfl) ?_
  refine WP.eff rfl rfl rfl (Eff.alloc rfl Ty.z42) ?_
  rintro _ _ ⟨b2, rfl, rfl⟩
  refine WP.val rfl rfl rfl (Val.assign rfl rfl) ?_
  refine WP.nil ?_
  refine Out.next ?_
  refine WPc.seq ?_
  refine WPc.region ?_
  refine WP.eff rfl rfl rfl (Eff.alloc rfl Ty.z42) ?_
  rintro _ _ ⟨b3, rfl, rfl⟩
  refine WP.nil ?_
  refine Out.next ?_
  refine WPc.seq ?_
  refine WPc.seq ?_
  refine WPc.region ?_
  refine WP.val rfl rfl rfl (Val.fieldAddr (j := 0) rfl Ty.fo38_0 rfl rfl) ?_
  refine WP.val rfl rfl rfl (Val.load rfl Ty.sc3 rfl (fun w h => h.cell 2 rfl rfl)) ?_
  refine WP.nil ?_
  refine Out.next ?_
  refine WPc.block ?_
  refine WPc.seq ?_
  refine WPc.region ?_
  refine WP.val rfl rfl rfl (Val.eql rfl rfl rfl) ?_
  refine WP.val rfl rfl rfl (Val.assign rfl rfl) ?_
  refine WP.nil ?_
  refine Out.next ?_
  refine WPc.ifP rfl (fun h1 => ?_) (fun h1 => ?_)
  · skip
    have h1 : (o.k = (1 : Int)) := h1
    refine WPc.seq ?_
    refine WPc.seq ?_
    refine WPD.start (Sat W [Blk b1 [.int .i64 (o.k), .int .i64 (o.r.m), .int .i64 (o.r.s), .int .i64 (o.c.m), .int .i64 (o.c.s), .int .i64 (o.v), .int .i64 (o.at_)] 38]) Ty.mixed ?_
    refine WPD.takeM 0 rfl rfl rfl rfl (by kernel_rfl) (by kernel_rfl) (by kernel_rfl) (by kernel_rfl) (fun _ _ _ h => h) (fun w h => ((h.perm pl2)).dropEnd (L := [_])) (Val.move rfl rfl) ?_
    refine WPD.takeM 2 rfl rfl rfl rfl (by kernel_rfl) (by kernel_rfl) (by kernel_rfl) (by kernel_rfl) (fun _ _ _ h => h) (fun w h => ((h.perm pl2)).dropEnd (L := [_])) (Val.fieldAddr (j := 1) rfl Ty.fo38_1 rfl rfl) ?_
    refine WPD.take 3 rfl rfl rfl rfl (by kernel_rfl) (by kernel_rfl) (by kernel_rfl) (by kernel_rfl) (fun _ _ _ h => h) (by kernel_rfl) (fun w h => ((h.perm pl2)).dropEnd (L := [_])) (Val.loadAgg (cs := [.int .i64 (o.r.m), .int .i64 (o.r.s)]) rfl Ty.ag32 rfl rfl (fun w h => h.range 0 rfl rfl)) ?_
    refine WPD.perm pl3 ?_
    refine WPD.step 1 (by kernel_rfl) rfl rfl rfl rfl (Eff.call rfl rfl Try.call28 (mod_spec A l hl va hva)) ?_
    rintro _ _ ⟨_, ⟨rfl, rfl⟩, rfl⟩
    refine ⟨(fun w h => ((h.perm pl3)).dropEnd (L := [_])), ?_⟩
    show WPD _ _ _ _ _ _ _ _ _ (A :: Blk b3 [.bool false, .int .i64 0, .int .i64 0, .int .i64 0, .int .i64 0, .int .i64 0, .slice none 0 0, .int .i64 0, .int .i64 0, .slice none 0 0] 42 :: Blk b2 [.bool false, .int .i64 0, .int .i64 0, .int .i64 0, .int .i64 0, .int .i64 0, .slice none 0 0, .int .i64 0, .int .i64 0, .slice none 0 0] 42 :: Blk b1 [.int .i64 (o.k), .int .i64 (o.r.m), .int .i64 (o.r.s), .int .i64 (o.c.m), .int .i64 (o.c.s), .int .i64 (o.v), .int .i64 (o.at_)] 38 :: F)
    refine WPD.stepC 4 (by kernel_rfl) rfl rfl rfl rfl (by kernel_rfl) (Eff.call rfl rfl Try.call16 (less_spec (modi l) o.r)) ?_
    rintro _ _ ⟨_, ⟨rfl, rfl⟩, rfl⟩
    refine ⟨(Sat W (A :: Blk b3 [.bool false, .int .i64 0, .int .i64 0, .int .i64 0, .int .i64 0, .int .i64 0, .slice none 0 0, .int .i64 0, .int .i64 0, .slice none 0 0] 42 :: Blk b2 [.bool false, .int .i64 0, .int .i64 0, .int .i64 0, .int .i64 0, .int .i64 0, .slice none 0 0, .int .i64 0, .int .i64 0, .slice none 0 0] 42 :: Blk b1 [.int .i64 (o.k), .int .i64 (o.r.m), .int .i64 (o.r.s), .int .i64 (o.c.m), .int .i64 (o.c.s), .int .i64 (o.v), .int .i64 (o.at_)] 38 :: F)), (fun _ h => h), ?_⟩
    show WPD _ _ _ _ _ _ _ _ _ (A :: Blk b3 [.bool false, .int .i64 0, .int .i64 0, .int .i64 0, .int .i64 0, .int .i64 0, .slice none 0 0, .int .i64 0, .int .i64 0, .slice none 0 0] 42 :: Blk b2 [.bool false, .int .i64 0, .int .i64 0, .int .i64 0, .int .i64 0, .int .i64 0, .slice none 0 0, .int .i64 0, .int .i64 0, .slice none 0 0] 42 :: Blk b1 [.int .i64 (o.k), .int .i64 (o.r.m), .int .i64 (o.r.s), .int .i64 (o.c.m), .int .i64 (o.c.s), .int .i64 (o.v), .int .i64 (o.at_)] 38 :: F)
    refine WPD.takeM 5 rfl rfl rfl rfl (by kernel_rfl) (by kernel_rfl) (by kernel_rfl) (by kernel_rfl) (fun _ _ _ h => h) (fun _ h => h) (Val.notP rfl rfl) ?_
    refine WPD.done (by kernel_rfl) ?_
    refine Out.next ?_
    refine WPc.ifP rfl (fun h2 => ?_) (fun h2 => ?_)
    · skip
      have h2 : (¬ (less (modi l) o.r)) := h2
      refine WPc.seq ?_
      refine WPD.start (Sat W (A :: Blk b3 [.bool false, .int .i64 0, .int .i64 0, .int .i64 0, .int .i64 0, .int .i64 0, .slice none 0 0, .int .i64 0, .int .i64 0, .slice none 0 0] 42 :: Blk b2 [.bool false, .int .i64 0, .int .i64 0, .int .i64 0, .int .i64 0, .int .i64 0, .slice none 0 0, .int .i64 0, .int .i64 0, .slice none 0 0] 42 :: Blk b1 [.int .i64 (o.k), .int .i64 (o.r.m), .int .i64 (o.r.s), .int .i64 (o.c.m), .int .i64 (o.c.s), .int .i64 (o.v), .int .i64 (o.at_)] 38 :: F)) Ty.mixed ?_
      refine WPD.takeM 0 rfl rfl rfl rfl (by kernel_rfl) (by kernel_rfl) (by kernel_rfl) (by kernel_rfl) (fun _ _ _ h => h) (fun _ h => h) (Val.move rfl rfl) ?_
      refine WPD.take 1 rfl rfl rfl rfl (by kernel_rfl) (by kernel_rfl) (by kernel_rfl) (by kernel_rfl) (fun _ _ _ h => h) (by kernel_rfl) (fun _ h => h) (Val.loadAgg (cs := [.bool false, .int .i64 0, .int .i64 0, .int .i64 0, .int .i64 0, .int .i64 0, .slice none 0 0, .int .i64 0, .int .i64 0, .slice none 0 0]) rfl Ty.ag42 rfl rfl (fun w h => h.range 1 rfl rfl)) ?_
      refine WPD.takeM 2 rfl rfl rfl rfl (by kernel_rfl) (by kernel_rfl) (by kernel_rfl) (by kernel_rfl) (fun _ _ _ h => h) (fun _ h => h) (Val.assign rfl rfl) ?_
      refine WPD.perm pl2 ?_
      refine WPD.stepC0 3 (by kernel_rfl) rfl rfl rfl (by kernel_rfl) (Eff.storeAgg (cs := [.bool false, .int .i64 0, .int .i64 0, .int .i64 0, .int .i64 0, .int .i64 0, .slice none 0 0, .int .i64 0, .int .i64 0, .slice none 0 0]) (C' := [.bool false, .int .i64 0, .int .i64 0, .int .i64 0, .int .i64 0, .int .i64 0, .slice none 0 0, .int .i64 0, .int .i64 0, .slice none 0 0]) rfl Ty.ag42 rfl rfl rfl rfl (by simp) rfl) ?_
      rintro _ _ rfl
      refine ⟨(Sat W (Blk b2 [.bool false, .int .i64 0, .int .i64 0, .int .i64 0, .int .i64 0, .int .i64 0, .slice none 0 0, .int .i64 0, .int .i64 0, .slice none 0 0] 42 :: A :: Blk b3 [.bool false, .int .i64 0, .int .i64 0, .int .i64 0, .int .i64 0, .int .i64 0, .slice none 0 0, .int .i64 0, .int .i64 0, .slice none 0 0] 42 :: Blk b1 [.int .i64 (o.k), .int .i64 (o.r.m), .int .i64 (o.r.s), .int .i64 (o.c.m), .int .i64 (o.c.s), .int .i64 (o.v), .int .i64 (o.at_)] 38 :: F)), (fun _ h => h), ?_⟩
      refine WPD.takeM 4 rfl rfl rfl rfl (by kernel_rfl) (by kernel_rfl) (by kernel_rfl) (by kernel_rfl) (fun _ _ _ h => h) (fun _ h => h) (Val.assign rfl rfl) ?_
      refine WPD.done (by kernel_rfl) ?_
      refine Out.next ?_
      refine WPc.ret ?_
      refine Out.then_ret ?_
      refine Out.block_ret ?_
      refine Out.then_ret ?_
      refine Out.conv (fun w h => h.ownNil (e := 32) (k := 2)) ?_
      refine Out.conv (fun w h => Sat.pure_mk trivial h) ?_
      have hk : kdo l o = (l, (⟨false, ⟨0, 0⟩, ⟨0, 0⟩, 0, []⟩ : KA), false) := by
        unfold kdo
        simp_all [KA0, Rv0]
      refine Out.perm pl4 ?_
      refine Out.drop ?_
      refine Out.perm pl4 ?_
      refine Out.drop ?_
      refine Out.perm pl3 ?_
      refine Out.perm pl2 ?_
      refine Out.perm pl2 ?_
      refine Out.perm pl3 ?_
      exact Out.retRun (L' := _) (results_tct (cs := [.bool false, .int .i64 0, .int .i64 0, .int .i64 0, .int .i64 0, .int .i64 0, .slice none 0 0, .int .i64 0, .int .i64 0, .slice none 0 0]) Try.results29 rfl rfl Ty.ag42 rfl rfl (fun w h => h.range 0 rfl rfl)) ⟨va, (.slice none 0 0), _, by rw [hk] <;> rfl, by rw [hk]; exact .inr ⟨rfl, rfl, rfl⟩, by rw [hk] <;> rfl⟩ (fun w h => h.drop)
    · skip
      have h2 : ¬ (¬ (less (modi l) o.r)) := h2
      refine WPc.skip ?_
      refine Out.next ?_
      refine WPc.region ?_
      refine WP.val rfl rfl rfl (Val.move rfl rfl) ?_
      refine WP.val rfl rfl rfl (Val.fieldAddr (j := 1) rfl Ty.fo38_1 rfl rfl) ?_
      refine WP.val rfl rfl rfl (Val.loadAgg (cs := [.int .i64 (o.r.m), .int .i64 (o.r.s)]) rfl Ty.ag32 rfl rfl (fun w h => h.range 3 rfl rfl)) ?_
      refine WP.eff rfl rfl rfl (Eff.call rfl rfl Try.call57 (written_spec A o.r l hl va hva)) ?_
      rintro va2 _ ⟨_, rfl, rfl⟩
      show WP _ _ _ _ _ _ _ (Own 47 6 va2 ((l ++ [putV l o.r]).length) (flatOf Vn.cells (l ++ [putV l o.r])) :: A :: Blk b3 [.bool false, .int .i64 0, .int .i64 0, .int .i64 0, .int .i64 0, .int .i64 0, .slice none 0 0, .int .i64 0, .int .i64 0, .slice none 0 0] 42 :: Blk b2 [.bool false, .int .i64 0, .int .i64 0, .int .i64 0, .int .i64 0, .int .i64 0, .slice none 0 0, .int .i64 0, .int .i64 0, .slice none 0 0] 42 :: Blk b1 [.int .i64 (o.k), .int .i64 (o.r.m), .int .i64 (o.r.s), .int .i64 (o.c.m), .int .i64 (o.c.s), .int .i64 (o.v), .int .i64 (o.at_)] 38 :: F)
      refine WP.val rfl rfl rfl (Val.assign rfl rfl) ?_
      refine WP.val rfl rfl rfl (Val.fieldAddr (j := 0) rfl Ty.fo42_0 rfl rfl) ?_
      refine WP.perm pl2 ?_
      refine WP.eff0 rfl rfl (Eff.store rfl Ty.sc4 rfl rfl rfl (by simp) st0) ?_
      rintro _ _ rfl
      refine WP.nil ?_
      refine Out.block ?_
      refine Out.next ?_
      refine WPc.seq ?_
      refine WPD.start (Sat W (Blk b3 [.bool true, .int .i64 0, .int .i64 0, .int .i64 0, .int .i64 0, .int .i64 0, .slice none 0 0, .int .i64 0, .int .i64 0, .slice none 0 0] 42 :: Own 47 6 va2 ((l ++ [putV l o.r]).length) (flatOf Vn.cells (l ++ [putV l o.r])) :: A :: Blk b2 [.bool false, .int .i64 0, .int .i64 0, .int .i64 0, .int .i64 0, .int .i64 0, .slice none 0 0, .int .i64 0, .int .i64 0, .slice none 0 0] 42 :: Blk b1 [.int .i64 (o.k), .int .i64 (o.r.m), .int .i64 (o.r.s), .int .i64 (o.c.m), .int .i64 (o.c.s), .int .i64 (o.v), .int .i64 (o.at_)] 38 :: F)) Ty.mixed ?_
      refine WPD.takeM 0 rfl rfl rfl rfl (by kernel_rfl) (by kernel_rfl) (by kernel_rfl) (by kernel_rfl) (fun _ _ _ h => h) (fun _ h => h) (Val.move rfl rfl) ?_
      refine WPD.take 1 rfl rfl rfl rfl (by kernel_rfl) (by kernel_rfl) (by kernel_rfl) (by kernel_rfl) (fun _ _ _ h => h) (by kernel_rfl) (fun _ h => h) (Val.loadAgg (cs := [.bool true, .int .i64 0, .int .i64 0, .int .i64 0, .int .i64 0, .int .i64 0, .slice none 0 0, .int .i64 0, .int .i64 0, .slice none 0 0]) rfl Ty.ag42 rfl rfl (fun w h => h.range 0 rfl rfl)) ?_
      refine WPD.takeM 2 rfl rfl rfl rfl (by kernel_rfl) (by kernel_rfl) (by kernel_rfl) (by kernel_rfl) (fun _ _ _ h => h) (fun _ h => h) (Val.assign rfl rfl) ?_
      refine WPD.perm pl3 ?_
      refine WPD.stepC0 3 (by kernel_rfl) rfl rfl rfl (by kernel_rfl) (Eff.storeAgg (cs := [.bool true, .int .i64 0, .int .i64 0, .int .i64 0, .int .i64 0, .int .i64 0, .slice none 0 0, .int .i64 0, .int .i64 0, .slice none 0 0]) (C' := [.bool true, .int .i64 0, .int .i64 0, .int .i64 0, .int .i64 0, .int .i64 0, .slice none 0 0, .int .i64 0, .int .i64 0, .slice none 0 0]) rfl Ty.ag42 rfl rfl rfl rfl (by simp) rfl) ?_
      rintro _ _ rfl
      refine ⟨(Sat W (Blk b2 [.bool true, .int .i64 0, .int .i64 0, .int .i64 0, .int .i64 0, .int .i64 0, .slice none 0 0, .int .i64 0, .int .i64 0, .slice none 0 0] 42 :: Blk b3 [.bool true, .int .i64 0, .int .i64 0, .int .i64 0, .int .i64 0, .int .i64 0, .slice none 0 0, .int .i64 0, .int .i64 0, .slice none 0 0] 42 :: Own 47 6 va2 ((l ++ [putV l o.r]).length) (flatOf Vn.cells (l ++ [putV l o.r])) :: A :: Blk b1 [.int .i64 (o.k), .int .i64 (o.r.m), .int .i64 (o.r.s), .int .i64 (o.c.m), .int .i64 (o.c.s), .int .i64 (o.v), .int .i64 (o.at_)] 38 :: F)), (fun _ h => h), ?_⟩
      refine WPD.takeM 4 rfl rfl rfl rfl (by kernel_rfl) (by kernel_rfl) (by kernel_rfl) (by kernel_rfl) (fun _ _ _ h => h) (fun _ h => h) (Val.assign rfl rfl) ?_
      refine WPD.done (by kernel_rfl) ?_
      refine Out.next ?_
      refine WPc.ret ?_
      refine Out.conv (fun w h => h.ownNil (e := 32) (k := 2)) ?_
      have hk : kdo l o = ((l ++ [putV l o.r]), (⟨true, ⟨0, 0⟩, ⟨0, 0⟩, 0, []⟩ : KA), true) := by
        unfold kdo
        simp_all [KA0, Rv0]
      refine Out.perm pl2 ?_
      refine Out.drop ?_
      refine Out.perm pl4 ?_
      refine Out.drop ?_
      refine Out.perm pl3 ?_
      refine Out.perm pl1 ?_
      refine Out.perm pl3 ?_
      refine Out.perm pl3 ?_
      exact Out.retRun (L' := _) (results_tct (cs := [.bool true, .int .i64 0, .int .i64 0, .int .i64 0, .int .i64 0, .int .i64 0, .slice none 0 0, .int .i64 0, .int .i64 0, .slice none 0 0]) Try.results29 rfl rfl Ty.ag42 rfl rfl (fun w h => h.range 0 rfl rfl)) ⟨va2, (.slice none 0 0), _, by rw [hk] <;> rfl, by rw [hk]; exact .inl rfl, by rw [hk] <;> rfl⟩ (fun w h => h.drop)
  · skip
    have h1 : ¬ (o.k = (1 : Int)) := h1
    refine WPc.seq ?_
    refine WPc.region ?_
    refine WP.val rfl rfl rfl (Val.eql rfl rfl rfl) ?_
    refine WP.val rfl rfl rfl (Val.assign rfl rfl) ?_
    refine WP.nil ?_
    refine Out.next ?_
    refine WPc.ifP rfl (fun h3 => ?_) (fun h3 => ?_)
    · skip
      have h3 : (o.k = (2 : Int)) := h3
      refine WPc.seq ?_
      refine WPc.region ?_
      refine WP.val rfl rfl rfl (Val.move rfl rfl) ?_
      refine WP.perm pl3 ?_
      refine WP.eff rfl rfl rfl (Eff.call rfl rfl Try.call27 (lives_spec A l hl va hva)) ?_
      rintro _ _ ⟨_, ⟨rfl, rfl⟩, rfl⟩
      show WP _ _ _ _ _ _ _ (A :: Blk b3 [.bool false, .int .i64 0, .int .i64 0, .int .i64 0, .int .i64 0, .int .i64 0, .slice none 0 0, .int .i64 0, .int .i64 0, .slice none 0 0] 42 :: Blk b2 [.bool false, .int .i64 0, .int .i64 0, .int .i64 0, .int .i64 0, .int .i64 0, .slice none 0 0, .int .i64 0, .int .i64 0, .slice none 0 0] 42 :: Blk b1 [.int .i64 (o.k), .int .i64 (o.r.m), .int .i64 (o.r.s), .int .i64 (o.c.m), .int .i64 (o.c.s), .int .i64 (o.v), .int .i64 (o.at_)] 38 :: F)
      refine WP.val rfl rfl rfl (Val.fieldAddr (j := 0) rfl Ty.fo42_0 rfl rfl) ?_
      refine WP.perm pl1 ?_
      refine WP.eff0 rfl rfl (Eff.store rfl Ty.sc4 rfl rfl rfl (by simp) st0) ?_
      rintro _ _ rfl
      refine WP.nil ?_
      refine Out.next ?_
      refine WPc.seq ?_
      refine WPc.region ?_
      refine WP.val rfl rfl rfl (Val.fieldAddr (j := 0) rfl Ty.fo42_0 rfl rfl) ?_
      refine WP.val rfl rfl rfl (Val.load rfl Ty.sc4 rfl (fun w h => h.cell 0 rfl rfl)) ?_
      refine WP.nil ?_
      refine Out.next ?_
      refine WPc.cond rfl (fun h4 => ?_) (fun h4 => ?_)
      · skip
        have h4 : ((lives l)) = true := h4
        refine WPc.seq ?_
        refine WPc.seq ?_
        obtain ⟨x, hx, hxg, hxl⟩ := lives_get (by assumption)
        refine WPD.start (Sat W [Blk b1 [.int .i64 (o.k), .int .i64 (o.r.m), .int .i64 (o.r.s), .int .i64 (o.c.m), .int .i64 (o.c.s), .int .i64 (o.v), .int .i64 (o.at_)] 38]) Ty.mixed ?_
        refine WPD.takeM 0 rfl rfl rfl rfl (by kernel_rfl) (by kernel_rfl) (by kernel_rfl) (by kernel_rfl) (fun _ _ _ h => h) (fun w h => ((h.perm pl3)).dropEnd (L := [_])) (Val.move rfl rfl) ?_
        refine WPD.takeM 2 rfl rfl rfl rfl (by kernel_rfl) (by kernel_rfl) (by kernel_rfl) (by kernel_rfl) (fun _ _ _ h => h) (fun w h => ((h.perm pl3)).dropEnd (L := [_])) (Val.fieldAddr (j := 1) rfl Ty.fo38_1 rfl rfl) ?_
        refine WPD.take 3 rfl rfl rfl rfl (by kernel_rfl) (by kernel_rfl) (by kernel_rfl) (by kernel_rfl) (fun _ _ _ h => h) (by kernel_rfl) (fun w h => ((h.perm pl3)).dropEnd (L := [_])) (Val.loadAgg (cs := [.int .i64 (o.r.m), .int .i64 (o.r.s)]) rfl Ty.ag32 rfl rfl (fun w h => h.range 0 rfl rfl)) ?_
        refine WPD.perm pl1 ?_
        refine WPD.step 1 (by kernel_rfl) rfl rfl rfl rfl (Eff.call rfl rfl Try.call28 (mod_spec A l hl va hva)) ?_
        rintro _ _ ⟨_, ⟨rfl, rfl⟩, rfl⟩
        refine ⟨(fun w h => ((h.perm pl3)).dropEnd (L := [_])), ?_⟩
        show WPD _ _ _ _ _ _ _ _ _ (A :: Blk b3 [.bool ((lives l)), .int .i64 0, .int .i64 0, .int .i64 0, .int .i64 0, .int .i64 0, .slice none 0 0, .int .i64 0, .int .i64 0, .slice none 0 0] 42 :: Blk b2 [.bool false, .int .i64 0, .int .i64 0, .int .i64 0, .int .i64 0, .int .i64 0, .slice none 0 0, .int .i64 0, .int .i64 0, .slice none 0 0] 42 :: Blk b1 [.int .i64 (o.k), .int .i64 (o.r.m), .int .i64 (o.r.s), .int .i64 (o.c.m), .int .i64 (o.c.s), .int .i64 (o.v), .int .i64 (o.at_)] 38 :: F)
        refine WPD.stepC 4 (by kernel_rfl) rfl rfl rfl rfl (by kernel_rfl) (Eff.call rfl rfl Try.call16 (less_spec (modi l) o.r)) ?_
        rintro _ _ ⟨_, ⟨rfl, rfl⟩, rfl⟩
        refine ⟨(Sat W (A :: Blk b3 [.bool ((lives l)), .int .i64 0, .int .i64 0, .int .i64 0, .int .i64 0, .int .i64 0, .slice none 0 0, .int .i64 0, .int .i64 0, .slice none 0 0] 42 :: Blk b2 [.bool false, .int .i64 0, .int .i64 0, .int .i64 0, .int .i64 0, .int .i64 0, .slice none 0 0, .int .i64 0, .int .i64 0, .slice none 0 0] 42 :: Blk b1 [.int .i64 (o.k), .int .i64 (o.r.m), .int .i64 (o.r.s), .int .i64 (o.c.m), .int .i64 (o.c.s), .int .i64 (o.v), .int .i64 (o.at_)] 38 :: F)), (fun _ h => h), ?_⟩
        show WPD _ _ _ _ _ _ _ _ _ (A :: Blk b3 [.bool ((lives l)), .int .i64 0, .int .i64 0, .int .i64 0, .int .i64 0, .int .i64 0, .slice none 0 0, .int .i64 0, .int .i64 0, .slice none 0 0] 42 :: Blk b2 [.bool false, .int .i64 0, .int .i64 0, .int .i64 0, .int .i64 0, .int .i64 0, .slice none 0 0, .int .i64 0, .int .i64 0, .slice none 0 0] 42 :: Blk b1 [.int .i64 (o.k), .int .i64 (o.r.m), .int .i64 (o.r.s), .int .i64 (o.c.m), .int .i64 (o.c.s), .int .i64 (o.v), .int .i64 (o.at_)] 38 :: F)
        refine WPD.takeM 5 rfl rfl rfl rfl (by kernel_rfl) (by kernel_rfl) (by kernel_rfl) (by kernel_rfl) (fun _ _ _ h => h) (fun _ h => h) (Val.notP rfl rfl) ?_
        refine WPD.done (by kernel_rfl) ?_
        refine Out.next ?_
        refine WPc.ifP rfl (fun h5 => ?_) (fun h5 => ?_)
        · skip
          have h5 : (¬ (less (modi l) o.r)) := h5
          refine WPc.seq ?_
          refine WPc.region ?_
          refine WP.val rfl rfl rfl (Val.move rfl rfl) ?_
          refine WP.val rfl rfl rfl (Val.mk (cs := [.bool false, .int .i64 0, .int .i64 0, .int .i64 0, .int .i64 0, .int .i64 0, .slice none 0 0, .int .i64 0, .int .i64 0, .slice none 0 0]) rfl rfl (fun _ => by kernel_rfl)) ?_
          refine WP.val rfl rfl rfl (Val.assign rfl rfl) ?_
          refine WP.perm pl2 ?_
          refine WP.eff0 rfl rfl (Eff.storeAgg (cs := [.bool false, .int .i64 0, .int .i64 0, .int .i64 0, .int .i64 0, .int .i64 0, .slice none 0 0, .int .i64 0, .int .i64 0, .slice none 0 0]) (C' := [.bool false, .int .i64 0, .int .i64 0, .int .i64 0, .int .i64 0, .int .i64 0, .slice none 0 0, .int .i64 0, .int .i64 0, .slice none 0 0]) rfl Ty.ag42 rfl rfl rfl rfl (by simp) rfl) ?_
          rintro _ _ rfl
          refine WP.val rfl rfl rfl (Val.assign rfl rfl) ?_
          refine WP.nil ?_
          refine Out.next ?_
          refine WPc.ret ?_
          refine Out.then_ret ?_
          refine Out.block_ret ?_
          refine Out.then_ret ?_
          refine Out.conv (fun w h => h.ownNil (e := 32) (k := 2)) ?_
          refine Out.conv (fun w h => Sat.pure_mk trivial h) ?_
          have hk : kdo l o = (l, (⟨false, ⟨0, 0⟩, ⟨0, 0⟩, 0, []⟩ : KA), false) := by
            unfold kdo
            simp_all [KA0, Rv0]
          refine Out.perm pl4 ?_
          refine Out.drop ?_
          refine Out.perm pl4 ?_
          refine Out.drop ?_
          refine Out.perm pl3 ?_
          refine Out.perm pl2 ?_
          refine Out.perm pl2 ?_
          refine Out.perm pl3 ?_
          exact Out.retRun (L' := _) (results_tct (cs := [.bool false, .int .i64 0, .int .i64 0, .int .i64 0, .int .i64 0, .int .i64 0, .slice none 0 0, .int .i64 0, .int .i64 0, .slice none 0 0]) Try.results29 rfl rfl Ty.ag42 rfl rfl (fun w h => h.range 0 rfl rfl)) ⟨va, (.slice none 0 0), _, by rw [hk] <;> rfl, by rw [hk]; exact .inr ⟨rfl, rfl, rfl⟩, by rw [hk] <;> rfl⟩ (fun w h => h.drop)
        · skip
          have h5 : ¬ (¬ (less (modi l) o.r)) := h5
          refine WPc.skip ?_
          refine Out.next ?_
          refine WPc.region ?_
          refine WP.val rfl rfl rfl (Val.move rfl rfl) ?_
          refine WP.val rfl rfl rfl (Val.fieldAddr (j := 1) rfl Ty.fo38_1 rfl rfl) ?_
          refine WP.val rfl rfl rfl (Val.loadAgg (cs := [.int .i64 (o.r.m), .int .i64 (o.r.s)]) rfl Ty.ag32 rfl rfl (fun w h => h.range 3 rfl rfl)) ?_
          refine WP.eff rfl rfl rfl (Eff.call rfl rfl Try.call58 (ended_spec A l hl va hva x hx o.r)) ?_
          rintro va2 _ ⟨_, rfl, rfl⟩
          show WP _ _ _ _ _ _ _ (Own 47 6 va2 ((l ++ [endV x o.r]).length) (flatOf Vn.cells (l ++ [endV x o.r])) :: A :: Blk b3 [.bool ((lives l)), .int .i64 0, .int .i64 0, .int .i64 0, .int .i64 0, .int .i64 0, .slice none 0 0, .int .i64 0, .int .i64 0, .slice none 0 0] 42 :: Blk b2 [.bool false, .int .i64 0, .int .i64 0, .int .i64 0, .int .i64 0, .int .i64 0, .slice none 0 0, .int .i64 0, .int .i64 0, .slice none 0 0] 42 :: Blk b1 [.int .i64 (o.k), .int .i64 (o.r.m), .int .i64 (o.r.s), .int .i64 (o.c.m), .int .i64 (o.c.s), .int .i64 (o.v), .int .i64 (o.at_)] 38 :: F)
          refine WP.val rfl rfl rfl (Val.assign rfl rfl) ?_
          refine WP.nil ?_
          refine Out.block ?_
          refine Out.next ?_
          refine WPc.seq ?_
          refine WPD.start (Sat W (Own 47 6 va2 ((l ++ [endV x o.r]).length) (flatOf Vn.cells (l ++ [endV x o.r])) :: A :: Blk b3 [.bool ((lives l)), .int .i64 0, .int .i64 0, .int .i64 0, .int .i64 0, .int .i64 0, .slice none 0 0, .int .i64 0, .int .i64 0, .slice none 0 0] 42 :: Blk b2 [.bool false, .int .i64 0, .int .i64 0, .int .i64 0, .int .i64 0, .int .i64 0, .slice none 0 0, .int .i64 0, .int .i64 0, .slice none 0 0] 42 :: Blk b1 [.int .i64 (o.k), .int .i64 (o.r.m), .int .i64 (o.r.s), .int .i64 (o.c.m), .int .i64 (o.c.s), .int .i64 (o.v), .int .i64 (o.at_)] 38 :: F)) Ty.mixed ?_
          refine WPD.takeM 0 rfl rfl rfl rfl (by kernel_rfl) (by kernel_rfl) (by kernel_rfl) (by kernel_rfl) (fun _ _ _ h => h) (fun _ h => h) (Val.move rfl rfl) ?_
          refine WPD.take 1 rfl rfl rfl rfl (by kernel_rfl) (by kernel_rfl) (by kernel_rfl) (by kernel_rfl) (fun _ _ _ h => h) (by kernel_rfl) (fun _ h => h) (Val.loadAgg (cs := [.bool ((lives l)), .int .i64 0, .int .i64 0, .int .i64 0, .int .i64 0, .int .i64 0, .slice none 0 0, .int .i64 0, .int .i64 0, .slice none 0 0]) rfl Ty.ag42 rfl rfl (fun w h => h.range 2 rfl rfl)) ?_
          refine WPD.takeM 2 rfl rfl rfl rfl (by kernel_rfl) (by kernel_rfl) (by kernel_rfl) (by kernel_rfl) (fun _ _ _ h => h) (fun _ h => h) (Val.assign rfl rfl) ?_
          refine WPD.perm pl3 ?_
          refine WPD.stepC0 3 (by kernel_rfl) rfl rfl rfl (by kernel_rfl) (Eff.storeAgg (cs := [.bool ((lives l)), .int .i64 0, .int .i64 0, .int .i64 0, .int .i64 0, .int .i64 0, .slice none 0 0, .int .i64 0, .int .i64 0, .slice none 0 0]) (C' := [.bool ((lives l)), .int .i64 0, .int .i64 0, .int .i64 0, .int .i64 0, .int .i64 0, .slice none 0 0, .int .i64 0, .int .i64 0, .slice none 0 0]) rfl Ty.ag42 rfl rfl rfl rfl (by simp) rfl) ?_
          rintro _ _ rfl
          refine ⟨(Sat W (Blk b2 [.bool ((lives l)), .int .i64 0, .int .i64 0, .int .i64 0, .int .i64 0, .int .i64 0, .slice none 0 0, .int .i64 0, .int .i64 0, .slice none 0 0] 42 :: Own 47 6 va2 ((l ++ [endV x o.r]).length) (flatOf Vn.cells (l ++ [endV x o.r])) :: A :: Blk b3 [.bool ((lives l)), .int .i64 0, .int .i64 0, .int .i64 0, .int .i64 0, .int .i64 0, .slice none 0 0, .int .i64 0, .int .i64 0, .slice none 0 0] 42 :: Blk b1 [.int .i64 (o.k), .int .i64 (o.r.m), .int .i64 (o.r.s), .int .i64 (o.c.m), .int .i64 (o.c.s), .int .i64 (o.v), .int .i64 (o.at_)] 38 :: F)), (fun _ h => h), ?_⟩
          refine WPD.takeM 4 rfl rfl rfl rfl (by kernel_rfl) (by kernel_rfl) (by kernel_rfl) (by kernel_rfl) (fun _ _ _ h => h) (fun _ h => h) (Val.assign rfl rfl) ?_
          refine WPD.done (by kernel_rfl) ?_
          refine Out.next ?_
          refine WPc.ret ?_
          refine Out.conv (fun w h => h.ownNil (e := 32) (k := 2)) ?_
          have hk : kdo l o = ((l ++ [endV x o.r]), (⟨(lives l), ⟨0, 0⟩, ⟨0, 0⟩, 0, []⟩ : KA), true) := by
            unfold kdo
            simp_all [KA0, Rv0]
          refine Out.perm pl4 ?_
          refine Out.drop ?_
          refine Out.perm pl4 ?_
          refine Out.drop ?_
          refine Out.perm pl3 ?_
          refine Out.perm pl1 ?_
          refine Out.perm pl3 ?_
          refine Out.perm pl3 ?_
          exact Out.retRun (L' := _) (results_tct (cs := [.bool ((lives l)), .int .i64 0, .int .i64 0, .int .i64 0, .int .i64 0, .int .i64 0, .slice none 0 0, .int .i64 0, .int .i64 0, .slice none 0 0]) Try.results29 rfl rfl Ty.ag42 rfl rfl (fun w h => h.range 0 rfl rfl)) ⟨va2, (.slice none 0 0), _, by rw [hk] <;> rfl, by rw [hk]; exact .inl rfl, by rw [hk] <;> rfl⟩ (fun w h => h.drop)
      · skip
        have h4 : ((lives l)) = false := h4
        refine WPc.skip ?_
        refine Out.block ?_
        refine Out.next ?_
        refine WPc.seq ?_
        refine WPD.start (Sat W (Blk b3 [.bool ((lives l)), .int .i64 0, .int .i64 0, .int .i64 0, .int .i64 0, .int .i64 0, .slice none 0 0, .int .i64 0, .int .i64 0, .slice none 0 0] 42 :: A :: Blk b2 [.bool false, .int .i64 0, .int .i64 0, .int .i64 0, .int .i64 0, .int .i64 0, .slice none 0 0, .int .i64 0, .int .i64 0, .slice none 0 0] 42 :: Blk b1 [.int .i64 (o.k), .int .i64 (o.r.m), .int .i64 (o.r.s), .int .i64 (o.c.m), .int .i64 (o.c.s), .int .i64 (o.v), .int .i64 (o.at_)] 38 :: F)) Ty.mixed ?_
        refine WPD.takeM 0 rfl rfl rfl rfl (by kernel_rfl) (by kernel_rfl) (by kernel_rfl) (by kernel_rfl) (fun _ _ _ h => h) (fun _ h => h) (Val.move rfl rfl) ?_
        refine WPD.take 1 rfl rfl rfl rfl (by kernel_rfl) (by kernel_rfl) (by kernel_rfl) (by kernel_rfl) (fun _ _ _ h => h) (by kernel_rfl) (fun _ h => h) (Val.loadAgg (cs := [.bool ((lives l)), .int .i64 0, .int .i64 0, .int .i64 0, .int .i64 0, .int .i64 0, .slice none 0 0, .int .i64 0, .int .i64 0, .slice none 0 0]) rfl Ty.ag42 rfl rfl (fun w h => h.range 0 rfl rfl)) ?_
        refine WPD.takeM 2 rfl rfl rfl rfl (by kernel_rfl) (by kernel_rfl) (by kernel_rfl) (by kernel_rfl) (fun _ _ _ h => h) (fun _ h => h) (Val.assign rfl rfl) ?_
        refine WPD.perm pl2 ?_
        refine WPD.stepC0 3 (by kernel_rfl) rfl rfl rfl (by kernel_rfl) (Eff.storeAgg (cs := [.bool ((lives l)), .int .i64 0, .int .i64 0, .int .i64 0, .int .i64 0, .int .i64 0, .slice none 0 0, .int .i64 0, .int .i64 0, .slice none 0 0]) (C' := [.bool ((lives l)), .int .i64 0, .int .i64 0, .int .i64 0, .int .i64 0, .int .i64 0, .slice none 0 0, .int .i64 0, .int .i64 0, .slice none 0 0]) rfl Ty.ag42 rfl rfl rfl rfl (by simp) rfl) ?_
        rintro _ _ rfl
        refine ⟨(Sat W (Blk b2 [.bool ((lives l)), .int .i64 0, .int .i64 0, .int .i64 0, .int .i64 0, .int .i64 0, .slice none 0 0, .int .i64 0, .int .i64 0, .slice none 0 0] 42 :: Blk b3 [.bool ((lives l)), .int .i64 0, .int .i64 0, .int .i64 0, .int .i64 0, .int .i64 0, .slice none 0 0, .int .i64 0, .int .i64 0, .slice none 0 0] 42 :: A :: Blk b1 [.int .i64 (o.k), .int .i64 (o.r.m), .int .i64 (o.r.s), .int .i64 (o.c.m), .int .i64 (o.c.s), .int .i64 (o.v), .int .i64 (o.at_)] 38 :: F)), (fun _ h => h), ?_⟩
        refine WPD.takeM 4 rfl rfl rfl rfl (by kernel_rfl) (by kernel_rfl) (by kernel_rfl) (by kernel_rfl) (fun _ _ _ h => h) (fun _ h => h) (Val.assign rfl rfl) ?_
        refine WPD.done (by kernel_rfl) ?_
        refine Out.next ?_
        refine WPc.ret ?_
        refine Out.conv (fun w h => h.ownNil (e := 32) (k := 2)) ?_
        refine Out.conv (fun w h => Sat.pure_mk trivial h) ?_
        have hk : kdo l o = (l, (⟨(lives l), ⟨0, 0⟩, ⟨0, 0⟩, 0, []⟩ : KA), true) := by
          unfold kdo
          simp_all [KA0, Rv0]
        refine Out.perm pl3 ?_
        refine Out.drop ?_
        refine Out.perm pl4 ?_
        refine Out.drop ?_
        refine Out.perm pl3 ?_
        refine Out.perm pl2 ?_
        refine Out.perm pl2 ?_
        refine Out.perm pl3 ?_
        exact Out.retRun (L' := _) (results_tct (cs := [.bool ((lives l)), .int .i64 0, .int .i64 0, .int .i64 0, .int .i64 0, .int .i64 0, .slice none 0 0, .int .i64 0, .int .i64 0, .slice none 0 0]) Try.results29 rfl rfl Ty.ag42 rfl rfl (fun w h => h.range 0 rfl rfl)) ⟨va, (.slice none 0 0), _, by rw [hk] <;> rfl, by rw [hk]; exact .inr ⟨rfl, rfl, rfl⟩, by rw [hk] <;> rfl⟩ (fun w h => h.drop)
    · skip
      have h3 : ¬ (o.k = (2 : Int)) := h3
      refine WPc.seq ?_
      refine WPc.region ?_
      refine WP.val rfl rfl rfl (Val.eql rfl rfl rfl) ?_
      refine WP.val rfl rfl rfl (Val.assign rfl rfl) ?_
      refine WP.nil ?_
      refine Out.next ?_
      refine WPc.ifP rfl (fun h6 => ?_) (fun h6 => ?_)
      · skip
        have h6 : (o.k = (5 : Int)) := h6
        refine WPc.seq ?_
        refine WPc.region ?_
        refine WP.val rfl rfl rfl (Val.move rfl rfl) ?_
        refine WP.val rfl rfl rfl (Val.fieldAddr (j := 6) rfl Ty.fo38_4 rfl rfl) ?_
        refine WP.val rfl rfl rfl (Val.load rfl Ty.sc2 rfl (fun w h => h.cell 2 rfl rfl)) ?_
        refine WP.perm pl3 ?_
        refine WP.eff rfl rfl rfl (Eff.call rfl rfl Try.call59 (holds_spec A o.at_ l hl va hva)) ?_
        rintro _ _ ⟨_, ⟨rfl, rfl⟩, rfl⟩
        show WP _ _ _ _ _ _ _ (A :: Blk b3 [.bool false, .int .i64 0, .int .i64 0, .int .i64 0, .int .i64 0, .int .i64 0, .slice none 0 0, .int .i64 0, .int .i64 0, .slice none 0 0] 42 :: Blk b2 [.bool false, .int .i64 0, .int .i64 0, .int .i64 0, .int .i64 0, .int .i64 0, .slice none 0 0, .int .i64 0, .int .i64 0, .slice none 0 0] 42 :: Blk b1 [.int .i64 (o.k), .int .i64 (o.r.m), .int .i64 (o.r.s), .int .i64 (o.c.m), .int .i64 (o.c.s), .int .i64 (o.v), .int .i64 (o.at_)] 38 :: F)
        refine WP.val rfl rfl rfl (Val.move rfl rfl) ?_
        refine WP.val rfl rfl rfl (Val.extract rfl rfl rfl) ?_
        refine WP.val rfl rfl rfl (Val.extract rfl rfl rfl) ?_
        refine WP.eff rfl rfl rfl (Eff.alloc rfl Ty.z47) ?_
        rintro _ _ ⟨b4, rfl, rfl⟩
        refine WP.eff0 rfl rfl (Eff.storeAgg (cs := [.int .i64 (((holdsV l o.at_).getD Vn0).r.m), .int .i64 (((holdsV l o.at_).getD Vn0).r.s), .int .i64 (((holdsV l o.at_).getD Vn0).c.m), .int .i64 (((holdsV l o.at_).getD Vn0).c.s), .int .i64 (((holdsV l o.at_).getD Vn0).v), .bool (((holdsV l o.at_).getD Vn0).g)]) (C' := [.int .i64 (((holdsV l o.at_).getD Vn0).r.m), .int .i64 (((holdsV l o.at_).getD Vn0).r.s), .int .i64 (((holdsV l o.at_).getD Vn0).c.m), .int .i64 (((holdsV l o.at_).getD Vn0).c.s), .int .i64 (((holdsV l o.at_).getD Vn0).v), .bool (((holdsV l o.at_).getD Vn0).g)]) rfl Ty.ag47 rfl rfl rfl rfl (by simp) rfl) ?_
        rintro _ _ rfl
        refine WP.val rfl rfl rfl (Val.assign rfl rfl) ?_
        refine WP.nil ?_
        refine Out.next ?_
        refine WPc.region ?_
        refine WP.val rfl rfl rfl (Val.move rfl rfl) ?_
        refine WP.val rfl rfl rfl (Val.fieldAddr (j := 0) rfl Ty.fo47_0 rfl rfl) ?_
        refine WP.val rfl rfl rfl (Val.loadAgg (cs := [.int .i64 (((holdsV l o.at_).getD Vn0).r.m), .int .i64 (((holdsV l o.at_).getD Vn0).r.s)]) rfl Ty.ag32 rfl rfl (fun w h => h.range 0 rfl rfl)) ?_
        refine WP.val rfl rfl rfl (Val.fieldAddr (j := 2) rfl Ty.fo47_1 rfl rfl) ?_
        refine WP.val rfl rfl rfl (Val.loadAgg (cs := [.int .i64 (((holdsV l o.at_).getD Vn0).c.m), .int .i64 (((holdsV l o.at_).getD Vn0).c.s)]) rfl Ty.ag32 rfl rfl (fun w h => h.range 0 rfl rfl)) ?_
        refine WP.val rfl rfl rfl (Val.fieldAddr (j := 4) rfl Ty.fo47_2 rfl rfl) ?_
        refine WP.val rfl rfl rfl (Val.load rfl Ty.sc2 rfl (fun w h => h.cell 0 rfl rfl)) ?_
        refine WP.val rfl rfl rfl (Val.mk (cs := [.bool ((holdsV l o.at_).isSome), .int .i64 (((holdsV l o.at_).getD Vn0).r.m), .int .i64 (((holdsV l o.at_).getD Vn0).r.s), .int .i64 (((holdsV l o.at_).getD Vn0).c.m), .int .i64 (((holdsV l o.at_).getD Vn0).c.s), .int .i64 (((holdsV l o.at_).getD Vn0).v), .slice none 0 0, .int .i64 0, .int .i64 0, .slice none 0 0]) rfl rfl (fun _ => by kernel_rfl)) ?_
        refine WP.perm pl2 ?_
        refine WP.eff0 rfl rfl (Eff.storeAgg (cs := [.bool ((holdsV l o.at_).isSome), .int .i64 (((holdsV l o.at_).getD Vn0).r.m), .int .i64 (((holdsV l o.at_).getD Vn0).r.s), .int .i64 (((holdsV l o.at_).getD Vn0).c.m), .int .i64 (((holdsV l o.at_).getD Vn0).c.s), .int .i64 (((holdsV l o.at_).getD Vn0).v), .slice none 0 0, .int .i64 0, .int .i64 0, .slice none 0 0]) (C' := [.bool ((holdsV l o.at_).isSome), .int .i64 (((holdsV l o.at_).getD Vn0).r.m), .int .i64 (((holdsV l o.at_).getD Vn0).r.s), .int .i64 (((holdsV l o.at_).getD Vn0).c.m), .int .i64 (((holdsV l o.at_).getD Vn0).c.s), .int .i64 (((holdsV l o.at_).getD Vn0).v), .slice none 0 0, .int .i64 0, .int .i64 0, .slice none 0 0]) rfl Ty.ag42 rfl rfl rfl rfl (by simp) rfl) ?_
        rintro _ _ rfl
        refine WP.nil ?_
        refine Out.block ?_
        refine Out.next ?_
        refine WPc.seq ?_
        refine WPD.start (Sat W (Blk b3 [.bool ((holdsV l o.at_).isSome), .int .i64 (((holdsV l o.at_).getD Vn0).r.m), .int .i64 (((holdsV l o.at_).getD Vn0).r.s), .int .i64 (((holdsV l o.at_).getD Vn0).c.m), .int .i64 (((holdsV l o.at_).getD Vn0).c.s), .int .i64 (((holdsV l o.at_).getD Vn0).v), .slice none 0 0, .int .i64 0, .int .i64 0, .slice none 0 0] 42 :: Blk b4 [.int .i64 (((holdsV l o.at_).getD Vn0).r.m), .int .i64 (((holdsV l o.at_).getD Vn0).r.s), .int .i64 (((holdsV l o.at_).getD Vn0).c.m), .int .i64 (((holdsV l o.at_).getD Vn0).c.s), .int .i64 (((holdsV l o.at_).getD Vn0).v), .bool (((holdsV l o.at_).getD Vn0).g)] 47 :: A :: Blk b2 [.bool false, .int .i64 0, .int .i64 0, .int .i64 0, .int .i64 0, .int .i64 0, .slice none 0 0, .int .i64 0, .int .i64 0, .slice none 0 0] 42 :: Blk b1 [.int .i64 (o.k), .int .i64 (o.r.m), .int .i64 (o.r.s), .int .i64 (o.c.m), .int .i64 (o.c.s), .int .i64 (o.v), .int .i64 (o.at_)] 38 :: F)) Ty.mixed ?_
        refine WPD.takeM 0 rfl rfl rfl rfl (by kernel_rfl) (by kernel_rfl) (by kernel_rfl) (by kernel_rfl) (fun _ _ _ h => h) (fun _ h => h) (Val.move rfl rfl) ?_
        refine WPD.take 1 rfl rfl rfl rfl (by kernel_rfl) (by kernel_rfl) (by kernel_rfl) (by kernel_rfl) (fun _ _ _ h => h) (by kernel_rfl) (fun _ h => h) (Val.loadAgg (cs := [.bool ((holdsV l o.at_).isSome), .int .i64 (((holdsV l o.at_).getD Vn0).r.m), .int .i64 (((holdsV l o.at_).getD Vn0).r.s), .int .i64 (((holdsV l o.at_).getD Vn0).c.m), .int .i64 (((holdsV l o.at_).getD Vn0).c.s), .int .i64 (((holdsV l o.at_).getD Vn0).v), .slice none 0 0, .int .i64 0, .int .i64 0, .slice none 0 0]) rfl Ty.ag42 rfl rfl (fun w h => h.range 0 rfl rfl)) ?_
        refine WPD.takeM 2 rfl rfl rfl rfl (by kernel_rfl) (by kernel_rfl) (by kernel_rfl) (by kernel_rfl) (fun _ _ _ h => h) (fun _ h => h) (Val.assign rfl rfl) ?_
        refine WPD.perm pl3 ?_
        refine WPD.stepC0 3 (by kernel_rfl) rfl rfl rfl (by kernel_rfl) (Eff.storeAgg (cs := [.bool ((holdsV l o.at_).isSome), .int .i64 (((holdsV l o.at_).getD Vn0).r.m), .int .i64 (((holdsV l o.at_).getD Vn0).r.s), .int .i64 (((holdsV l o.at_).getD Vn0).c.m), .int .i64 (((holdsV l o.at_).getD Vn0).c.s), .int .i64 (((holdsV l o.at_).getD Vn0).v), .slice none 0 0, .int .i64 0, .int .i64 0, .slice none 0 0]) (C' := [.bool ((holdsV l o.at_).isSome), .int .i64 (((holdsV l o.at_).getD Vn0).r.m), .int .i64 (((holdsV l o.at_).getD Vn0).r.s), .int .i64 (((holdsV l o.at_).getD Vn0).c.m), .int .i64 (((holdsV l o.at_).getD Vn0).c.s), .int .i64 (((holdsV l o.at_).getD Vn0).v), .slice none 0 0, .int .i64 0, .int .i64 0, .slice none 0 0]) rfl Ty.ag42 rfl rfl rfl rfl (by simp) rfl) ?_
        rintro _ _ rfl
        refine ⟨(Sat W (Blk b2 [.bool ((holdsV l o.at_).isSome), .int .i64 (((holdsV l o.at_).getD Vn0).r.m), .int .i64 (((holdsV l o.at_).getD Vn0).r.s), .int .i64 (((holdsV l o.at_).getD Vn0).c.m), .int .i64 (((holdsV l o.at_).getD Vn0).c.s), .int .i64 (((holdsV l o.at_).getD Vn0).v), .slice none 0 0, .int .i64 0, .int .i64 0, .slice none 0 0] 42 :: Blk b3 [.bool ((holdsV l o.at_).isSome), .int .i64 (((holdsV l o.at_).getD Vn0).r.m), .int .i64 (((holdsV l o.at_).getD Vn0).r.s), .int .i64 (((holdsV l o.at_).getD Vn0).c.m), .int .i64 (((holdsV l o.at_).getD Vn0).c.s), .int .i64 (((holdsV l o.at_).getD Vn0).v), .slice none 0 0, .int .i64 0, .int .i64 0, .slice none 0 0] 42 :: Blk b4 [.int .i64 (((holdsV l o.at_).getD Vn0).r.m), .int .i64 (((holdsV l o.at_).getD Vn0).r.s), .int .i64 (((holdsV l o.at_).getD Vn0).c.m), .int .i64 (((holdsV l o.at_).getD Vn0).c.s), .int .i64 (((holdsV l o.at_).getD Vn0).v), .bool (((holdsV l o.at_).getD Vn0).g)] 47 :: A :: Blk b1 [.int .i64 (o.k), .int .i64 (o.r.m), .int .i64 (o.r.s), .int .i64 (o.c.m), .int .i64 (o.c.s), .int .i64 (o.v), .int .i64 (o.at_)] 38 :: F)), (fun _ h => h), ?_⟩
        refine WPD.takeM 4 rfl rfl rfl rfl (by kernel_rfl) (by kernel_rfl) (by kernel_rfl) (by kernel_rfl) (fun _ _ _ h => h) (fun _ h => h) (Val.assign rfl rfl) ?_
        refine WPD.done (by kernel_rfl) ?_
        refine Out.next ?_
        refine WPc.ret ?_
        refine Out.conv (fun w h => h.ownNil (e := 32) (k := 2)) ?_
        refine Out.conv (fun w h => Sat.pure_mk trivial h) ?_
        have hk : kdo l o = (l, (⟨(holdsV l o.at_).isSome, ((holdsV l o.at_).getD Vn0).r, ((holdsV l o.at_).getD Vn0).c, ((holdsV l o.at_).getD Vn0).v, []⟩ : KA), true) := by
          unfold kdo
          simp_all [KA0, Rv0]
        refine Out.perm pl3 ?_
        refine Out.drop ?_
        refine Out.perm pl3 ?_
        refine Out.drop ?_
        refine Out.perm pl4 ?_
        refine Out.drop ?_
        refine Out.perm pl3 ?_
        refine Out.perm pl2 ?_
        refine Out.perm pl2 ?_
        refine Out.perm pl3 ?_
        exact Out.retRun (L' := _) (results_tct (cs := [.bool ((holdsV l o.at_).isSome), .int .i64 (((holdsV l o.at_).getD Vn0).r.m), .int .i64 (((holdsV l o.at_).getD Vn0).r.s), .int .i64 (((holdsV l o.at_).getD Vn0).c.m), .int .i64 (((holdsV l o.at_).getD Vn0).c.s), .int .i64 (((holdsV l o.at_).getD Vn0).v), .slice none 0 0, .int .i64 0, .int .i64 0, .slice none 0 0]) Try.results29 rfl rfl Ty.ag42 rfl rfl (fun w h => h.range 0 rfl rfl)) ⟨va, (.slice none 0 0), _, by rw [hk] <;> rfl, by rw [hk]; exact .inr ⟨rfl, rfl, rfl⟩, by rw [hk] <;> rfl⟩ (fun w h => h.drop)
      · skip
        have h6 : ¬ (o.k = (5 : Int)) := h6
        refine WPc.seq ?_
        refine WPc.region ?_
        refine WP.val rfl rfl rfl (Val.eql rfl rfl rfl) ?_
        refine WP.val rfl rfl rfl (Val.assign rfl rfl) ?_
        refine WP.nil ?_
        refine Out.next ?_
        refine WPc.ifP rfl (fun h7 => ?_) (fun h7 => ?_)
        · skip
          have h7 : (o.k = (6 : Int)) := h7
          refine WPc.region ?_
          refine WP.val rfl rfl rfl (Val.move rfl rfl) ?_
          refine WP.val rfl rfl rfl (Val.fieldAddr (j := 6) rfl Ty.fo38_4 rfl rfl) ?_
          refine WP.val rfl rfl rfl (Val.load rfl Ty.sc2 rfl (fun w h => h.cell 2 rfl rfl)) ?_
          refine WP.perm pl3 ?_
          refine WP.eff rfl rfl rfl (Eff.call rfl rfl Try.call60 (since_spec A o.at_ l hl va hva)) ?_
          rintro vr _ ⟨_, rfl, rfl⟩
          show WP _ _ _ _ _ _ _ (Own 32 2 vr ((sinceV l o.at_ l.length).length) (flatOf Rv.cells (sinceV l o.at_ l.length)) :: A :: Blk b3 [.bool false, .int .i64 0, .int .i64 0, .int .i64 0, .int .i64 0, .int .i64 0, .slice none 0 0, .int .i64 0, .int .i64 0, .slice none 0 0] 42 :: Blk b2 [.bool false, .int .i64 0, .int .i64 0, .int .i64 0, .int .i64 0, .int .i64 0, .slice none 0 0, .int .i64 0, .int .i64 0, .slice none 0 0] 42 :: Blk b1 [.int .i64 (o.k), .int .i64 (o.r.m), .int .i64 (o.r.s), .int .i64 (o.c.m), .int .i64 (o.c.s), .int .i64 (o.v), .int .i64 (o.at_)] 38 :: F)
          refine WP.fact (fun w h => own_oneCell h) (fun onr => ?_)
          refine WP.val rfl rfl rfl (Val.fieldAddr (j := 6) rfl Ty.fo42_4 rfl rfl) ?_
          refine WP.perm pl2 ?_
          refine WP.eff0 rfl rfl (Eff.store rfl Ty.sc40 rfl rfl onr (by simp) st6) ?_
          rintro _ _ rfl
          refine WP.nil ?_
          refine Out.block ?_
          refine Out.next ?_
          refine WPc.seq ?_
          refine WPD.start (Sat W (Blk b3 [.bool false, .int .i64 0, .int .i64 0, .int .i64 0, .int .i64 0, .int .i64 0, vr, .int .i64 0, .int .i64 0, .slice none 0 0] 42 :: Own 32 2 vr ((sinceV l o.at_ l.length).length) (flatOf Rv.cells (sinceV l o.at_ l.length)) :: A :: Blk b2 [.bool false, .int .i64 0, .int .i64 0, .int .i64 0, .int .i64 0, .int .i64 0, .slice none 0 0, .int .i64 0, .int .i64 0, .slice none 0 0] 42 :: Blk b1 [.int .i64 (o.k), .int .i64 (o.r.m), .int .i64 (o.r.s), .int .i64 (o.c.m), .int .i64 (o.c.s), .int .i64 (o.v), .int .i64 (o.at_)] 38 :: F)) Ty.mixed ?_
          refine WPD.takeM 0 rfl rfl rfl rfl (by kernel_rfl) (by kernel_rfl) (by kernel_rfl) (by kernel_rfl) (fun _ _ _ h => h) (fun _ h => h) (Val.move rfl rfl) ?_
          refine WPD.take 1 rfl rfl rfl rfl (by kernel_rfl) (by kernel_rfl) (by kernel_rfl) (by kernel_rfl) (fun _ _ _ h => h) (by kernel_rfl) (fun _ h => h) (Val.loadAgg (cs := [.bool false, .int .i64 0, .int .i64 0, .int .i64 0, .int .i64 0, .int .i64 0, vr, .int .i64 0, .int .i64 0, .slice none 0 0]) rfl Ty.ag42 rfl rfl (fun w h => h.range 0 rfl rfl)) ?_
          refine WPD.takeM 2 rfl rfl rfl rfl (by kernel_rfl) (by kernel_rfl) (by kernel_rfl) (by kernel_rfl) (fun _ _ _ h => h) (fun _ h => h) (Val.assign rfl rfl) ?_
          refine WPD.perm pl3 ?_
          refine WPD.stepC0 3 (by kernel_rfl) rfl rfl rfl (by kernel_rfl) (Eff.storeAgg (cs := [.bool false, .int .i64 0, .int .i64 0, .int .i64 0, .int .i64 0, .int .i64 0, vr, .int .i64 0, .int .i64 0, .slice none 0 0]) (C' := [.bool false, .int .i64 0, .int .i64 0, .int .i64 0, .int .i64 0, .int .i64 0, vr, .int .i64 0, .int .i64 0, .slice none 0 0]) rfl Ty.ag42 rfl rfl rfl (by simp only [List.all_cons, List.all_nil, Bool.and_true, oc_int, oc_str, oc_bool, oc_ptr, oc_slice, oc_iface, oc_map, onr]) (by simp) rfl) ?_
          rintro _ _ rfl
          refine ⟨(Sat W (Blk b2 [.bool false, .int .i64 0, .int .i64 0, .int .i64 0, .int .i64 0, .int .i64 0, vr, .int .i64 0, .int .i64 0, .slice none 0 0] 42 :: Blk b3 [.bool false, .int .i64 0, .int .i64 0, .int .i64 0, .int .i64 0, .int .i64 0, vr, .int .i64 0, .int .i64 0, .slice none 0 0] 42 :: Own 32 2 vr ((sinceV l o.at_ l.length).length) (flatOf Rv.cells (sinceV l o.at_ l.length)) :: A :: Blk b1 [.int .i64 (o.k), .int .i64 (o.r.m), .int .i64 (o.r.s), .int .i64 (o.c.m), .int .i64 (o.c.s), .int .i64 (o.v), .int .i64 (o.at_)] 38 :: F)), (fun _ h => h), ?_⟩
          refine WPD.takeM 4 rfl rfl rfl rfl (by kernel_rfl) (by kernel_rfl) (by kernel_rfl) (by kernel_rfl) (fun _ _ _ h => h) (fun _ h => h) (Val.assign rfl rfl) ?_
          refine WPD.done (by kernel_rfl) ?_
          refine Out.next ?_
          refine WPc.ret ?_
          refine Out.conv (fun w h => Sat.pure_mk trivial h) ?_
          have hk : kdo l o = (l, (⟨false, ⟨0, 0⟩, ⟨0, 0⟩, 0, (sinceV l o.at_ l.length)⟩ : KA), true) := by
            unfold kdo
            simp_all [KA0, Rv0]
          refine Out.perm pl2 ?_
          refine Out.drop ?_
          refine Out.perm pl4 ?_
          refine Out.drop ?_
          refine Out.perm pl3 ?_
          refine Out.perm pl3 ?_
          refine Out.perm pl2 ?_
          refine Out.perm pl3 ?_
          exact Out.retRun (L' := _) (results_tct (cs := [.bool false, .int .i64 0, .int .i64 0, .int .i64 0, .int .i64 0, .int .i64 0, vr, .int .i64 0, .int .i64 0, .slice none 0 0]) Try.results29 rfl rfl Ty.ag42 rfl rfl (fun w h => h.range 0 rfl rfl)) ⟨va, vr, _, by rw [hk] <;> rfl, by rw [hk]; exact .inr ⟨rfl, rfl, rfl⟩, by rw [hk] <;> rfl⟩ (fun w h => h.drop)
        · skip
          have h7 : ¬ (o.k = (6 : Int)) := h7
          refine WPc.seq ?_
          refine WPc.region ?_
          refine WP.val rfl rfl rfl (Val.eql rfl rfl rfl) ?_
          refine WP.val rfl rfl rfl (Val.assign rfl rfl) ?_
          refine WP.nil ?_
          refine Out.next ?_
          refine WPc.ifP rfl (fun h8 => ?_) (fun h8 => ?_)
          · skip
            have h8 : (o.k = (7 : Int)) := h8
            refine WPc.seq ?_
            refine WPc.region ?_
            refine WP.val rfl rfl rfl (Val.move rfl rfl) ?_
            refine WP.val rfl rfl rfl (Val.fieldAddr (j := 6) rfl Ty.fo38_4 rfl rfl) ?_
            refine WP.val rfl rfl rfl (Val.load rfl Ty.sc2 rfl (fun w h => h.cell 2 rfl rfl)) ?_
            refine WP.perm pl3 ?_
            refine WP.eff rfl rfl rfl (Eff.call rfl rfl Try.call14 (kept_spec A o.at_ true l hl va hva)) ?_
            rintro vr _ ⟨_, rfl, rfl⟩
            show WP _ _ _ _ _ _ _ (Own 32 2 vr ((keptV l o.at_ true l.length).length) (flatOf Rv.cells (keptV l o.at_ true l.length)) :: A :: Blk b3 [.bool false, .int .i64 0, .int .i64 0, .int .i64 0, .int .i64 0, .int .i64 0, .slice none 0 0, .int .i64 0, .int .i64 0, .slice none 0 0] 42 :: Blk b2 [.bool false, .int .i64 0, .int .i64 0, .int .i64 0, .int .i64 0, .int .i64 0, .slice none 0 0, .int .i64 0, .int .i64 0, .slice none 0 0] 42 :: Blk b1 [.int .i64 (o.k), .int .i64 (o.r.m), .int .i64 (o.r.s), .int .i64 (o.c.m), .int .i64 (o.c.s), .int .i64 (o.v), .int .i64 (o.at_)] 38 :: F)
            refine WP.fact (fun w h => own_oneCell h) (fun onr => ?_)
            refine WP.val rfl rfl rfl (Val.fieldAddr (j := 6) rfl Ty.fo42_4 rfl rfl) ?_
            refine WP.perm pl2 ?_
            refine WP.eff0 rfl rfl (Eff.store rfl Ty.sc40 rfl rfl onr (by simp) st6) ?_
            rintro _ _ rfl
            refine WP.nil ?_
            refine Out.next ?_
            refine WPc.region ?_
            refine WP.val rfl rfl rfl (Val.move rfl rfl) ?_
            refine WP.val rfl rfl rfl (Val.fieldAddr (j := 6) rfl Ty.fo38_4 rfl rfl) ?_
            refine WP.val rfl rfl rfl (Val.load rfl Ty.sc2 rfl (fun w h => h.cell 4 rfl rfl)) ?_
            refine WP.perm pl2 ?_
            refine WP.eff rfl rfl rfl (Eff.call rfl rfl Try.call8 (compacted_spec A o.at_ l hl va hva)) ?_
            rintro va2 _ ⟨_, rfl, rfl⟩
            show WP _ _ _ _ _ _ _ (Own 47 6 va2 ((comp l o.at_ l.length).length) (flatOf Vn.cells (comp l o.at_ l.length)) :: A :: Blk b3 [.bool false, .int .i64 0, .int .i64 0, .int .i64 0, .int .i64 0, .int .i64 0, vr, .int .i64 0, .int .i64 0, .slice none 0 0] 42 :: Own 32 2 vr ((keptV l o.at_ true l.length).length) (flatOf Rv.cells (keptV l o.at_ true l.length)) :: Blk b2 [.bool false, .int .i64 0, .int .i64 0, .int .i64 0, .int .i64 0, .int .i64 0, .slice none 0 0, .int .i64 0, .int .i64 0, .slice none 0 0] 42 :: Blk b1 [.int .i64 (o.k), .int .i64 (o.r.m), .int .i64 (o.r.s), .int .i64 (o.c.m), .int .i64 (o.c.s), .int .i64 (o.v), .int .i64 (o.at_)] 38 :: F)
            refine WP.val rfl rfl rfl (Val.assign rfl rfl) ?_
            refine WP.nil ?_
            refine Out.block ?_
            refine Out.next ?_
            refine WPc.seq ?_
            refine WPD.start (Sat W (Own 47 6 va2 ((comp l o.at_ l.length).length) (flatOf Vn.cells (comp l o.at_ l.length)) :: A :: Blk b3 [.bool false, .int .i64 0, .int .i64 0, .int .i64 0, .int .i64 0, .int .i64 0, vr, .int .i64 0, .int .i64 0, .slice none 0 0] 42 :: Own 32 2 vr ((keptV l o.at_ true l.length).length) (flatOf Rv.cells (keptV l o.at_ true l.length)) :: Blk b2 [.bool false, .int .i64 0, .int .i64 0, .int .i64 0, .int .i64 0, .int .i64 0, .slice none 0 0, .int .i64 0, .int .i64 0, .slice none 0 0] 42 :: Blk b1 [.int .i64 (o.k), .int .i64 (o.r.m), .int .i64 (o.r.s), .int .i64 (o.c.m), .int .i64 (o.c.s), .int .i64 (o.v), .int .i64 (o.at_)] 38 :: F)) Ty.mixed ?_
            refine WPD.takeM 0 rfl rfl rfl rfl (by kernel_rfl) (by kernel_rfl) (by kernel_rfl) (by kernel_rfl) (fun _ _ _ h => h) (fun _ h => h) (Val.move rfl rfl) ?_
            refine WPD.take 1 rfl rfl rfl rfl (by kernel_rfl) (by kernel_rfl) (by kernel_rfl) (by kernel_rfl) (fun _ _ _ h => h) (by kernel_rfl) (fun _ h => h) (Val.loadAgg (cs := [.bool false, .int .i64 0, .int .i64 0, .int .i64 0, .int .i64 0, .int .i64 0, vr, .int .i64 0, .int .i64 0, .slice none 0 0]) rfl Ty.ag42 rfl rfl (fun w h => h.range 2 rfl rfl)) ?_
            refine WPD.takeM 2 rfl rfl rfl rfl (by kernel_rfl) (by kernel_rfl) (by kernel_rfl) (by kernel_rfl) (fun _ _ _ h => h) (fun _ h => h) (Val.assign rfl rfl) ?_
            refine WPD.perm pl4 ?_
            refine WPD.stepC0 3 (by kernel_rfl) rfl rfl rfl (by kernel_rfl) (Eff.storeAgg (cs := [.bool false, .int .i64 0, .int .i64 0, .int .i64 0, .int .i64 0, .int .i64 0, vr, .int .i64 0, .int .i64 0, .slice none 0 0]) (C' := [.bool false, .int .i64 0, .int .i64 0, .int .i64 0, .int .i64 0, .int .i64 0, vr, .int .i64 0, .int .i64 0, .slice none 0 0]) rfl Ty.ag42 rfl rfl rfl (by simp only [List.all_cons, List.all_nil, Bool.and_true, oc_int, oc_str, oc_bool, oc_ptr, oc_slice, oc_iface, oc_map, onr]) (by simp) rfl) ?_
            rintro _ _ rfl
            refine ⟨(Sat W (Blk b2 [.bool false, .int .i64 0, .int .i64 0, .int .i64 0, .int .i64 0, .int .i64 0, vr, .int .i64 0, .int .i64 0, .slice none 0 0] 42 :: Own 47 6 va2 ((comp l o.at_ l.length).length) (flatOf Vn.cells (comp l o.at_ l.length)) :: A :: Blk b3 [.bool false, .int .i64 0, .int .i64 0, .int .i64 0, .int .i64 0, .int .i64 0, vr, .int .i64 0, .int .i64 0, .slice none 0 0] 42 :: Own 32 2 vr ((keptV l o.at_ true l.length).length) (flatOf Rv.cells (keptV l o.at_ true l.length)) :: Blk b1 [.int .i64 (o.k), .int .i64 (o.r.m), .int .i64 (o.r.s), .int .i64 (o.c.m), .int .i64 (o.c.s), .int .i64 (o.v), .int .i64 (o.at_)] 38 :: F)), (fun _ h => h), ?_⟩
            refine WPD.takeM 4 rfl rfl rfl rfl (by kernel_rfl) (by kernel_rfl) (by kernel_rfl) (by kernel_rfl) (fun _ _ _ h => h) (fun _ h => h) (Val.assign rfl rfl) ?_
            refine WPD.done (by kernel_rfl) ?_
            refine Out.next ?_
            refine WPc.ret ?_
            have hk : kdo l o = ((comp l o.at_ l.length), (⟨false, ⟨0, 0⟩, ⟨0, 0⟩, 0, (keptV l o.at_ true l.length)⟩ : KA), true) := by
              unfold kdo
              simp_all [KA0, Rv0]
            refine Out.perm pl3 ?_
            refine Out.drop ?_
            refine Out.perm pl4 ?_
            refine Out.drop ?_
            refine Out.perm pl2 ?_
            refine Out.perm pl3 ?_
            refine Out.perm pl3 ?_
            refine Out.perm pl3 ?_
            exact Out.retRun (L' := _) (results_tct (cs := [.bool false, .int .i64 0, .int .i64 0, .int .i64 0, .int .i64 0, .int .i64 0, vr, .int .i64 0, .int .i64 0, .slice none 0 0]) Try.results29 rfl rfl Ty.ag42 rfl rfl (fun w h => h.range 0 rfl rfl)) ⟨va2, vr, _, by rw [hk] <;> rfl, by rw [hk]; exact .inl rfl, by rw [hk] <;> rfl⟩ (fun w h => h.drop)
          · skip
            have h8 : ¬ (o.k = (7 : Int)) := h8
            refine WPc.seq ?_
            refine WPc.region ?_
            refine WP.val rfl rfl rfl (Val.eql rfl rfl rfl) ?_
            refine WP.val rfl rfl rfl (Val.assign rfl rfl) ?_
            refine WP.nil ?_
            refine Out.next ?_
            refine WPc.ifP rfl (fun h9 => ?_) (fun h9 => ?_)
            · skip
              have h9 : (o.k = (8 : Int)) := h9
              refine WPc.region ?_
              refine WP.val rfl rfl rfl (Val.move rfl rfl) ?_
              refine WP.val rfl rfl rfl (Val.fieldAddr (j := 6) rfl Ty.fo38_4 rfl rfl) ?_
              refine WP.val rfl rfl rfl (Val.load rfl Ty.sc2 rfl (fun w h => h.cell 2 rfl rfl)) ?_
              refine WP.perm pl3 ?_
              refine WP.eff rfl rfl rfl (Eff.call rfl rfl Try.call14 (kept_spec A o.at_ false l hl va hva)) ?_
              rintro vr _ ⟨_, rfl, rfl⟩
              show WP _ _ _ _ _ _ _ (Own 32 2 vr ((keptV l o.at_ false l.length).length) (flatOf Rv.cells (keptV l o.at_ false l.length)) :: A :: Blk b3 [.bool false, .int .i64 0, .int .i64 0, .int .i64 0, .int .i64 0, .int .i64 0, .slice none 0 0, .int .i64 0, .int .i64 0, .slice none 0 0] 42 :: Blk b2 [.bool false, .int .i64 0, .int .i64 0, .int .i64 0, .int .i64 0, .int .i64 0, .slice none 0 0, .int .i64 0, .int .i64 0, .slice none 0 0] 42 :: Blk b1 [.int .i64 (o.k), .int .i64 (o.r.m), .int .i64 (o.r.s), .int .i64 (o.c.m), .int .i64 (o.c.s), .int .i64 (o.v), .int .i64 (o.at_)] 38 :: F)
              refine WP.fact (fun w h => own_oneCell h) (fun onr => ?_)
              refine WP.val rfl rfl rfl (Val.fieldAddr (j := 6) rfl Ty.fo42_4 rfl rfl) ?_
              refine WP.perm pl2 ?_
              refine WP.eff0 rfl rfl (Eff.store rfl Ty.sc40 rfl rfl onr (by simp) st6) ?_
              rintro _ _ rfl
              refine WP.nil ?_
              refine Out.block ?_
              refine Out.next ?_
              refine WPc.seq ?_
              refine WPD.start (Sat W (Blk b3 [.bool false, .int .i64 0, .int .i64 0, .int .i64 0, .int .i64 0, .int .i64 0, vr, .int .i64 0, .int .i64 0, .slice none 0 0] 42 :: Own 32 2 vr ((keptV l o.at_ false l.length).length) (flatOf Rv.cells (keptV l o.at_ false l.length)) :: A :: Blk b2 [.bool false, .int .i64 0, .int .i64 0, .int .i64 0, .int .i64 0, .int .i64 0, .slice none 0 0, .int .i64 0, .int .i64 0, .slice none 0 0] 42 :: Blk b1 [.int .i64 (o.k), .int .i64 (o.r.m), .int .i64 (o.r.s), .int .i64 (o.c.m), .int .i64 (o.c.s), .int .i64 (o.v), .int .i64 (o.at_)] 38 :: F)) Ty.mixed ?_
              refine WPD.takeM 0 rfl rfl rfl rfl (by kernel_rfl) (by kernel_rfl) (by kernel_rfl) (by kernel_rfl) (fun _ _ _ h => h) (fun _ h => h) (Val.move rfl rfl) ?_
              refine WPD.take 1 rfl rfl rfl rfl (by kernel_rfl) (by kernel_rfl) (by kernel_rfl) (by kernel_rfl) (fun _ _ _ h => h) (by kernel_rfl) (fun _ h => h) (Val.loadAgg (cs := [.bool false, .int .i64 0, .int .i64 0, .int .i64 0, .int .i64 0, .int .i64 0, vr, .int .i64 0, .int .i64 0, .slice none 0 0]) rfl Ty.ag42 rfl rfl (fun w h => h.range 0 rfl rfl)) ?_
              refine WPD.takeM 2 rfl rfl rfl rfl (by kernel_rfl) (by kernel_rfl) (by kernel_rfl) (by kernel_rfl) (fun _ _ _ h => h) (fun _ h => h) (Val.assign rfl rfl) ?_
              refine WPD.perm pl3 ?_
              refine WPD.stepC0 3 (by kernel_rfl) rfl rfl rfl (by kernel_rfl) (Eff.storeAgg (cs := [.bool false, .int .i64 0, .int .i64 0, .int .i64 0, .int .i64 0, .int .i64 0, vr, .int .i64 0, .int .i64 0, .slice none 0 0]) (C' := [.bool false, .int .i64 0, .int .i64 0, .int .i64 0, .int .i64 0, .int .i64 0, vr, .int .i64 0, .int .i64 0, .slice none 0 0]) rfl Ty.ag42 rfl rfl rfl (by simp only [List.all_cons, List.all_nil, Bool.and_true, oc_int, oc_str, oc_bool, oc_ptr, oc_slice, oc_iface, oc_map, onr]) (by simp) rfl) ?_
              rintro _ _ rfl
              refine ⟨(Sat W (Blk b2 [.bool false, .int .i64 0, .int .i64 0, .int .i64 0, .int .i64 0, .int .i64 0, vr, .int .i64 0, .int .i64 0, .slice none 0 0] 42 :: Blk b3 [.bool false, .int .i64 0, .int .i64 0, .int .i64 0, .int .i64 0, .int .i64 0, vr, .int .i64 0, .int .i64 0, .slice none 0 0] 42 :: Own 32 2 vr ((keptV l o.at_ false l.length).length) (flatOf Rv.cells (keptV l o.at_ false l.length)) :: A :: Blk b1 [.int .i64 (o.k), .int .i64 (o.r.m), .int .i64 (o.r.s), .int .i64 (o.c.m), .int .i64 (o.c.s), .int .i64 (o.v), .int .i64 (o.at_)] 38 :: F)), (fun _ h => h), ?_⟩
              refine WPD.takeM 4 rfl rfl rfl rfl (by kernel_rfl) (by kernel_rfl) (by kernel_rfl) (by kernel_rfl) (fun _ _ _ h => h) (fun _ h => h) (Val.assign rfl rfl) ?_
              refine WPD.done (by kernel_rfl) ?_
              refine Out.next ?_
              refine WPc.ret ?_
              refine Out.conv (fun w h => Sat.pure_mk trivial h) ?_
              have hk : kdo l o = (l, (⟨false, ⟨0, 0⟩, ⟨0, 0⟩, 0, (keptV l o.at_ false l.length)⟩ : KA), true) := by
                unfold kdo
                simp_all [KA0, Rv0]
              refine Out.perm pl2 ?_
              refine Out.drop ?_
              refine Out.perm pl4 ?_
              refine Out.drop ?_
              refine Out.perm pl3 ?_
              refine Out.perm pl3 ?_
              refine Out.perm pl2 ?_
              refine Out.perm pl3 ?_
              exact Out.retRun (L' := _) (results_tct (cs := [.bool false, .int .i64 0, .int .i64 0, .int .i64 0, .int .i64 0, .int .i64 0, vr, .int .i64 0, .int .i64 0, .slice none 0 0]) Try.results29 rfl rfl Ty.ag42 rfl rfl (fun w h => h.range 0 rfl rfl)) ⟨va, vr, _, by rw [hk] <;> rfl, by rw [hk]; exact .inr ⟨rfl, rfl, rfl⟩, by rw [hk] <;> rfl⟩ (fun w h => h.drop)
            · skip
              have h9 : ¬ (o.k = (8 : Int)) := h9
              refine WPc.skip ?_
              refine Out.block ?_
              refine Out.next ?_
              refine WPc.seq ?_
              refine WPD.start (Sat W (Blk b3 [.bool false, .int .i64 0, .int .i64 0, .int .i64 0, .int .i64 0, .int .i64 0, .slice none 0 0, .int .i64 0, .int .i64 0, .slice none 0 0] 42 :: Blk b2 [.bool false, .int .i64 0, .int .i64 0, .int .i64 0, .int .i64 0, .int .i64 0, .slice none 0 0, .int .i64 0, .int .i64 0, .slice none 0 0] 42 :: Blk b1 [.int .i64 (o.k), .int .i64 (o.r.m), .int .i64 (o.r.s), .int .i64 (o.c.m), .int .i64 (o.c.s), .int .i64 (o.v), .int .i64 (o.at_)] 38 :: A :: F)) Ty.mixed ?_
              refine WPD.takeM 0 rfl rfl rfl rfl (by kernel_rfl) (by kernel_rfl) (by kernel_rfl) (by kernel_rfl) (fun _ _ _ h => h) (fun _ h => h) (Val.move rfl rfl) ?_
              refine WPD.take 1 rfl rfl rfl rfl (by kernel_rfl) (by kernel_rfl) (by kernel_rfl) (by kernel_rfl) (fun _ _ _ h => h) (by kernel_rfl) (fun _ h => h) (Val.loadAgg (cs := [.bool false, .int .i64 0, .int .i64 0, .int .i64 0, .int .i64 0, .int .i64 0, .slice none 0 0, .int .i64 0, .int .i64 0, .slice none 0 0]) rfl Ty.ag42 rfl rfl (fun w h => h.range 0 rfl rfl)) ?_
              refine WPD.takeM 2 rfl rfl rfl rfl (by kernel_rfl) (by kernel_rfl) (by kernel_rfl) (by kernel_rfl) (fun _ _ _ h => h) (fun _ h => h) (Val.assign rfl rfl) ?_
              refine WPD.perm pl1 ?_
              refine WPD.stepC0 3 (by kernel_rfl) rfl rfl rfl (by kernel_rfl) (Eff.storeAgg (cs := [.bool false, .int .i64 0, .int .i64 0, .int .i64 0, .int .i64 0, .int .i64 0, .slice none 0 0, .int .i64 0, .int .i64 0, .slice none 0 0]) (C' := [.bool false, .int .i64 0, .int .i64 0, .int .i64 0, .int .i64 0, .int .i64 0, .slice none 0 0, .int .i64 0, .int .i64 0, .slice none 0 0]) rfl Ty.ag42 rfl rfl rfl rfl (by simp) rfl) ?_
              rintro _ _ rfl
              refine ⟨(Sat W (Blk b2 [.bool false, .int .i64 0, .int .i64 0, .int .i64 0, .int .i64 0, .int .i64 0, .slice none 0 0, .int .i64 0, .int .i64 0, .slice none 0 0] 42 :: Blk b3 [.bool false, .int .i64 0, .int .i64 0, .int .i64 0, .int .i64 0, .int .i64 0, .slice none 0 0, .int .i64 0, .int .i64 0, .slice none 0 0] 42 :: Blk b1 [.int .i64 (o.k), .int .i64 (o.r.m), .int .i64 (o.r.s), .int .i64 (o.c.m), .int .i64 (o.c.s), .int .i64 (o.v), .int .i64 (o.at_)] 38 :: A :: F)), (fun _ h => h), ?_⟩
              refine WPD.takeM 4 rfl rfl rfl rfl (by kernel_rfl) (by kernel_rfl) (by kernel_rfl) (by kernel_rfl) (fun _ _ _ h => h) (fun _ h => h) (Val.assign rfl rfl) ?_
              refine WPD.done (by kernel_rfl) ?_
              refine Out.next ?_
              refine WPc.ret ?_
              refine Out.conv (fun w h => h.ownNil (e := 32) (k := 2)) ?_
              refine Out.conv (fun w h => Sat.pure_mk trivial h) ?_
              have hk : kdo l o = (l, (⟨false, ⟨0, 0⟩, ⟨0, 0⟩, 0, []⟩ : KA), true) := by
                unfold kdo
                simp_all [KA0, Rv0]
              refine Out.perm pl3 ?_
              refine Out.drop ?_
              refine Out.perm pl3 ?_
              refine Out.drop ?_
              refine Out.perm pl3 ?_
              refine Out.perm pl2 ?_
              refine Out.perm pl2 ?_
              refine Out.perm pl3 ?_
              exact Out.retRun (L' := _) (results_tct (cs := [.bool false, .int .i64 0, .int .i64 0, .int .i64 0, .int .i64 0, .int .i64 0, .slice none 0 0, .int .i64 0, .int .i64 0, .slice none 0 0]) Try.results29 rfl rfl Ty.ag42 rfl rfl (fun w h => h.range 0 rfl rfl)) ⟨va, (.slice none 0 0), _, by rw [hk] <;> rfl, by rw [hk]; exact .inr ⟨rfl, rfl, rfl⟩, by rw [hk] <;> rfl⟩ (fun w h => h.drop)

end Go.Proofs.Ythicijpjpijdjaa.Kk

