import Derived.Test.YthmkdioafjmclaaSlTerse
import Derived.Test.YthmkdioafjmclaaBt12
namespace Go.Proofs.Ythmkdioafjmclaa.Bt13
open Go.RowKit Go.Proofs.Ythmkdioafjmclaa Go.Proofs.Ythmkdioafjmclaa.Sl Go.Proofs.Ythmkdioafjmclaa.Bt Go.Proofs.Ythmkdioafjmclaa.Bt2 Go.Proofs.Ythmkdioafjmclaa.Bt3 Go.Proofs.Ythmkdioafjmclaa.Bt4 Go.Proofs.Ythmkdioafjmclaa.Bt5 Go.Proofs.Ythmkdioafjmclaa.Bt6 Go.Proofs.Ythmkdioafjmclaa.Bt7 Go.Proofs.Ythmkdioafjmclaa.Bt8 Go.Proofs.Ythmkdioafjmclaa.Bt9 Go.Proofs.Ythmkdioafjmclaa.Bt10 Go.Proofs.Ythmkdioafjmclaa.Bt11 Go.Proofs.Ythmkdioafjmclaa.Bt12
set_option linter.unusedVariables false
set_option linter.unusedSimpArgs false
set_option linter.unusedSectionVars false

set_option maxRecDepth 100000 in
set_option maxHeartbeats 2000000 in
theorem it_leaf_row (A : HProp) (Q : Value → Prop) (ob pb : Nat) (o : Bop)  (t : Tr) (p : Nat) (bi oi ci : Nat) (hi : ∀ w, Holds A w → ∀ i x, t.is[i]? = some x → w.rangeAt bi (oi + i * 2) (El.cells x)) (vc : Value) (cw : Value) (hn : NodeAt A Q (p, t) (.slice (some ⟨bi, oi, none⟩) t.is.length ci) (vc) cw []) (hb0 : Bool) (out : List El) (hi6 : t.is.length ≤ 1000000) (hsz : out.length + (ino 0 t).length ≤ 1000000) : Does Try.prog 131 [.pointer (some ⟨p, 0, none⟩), .int .i64 1, .agg #[.int .i64 0, .int .i64 0, .bool false], .agg #[.int .i64 0, .int .i64 0, .bool false], .bool false, .bool (hb0), .func (.func 109) #[] #[.pointer (some ⟨ob, 0, none⟩), .pointer (some ⟨pb, 0, none⟩)]] [A, OutP ob out, Blk pb [.int .i64 (o.kind), .int .i64 (o.tree), .int .i64 (o.el.k), .int .i64 (o.el.v), .int .i64 (o.from_), .int .i64 (o.till), .int .i64 (o.most), .bool (o.again)] 57] (fun v L => ∃ hb, v = .tuple #[.bool hb, .bool (vis o.most out (ino 0 t)).2] ∧ L = [A, OutP ob (vis o.most out (ino 0 t)).1, Blk pb [.int .i64 (o.kind), .int .i64 (o.tree), .int .i64 (o.el.k), .int .i64 (o.el.v), .int .i64 (o.from_), .int .i64 (o.till), .int .i64 (o.most), .bool (o.again)] 57]) := by
 refine Does.enter 343 Try.func131 rfl rfl rfl fun W F => ?_
 show WPc _ _ _ _ _ [(0, .pointer (some ⟨p, 0, none⟩)), (1, .int .i64 1), (2, .agg #[.int .i64 0, .int .i64 0, .bool false]), (3, .agg #[.int .i64 0, .int .i64 0, .bool false]), (4, .bool false), (5, .bool (hb0)), (6, .func (.func 109) #[] #[.pointer (some ⟨ob, 0, none⟩), .pointer (some ⟨pb, 0, none⟩)])] (A :: OutP ob out :: Blk pb [.int .i64 (o.kind), .int .i64 (o.tree), .int .i64 (o.el.k), .int .i64 (o.el.v), .int .i64 (o.from_), .int .i64 (o.till), .int .i64 (o.most), .bool (o.again)] 57 :: F)
 refine WPc.sr ?_
 refine WP.eff rfl rfl rfl (Eff.box (C := [.int .i64 0, .int .i64 0, .bool false]) rfl rfl rfl) ?_
 rintro _ _ ⟨b1, rfl, rfl⟩
 refine WP.eff rfl rfl rfl (Eff.box (C := [.int .i64 0, .int .i64 0, .bool false]) rfl rfl rfl) ?_
 rintro _ _ ⟨b2, rfl, rfl⟩
 refine WP.val rfl rfl rfl (Val.assign rfl rfl) ?_
 refine WP.val rfl rfl rfl (Val.assign rfl rfl) ?_
 refine WP.nx ?_
 refine WPc.sr ?_
 refine WP.val rfl rfl rfl (Val.assign rfl rfl) ?_
 refine WP.val rfl rfl rfl (Val.assign rfl rfl) ?_
 refine WP.nx ?_
 refine WPc.sr ?_
 refine WP.val rfl rfl rfl (Val.assign rfl rfl) ?_
 refine WP.nx ?_
 refine WPc.seq ?_
 refine WPc.sr ?_
 refine WP.val rfl rfl rfl (Val.move rfl rfl) ?_
 refine WP.nx ?_
 refine WPc.block ?_
 refine WPc.sr ?_
 refine WP.val rfl rfl rfl (Val.eqlK rfl rfl rfl rfl) ?_
 refine WP.val rfl rfl rfl (Val.assign rfl rfl) ?_
 refine WP.nx ?_
 refine WPc.condT rfl rfl ?_
 refine WPc.seq ?_
 refine WPc.sr ?_
 refine WP.val rfl rfl rfl (Val.fieldAddr (j := 2) rfl Ty.fo251_1 rfl rfl) ?_
 refine WP.val rfl rfl rfl (Val.load rfl Ty.sc4 rfl (fun w h => h.cell 1 rfl rfl)) ?_
 refine WP.nx ?_
 refine WPc.condF rfl rfl ?_
 refine WPc.skip ?_
 refine Out.next ?_
 refine WPc.seq ?_
 refine WPc.sr ?_
 refine WP.val rfl rfl rfl (Val.move rfl rfl) ?_
 refine WP.val rfl rfl rfl (Val.assign rfl rfl) ?_
 refine WP.nx ?_
 refine WPc.block ?_
 iterate 3 (refine WPc.perm pl4 ?_)
 refine WPc.perm pl3 ?_
 refine WPc.perm pl4 ?_
 refine WPc.loop (ι := Nat × Bool × List El) (fun ⟨i, hb, v⟩ => i ≤ t.is.length ∧ vis o.most out (pre 0 t i) = (v, true)) (fun ⟨i, hb, v⟩ => [(0, .pointer (some ⟨p, 0, none⟩)), (1, .int .i64 1), (4, .bool false), (5, .bool (hb)), (6, .func (.func 109) #[] #[.pointer (some ⟨ob, 0, none⟩), .pointer (some ⟨pb, 0, none⟩)]), (9, .pointer (some ⟨b1, 0, none⟩)), (10, .pointer (some ⟨b2, 0, none⟩)), (19, .int .i64 (((i : Nat) : Int)))]) (fun ⟨i, hb, v⟩ => Blk b1 [.int .i64 0, .int .i64 0, .bool false] 251 :: Blk b2 [.int .i64 0, .int .i64 0, .bool false] 251 :: A :: OutP ob v :: Blk pb [.int .i64 (o.kind), .int .i64 (o.tree), .int .i64 (o.el.k), .int .i64 (o.el.v), .int .i64 (o.from_), .int .i64 (o.till), .int .i64 (o.most), .bool (o.again)] 57 :: F) (fun ⟨i, hb, v⟩ => t.is.length - i) (0, hb0, out) ⟨Nat.zero_le _, by rw [pre_zero]; rfl⟩ ((Sub.cons rfl (Sub.cons rfl (Sub.cons rfl (Sub.cons rfl (Sub.cons rfl (Sub.cons rfl (Sub.cons rfl (Sub.cons rfl Sub.nil))))))))) (fun _ h => h) ?_
 rintro ⟨i, hb, v⟩ ⟨hi1, hv⟩
 show WPc _ _ _ _ _ [(0, _), (1, _), (4, _), (5, .bool (hb)), (6, _), (9, .pointer (some ⟨b1, 0, none⟩)), (10, .pointer (some ⟨b2, 0, none⟩)), (19, .int .i64 (((i : Nat) : Int)))] (Blk b1 [.int .i64 0, .int .i64 0, .bool false] 251 :: Blk b2 [.int .i64 0, .int .i64 0, .bool false] 251 :: _ :: OutP ob v :: _)
 replace hi1 : i ≤ t.is.length := hi1
 refine WPc.seq ?_
 refine WPc.sr ?_
 refine WP.val rfl rfl rfl (Val.move rfl rfl) ?_
 refine WP.val rfl rfl rfl (Val.move rfl rfl) ?_
 refine WP.val rfl rfl rfl (Val.nilCheck rfl rfl) ?_
 refine WP.val rfl rfl rfl (Val.fieldAddr (j := 0) rfl Ty.fo213_0 rfl rfl) ?_
 refine WP.val rfl rfl rfl (Val.load (v := .slice (some ⟨bi, oi, none⟩) t.is.length ci) rfl Ty.sc210 rfl (fun w h => (hn.cells w (h.at 2 rfl)).1)) ?_
 refine WP.val rfl rfl rfl (Val.len rfl Ty.sl210 rfl) ?_
 refine WP.val rfl rfl rfl (Val.lss rfl rfl rfl) ?_
 refine WP.nx ?_
 refine WPc.ifP rfl (fun h1 => ?_) (fun h1 => ?_)
 ·
  have h1 : (((i : Nat) : Int) < ((t.is.length : Nat) : Int)) := h1
  refine WPc.skip ?_
  refine Out.next ?_
  refine WPc.seq ?_
  refine WPc.block ?_
  refine WPc.seq ?_
  refine WPc.seq ?_
  obtain ⟨x, hx⟩ : ∃ x, t.is[i]? = some x := ⟨_, List.getElem?_eq_getElem (by omega)⟩
  refine WPc.region ?_
  refine WP.val rfl rfl rfl (Val.move rfl rfl) ?_
  refine WP.val rfl rfl rfl (Val.nilCheck rfl rfl) ?_
  refine WP.val rfl rfl rfl (Val.fieldAddr (j := 1) rfl Ty.fo213_1 rfl rfl) ?_
  refine WP.val rfl rfl rfl (Val.load (v := vc) rfl Ty.sc211 rfl (fun w h => (hn.cells w (h.at 2 rfl)).2.1)) ?_
  refine WP.val rfl rfl rfl (Rd.len hn.kids rfl Ty.sl211 rfl) ?_
  refine WP.val rfl rfl rfl (Val.gtr rfl rfl rfl) ?_
  refine WP.nx ?_
  refine WPc.ifP rfl (fun h2 => ?_) (fun h2 => ?_)
  ·
   have h2 : ((0 : Int) < (0 : Int)) := h2
   exfalso; omega
  ·
   have h2 : ¬ ((0 : Int) < (0 : Int)) := h2
   refine WPc.skip ?_
   refine Out.next ?_
   refine WPc.seq ?_
   refine WPc.seq ?_
   have hvw := hv
   refine WPD.s0 Ty.mixed ?_
   refine WPD.tM 0 rfl rfl rfl rfl (Val.move rfl rfl) ?_
   refine WPD.tM 1 rfl rfl rfl rfl (Val.not rfl rfl) ?_
   refine WPD.tM 2 rfl rfl rfl rfl (Val.move rfl rfl) ?_
   refine WPD.takeGM 3 rfl rfl rfl rfl rfl rfl rfl rfl (by kernel_rfl) (by kernel_rfl) (by kernel_rfl) (by kernel_rfl) (fun _ _ _ h => h) (fun _ h => h) (Val.move rfl rfl) ?_
   refine WPD.takeGM 4 rfl rfl rfl rfl rfl rfl rfl rfl (by kernel_rfl) (by kernel_rfl) (by kernel_rfl) (by kernel_rfl) (fun _ _ _ h => h) (fun _ h => h) (Val.not rfl rfl) ?_
   refine WPD.tM 5 rfl rfl rfl rfl (Val.pickT rfl rfl rfl) ?_
   refine WPD.tM 6 rfl rfl rfl rfl (Val.move rfl rfl) ?_
   refine WPD.splitB 85 rfl (fun h3 => ?_) (fun h3 => ?_)
   ·
    refine WPD.takeGM 7 rfl rfl rfl rfl rfl rfl rfl rfl (by kernel_rfl) (by kernel_rfl) (by kernel_rfl) (by kernel_rfl) (fun _ _ _ h => h) (fun _ h => h) (Val.fieldAddr (j := 2) rfl Ty.fo251_1 rfl rfl) ?_
    refine WPD.takeG 8 rfl rfl rfl rfl rfl rfl rfl rfl (by kernel_rfl) (by kernel_rfl) (by kernel_rfl) (by kernel_rfl) (fun _ _ _ h => h) (by kernel_rfl) (fun _ h => h) (Val.load rfl Ty.sc4 rfl (fun w h => h.cell 0 rfl rfl)) ?_
    refine WPD.tM 9 rfl rfl rfl rfl (Val.pickT rfl rfl rfl) ?_
    refine WPD.tM 10 rfl rfl rfl rfl (Val.move rfl rfl) ?_
    refine WPD.skip 11 rfl rfl rfl rfl rfl rfl rfl rfl (by kernel_rfl) (by kernel_rfl) (by kernel_rfl) (by kernel_rfl) (fun _ _ _ h => h) (fun _ h => h) ?_
    refine WPD.skip 12 rfl rfl rfl rfl rfl rfl rfl rfl (by kernel_rfl) (by kernel_rfl) (by kernel_rfl) (by kernel_rfl) (fun _ _ _ h => h) (fun _ h => h) ?_
    refine WPD.skip 13 rfl rfl rfl rfl rfl rfl rfl rfl (by kernel_rfl) (by kernel_rfl) (by kernel_rfl) (by kernel_rfl) (fun _ _ _ h => h) (fun _ h => h) ?_
    refine WPD.skip 14 rfl rfl rfl rfl rfl rfl rfl rfl (by kernel_rfl) (by kernel_rfl) (by kernel_rfl) (by kernel_rfl) (fun _ _ _ h => h) (fun _ h => h) ?_
    refine WPD.skip 15 rfl rfl rfl rfl rfl rfl rfl rfl (by kernel_rfl) (by kernel_rfl) (by kernel_rfl) (by kernel_rfl) (fun _ _ _ h => h) (fun _ h => h) ?_
    refine WPD.skip 16 rfl rfl rfl rfl rfl rfl rfl rfl (by kernel_rfl) (by kernel_rfl) (by kernel_rfl) (by kernel_rfl) (fun _ _ _ h => h) (fun _ h => h) ?_
    refine WPD.skip 17 rfl rfl rfl rfl rfl rfl rfl rfl (by kernel_rfl) (by kernel_rfl) (by kernel_rfl) (by kernel_rfl) (fun _ _ _ h => h) (fun _ h => h) ?_
    refine WPD.skip 18 rfl rfl rfl rfl rfl rfl rfl rfl (by kernel_rfl) (by kernel_rfl) (by kernel_rfl) (by kernel_rfl) (fun _ _ _ h => h) (fun _ h => h) ?_
    refine WPD.skip 19 rfl rfl rfl rfl rfl rfl rfl rfl (by kernel_rfl) (by kernel_rfl) (by kernel_rfl) (by kernel_rfl) (fun _ _ _ h => h) (fun _ h => h) ?_
    refine WPD.skip 20 rfl rfl rfl rfl rfl rfl rfl rfl (by kernel_rfl) (by kernel_rfl) (by kernel_rfl) (by kernel_rfl) (fun _ _ _ h => h) (fun _ h => h) ?_
    refine WPD.skip 21 rfl rfl rfl rfl rfl rfl rfl rfl (by kernel_rfl) (by kernel_rfl) (by kernel_rfl) (by kernel_rfl) (fun _ _ _ h => h) (fun _ h => h) ?_
    refine WPD.skip 22 rfl rfl rfl rfl rfl rfl rfl rfl (by kernel_rfl) (by kernel_rfl) (by kernel_rfl) (by kernel_rfl) (fun _ _ _ h => h) (fun _ h => h) ?_
    refine WPD.skip 23 rfl rfl rfl rfl rfl rfl rfl rfl (by kernel_rfl) (by kernel_rfl) (by kernel_rfl) (by kernel_rfl) (fun _ _ _ h => h) (fun _ h => h) ?_
    refine WPD.skip 24 rfl rfl rfl rfl rfl rfl rfl rfl (by kernel_rfl) (by kernel_rfl) (by kernel_rfl) (by kernel_rfl) (fun _ _ _ h => h) (fun _ h => h) ?_
    refine WPD.skip 25 rfl rfl rfl rfl rfl rfl rfl rfl (by kernel_rfl) (by kernel_rfl) (by kernel_rfl) (by kernel_rfl) (fun _ _ _ h => h) (fun _ h => h) ?_
    refine WPD.skip 26 rfl rfl rfl rfl rfl rfl rfl rfl (by kernel_rfl) (by kernel_rfl) (by kernel_rfl) (by kernel_rfl) (fun _ _ _ h => h) (fun _ h => h) ?_
    refine WPD.skip 27 rfl rfl rfl rfl rfl rfl rfl rfl (by kernel_rfl) (by kernel_rfl) (by kernel_rfl) (by kernel_rfl) (fun _ _ _ h => h) (fun _ h => h) ?_
    refine WPD.skip 28 rfl rfl rfl rfl rfl rfl rfl rfl (by kernel_rfl) (by kernel_rfl) (by kernel_rfl) (by kernel_rfl) (fun _ _ _ h => h) (fun _ h => h) ?_
    refine WPD.tM 29 rfl rfl rfl rfl (Val.pickF rfl rfl rfl) ?_
    refine WPD.done (by kernel_rfl) ?_
    refine Out.next ?_
    refine WPc.condF rfl rfl ?_
    refine WPc.skip ?_
    refine Out.next ?_
    refine WPc.sr ?_
    refine WP.val rfl rfl rfl (Val.assign rfl rfl) ?_
    refine WP.nx ?_
    refine WPc.seq ?_
    refine WPc.seq ?_
    refine WPD.s0 Ty.mixed ?_
    refine WPD.tM 0 rfl rfl rfl rfl (Val.fieldAddr (j := 2) rfl Ty.fo251_1 rfl rfl) ?_
    refine WPD.tL 1 rfl rfl rfl rfl (fun _ h => h) (Val.load rfl Ty.sc4 rfl (fun w h => h.cell 1 rfl rfl)) ?_
    refine WPD.tM 2 rfl rfl rfl rfl (Val.move rfl rfl) ?_
    refine WPD.skip 3 rfl rfl rfl rfl rfl rfl rfl rfl (by kernel_rfl) (by kernel_rfl) (by kernel_rfl) (by kernel_rfl) (fun _ _ _ h => h) (fun _ h => h) ?_
    refine WPD.skip 4 rfl rfl rfl rfl rfl rfl rfl rfl (by kernel_rfl) (by kernel_rfl) (by kernel_rfl) (by kernel_rfl) (fun _ _ _ h => h) (fun _ h => h) ?_
    refine WPD.skip 5 rfl rfl rfl rfl rfl rfl rfl rfl (by kernel_rfl) (by kernel_rfl) (by kernel_rfl) (by kernel_rfl) (fun _ _ _ h => h) (fun _ h => h) ?_
    refine WPD.skip 6 rfl rfl rfl rfl rfl rfl rfl rfl (by kernel_rfl) (by kernel_rfl) (by kernel_rfl) (by kernel_rfl) (fun _ _ _ h => h) (fun _ h => h) ?_
    refine WPD.skip 7 rfl rfl rfl rfl rfl rfl rfl rfl (by kernel_rfl) (by kernel_rfl) (by kernel_rfl) (by kernel_rfl) (fun _ _ _ h => h) (fun _ h => h) ?_
    refine WPD.skip 8 rfl rfl rfl rfl rfl rfl rfl rfl (by kernel_rfl) (by kernel_rfl) (by kernel_rfl) (by kernel_rfl) (fun _ _ _ h => h) (fun _ h => h) ?_
    refine WPD.skip 9 rfl rfl rfl rfl rfl rfl rfl rfl (by kernel_rfl) (by kernel_rfl) (by kernel_rfl) (by kernel_rfl) (fun _ _ _ h => h) (fun _ h => h) ?_
    refine WPD.skip 10 rfl rfl rfl rfl rfl rfl rfl rfl (by kernel_rfl) (by kernel_rfl) (by kernel_rfl) (by kernel_rfl) (fun _ _ _ h => h) (fun _ h => h) ?_
    refine WPD.skip 11 rfl rfl rfl rfl rfl rfl rfl rfl (by kernel_rfl) (by kernel_rfl) (by kernel_rfl) (by kernel_rfl) (fun _ _ _ h => h) (fun _ h => h) ?_
    refine WPD.skip 12 rfl rfl rfl rfl rfl rfl rfl rfl (by kernel_rfl) (by kernel_rfl) (by kernel_rfl) (by kernel_rfl) (fun _ _ _ h => h) (fun _ h => h) ?_
    refine WPD.skip 13 rfl rfl rfl rfl rfl rfl rfl rfl (by kernel_rfl) (by kernel_rfl) (by kernel_rfl) (by kernel_rfl) (fun _ _ _ h => h) (fun _ h => h) ?_
    refine WPD.skip 14 rfl rfl rfl rfl rfl rfl rfl rfl (by kernel_rfl) (by kernel_rfl) (by kernel_rfl) (by kernel_rfl) (fun _ _ _ h => h) (fun _ h => h) ?_
    refine WPD.skip 15 rfl rfl rfl rfl rfl rfl rfl rfl (by kernel_rfl) (by kernel_rfl) (by kernel_rfl) (by kernel_rfl) (fun _ _ _ h => h) (fun _ h => h) ?_
    refine WPD.skip 16 rfl rfl rfl rfl rfl rfl rfl rfl (by kernel_rfl) (by kernel_rfl) (by kernel_rfl) (by kernel_rfl) (fun _ _ _ h => h) (fun _ h => h) ?_
    refine WPD.skip 17 rfl rfl rfl rfl rfl rfl rfl rfl (by kernel_rfl) (by kernel_rfl) (by kernel_rfl) (by kernel_rfl) (fun _ _ _ h => h) (fun _ h => h) ?_
    refine WPD.skip 18 rfl rfl rfl rfl rfl rfl rfl rfl (by kernel_rfl) (by kernel_rfl) (by kernel_rfl) (by kernel_rfl) (fun _ _ _ h => h) (fun _ h => h) ?_
    refine WPD.skip 19 rfl rfl rfl rfl rfl rfl rfl rfl (by kernel_rfl) (by kernel_rfl) (by kernel_rfl) (by kernel_rfl) (fun _ _ _ h => h) (fun _ h => h) ?_
    refine WPD.skip 20 rfl rfl rfl rfl rfl rfl rfl rfl (by kernel_rfl) (by kernel_rfl) (by kernel_rfl) (by kernel_rfl) (fun _ _ _ h => h) (fun _ h => h) ?_
    refine WPD.tM 21 rfl rfl rfl rfl (Val.pickF rfl rfl rfl) ?_
    refine WPD.done (by kernel_rfl) ?_
    refine Out.next ?_
    refine WPc.condF rfl rfl ?_
    refine WPc.skip ?_
    refine Out.next ?_
    refine WPc.sr ?_
    refine WP.val rfl rfl rfl (Val.move rfl rfl) ?_
    refine WP.val rfl rfl rfl (Val.move rfl rfl) ?_
    refine WP.val rfl rfl rfl (Val.nilCheck rfl rfl) ?_
    refine WP.val rfl rfl rfl (Val.fieldAddr (j := 0) rfl Ty.fo213_0 rfl rfl) ?_
    refine WP.val rfl rfl rfl (Val.load (v := .slice (some ⟨bi, oi, none⟩) t.is.length ci) rfl Ty.sc210 rfl (fun w h => (hn.cells w (h.at 2 rfl)).1)) ?_
    refine WP.val rfl rfl rfl (Val.move rfl rfl) ?_
    refine WP.val rfl rfl rfl (Val.indexAddr (j := i) (q := oi + i * 2) rfl Ty.sl210 rfl rfl (by omega) (by omega) (by omega)) ?_
    refine WP.val rfl rfl rfl (Val.loadAgg (cs := [.int .i64 (x.k), .int .i64 (x.v)]) rfl Ty.ag55 rfl (by rfl) (fun w h => hi w (h.at 2 rfl) i x hx)) ?_
    refine WP.perm pl4 ?_
    refine WP.perm pl4 ?_
    refine WP.eff rfl rfl rfl (Eff.callF (args' := [.agg #[.int .i64 (x.k), .int .i64 (x.v)], .pointer (some ⟨ob, 0, none⟩), .pointer (some ⟨pb, 0, none⟩)]) rfl rfl rfl rfl Try.call109 (cb_spec ob pb v o x (by have h1 := vis_len (most := o.most) (pre 0 t i) out; rw [hvw] at h1; obtain ⟨R, hR⟩ := pre_ino (h := 0) (t := t) (i + 1); rw [pre_leaf hx] at hR; rw [hR] at hsz; simp only [List.length_append, List.length_singleton] at hsz h1; omega))) ?_
    rintro _ _ ⟨_, ⟨rfl, rfl⟩, rfl⟩
    show WP _ _ _ _ _ _ _ (OutP ob (v ++ [x]) :: _)
    refine WP.val rfl rfl rfl (Val.notP rfl rfl) ?_
    refine WP.nx ?_
    refine WPc.ifP rfl (fun h4 => ?_) (fun h4 => ?_)
    ·
     have h4 : (¬ (o.most ≤ 0 ∨ (v.length : Int) + 1 < o.most)) := h4
     refine WPc.sr ?_
     refine WP.val rfl rfl rfl (Val.move rfl rfl) ?_
     refine WP.val rfl rfl rfl (Val.assign rfl rfl) ?_
     refine WP.val rfl rfl rfl (Val.assign rfl rfl) ?_
     refine WP.nx ?_
     refine WPc.ret ?_
     refine Out.block_ret ?_
     refine Out.then_ret ?_
     refine Out.then_ret ?_
     refine Out.block_ret ?_
     refine Out.then_ret ?_
     refine Out.block_ret ?_
     refine Out.then_ret ?_
     obtain ⟨R, hR⟩ := pre_ino (h := 0) (t := t) (i + 1)
     rw [pre_leaf hx] at hR
     have hfin : vis o.most out (ino 0 t) = (v ++ [x], false) := by rw [hR]; refine vis_stop _ _ _ _ ?_; rw [vis_app _ _ _ _ hvw]; simp only [vis]; rw [if_neg (by first | assumption | exact Decidable.not_not.1 (by assumption) | omega)]
     refine Out.perm pl2 ?_
     refine Out.drop ?_
     refine Out.perm pl2 ?_
     refine Out.drop ?_
     refine Out.perm pl1 ?_
     refine Out.perm pl1 ?_
     refine Out.perm pl2 ?_
     exact Out.ret2 (L' := _) Try.results131 rfl rfl ⟨_, by first | (rw [hfin]; done) | (rw [hfin]; rfl), by rw [hfin]⟩ (fun _ h => h)
    ·
     have h4 : ¬ (¬ (o.most ≤ 0 ∨ (v.length : Int) + 1 < o.most)) := h4
     refine WPc.skip ?_
     refine Out.block ?_
     refine Out.next ?_
     refine WPc.region ?_
     refine WP.val rfl rfl rfl (Val.move rfl rfl) ?_
     refine WP.val rfl rfl rfl (Val.add (z := ((i + 1 : Nat) : Int)) rfl rfl rfl ((w64 (by omega) (by omega)).trans (by omega))) ?_
     refine WP.val rfl rfl rfl (Val.assign rfl rfl) ?_
     refine WP.nil ?_
     have hvn : vis o.most out (pre 0 t (i + 1)) = (v ++ [x], true) := by rw [pre_leaf hx, vis_app _ _ _ _ hvw]; simp only [vis]; rw [if_pos (by first | assumption | exact Decidable.not_not.1 (by assumption) | omega)]
     refine Out.perm pl1 ?_
     refine Out.perm pl1 ?_
     iterate 3 (refine Out.perm pl4 ?_)
     refine Out.again (i + 1, true, v ++ [x]) ?_ ?_ ?_ ?_
     ·
      exact ⟨by omega, hvn⟩
     ·
      (first | omega | (dsimp only; omega))
     ·
      exact (Sub.cons rfl (Sub.cons rfl (Sub.cons rfl (Sub.cons rfl (Sub.cons rfl (Sub.cons rfl (Sub.cons rfl (Sub.cons rfl Sub.nil))))))))
     ·
      exact (fun _ h => h)
   ·
    refine WPD.skip 7 rfl rfl rfl rfl rfl rfl rfl rfl (by kernel_rfl) (by kernel_rfl) (by kernel_rfl) (by kernel_rfl) (fun _ _ _ h => h) (fun _ h => h) ?_
    refine WPD.skip 8 rfl rfl rfl rfl rfl rfl rfl rfl (by kernel_rfl) (by kernel_rfl) (by kernel_rfl) (by kernel_rfl) (fun _ _ _ h => h) (fun _ h => h) ?_
    refine WPD.tM 9 rfl rfl rfl rfl (Val.pickF rfl rfl rfl) ?_
    refine WPD.tM 10 rfl rfl rfl rfl (Val.move rfl rfl) ?_
    refine WPD.skip 11 rfl rfl rfl rfl rfl rfl rfl rfl (by kernel_rfl) (by kernel_rfl) (by kernel_rfl) (by kernel_rfl) (fun _ _ _ h => h) (fun _ h => h) ?_
    refine WPD.skip 12 rfl rfl rfl rfl rfl rfl rfl rfl (by kernel_rfl) (by kernel_rfl) (by kernel_rfl) (by kernel_rfl) (fun _ _ _ h => h) (fun _ h => h) ?_
    refine WPD.skip 13 rfl rfl rfl rfl rfl rfl rfl rfl (by kernel_rfl) (by kernel_rfl) (by kernel_rfl) (by kernel_rfl) (fun _ _ _ h => h) (fun _ h => h) ?_
    refine WPD.skip 14 rfl rfl rfl rfl rfl rfl rfl rfl (by kernel_rfl) (by kernel_rfl) (by kernel_rfl) (by kernel_rfl) (fun _ _ _ h => h) (fun _ h => h) ?_
    refine WPD.skip 15 rfl rfl rfl rfl rfl rfl rfl rfl (by kernel_rfl) (by kernel_rfl) (by kernel_rfl) (by kernel_rfl) (fun _ _ _ h => h) (fun _ h => h) ?_
    refine WPD.skip 16 rfl rfl rfl rfl rfl rfl rfl rfl (by kernel_rfl) (by kernel_rfl) (by kernel_rfl) (by kernel_rfl) (fun _ _ _ h => h) (fun _ h => h) ?_
    refine WPD.skip 17 rfl rfl rfl rfl rfl rfl rfl rfl (by kernel_rfl) (by kernel_rfl) (by kernel_rfl) (by kernel_rfl) (fun _ _ _ h => h) (fun _ h => h) ?_
    refine WPD.skip 18 rfl rfl rfl rfl rfl rfl rfl rfl (by kernel_rfl) (by kernel_rfl) (by kernel_rfl) (by kernel_rfl) (fun _ _ _ h => h) (fun _ h => h) ?_
    refine WPD.skip 19 rfl rfl rfl rfl rfl rfl rfl rfl (by kernel_rfl) (by kernel_rfl) (by kernel_rfl) (by kernel_rfl) (fun _ _ _ h => h) (fun _ h => h) ?_
    refine WPD.skip 20 rfl rfl rfl rfl rfl rfl rfl rfl (by kernel_rfl) (by kernel_rfl) (by kernel_rfl) (by kernel_rfl) (fun _ _ _ h => h) (fun _ h => h) ?_
    refine WPD.skip 21 rfl rfl rfl rfl rfl rfl rfl rfl (by kernel_rfl) (by kernel_rfl) (by kernel_rfl) (by kernel_rfl) (fun _ _ _ h => h) (fun _ h => h) ?_
    refine WPD.skip 22 rfl rfl rfl rfl rfl rfl rfl rfl (by kernel_rfl) (by kernel_rfl) (by kernel_rfl) (by kernel_rfl) (fun _ _ _ h => h) (fun _ h => h) ?_
    refine WPD.skip 23 rfl rfl rfl rfl rfl rfl rfl rfl (by kernel_rfl) (by kernel_rfl) (by kernel_rfl) (by kernel_rfl) (fun _ _ _ h => h) (fun _ h => h) ?_
    refine WPD.skip 24 rfl rfl rfl rfl rfl rfl rfl rfl (by kernel_rfl) (by kernel_rfl) (by kernel_rfl) (by kernel_rfl) (fun _ _ _ h => h) (fun _ h => h) ?_
    refine WPD.skip 25 rfl rfl rfl rfl rfl rfl rfl rfl (by kernel_rfl) (by kernel_rfl) (by kernel_rfl) (by kernel_rfl) (fun _ _ _ h => h) (fun _ h => h) ?_
    refine WPD.skip 26 rfl rfl rfl rfl rfl rfl rfl rfl (by kernel_rfl) (by kernel_rfl) (by kernel_rfl) (by kernel_rfl) (fun _ _ _ h => h) (fun _ h => h) ?_
    refine WPD.skip 27 rfl rfl rfl rfl rfl rfl rfl rfl (by kernel_rfl) (by kernel_rfl) (by kernel_rfl) (by kernel_rfl) (fun _ _ _ h => h) (fun _ h => h) ?_
    refine WPD.skip 28 rfl rfl rfl rfl rfl rfl rfl rfl (by kernel_rfl) (by kernel_rfl) (by kernel_rfl) (by kernel_rfl) (fun _ _ _ h => h) (fun _ h => h) ?_
    refine WPD.tM 29 rfl rfl rfl rfl (Val.pickF rfl rfl rfl) ?_
    refine WPD.done (by kernel_rfl) ?_
    refine Out.next ?_
    refine WPc.condF rfl rfl ?_
    refine WPc.skip ?_
    refine Out.next ?_
    refine WPc.sr ?_
    refine WP.val rfl rfl rfl (Val.assign rfl rfl) ?_
    refine WP.nx ?_
    refine WPc.seq ?_
    refine WPc.seq ?_
    refine WPD.s0 Ty.mixed ?_
    refine WPD.tM 0 rfl rfl rfl rfl (Val.fieldAddr (j := 2) rfl Ty.fo251_1 rfl rfl) ?_
    refine WPD.tL 1 rfl rfl rfl rfl (fun _ h => h) (Val.load rfl Ty.sc4 rfl (fun w h => h.cell 1 rfl rfl)) ?_
    refine WPD.tM 2 rfl rfl rfl rfl (Val.move rfl rfl) ?_
    refine WPD.skip 3 rfl rfl rfl rfl rfl rfl rfl rfl (by kernel_rfl) (by kernel_rfl) (by kernel_rfl) (by kernel_rfl) (fun _ _ _ h => h) (fun _ h => h) ?_
    refine WPD.skip 4 rfl rfl rfl rfl rfl rfl rfl rfl (by kernel_rfl) (by kernel_rfl) (by kernel_rfl) (by kernel_rfl) (fun _ _ _ h => h) (fun _ h => h) ?_
    refine WPD.skip 5 rfl rfl rfl rfl rfl rfl rfl rfl (by kernel_rfl) (by kernel_rfl) (by kernel_rfl) (by kernel_rfl) (fun _ _ _ h => h) (fun _ h => h) ?_
    refine WPD.skip 6 rfl rfl rfl rfl rfl rfl rfl rfl (by kernel_rfl) (by kernel_rfl) (by kernel_rfl) (by kernel_rfl) (fun _ _ _ h => h) (fun _ h => h) ?_
    refine WPD.skip 7 rfl rfl rfl rfl rfl rfl rfl rfl (by kernel_rfl) (by kernel_rfl) (by kernel_rfl) (by kernel_rfl) (fun _ _ _ h => h) (fun _ h => h) ?_
    refine WPD.skip 8 rfl rfl rfl rfl rfl rfl rfl rfl (by kernel_rfl) (by kernel_rfl) (by kernel_rfl) (by kernel_rfl) (fun _ _ _ h => h) (fun _ h => h) ?_
    refine WPD.skip 9 rfl rfl rfl rfl rfl rfl rfl rfl (by kernel_rfl) (by kernel_rfl) (by kernel_rfl) (by kernel_rfl) (fun _ _ _ h => h) (fun _ h => h) ?_
    refine WPD.skip 10 rfl rfl rfl rfl rfl rfl rfl rfl (by kernel_rfl) (by kernel_rfl) (by kernel_rfl) (by kernel_rfl) (fun _ _ _ h => h) (fun _ h => h) ?_
    refine WPD.skip 11 rfl rfl rfl rfl rfl rfl rfl rfl (by kernel_rfl) (by kernel_rfl) (by kernel_rfl) (by kernel_rfl) (fun _ _ _ h => h) (fun _ h => h) ?_
    refine WPD.skip 12 rfl rfl rfl rfl rfl rfl rfl rfl (by kernel_rfl) (by kernel_rfl) (by kernel_rfl) (by kernel_rfl) (fun _ _ _ h => h) (fun _ h => h) ?_
    refine WPD.skip 13 rfl rfl rfl rfl rfl rfl rfl rfl (by kernel_rfl) (by kernel_rfl) (by kernel_rfl) (by kernel_rfl) (fun _ _ _ h => h) (fun _ h => h) ?_
    refine WPD.skip 14 rfl rfl rfl rfl rfl rfl rfl rfl (by kernel_rfl) (by kernel_rfl) (by kernel_rfl) (by kernel_rfl) (fun _ _ _ h => h) (fun _ h => h) ?_
    refine WPD.skip 15 rfl rfl rfl rfl rfl rfl rfl rfl (by kernel_rfl) (by kernel_rfl) (by kernel_rfl) (by kernel_rfl) (fun _ _ _ h => h) (fun _ h => h) ?_
    refine WPD.skip 16 rfl rfl rfl rfl rfl rfl rfl rfl (by kernel_rfl) (by kernel_rfl) (by kernel_rfl) (by kernel_rfl) (fun _ _ _ h => h) (fun _ h => h) ?_
    refine WPD.skip 17 rfl rfl rfl rfl rfl rfl rfl rfl (by kernel_rfl) (by kernel_rfl) (by kernel_rfl) (by kernel_rfl) (fun _ _ _ h => h) (fun _ h => h) ?_
    refine WPD.skip 18 rfl rfl rfl rfl rfl rfl rfl rfl (by kernel_rfl) (by kernel_rfl) (by kernel_rfl) (by kernel_rfl) (fun _ _ _ h => h) (fun _ h => h) ?_
    refine WPD.skip 19 rfl rfl rfl rfl rfl rfl rfl rfl (by kernel_rfl) (by kernel_rfl) (by kernel_rfl) (by kernel_rfl) (fun _ _ _ h => h) (fun _ h => h) ?_
    refine WPD.skip 20 rfl rfl rfl rfl rfl rfl rfl rfl (by kernel_rfl) (by kernel_rfl) (by kernel_rfl) (by kernel_rfl) (fun _ _ _ h => h) (fun _ h => h) ?_
    refine WPD.tM 21 rfl rfl rfl rfl (Val.pickF rfl rfl rfl) ?_
    refine WPD.done (by kernel_rfl) ?_
    refine Out.next ?_
    refine WPc.condF rfl rfl ?_
    refine WPc.skip ?_
    refine Out.next ?_
    refine WPc.sr ?_
    refine WP.val rfl rfl rfl (Val.move rfl rfl) ?_
    refine WP.val rfl rfl rfl (Val.move rfl rfl) ?_
    refine WP.val rfl rfl rfl (Val.nilCheck rfl rfl) ?_
    refine WP.val rfl rfl rfl (Val.fieldAddr (j := 0) rfl Ty.fo213_0 rfl rfl) ?_
    refine WP.val rfl rfl rfl (Val.load (v := .slice (some ⟨bi, oi, none⟩) t.is.length ci) rfl Ty.sc210 rfl (fun w h => (hn.cells w (h.at 2 rfl)).1)) ?_
    refine WP.val rfl rfl rfl (Val.move rfl rfl) ?_
    refine WP.val rfl rfl rfl (Val.indexAddr (j := i) (q := oi + i * 2) rfl Ty.sl210 rfl rfl (by omega) (by omega) (by omega)) ?_
    refine WP.val rfl rfl rfl (Val.loadAgg (cs := [.int .i64 (x.k), .int .i64 (x.v)]) rfl Ty.ag55 rfl (by rfl) (fun w h => hi w (h.at 2 rfl) i x hx)) ?_
    refine WP.perm pl4 ?_
    refine WP.perm pl4 ?_
    refine WP.eff rfl rfl rfl (Eff.callF (args' := [.agg #[.int .i64 (x.k), .int .i64 (x.v)], .pointer (some ⟨ob, 0, none⟩), .pointer (some ⟨pb, 0, none⟩)]) rfl rfl rfl rfl Try.call109 (cb_spec ob pb v o x (by have h1 := vis_len (most := o.most) (pre 0 t i) out; rw [hvw] at h1; obtain ⟨R, hR⟩ := pre_ino (h := 0) (t := t) (i + 1); rw [pre_leaf hx] at hR; rw [hR] at hsz; simp only [List.length_append, List.length_singleton] at hsz h1; omega))) ?_
    rintro _ _ ⟨_, ⟨rfl, rfl⟩, rfl⟩
    show WP _ _ _ _ _ _ _ (OutP ob (v ++ [x]) :: _)
    refine WP.val rfl rfl rfl (Val.notP rfl rfl) ?_
    refine WP.nx ?_
    refine WPc.ifP rfl (fun h5 => ?_) (fun h5 => ?_)
    ·
     have h5 : (¬ (o.most ≤ 0 ∨ (v.length : Int) + 1 < o.most)) := h5
     refine WPc.sr ?_
     refine WP.val rfl rfl rfl (Val.move rfl rfl) ?_
     refine WP.val rfl rfl rfl (Val.assign rfl rfl) ?_
     refine WP.val rfl rfl rfl (Val.assign rfl rfl) ?_
     refine WP.nx ?_
     refine WPc.ret ?_
     refine Out.block_ret ?_
     refine Out.then_ret ?_
     refine Out.then_ret ?_
     refine Out.block_ret ?_
     refine Out.then_ret ?_
     refine Out.block_ret ?_
     refine Out.then_ret ?_
     obtain ⟨R, hR⟩ := pre_ino (h := 0) (t := t) (i + 1)
     rw [pre_leaf hx] at hR
     have hfin : vis o.most out (ino 0 t) = (v ++ [x], false) := by rw [hR]; refine vis_stop _ _ _ _ ?_; rw [vis_app _ _ _ _ hvw]; simp only [vis]; rw [if_neg (by first | assumption | exact Decidable.not_not.1 (by assumption) | omega)]
     refine Out.perm pl2 ?_
     refine Out.drop ?_
     refine Out.perm pl2 ?_
     refine Out.drop ?_
     refine Out.perm pl1 ?_
     refine Out.perm pl1 ?_
     refine Out.perm pl2 ?_
     exact Out.ret2 (L' := _) Try.results131 rfl rfl ⟨_, by first | (rw [hfin]; done) | (rw [hfin]; rfl), by rw [hfin]⟩ (fun _ h => h)
    ·
     have h5 : ¬ (¬ (o.most ≤ 0 ∨ (v.length : Int) + 1 < o.most)) := h5
     refine WPc.skip ?_
     refine Out.block ?_
     refine Out.next ?_
     refine WPc.region ?_
     refine WP.val rfl rfl rfl (Val.move rfl rfl) ?_
     refine WP.val rfl rfl rfl (Val.add (z := ((i + 1 : Nat) : Int)) rfl rfl rfl ((w64 (by omega) (by omega)).trans (by omega))) ?_
     refine WP.val rfl rfl rfl (Val.assign rfl rfl) ?_
     refine WP.nil ?_
     have hvn : vis o.most out (pre 0 t (i + 1)) = (v ++ [x], true) := by rw [pre_leaf hx, vis_app _ _ _ _ hvw]; simp only [vis]; rw [if_pos (by first | assumption | exact Decidable.not_not.1 (by assumption) | omega)]
     refine Out.perm pl1 ?_
     refine Out.perm pl1 ?_
     iterate 3 (refine Out.perm pl4 ?_)
     refine Out.again (i + 1, true, v ++ [x]) ?_ ?_ ?_ ?_
     ·
      exact ⟨by omega, hvn⟩
     ·
      (first | omega | (dsimp only; omega))
     ·
      exact (Sub.cons rfl (Sub.cons rfl (Sub.cons rfl (Sub.cons rfl (Sub.cons rfl (Sub.cons rfl (Sub.cons rfl (Sub.cons rfl Sub.nil))))))))
     ·
      exact (fun _ h => h)
 ·
  have h1 : ¬ (((i : Nat) : Int) < ((t.is.length : Nat) : Int)) := h1
  refine WPc.exit ?_
  refine Out.then_exit ?_
  refine Out.then_exit ?_
  refine Out.block_exit ?_
  refine Out.next ?_
  refine WPc.seq ?_
  have hin : i = t.is.length := by omega
  subst hin
  refine WPc.region ?_
  refine WP.val rfl rfl rfl (Val.move rfl rfl) ?_
  refine WP.val rfl rfl rfl (Val.nilCheck rfl rfl) ?_
  refine WP.val rfl rfl rfl (Val.fieldAddr (j := 1) rfl Ty.fo213_1 rfl rfl) ?_
  refine WP.val rfl rfl rfl (Val.load (v := vc) rfl Ty.sc211 rfl (fun w h => (hn.cells w (h.at 2 rfl)).2.1)) ?_
  refine WP.val rfl rfl rfl (Rd.len hn.kids rfl Ty.sl211 rfl) ?_
  refine WP.val rfl rfl rfl (Val.gtr rfl rfl rfl) ?_
  refine WP.nx ?_
  refine WPc.ifP rfl (fun h6 => ?_) (fun h6 => ?_)
  ·
   have h6 : ((0 : Int) < (0 : Int)) := h6
   exfalso; omega
  ·
   have h6 : ¬ ((0 : Int) < (0 : Int)) := h6
   refine WPc.skip ?_
   refine Out.block ?_
   refine Out.next ?_
   refine WPc.sr ?_
   refine WP.val rfl rfl rfl (Val.move rfl rfl) ?_
   refine WP.val rfl rfl rfl (Val.assign rfl rfl) ?_
   refine WP.val rfl rfl rfl (Val.assign rfl rfl) ?_
   refine WP.nx ?_
   refine WPc.ret ?_
   have hfin : vis o.most out (ino 0 t) = (v, true) := by rw [← pre_all_leaf, ← hv]
   refine Out.drop ?_
   refine Out.drop ?_
   exact Out.ret2 (L' := _) Try.results131 rfl rfl ⟨_, by first | (rw [hfin]; done) | (rw [hfin]; rfl), by rw [hfin]⟩ (fun _ h => h)
set_option maxRecDepth 100000 in
set_option maxHeartbeats 2000000 in
theorem it_leaf_nil (A : HProp) (Q : Value → Prop) (ob pb : Nat) (o : Bop)  (t : Tr) (p : Nat) (ai : Option Addr) (ci : Nat) (hni : t.is.length = 0) (vc : Value) (cw : Value) (hn : NodeAt A Q (p, t) (.slice ai 0 ci) (vc) cw []) (hb0 : Bool) (out : List El) (hi6 : t.is.length ≤ 1000000) (hsz : out.length + (ino 0 t).length ≤ 1000000) : Does Try.prog 131 [.pointer (some ⟨p, 0, none⟩), .int .i64 1, .agg #[.int .i64 0, .int .i64 0, .bool false], .agg #[.int .i64 0, .int .i64 0, .bool false], .bool false, .bool (hb0), .func (.func 109) #[] #[.pointer (some ⟨ob, 0, none⟩), .pointer (some ⟨pb, 0, none⟩)]] [A, OutP ob out, Blk pb [.int .i64 (o.kind), .int .i64 (o.tree), .int .i64 (o.el.k), .int .i64 (o.el.v), .int .i64 (o.from_), .int .i64 (o.till), .int .i64 (o.most), .bool (o.again)] 57] (fun v L => ∃ hb, v = .tuple #[.bool hb, .bool (vis o.most out (ino 0 t)).2] ∧ L = [A, OutP ob (vis o.most out (ino 0 t)).1, Blk pb [.int .i64 (o.kind), .int .i64 (o.tree), .int .i64 (o.el.k), .int .i64 (o.el.v), .int .i64 (o.from_), .int .i64 (o.till), .int .i64 (o.most), .bool (o.again)] 57]) := by
 refine Does.enter 343 Try.func131 rfl rfl rfl fun W F => ?_
 show WPc _ _ _ _ _ [(0, .pointer (some ⟨p, 0, none⟩)), (1, .int .i64 1), (2, .agg #[.int .i64 0, .int .i64 0, .bool false]), (3, .agg #[.int .i64 0, .int .i64 0, .bool false]), (4, .bool false), (5, .bool (hb0)), (6, .func (.func 109) #[] #[.pointer (some ⟨ob, 0, none⟩), .pointer (some ⟨pb, 0, none⟩)])] (A :: OutP ob out :: Blk pb [.int .i64 (o.kind), .int .i64 (o.tree), .int .i64 (o.el.k), .int .i64 (o.el.v), .int .i64 (o.from_), .int .i64 (o.till), .int .i64 (o.most), .bool (o.again)] 57 :: F)
 refine WPc.sr ?_
 refine WP.eff rfl rfl rfl (Eff.box (C := [.int .i64 0, .int .i64 0, .bool false]) rfl rfl rfl) ?_
 rintro _ _ ⟨b1, rfl, rfl⟩
 refine WP.eff rfl rfl rfl (Eff.box (C := [.int .i64 0, .int .i64 0, .bool false]) rfl rfl rfl) ?_
 rintro _ _ ⟨b2, rfl, rfl⟩
 refine WP.val rfl rfl rfl (Val.assign rfl rfl) ?_
 refine WP.val rfl rfl rfl (Val.assign rfl rfl) ?_
 refine WP.nx ?_
 refine WPc.sr ?_
 refine WP.val rfl rfl rfl (Val.assign rfl rfl) ?_
 refine WP.val rfl rfl rfl (Val.assign rfl rfl) ?_
 refine WP.nx ?_
 refine WPc.sr ?_
 refine WP.val rfl rfl rfl (Val.assign rfl rfl) ?_
 refine WP.nx ?_
 refine WPc.seq ?_
 refine WPc.sr ?_
 refine WP.val rfl rfl rfl (Val.move rfl rfl) ?_
 refine WP.nx ?_
 refine WPc.block ?_
 refine WPc.sr ?_
 refine WP.val rfl rfl rfl (Val.eqlK rfl rfl rfl rfl) ?_
 refine WP.val rfl rfl rfl (Val.assign rfl rfl) ?_
 refine WP.nx ?_
 refine WPc.condT rfl rfl ?_
 refine WPc.seq ?_
 refine WPc.sr ?_
 refine WP.val rfl rfl rfl (Val.fieldAddr (j := 2) rfl Ty.fo251_1 rfl rfl) ?_
 refine WP.val rfl rfl rfl (Val.load rfl Ty.sc4 rfl (fun w h => h.cell 1 rfl rfl)) ?_
 refine WP.nx ?_
 refine WPc.condF rfl rfl ?_
 refine WPc.skip ?_
 refine Out.next ?_
 refine WPc.seq ?_
 refine WPc.sr ?_
 refine WP.val rfl rfl rfl (Val.move rfl rfl) ?_
 refine WP.val rfl rfl rfl (Val.assign rfl rfl) ?_
 refine WP.nx ?_
 refine WPc.block ?_
 iterate 3 (refine WPc.perm pl4 ?_)
 refine WPc.perm pl3 ?_
 refine WPc.perm pl4 ?_
 refine WPc.loop (ι := Nat × Bool × List El) (fun ⟨i, hb, v⟩ => i ≤ 0 ∧ vis o.most out (pre 0 t i) = (v, true)) (fun ⟨i, hb, v⟩ => [(0, .pointer (some ⟨p, 0, none⟩)), (1, .int .i64 1), (4, .bool false), (5, .bool (hb)), (6, .func (.func 109) #[] #[.pointer (some ⟨ob, 0, none⟩), .pointer (some ⟨pb, 0, none⟩)]), (9, .pointer (some ⟨b1, 0, none⟩)), (10, .pointer (some ⟨b2, 0, none⟩)), (19, .int .i64 (((i : Nat) : Int)))]) (fun ⟨i, hb, v⟩ => Blk b1 [.int .i64 0, .int .i64 0, .bool false] 251 :: Blk b2 [.int .i64 0, .int .i64 0, .bool false] 251 :: A :: OutP ob v :: Blk pb [.int .i64 (o.kind), .int .i64 (o.tree), .int .i64 (o.el.k), .int .i64 (o.el.v), .int .i64 (o.from_), .int .i64 (o.till), .int .i64 (o.most), .bool (o.again)] 57 :: F) (fun ⟨i, hb, v⟩ => 0 - i) (0, hb0, out) ⟨Nat.zero_le _, by rw [pre_zero]; rfl⟩ ((Sub.cons rfl (Sub.cons rfl (Sub.cons rfl (Sub.cons rfl (Sub.cons rfl (Sub.cons rfl (Sub.cons rfl (Sub.cons rfl Sub.nil))))))))) (fun _ h => h) ?_
 rintro ⟨i, hb, v⟩ ⟨hi1, hv⟩
 show WPc _ _ _ _ _ [(0, _), (1, _), (4, _), (5, .bool (hb)), (6, _), (9, .pointer (some ⟨b1, 0, none⟩)), (10, .pointer (some ⟨b2, 0, none⟩)), (19, .int .i64 (((i : Nat) : Int)))] (Blk b1 [.int .i64 0, .int .i64 0, .bool false] 251 :: Blk b2 [.int .i64 0, .int .i64 0, .bool false] 251 :: _ :: OutP ob v :: _)
 replace hi1 : i ≤ 0 := hi1
 refine WPc.seq ?_
 refine WPc.sr ?_
 refine WP.val rfl rfl rfl (Val.move rfl rfl) ?_
 refine WP.val rfl rfl rfl (Val.move rfl rfl) ?_
 refine WP.val rfl rfl rfl (Val.nilCheck rfl rfl) ?_
 refine WP.val rfl rfl rfl (Val.fieldAddr (j := 0) rfl Ty.fo213_0 rfl rfl) ?_
 refine WP.val rfl rfl rfl (Val.load (v := .slice ai 0 ci) rfl Ty.sc210 rfl (fun w h => (hn.cells w (h.at 2 rfl)).1)) ?_
 refine WP.val rfl rfl rfl (Val.len rfl Ty.sl210 rfl) ?_
 refine WP.val rfl rfl rfl (Val.lss rfl rfl rfl) ?_
 refine WP.nx ?_
 refine WPc.ifP rfl (fun h1 => ?_) (fun h1 => ?_)
 ·
  have h1 : (((i : Nat) : Int) < (0 : Int)) := h1
  exfalso; omega
 ·
  have h1 : ¬ (((i : Nat) : Int) < (0 : Int)) := h1
  refine WPc.exit ?_
  refine Out.then_exit ?_
  refine Out.then_exit ?_
  refine Out.block_exit ?_
  refine Out.next ?_
  refine WPc.seq ?_
  have hin : i = t.is.length := by rw [hni]; omega
  rw [hin] at hv
  refine WPc.region ?_
  refine WP.val rfl rfl rfl (Val.move rfl rfl) ?_
  refine WP.val rfl rfl rfl (Val.nilCheck rfl rfl) ?_
  refine WP.val rfl rfl rfl (Val.fieldAddr (j := 1) rfl Ty.fo213_1 rfl rfl) ?_
  refine WP.val rfl rfl rfl (Val.load (v := vc) rfl Ty.sc211 rfl (fun w h => (hn.cells w (h.at 2 rfl)).2.1)) ?_
  refine WP.val rfl rfl rfl (Rd.len hn.kids rfl Ty.sl211 rfl) ?_
  refine WP.val rfl rfl rfl (Val.gtr rfl rfl rfl) ?_
  refine WP.nx ?_
  refine WPc.ifP rfl (fun h2 => ?_) (fun h2 => ?_)
  ·
   have h2 : ((0 : Int) < (0 : Int)) := h2
   exfalso; omega
  ·
   have h2 : ¬ ((0 : Int) < (0 : Int)) := h2
   refine WPc.skip ?_
   refine Out.block ?_
   refine Out.next ?_
   refine WPc.sr ?_
   refine WP.val rfl rfl rfl (Val.move rfl rfl) ?_
   refine WP.val rfl rfl rfl (Val.assign rfl rfl) ?_
   refine WP.val rfl rfl rfl (Val.assign rfl rfl) ?_
   refine WP.nx ?_
   refine WPc.ret ?_
   have hfin : vis o.most out (ino 0 t) = (v, true) := by rw [← pre_all_leaf, ← hv]
   refine Out.drop ?_
   refine Out.drop ?_
   exact Out.ret2 (L' := _) Try.results131 rfl rfl ⟨_, by first | (rw [hfin]; done) | (rw [hfin]; rfl), by rw [hfin]⟩ (fun _ h => h)
set_option maxRecDepth 100000 in
set_option maxHeartbeats 2000000 in
theorem it_step_row (A : HProp) (Q : Value → Prop) (ob pb : Nat) (o : Bop) (h : Nat) (RT : Nat × Tr → Prop) (t : Tr) (ih : ∀ (p : Nat) (t : Tr) (hb0 : Bool) (out : List El), RT (p, t) → out.length + (ino h t).length ≤ 1000000 → Does Try.prog 131 [.pointer (some ⟨p, 0, none⟩), .int .i64 1, .agg #[.int .i64 0, .int .i64 0, .bool false], .agg #[.int .i64 0, .int .i64 0, .bool false], .bool false, .bool (hb0), .func (.func 109) #[] #[.pointer (some ⟨ob, 0, none⟩), .pointer (some ⟨pb, 0, none⟩)]] [A, OutP ob out, Blk pb [.int .i64 (o.kind), .int .i64 (o.tree), .int .i64 (o.el.k), .int .i64 (o.el.v), .int .i64 (o.from_), .int .i64 (o.till), .int .i64 (o.most), .bool (o.again)] 57] (fun v L => ∃ hb, v = .tuple #[.bool hb, .bool (vis o.most out (ino h t)).2] ∧ L = [A, OutP ob (vis o.most out (ino h t)).1, Blk pb [.int .i64 (o.kind), .int .i64 (o.tree), .int .i64 (o.el.k), .int .i64 (o.el.v), .int .i64 (o.from_), .int .i64 (o.till), .int .i64 (o.most), .bool (o.again)] 57]))  (p : Nat) (bi oi ci : Nat) (hi : ∀ w, Holds A w → ∀ i x, t.is[i]? = some x → w.rangeAt bi (oi + i * 2) (El.cells x)) (bc oc cc : Nat) (ks : List (Nat × Tr)) (hc : ∀ w, Holds A w → ∀ i x, (kp ks)[i]? = some x → w.rangeAt bc (oc + i * 1) (vcf x)) (hkl : t.ks.length = t.is.length + 1) (hks : ∀ x ∈ ks, RT x) (hksl : ks.length = t.ks.length) (hk6 : ks.length ≤ 1000000) (cw : Value) (hn : NodeAt A Q (p, t) (.slice (some ⟨bi, oi, none⟩) t.is.length ci) (.slice (some ⟨bc, oc, none⟩) (kp ks).length cc) cw ks) (hb0 : Bool) (out : List El) (hi6 : t.is.length ≤ 1000000) (hsz : out.length + (ino (h + 1) t).length ≤ 1000000) : Does Try.prog 131 [.pointer (some ⟨p, 0, none⟩), .int .i64 1, .agg #[.int .i64 0, .int .i64 0, .bool false], .agg #[.int .i64 0, .int .i64 0, .bool false], .bool false, .bool (hb0), .func (.func 109) #[] #[.pointer (some ⟨ob, 0, none⟩), .pointer (some ⟨pb, 0, none⟩)]] [A, OutP ob out, Blk pb [.int .i64 (o.kind), .int .i64 (o.tree), .int .i64 (o.el.k), .int .i64 (o.el.v), .int .i64 (o.from_), .int .i64 (o.till), .int .i64 (o.most), .bool (o.again)] 57] (fun v L => ∃ hb, v = .tuple #[.bool hb, .bool (vis o.most out (ino (h + 1) t)).2] ∧ L = [A, OutP ob (vis o.most out (ino (h + 1) t)).1, Blk pb [.int .i64 (o.kind), .int .i64 (o.tree), .int .i64 (o.el.k), .int .i64 (o.el.v), .int .i64 (o.from_), .int .i64 (o.till), .int .i64 (o.most), .bool (o.again)] 57]) := by
 refine Does.enter 343 Try.func131 rfl rfl rfl fun W F => ?_
 show WPc _ _ _ _ _ [(0, .pointer (some ⟨p, 0, none⟩)), (1, .int .i64 1), (2, .agg #[.int .i64 0, .int .i64 0, .bool false]), (3, .agg #[.int .i64 0, .int .i64 0, .bool false]), (4, .bool false), (5, .bool (hb0)), (6, .func (.func 109) #[] #[.pointer (some ⟨ob, 0, none⟩), .pointer (some ⟨pb, 0, none⟩)])] (A :: OutP ob out :: Blk pb [.int .i64 (o.kind), .int .i64 (o.tree), .int .i64 (o.el.k), .int .i64 (o.el.v), .int .i64 (o.from_), .int .i64 (o.till), .int .i64 (o.most), .bool (o.again)] 57 :: F)
 refine WPc.sr ?_
 refine WP.eff rfl rfl rfl (Eff.box (C := [.int .i64 0, .int .i64 0, .bool false]) rfl rfl rfl) ?_
 rintro _ _ ⟨b1, rfl, rfl⟩
 refine WP.eff rfl rfl rfl (Eff.box (C := [.int .i64 0, .int .i64 0, .bool false]) rfl rfl rfl) ?_
 rintro _ _ ⟨b2, rfl, rfl⟩
 refine WP.val rfl rfl rfl (Val.assign rfl rfl) ?_
 refine WP.val rfl rfl rfl (Val.assign rfl rfl) ?_
 refine WP.nx ?_
 refine WPc.sr ?_
 refine WP.val rfl rfl rfl (Val.assign rfl rfl) ?_
 refine WP.val rfl rfl rfl (Val.assign rfl rfl) ?_
 refine WP.nx ?_
 refine WPc.sr ?_
 refine WP.val rfl rfl rfl (Val.assign rfl rfl) ?_
 refine WP.nx ?_
 refine WPc.seq ?_
 refine WPc.seq ?_
 have hkpl := kp_len ks
 refine WPc.region ?_
 refine WP.val rfl rfl rfl (Val.move rfl rfl) ?_
 refine WP.nx ?_
 refine WPc.block ?_
 refine WPc.sr ?_
 refine WP.val rfl rfl rfl (Val.eqlK rfl rfl rfl rfl) ?_
 refine WP.val rfl rfl rfl (Val.assign rfl rfl) ?_
 refine WP.nx ?_
 refine WPc.condT rfl rfl ?_
 refine WPc.seq ?_
 refine WPc.sr ?_
 refine WP.val rfl rfl rfl (Val.fieldAddr (j := 2) rfl Ty.fo251_1 rfl rfl) ?_
 refine WP.val rfl rfl rfl (Val.load rfl Ty.sc4 rfl (fun w h => h.cell 1 rfl rfl)) ?_
 refine WP.nx ?_
 refine WPc.condF rfl rfl ?_
 refine WPc.skip ?_
 refine Out.next ?_
 refine WPc.seq ?_
 refine WPc.sr ?_
 refine WP.val rfl rfl rfl (Val.move rfl rfl) ?_
 refine WP.val rfl rfl rfl (Val.assign rfl rfl) ?_
 refine WP.nx ?_
 refine WPc.block ?_
 iterate 3 (refine WPc.perm pl4 ?_)
 refine WPc.perm pl3 ?_
 refine WPc.perm pl4 ?_
 refine WPc.loop (ι := Nat × Bool × List El) (fun ⟨i, hb, v⟩ => i ≤ t.is.length ∧ vis o.most out (pre (h + 1) t i) = (v, true)) (fun ⟨i, hb, v⟩ => [(0, .pointer (some ⟨p, 0, none⟩)), (1, .int .i64 1), (4, .bool false), (5, .bool (hb)), (6, .func (.func 109) #[] #[.pointer (some ⟨ob, 0, none⟩), .pointer (some ⟨pb, 0, none⟩)]), (9, .pointer (some ⟨b1, 0, none⟩)), (10, .pointer (some ⟨b2, 0, none⟩)), (19, .int .i64 (((i : Nat) : Int)))]) (fun ⟨i, hb, v⟩ => Blk b1 [.int .i64 0, .int .i64 0, .bool false] 251 :: Blk b2 [.int .i64 0, .int .i64 0, .bool false] 251 :: A :: OutP ob v :: Blk pb [.int .i64 (o.kind), .int .i64 (o.tree), .int .i64 (o.el.k), .int .i64 (o.el.v), .int .i64 (o.from_), .int .i64 (o.till), .int .i64 (o.most), .bool (o.again)] 57 :: F) (fun ⟨i, hb, v⟩ => t.is.length - i) (0, hb0, out) ⟨Nat.zero_le _, by rw [pre_zero]; rfl⟩ ((Sub.cons rfl (Sub.cons rfl (Sub.cons rfl (Sub.cons rfl (Sub.cons rfl (Sub.cons rfl (Sub.cons rfl (Sub.cons rfl Sub.nil))))))))) (fun _ h => h) ?_
 rintro ⟨i, hb, v⟩ ⟨hi1, hv⟩
 show WPc _ _ _ _ _ [(0, _), (1, _), (4, _), (5, .bool (hb)), (6, _), (9, .pointer (some ⟨b1, 0, none⟩)), (10, .pointer (some ⟨b2, 0, none⟩)), (19, .int .i64 (((i : Nat) : Int)))] (Blk b1 [.int .i64 0, .int .i64 0, .bool false] 251 :: Blk b2 [.int .i64 0, .int .i64 0, .bool false] 251 :: _ :: OutP ob v :: _)
 replace hi1 : i ≤ t.is.length := hi1
 refine WPc.seq ?_
 refine WPc.sr ?_
 refine WP.val rfl rfl rfl (Val.move rfl rfl) ?_
 refine WP.val rfl rfl rfl (Val.move rfl rfl) ?_
 refine WP.val rfl rfl rfl (Val.nilCheck rfl rfl) ?_
 refine WP.val rfl rfl rfl (Val.fieldAddr (j := 0) rfl Ty.fo213_0 rfl rfl) ?_
 refine WP.val rfl rfl rfl (Val.load (v := .slice (some ⟨bi, oi, none⟩) t.is.length ci) rfl Ty.sc210 rfl (fun w h => (hn.cells w (h.at 2 rfl)).1)) ?_
 refine WP.val rfl rfl rfl (Val.len rfl Ty.sl210 rfl) ?_
 refine WP.val rfl rfl rfl (Val.lss rfl rfl rfl) ?_
 refine WP.nx ?_
 refine WPc.ifP rfl (fun h1 => ?_) (fun h1 => ?_)
 ·
  have h1 : (((i : Nat) : Int) < ((t.is.length : Nat) : Int)) := h1
  refine WPc.skip ?_
  refine Out.next ?_
  refine WPc.seq ?_
  refine WPc.block ?_
  refine WPc.seq ?_
  refine WPc.seq ?_
  obtain ⟨x, hx⟩ : ∃ x, t.is[i]? = some x := ⟨_, List.getElem?_eq_getElem (by omega)⟩
  obtain ⟨⟨pk, tk⟩, hxk⟩ : ∃ k, ks[i]? = some k := ⟨_, List.getElem?_eq_getElem (by omega)⟩
  have hkt := ks_at hn.snd hxk
  have hrk := hks _ (List.mem_of_getElem? hxk)
  refine WPc.region ?_
  refine WP.val rfl rfl rfl (Val.move rfl rfl) ?_
  refine WP.val rfl rfl rfl (Val.nilCheck rfl rfl) ?_
  refine WP.val rfl rfl rfl (Val.fieldAddr (j := 1) rfl Ty.fo213_1 rfl rfl) ?_
  refine WP.val rfl rfl rfl (Val.load (v := .slice (some ⟨bc, oc, none⟩) ((kp ks).length) cc) rfl Ty.sc211 rfl (fun w h => (hn.cells w (h.at 2 rfl)).2.1)) ?_
  refine WP.val rfl rfl rfl (Val.len rfl Ty.sl211 rfl) ?_
  refine WP.val rfl rfl rfl (Val.gtr rfl rfl rfl) ?_
  refine WP.nx ?_
  refine WPc.ifP rfl (fun h2 => ?_) (fun h2 => ?_)
  ·
   have h2 : ((0 : Int) < (((kp ks).length : Nat) : Int)) := h2
   refine WPc.seq ?_
   refine WPD.s0 Ty.mixed ?_
   refine WPD.tM 0 rfl rfl rfl rfl (Val.move rfl rfl) ?_
   refine WPD.tM 1 rfl rfl rfl rfl (Val.nilCheck rfl rfl) ?_
   refine WPD.tM 2 rfl rfl rfl rfl (Val.fieldAddr (j := 1) rfl Ty.fo213_1 rfl rfl) ?_
   refine WPD.tL 3 rfl rfl rfl rfl (fun _ h => h) (Val.load (v := .slice (some ⟨bc, oc, none⟩) ((kp ks).length) cc) rfl Ty.sc211 rfl (fun w h => (hn.cells w (h.at 2 rfl)).2.1)) ?_
   refine WPD.tM 4 rfl rfl rfl rfl (Val.move rfl rfl) ?_
   refine WPD.tM 5 rfl rfl rfl rfl (Val.indexAddr (j := i) (q := oc + i) rfl Ty.sl211 rfl rfl (by omega) (by omega) (by omega)) ?_
   refine WPD.tL 6 rfl rfl rfl rfl (fun _ h => h) (Val.load (v := .pointer (some ⟨pk, 0, none⟩)) rfl Ty.sc171 rfl (fun w h => (by have h9 := hc w (h.at 2 rfl) i _ (kp_at hxk) 0 _ rfl; rw [Nat.mul_one] at h9; simpa using h9))) ?_
   refine WPD.tM 7 rfl rfl rfl rfl (Val.move rfl rfl) ?_
   refine WPD.tL 8 rfl rfl rfl rfl (fun _ h => h) (Val.loadAgg (cs := [.int .i64 0, .int .i64 0, .bool false]) rfl Ty.ag251 rfl rfl (fun w h => h.range 0 rfl rfl)) ?_
   refine WPD.tL 9 rfl rfl rfl rfl (fun _ h => h) (Val.loadAgg (cs := [.int .i64 0, .int .i64 0, .bool false]) rfl Ty.ag251 rfl rfl (fun w h => h.range 1 rfl rfl)) ?_
   refine WPD.tM 10 rfl rfl rfl rfl (Val.move rfl rfl) ?_
   refine WPD.tM 11 rfl rfl rfl rfl (Val.move rfl rfl) ?_
   refine WPD.tM 12 rfl rfl rfl rfl (Val.move rfl rfl) ?_
   iterate 3 (refine WPD.perm pl4 ?_)
   refine WPD.stepC 13 (by kernel_rfl) rfl rfl rfl rfl (by kernel_rfl) (Eff.call rfl rfl Try.call131 (ih pk tk hb v hrk (by have h1 := vis_len (most := o.most) (pre (h + 1) t i) out; rw [hv] at h1; obtain ⟨R, hR⟩ := pre_ino (h := h + 1) (t := t) (i + 1); rw [pre_step hx hkt] at hR; rw [hR] at hsz; simp only [List.length_append, List.length_singleton] at hsz h1; omega))) ?_
   rintro _ _ ⟨_, ⟨hb1, rfl, rfl⟩, rfl⟩
   refine ⟨_, (fun _ h => h), ?_⟩
   show WPD _ _ _ _ _ _ _ _ _ (_ :: OutP ob (vis o.most v (ino h tk)).1 :: _)
   refine WPD.tM 14 rfl rfl rfl rfl (Val.move rfl rfl) ?_
   refine WPD.tM 15 rfl rfl rfl rfl (Val.extract rfl rfl rfl) ?_
   refine WPD.tM 16 rfl rfl rfl rfl (Val.extract rfl rfl rfl) ?_
   refine WPD.tM 17 rfl rfl rfl rfl (Val.assign rfl rfl) ?_
   refine WPD.tM 18 rfl rfl rfl rfl (Val.assign rfl rfl) ?_
   refine WPD.done (by kernel_rfl) ?_
   refine Out.next ?_
   refine WPc.sr ?_
   refine WP.val rfl rfl rfl (Val.move rfl rfl) ?_
   refine WP.val rfl rfl rfl (Val.not rfl rfl) ?_
   refine WP.nx ?_
   refine WPc.cond rfl (fun h3 => ?_) (fun h3 => ?_)
   ·
    have h3 : (!((vis o.most v (ino h tk)).2)) = true := h3
    refine WPc.sr ?_
    refine WP.val rfl rfl rfl (Val.move rfl rfl) ?_
    refine WP.val rfl rfl rfl (Val.assign rfl rfl) ?_
    refine WP.val rfl rfl rfl (Val.assign rfl rfl) ?_
    refine WP.nx ?_
    refine WPc.ret ?_
    refine Out.then_ret ?_
    refine Out.block_ret ?_
    refine Out.then_ret ?_
    refine Out.then_ret ?_
    refine Out.block_ret ?_
    refine Out.then_ret ?_
    refine Out.block_ret ?_
    refine Out.then_ret ?_
    obtain ⟨R, hR⟩ := pre_ino (h := h + 1) (t := t) (i + 1)
    rw [pre_step hx hkt] at hR
    have hok : (vis o.most v (ino h tk)).2 = false := by first | assumption | simp_all
    have hfin : vis o.most out (ino (h + 1) t) = ((vis o.most v (ino h tk)).1, false) := by rw [hR, show pre (h + 1) t i ++ (ino h tk ++ [x]) ++ R = pre (h + 1) t i ++ (ino h tk ++ ([x] ++ R)) by simp, vis_app _ _ _ _ hv]; exact vis_stop _ _ _ _ (by rw [← hok])
    refine Out.perm pl3 ?_
    refine Out.drop ?_
    refine Out.perm pl3 ?_
    refine Out.drop ?_
    exact Out.ret2 (L' := _) Try.results131 rfl rfl ⟨_, by first | (rw [hfin]; done) | (rw [hfin]; rfl), by rw [hfin]⟩ (fun _ h => h)
   ·
    have h3 : (!((vis o.most v (ino h tk)).2)) = false := h3
    refine WPc.skip ?_
    refine Out.next ?_
    refine WPc.seq ?_
    refine WPc.seq ?_
    obtain ⟨v2, hv2⟩ : ∃ v2, v2 = (vis o.most v (ino h tk)).1 := ⟨_, rfl⟩
    have hok : (vis o.most v (ino h tk)).2 = true := by first | assumption | simp_all
    have hvk : vis o.most v (ino h tk) = (v2, true) := by rw [hv2, ← hok]
    have hvw : vis o.most out (pre (h + 1) t i ++ ino h tk) = (v2, true) := by rw [vis_app _ _ _ _ hv, hvk]
    rw [← hv2]
    refine WPD.s0 Ty.mixed ?_
    refine WPD.tM 0 rfl rfl rfl rfl (Val.move rfl rfl) ?_
    refine WPD.tM 1 rfl rfl rfl rfl (Val.not rfl rfl) ?_
    refine WPD.tM 2 rfl rfl rfl rfl (Val.move rfl rfl) ?_
    refine WPD.takeGM 3 rfl rfl rfl rfl rfl rfl rfl rfl (by kernel_rfl) (by kernel_rfl) (by kernel_rfl) (by kernel_rfl) (fun _ _ _ h => h) (fun _ h => h) (Val.move rfl rfl) ?_
    refine WPD.takeGM 4 rfl rfl rfl rfl rfl rfl rfl rfl (by kernel_rfl) (by kernel_rfl) (by kernel_rfl) (by kernel_rfl) (fun _ _ _ h => h) (fun _ h => h) (Val.not rfl rfl) ?_
    refine WPD.tM 5 rfl rfl rfl rfl (Val.pickT rfl rfl rfl) ?_
    refine WPD.tM 6 rfl rfl rfl rfl (Val.move rfl rfl) ?_
    refine WPD.splitB 85 rfl (fun h4 => ?_) (fun h4 => ?_)
    ·
     refine WPD.takeGM 7 rfl rfl rfl rfl rfl rfl rfl rfl (by kernel_rfl) (by kernel_rfl) (by kernel_rfl) (by kernel_rfl) (fun _ _ _ h => h) (fun _ h => h) (Val.fieldAddr (j := 2) rfl Ty.fo251_1 rfl rfl) ?_
     refine WPD.takeG 8 rfl rfl rfl rfl rfl rfl rfl rfl (by kernel_rfl) (by kernel_rfl) (by kernel_rfl) (by kernel_rfl) (fun _ _ _ h => h) (by kernel_rfl) (fun _ h => h) (Val.load rfl Ty.sc4 rfl (fun w h => h.cell 3 rfl rfl)) ?_
     refine WPD.tM 9 rfl rfl rfl rfl (Val.pickT rfl rfl rfl) ?_
     refine WPD.tM 10 rfl rfl rfl rfl (Val.move rfl rfl) ?_
     refine WPD.skip 11 rfl rfl rfl rfl rfl rfl rfl rfl (by kernel_rfl) (by kernel_rfl) (by kernel_rfl) (by kernel_rfl) (fun _ _ _ h => h) (fun _ h => h) ?_
     refine WPD.skip 12 rfl rfl rfl rfl rfl rfl rfl rfl (by kernel_rfl) (by kernel_rfl) (by kernel_rfl) (by kernel_rfl) (fun _ _ _ h => h) (fun _ h => h) ?_
     refine WPD.skip 13 rfl rfl rfl rfl rfl rfl rfl rfl (by kernel_rfl) (by kernel_rfl) (by kernel_rfl) (by kernel_rfl) (fun _ _ _ h => h) (fun _ h => h) ?_
     refine WPD.skip 14 rfl rfl rfl rfl rfl rfl rfl rfl (by kernel_rfl) (by kernel_rfl) (by kernel_rfl) (by kernel_rfl) (fun _ _ _ h => h) (fun _ h => h) ?_
     refine WPD.skip 15 rfl rfl rfl rfl rfl rfl rfl rfl (by kernel_rfl) (by kernel_rfl) (by kernel_rfl) (by kernel_rfl) (fun _ _ _ h => h) (fun _ h => h) ?_
     refine WPD.skip 16 rfl rfl rfl rfl rfl rfl rfl rfl (by kernel_rfl) (by kernel_rfl) (by kernel_rfl) (by kernel_rfl) (fun _ _ _ h => h) (fun _ h => h) ?_
     refine WPD.skip 17 rfl rfl rfl rfl rfl rfl rfl rfl (by kernel_rfl) (by kernel_rfl) (by kernel_rfl) (by kernel_rfl) (fun _ _ _ h => h) (fun _ h => h) ?_
     refine WPD.skip 18 rfl rfl rfl rfl rfl rfl rfl rfl (by kernel_rfl) (by kernel_rfl) (by kernel_rfl) (by kernel_rfl) (fun _ _ _ h => h) (fun _ h => h) ?_
     refine WPD.skip 19 rfl rfl rfl rfl rfl rfl rfl rfl (by kernel_rfl) (by kernel_rfl) (by kernel_rfl) (by kernel_rfl) (fun _ _ _ h => h) (fun _ h => h) ?_
     refine WPD.skip 20 rfl rfl rfl rfl rfl rfl rfl rfl (by kernel_rfl) (by kernel_rfl) (by kernel_rfl) (by kernel_rfl) (fun _ _ _ h => h) (fun _ h => h) ?_
     refine WPD.skip 21 rfl rfl rfl rfl rfl rfl rfl rfl (by kernel_rfl) (by kernel_rfl) (by kernel_rfl) (by kernel_rfl) (fun _ _ _ h => h) (fun _ h => h) ?_
     refine WPD.skip 22 rfl rfl rfl rfl rfl rfl rfl rfl (by kernel_rfl) (by kernel_rfl) (by kernel_rfl) (by kernel_rfl) (fun _ _ _ h => h) (fun _ h => h) ?_
     refine WPD.skip 23 rfl rfl rfl rfl rfl rfl rfl rfl (by kernel_rfl) (by kernel_rfl) (by kernel_rfl) (by kernel_rfl) (fun _ _ _ h => h) (fun _ h => h) ?_
     refine WPD.skip 24 rfl rfl rfl rfl rfl rfl rfl rfl (by kernel_rfl) (by kernel_rfl) (by kernel_rfl) (by kernel_rfl) (fun _ _ _ h => h) (fun _ h => h) ?_
     refine WPD.skip 25 rfl rfl rfl rfl rfl rfl rfl rfl (by kernel_rfl) (by kernel_rfl) (by kernel_rfl) (by kernel_rfl) (fun _ _ _ h => h) (fun _ h => h) ?_
     refine WPD.skip 26 rfl rfl rfl rfl rfl rfl rfl rfl (by kernel_rfl) (by kernel_rfl) (by kernel_rfl) (by kernel_rfl) (fun _ _ _ h => h) (fun _ h => h) ?_
     refine WPD.skip 27 rfl rfl rfl rfl rfl rfl rfl rfl (by kernel_rfl) (by kernel_rfl) (by kernel_rfl) (by kernel_rfl) (fun _ _ _ h => h) (fun _ h => h) ?_
     refine WPD.skip 28 rfl rfl rfl rfl rfl rfl rfl rfl (by kernel_rfl) (by kernel_rfl) (by kernel_rfl) (by kernel_rfl) (fun _ _ _ h => h) (fun _ h => h) ?_
     refine WPD.tM 29 rfl rfl rfl rfl (Val.pickF rfl rfl rfl) ?_
     refine WPD.done (by kernel_rfl) ?_
     refine Out.next ?_
     refine WPc.condF rfl rfl ?_
     refine WPc.skip ?_
     refine Out.next ?_
     refine WPc.sr ?_
     refine WP.val rfl rfl rfl (Val.assign rfl rfl) ?_
     refine WP.nx ?_
     refine WPc.seq ?_
     refine WPc.seq ?_
     refine WPD.s0 Ty.mixed ?_
     refine WPD.tM 0 rfl rfl rfl rfl (Val.fieldAddr (j := 2) rfl Ty.fo251_1 rfl rfl) ?_
     refine WPD.tL 1 rfl rfl rfl rfl (fun _ h => h) (Val.load rfl Ty.sc4 rfl (fun w h => h.cell 4 rfl rfl)) ?_
     refine WPD.tM 2 rfl rfl rfl rfl (Val.move rfl rfl) ?_
     refine WPD.skip 3 rfl rfl rfl rfl rfl rfl rfl rfl (by kernel_rfl) (by kernel_rfl) (by kernel_rfl) (by kernel_rfl) (fun _ _ _ h => h) (fun _ h => h) ?_
     refine WPD.skip 4 rfl rfl rfl rfl rfl rfl rfl rfl (by kernel_rfl) (by kernel_rfl) (by kernel_rfl) (by kernel_rfl) (fun _ _ _ h => h) (fun _ h => h) ?_
     refine WPD.skip 5 rfl rfl rfl rfl rfl rfl rfl rfl (by kernel_rfl) (by kernel_rfl) (by kernel_rfl) (by kernel_rfl) (fun _ _ _ h => h) (fun _ h => h) ?_
     refine WPD.skip 6 rfl rfl rfl rfl rfl rfl rfl rfl (by kernel_rfl) (by kernel_rfl) (by kernel_rfl) (by kernel_rfl) (fun _ _ _ h => h) (fun _ h => h) ?_
     refine WPD.skip 7 rfl rfl rfl rfl rfl rfl rfl rfl (by kernel_rfl) (by kernel_rfl) (by kernel_rfl) (by kernel_rfl) (fun _ _ _ h => h) (fun _ h => h) ?_
     refine WPD.skip 8 rfl rfl rfl rfl rfl rfl rfl rfl (by kernel_rfl) (by kernel_rfl) (by kernel_rfl) (by kernel_rfl) (fun _ _ _ h => h) (fun _ h => h) ?_
     refine WPD.skip 9 rfl rfl rfl rfl rfl rfl rfl rfl (by kernel_rfl) (by kernel_rfl) (by kernel_rfl) (by kernel_rfl) (fun _ _ _ h => h) (fun _ h => h) ?_
     refine WPD.skip 10 rfl rfl rfl rfl rfl rfl rfl rfl (by kernel_rfl) (by kernel_rfl) (by kernel_rfl) (by kernel_rfl) (fun _ _ _ h => h) (fun _ h => h) ?_
     refine WPD.skip 11 rfl rfl rfl rfl rfl rfl rfl rfl (by kernel_rfl) (by kernel_rfl) (by kernel_rfl) (by kernel_rfl) (fun _ _ _ h => h) (fun _ h => h) ?_
     refine WPD.skip 12 rfl rfl rfl rfl rfl rfl rfl rfl (by kernel_rfl) (by kernel_rfl) (by kernel_rfl) (by kernel_rfl) (fun _ _ _ h => h) (fun _ h => h) ?_
     refine WPD.skip 13 rfl rfl rfl rfl rfl rfl rfl rfl (by kernel_rfl) (by kernel_rfl) (by kernel_rfl) (by kernel_rfl) (fun _ _ _ h => h) (fun _ h => h) ?_
     refine WPD.skip 14 rfl rfl rfl rfl rfl rfl rfl rfl (by kernel_rfl) (by kernel_rfl) (by kernel_rfl) (by kernel_rfl) (fun _ _ _ h => h) (fun _ h => h) ?_
     refine WPD.skip 15 rfl rfl rfl rfl rfl rfl rfl rfl (by kernel_rfl) (by kernel_rfl) (by kernel_rfl) (by kernel_rfl) (fun _ _ _ h => h) (fun _ h => h) ?_
     refine WPD.skip 16 rfl rfl rfl rfl rfl rfl rfl rfl (by kernel_rfl) (by kernel_rfl) (by kernel_rfl) (by kernel_rfl) (fun _ _ _ h => h) (fun _ h => h) ?_
     refine WPD.skip 17 rfl rfl rfl rfl rfl rfl rfl rfl (by kernel_rfl) (by kernel_rfl) (by kernel_rfl) (by kernel_rfl) (fun _ _ _ h => h) (fun _ h => h) ?_
     refine WPD.skip 18 rfl rfl rfl rfl rfl rfl rfl rfl (by kernel_rfl) (by kernel_rfl) (by kernel_rfl) (by kernel_rfl) (fun _ _ _ h => h) (fun _ h => h) ?_
     refine WPD.skip 19 rfl rfl rfl rfl rfl rfl rfl rfl (by kernel_rfl) (by kernel_rfl) (by kernel_rfl) (by kernel_rfl) (fun _ _ _ h => h) (fun _ h => h) ?_
     refine WPD.skip 20 rfl rfl rfl rfl rfl rfl rfl rfl (by kernel_rfl) (by kernel_rfl) (by kernel_rfl) (by kernel_rfl) (fun _ _ _ h => h) (fun _ h => h) ?_
     refine WPD.tM 21 rfl rfl rfl rfl (Val.pickF rfl rfl rfl) ?_
     refine WPD.done (by kernel_rfl) ?_
     refine Out.next ?_
     refine WPc.condF rfl rfl ?_
     refine WPc.skip ?_
     refine Out.next ?_
     refine WPc.sr ?_
     refine WP.val rfl rfl rfl (Val.move rfl rfl) ?_
     refine WP.val rfl rfl rfl (Val.move rfl rfl) ?_
     refine WP.val rfl rfl rfl (Val.nilCheck rfl rfl) ?_
     refine WP.val rfl rfl rfl (Val.fieldAddr (j := 0) rfl Ty.fo213_0 rfl rfl) ?_
     refine WP.val rfl rfl rfl (Val.load (v := .slice (some ⟨bi, oi, none⟩) t.is.length ci) rfl Ty.sc210 rfl (fun w h => (hn.cells w (h.at 0 rfl)).1)) ?_
     refine WP.val rfl rfl rfl (Val.move rfl rfl) ?_
     refine WP.val rfl rfl rfl (Val.indexAddr (j := i) (q := oi + i * 2) rfl Ty.sl210 rfl rfl (by omega) (by omega) (by omega)) ?_
     refine WP.val rfl rfl rfl (Val.loadAgg (cs := [.int .i64 (x.k), .int .i64 (x.v)]) rfl Ty.ag55 rfl (by rfl) (fun w h => hi w (h.at 0 rfl) i x hx)) ?_
     refine WP.perm pl2 ?_
     refine WP.perm pl2 ?_
     refine WP.eff rfl rfl rfl (Eff.callF (args' := [.agg #[.int .i64 (x.k), .int .i64 (x.v)], .pointer (some ⟨ob, 0, none⟩), .pointer (some ⟨pb, 0, none⟩)]) rfl rfl rfl rfl Try.call109 (cb_spec ob pb v2 o x (by have h1 := vis_len (most := o.most) (pre (h + 1) t i ++ ino h tk) out; rw [hvw] at h1; obtain ⟨R, hR⟩ := pre_ino (h := (h + 1)) (t := t) (i + 1); rw [pre_step hx hkt] at hR; rw [hR] at hsz; simp only [List.length_append, List.length_singleton] at hsz h1; omega))) ?_
     rintro _ _ ⟨_, ⟨rfl, rfl⟩, rfl⟩
     show WP _ _ _ _ _ _ _ (OutP ob (v2 ++ [x]) :: _)
     refine WP.val rfl rfl rfl (Val.notP rfl rfl) ?_
     refine WP.nx ?_
     refine WPc.ifP rfl (fun h5 => ?_) (fun h5 => ?_)
     ·
      have h5 : (¬ (o.most ≤ 0 ∨ (v2.length : Int) + 1 < o.most)) := h5
      refine WPc.sr ?_
      refine WP.val rfl rfl rfl (Val.move rfl rfl) ?_
      refine WP.val rfl rfl rfl (Val.assign rfl rfl) ?_
      refine WP.val rfl rfl rfl (Val.assign rfl rfl) ?_
      refine WP.nx ?_
      refine WPc.ret ?_
      refine Out.block_ret ?_
      refine Out.then_ret ?_
      refine Out.then_ret ?_
      refine Out.block_ret ?_
      refine Out.then_ret ?_
      refine Out.block_ret ?_
      refine Out.then_ret ?_
      obtain ⟨R, hR⟩ := pre_ino (h := (h + 1)) (t := t) (i + 1)
      rw [pre_step hx hkt] at hR
      have hfin : vis o.most out (ino (h + 1) t) = (v2 ++ [x], false) := by rw [hR]; refine vis_stop _ _ _ _ ?_; rw [← List.append_assoc, vis_app _ _ _ _ hvw]; simp only [vis]; rw [if_neg (by first | assumption | exact Decidable.not_not.1 (by assumption) | omega)]
      refine Out.perm pl3 ?_
      refine Out.drop ?_
      refine Out.perm pl3 ?_
      refine Out.drop ?_
      refine Out.perm pl1 ?_
      refine Out.perm pl1 ?_
      refine Out.perm pl2 ?_
      exact Out.ret2 (L' := _) Try.results131 rfl rfl ⟨_, by first | (rw [hfin]; done) | (rw [hfin]; rfl), by rw [hfin]⟩ (fun _ h => h)
     ·
      have h5 : ¬ (¬ (o.most ≤ 0 ∨ (v2.length : Int) + 1 < o.most)) := h5
      refine WPc.skip ?_
      refine Out.block ?_
      refine Out.next ?_
      refine WPc.region ?_
      refine WP.val rfl rfl rfl (Val.move rfl rfl) ?_
      refine WP.val rfl rfl rfl (Val.add (z := ((i + 1 : Nat) : Int)) rfl rfl rfl ((w64 (by omega) (by omega)).trans (by omega))) ?_
      refine WP.val rfl rfl rfl (Val.assign rfl rfl) ?_
      refine WP.nil ?_
      have hvn : vis o.most out (pre (h + 1) t (i + 1)) = (v2 ++ [x], true) := by rw [pre_step hx hkt, ← List.append_assoc, vis_app _ _ _ _ hvw]; simp only [vis]; rw [if_pos (by first | assumption | exact Decidable.not_not.1 (by assumption) | omega)]
      refine Out.perm pl1 ?_
      refine Out.perm pl1 ?_
      refine Out.perm pl2 ?_
      refine Out.perm pl4 ?_
      refine Out.perm pl4 ?_
      refine Out.again (i + 1, true, v2 ++ [x]) ?_ ?_ ?_ ?_
      ·
       exact ⟨by omega, hvn⟩
      ·
       (first | omega | (dsimp only; omega))
      ·
       exact (Sub.cons rfl (Sub.cons rfl (Sub.cons rfl (Sub.cons rfl (Sub.cons rfl (Sub.cons rfl (Sub.cons rfl (Sub.cons rfl Sub.nil))))))))
      ·
       exact (fun _ h => h)
    ·
     refine WPD.skip 7 rfl rfl rfl rfl rfl rfl rfl rfl (by kernel_rfl) (by kernel_rfl) (by kernel_rfl) (by kernel_rfl) (fun _ _ _ h => h) (fun _ h => h) ?_
     refine WPD.skip 8 rfl rfl rfl rfl rfl rfl rfl rfl (by kernel_rfl) (by kernel_rfl) (by kernel_rfl) (by kernel_rfl) (fun _ _ _ h => h) (fun _ h => h) ?_
     refine WPD.tM 9 rfl rfl rfl rfl (Val.pickF rfl rfl rfl) ?_
     refine WPD.tM 10 rfl rfl rfl rfl (Val.move rfl rfl) ?_
     refine WPD.skip 11 rfl rfl rfl rfl rfl rfl rfl rfl (by kernel_rfl) (by kernel_rfl) (by kernel_rfl) (by kernel_rfl) (fun _ _ _ h => h) (fun _ h => h) ?_
     refine WPD.skip 12 rfl rfl rfl rfl rfl rfl rfl rfl (by kernel_rfl) (by kernel_rfl) (by kernel_rfl) (by kernel_rfl) (fun _ _ _ h => h) (fun _ h => h) ?_
     refine WPD.skip 13 rfl rfl rfl rfl rfl rfl rfl rfl (by kernel_rfl) (by kernel_rfl) (by kernel_rfl) (by kernel_rfl) (fun _ _ _ h => h) (fun _ h => h) ?_
     refine WPD.skip 14 rfl rfl rfl rfl rfl rfl rfl rfl (by kernel_rfl) (by kernel_rfl) (by kernel_rfl) (by kernel_rfl) (fun _ _ _ h => h) (fun _ h => h) ?_
     refine WPD.skip 15 rfl rfl rfl rfl rfl rfl rfl rfl (by kernel_rfl) (by kernel_rfl) (by kernel_rfl) (by kernel_rfl) (fun _ _ _ h => h) (fun _ h => h) ?_
     refine WPD.skip 16 rfl rfl rfl rfl rfl rfl rfl rfl (by kernel_rfl) (by kernel_rfl) (by kernel_rfl) (by kernel_rfl) (fun _ _ _ h => h) (fun _ h => h) ?_
     refine WPD.skip 17 rfl rfl rfl rfl rfl rfl rfl rfl (by kernel_rfl) (by kernel_rfl) (by kernel_rfl) (by kernel_rfl) (fun _ _ _ h => h) (fun _ h => h) ?_
     refine WPD.skip 18 rfl rfl rfl rfl rfl rfl rfl rfl (by kernel_rfl) (by kernel_rfl) (by kernel_rfl) (by kernel_rfl) (fun _ _ _ h => h) (fun _ h => h) ?_
     refine WPD.skip 19 rfl rfl rfl rfl rfl rfl rfl rfl (by kernel_rfl) (by kernel_rfl) (by kernel_rfl) (by kernel_rfl) (fun _ _ _ h => h) (fun _ h => h) ?_
     refine WPD.skip 20 rfl rfl rfl rfl rfl rfl rfl rfl (by kernel_rfl) (by kernel_rfl) (by kernel_rfl) (by kernel_rfl) (fun _ _ _ h => h) (fun _ h => h) ?_
     refine WPD.skip 21 rfl rfl rfl rfl rfl rfl rfl rfl (by kernel_rfl) (by kernel_rfl) (by kernel_rfl) (by kernel_rfl) (fun _ _ _ h => h) (fun _ h => h) ?_
     refine WPD.skip 22 rfl rfl rfl rfl rfl rfl rfl rfl (by kernel_rfl) (by kernel_rfl) (by kernel_rfl) (by kernel_rfl) (fun _ _ _ h => h) (fun _ h => h) ?_
     refine WPD.skip 23 rfl rfl rfl rfl rfl rfl rfl rfl (by kernel_rfl) (by kernel_rfl) (by kernel_rfl) (by kernel_rfl) (fun _ _ _ h => h) (fun _ h => h) ?_
     refine WPD.skip 24 rfl rfl rfl rfl rfl rfl rfl rfl (by kernel_rfl) (by kernel_rfl) (by kernel_rfl) (by kernel_rfl) (fun _ _ _ h => h) (fun _ h => h) ?_
     refine WPD.skip 25 rfl rfl rfl rfl rfl rfl rfl rfl (by kernel_rfl) (by kernel_rfl) (by kernel_rfl) (by kernel_rfl) (fun _ _ _ h => h) (fun _ h => h) ?_
     refine WPD.skip 26 rfl rfl rfl rfl rfl rfl rfl rfl (by kernel_rfl) (by kernel_rfl) (by kernel_rfl) (by kernel_rfl) (fun _ _ _ h => h) (fun _ h => h) ?_
     refine WPD.skip 27 rfl rfl rfl rfl rfl rfl rfl rfl (by kernel_rfl) (by kernel_rfl) (by kernel_rfl) (by kernel_rfl) (fun _ _ _ h => h) (fun _ h => h) ?_
     refine WPD.skip 28 rfl rfl rfl rfl rfl rfl rfl rfl (by kernel_rfl) (by kernel_rfl) (by kernel_rfl) (by kernel_rfl) (fun _ _ _ h => h) (fun _ h => h) ?_
     refine WPD.tM 29 rfl rfl rfl rfl (Val.pickF rfl rfl rfl) ?_
     refine WPD.done (by kernel_rfl) ?_
     refine Out.next ?_
     refine WPc.condF rfl rfl ?_
     refine WPc.skip ?_
     refine Out.next ?_
     refine WPc.sr ?_
     refine WP.val rfl rfl rfl (Val.assign rfl rfl) ?_
     refine WP.nx ?_
     refine WPc.seq ?_
     refine WPc.seq ?_
     refine WPD.s0 Ty.mixed ?_
     refine WPD.tM 0 rfl rfl rfl rfl (Val.fieldAddr (j := 2) rfl Ty.fo251_1 rfl rfl) ?_
     refine WPD.tL 1 rfl rfl rfl rfl (fun _ h => h) (Val.load rfl Ty.sc4 rfl (fun w h => h.cell 4 rfl rfl)) ?_
     refine WPD.tM 2 rfl rfl rfl rfl (Val.move rfl rfl) ?_
     refine WPD.skip 3 rfl rfl rfl rfl rfl rfl rfl rfl (by kernel_rfl) (by kernel_rfl) (by kernel_rfl) (by kernel_rfl) (fun _ _ _ h => h) (fun _ h => h) ?_
     refine WPD.skip 4 rfl rfl rfl rfl rfl rfl rfl rfl (by kernel_rfl) (by kernel_rfl) (by kernel_rfl) (by kernel_rfl) (fun _ _ _ h => h) (fun _ h => h) ?_
     refine WPD.skip 5 rfl rfl rfl rfl rfl rfl rfl rfl (by kernel_rfl) (by kernel_rfl) (by kernel_rfl) (by kernel_rfl) (fun _ _ _ h => h) (fun _ h => h) ?_
     refine WPD.skip 6 rfl rfl rfl rfl rfl rfl rfl rfl (by kernel_rfl) (by kernel_rfl) (by kernel_rfl) (by kernel_rfl) (fun _ _ _ h => h) (fun _ h => h) ?_
     refine WPD.skip 7 rfl rfl rfl rfl rfl rfl rfl rfl (by kernel_rfl) (by kernel_rfl) (by kernel_rfl) (by kernel_rfl) (fun _ _ _ h => h) (fun _ h => h) ?_
     refine WPD.skip 8 rfl rfl rfl rfl rfl rfl rfl rfl (by kernel_rfl) (by kernel_rfl) (by kernel_rfl) (by kernel_rfl) (fun _ _ _ h => h) (fun _ h => h) ?_
     refine WPD.skip 9 rfl rfl rfl rfl rfl rfl rfl rfl (by kernel_rfl) (by kernel_rfl) (by kernel_rfl) (by kernel_rfl) (fun _ _ _ h => h) (fun _ h => h) ?_
     refine WPD.skip 10 rfl rfl rfl rfl rfl rfl rfl rfl (by kernel_rfl) (by kernel_rfl) (by kernel_rfl) (by kernel_rfl) (fun _ _ _ h => h) (fun _ h => h) ?_
     refine WPD.skip 11 rfl rfl rfl rfl rfl rfl rfl rfl (by kernel_rfl) (by kernel_rfl) (by kernel_rfl) (by kernel_rfl) (fun _ _ _ h => h) (fun _ h => h) ?_
     refine WPD.skip 12 rfl rfl rfl rfl rfl rfl rfl rfl (by kernel_rfl) (by kernel_rfl) (by kernel_rfl) (by kernel_rfl) (fun _ _ _ h => h) (fun _ h => h) ?_
     refine WPD.skip 13 rfl rfl rfl rfl rfl rfl rfl rfl (by kernel_rfl) (by kernel_rfl) (by kernel_rfl) (by kernel_rfl) (fun _ _ _ h => h) (fun _ h => h) ?_
     refine WPD.skip 14 rfl rfl rfl rfl rfl rfl rfl rfl (by kernel_rfl) (by kernel_rfl) (by kernel_rfl) (by kernel_rfl) (fun _ _ _ h => h) (fun _ h => h) ?_
     refine WPD.skip 15 rfl rfl rfl rfl rfl rfl rfl rfl (by kernel_rfl) (by kernel_rfl) (by kernel_rfl) (by kernel_rfl) (fun _ _ _ h => h) (fun _ h => h) ?_
     refine WPD.skip 16 rfl rfl rfl rfl rfl rfl rfl rfl (by kernel_rfl) (by kernel_rfl) (by kernel_rfl) (by kernel_rfl) (fun _ _ _ h => h) (fun _ h => h) ?_
     refine WPD.skip 17 rfl rfl rfl rfl rfl rfl rfl rfl (by kernel_rfl) (by kernel_rfl) (by kernel_rfl) (by kernel_rfl) (fun _ _ _ h => h) (fun _ h => h) ?_
     refine WPD.skip 18 rfl rfl rfl rfl rfl rfl rfl rfl (by kernel_rfl) (by kernel_rfl) (by kernel_rfl) (by kernel_rfl) (fun _ _ _ h => h) (fun _ h => h) ?_
     refine WPD.skip 19 rfl rfl rfl rfl rfl rfl rfl rfl (by kernel_rfl) (by kernel_rfl) (by kernel_rfl) (by kernel_rfl) (fun _ _ _ h => h) (fun _ h => h) ?_
     refine WPD.skip 20 rfl rfl rfl rfl rfl rfl rfl rfl (by kernel_rfl) (by kernel_rfl) (by kernel_rfl) (by kernel_rfl) (fun _ _ _ h => h) (fun _ h => h) ?_
     refine WPD.tM 21 rfl rfl rfl rfl (Val.pickF rfl rfl rfl) ?_
     refine WPD.done (by kernel_rfl) ?_
     refine Out.next ?_
     refine WPc.condF rfl rfl ?_
     refine WPc.skip ?_
     refine Out.next ?_
     refine WPc.sr ?_
     refine WP.val rfl rfl rfl (Val.move rfl rfl) ?_
     refine WP.val rfl rfl rfl (Val.move rfl rfl) ?_
     refine WP.val rfl rfl rfl (Val.nilCheck rfl rfl) ?_
     refine WP.val rfl rfl rfl (Val.fieldAddr (j := 0) rfl Ty.fo213_0 rfl rfl) ?_
     refine WP.val rfl rfl rfl (Val.load (v := .slice (some ⟨bi, oi, none⟩) t.is.length ci) rfl Ty.sc210 rfl (fun w h => (hn.cells w (h.at 0 rfl)).1)) ?_
     refine WP.val rfl rfl rfl (Val.move rfl rfl) ?_
     refine WP.val rfl rfl rfl (Val.indexAddr (j := i) (q := oi + i * 2) rfl Ty.sl210 rfl rfl (by omega) (by omega) (by omega)) ?_
     refine WP.val rfl rfl rfl (Val.loadAgg (cs := [.int .i64 (x.k), .int .i64 (x.v)]) rfl Ty.ag55 rfl (by rfl) (fun w h => hi w (h.at 0 rfl) i x hx)) ?_
     refine WP.perm pl2 ?_
     refine WP.perm pl2 ?_
     refine WP.eff rfl rfl rfl (Eff.callF (args' := [.agg #[.int .i64 (x.k), .int .i64 (x.v)], .pointer (some ⟨ob, 0, none⟩), .pointer (some ⟨pb, 0, none⟩)]) rfl rfl rfl rfl Try.call109 (cb_spec ob pb v2 o x (by have h1 := vis_len (most := o.most) (pre (h + 1) t i ++ ino h tk) out; rw [hvw] at h1; obtain ⟨R, hR⟩ := pre_ino (h := (h + 1)) (t := t) (i + 1); rw [pre_step hx hkt] at hR; rw [hR] at hsz; simp only [List.length_append, List.length_singleton] at hsz h1; omega))) ?_
     rintro _ _ ⟨_, ⟨rfl, rfl⟩, rfl⟩
     show WP _ _ _ _ _ _ _ (OutP ob (v2 ++ [x]) :: _)
     refine WP.val rfl rfl rfl (Val.notP rfl rfl) ?_
     refine WP.nx ?_
     refine WPc.ifP rfl (fun h6 => ?_) (fun h6 => ?_)
     ·
      have h6 : (¬ (o.most ≤ 0 ∨ (v2.length : Int) + 1 < o.most)) := h6
      refine WPc.sr ?_
      refine WP.val rfl rfl rfl (Val.move rfl rfl) ?_
      refine WP.val rfl rfl rfl (Val.assign rfl rfl) ?_
      refine WP.val rfl rfl rfl (Val.assign rfl rfl) ?_
      refine WP.nx ?_
      refine WPc.ret ?_
      refine Out.block_ret ?_
      refine Out.then_ret ?_
      refine Out.then_ret ?_
      refine Out.block_ret ?_
      refine Out.then_ret ?_
      refine Out.block_ret ?_
      refine Out.then_ret ?_
      obtain ⟨R, hR⟩ := pre_ino (h := (h + 1)) (t := t) (i + 1)
      rw [pre_step hx hkt] at hR
      have hfin : vis o.most out (ino (h + 1) t) = (v2 ++ [x], false) := by rw [hR]; refine vis_stop _ _ _ _ ?_; rw [← List.append_assoc, vis_app _ _ _ _ hvw]; simp only [vis]; rw [if_neg (by first | assumption | exact Decidable.not_not.1 (by assumption) | omega)]
      refine Out.perm pl3 ?_
      refine Out.drop ?_
      refine Out.perm pl3 ?_
      refine Out.drop ?_
      refine Out.perm pl1 ?_
      refine Out.perm pl1 ?_
      refine Out.perm pl2 ?_
      exact Out.ret2 (L' := _) Try.results131 rfl rfl ⟨_, by first | (rw [hfin]; done) | (rw [hfin]; rfl), by rw [hfin]⟩ (fun _ h => h)
     ·
      have h6 : ¬ (¬ (o.most ≤ 0 ∨ (v2.length : Int) + 1 < o.most)) := h6
      refine WPc.skip ?_
      refine Out.block ?_
      refine Out.next ?_
      refine WPc.region ?_
      refine WP.val rfl rfl rfl (Val.move rfl rfl) ?_
      refine WP.val rfl rfl rfl (Val.add (z := ((i + 1 : Nat) : Int)) rfl rfl rfl ((w64 (by omega) (by omega)).trans (by omega))) ?_
      refine WP.val rfl rfl rfl (Val.assign rfl rfl) ?_
      refine WP.nil ?_
      have hvn : vis o.most out (pre (h + 1) t (i + 1)) = (v2 ++ [x], true) := by rw [pre_step hx hkt, ← List.append_assoc, vis_app _ _ _ _ hvw]; simp only [vis]; rw [if_pos (by first | assumption | exact Decidable.not_not.1 (by assumption) | omega)]
      refine Out.perm pl1 ?_
      refine Out.perm pl1 ?_
      refine Out.perm pl2 ?_
      refine Out.perm pl4 ?_
      refine Out.perm pl4 ?_
      refine Out.again (i + 1, true, v2 ++ [x]) ?_ ?_ ?_ ?_
      ·
       exact ⟨by omega, hvn⟩
      ·
       (first | omega | (dsimp only; omega))
      ·
       exact (Sub.cons rfl (Sub.cons rfl (Sub.cons rfl (Sub.cons rfl (Sub.cons rfl (Sub.cons rfl (Sub.cons rfl (Sub.cons rfl Sub.nil))))))))
      ·
       exact (fun _ h => h)
  ·
   have h2 : ¬ ((0 : Int) < (((kp ks).length : Nat) : Int)) := h2
   exfalso; have := kp_len ks; omega
 ·
  have h1 : ¬ (((i : Nat) : Int) < ((t.is.length : Nat) : Int)) := h1
  refine WPc.exit ?_
  refine Out.then_exit ?_
  refine Out.then_exit ?_
  refine Out.block_exit ?_
  refine Out.next ?_
  refine WPc.seq ?_
  have hin : i = t.is.length := by omega
  subst hin
  obtain ⟨⟨pkl, tkl⟩, hxkl⟩ : ∃ k, ks[ks.length - 1]? = some k := ⟨_, List.getElem?_eq_getElem (by omega)⟩
  have hktl := ks_at hn.snd hxkl
  have hrkl := hks _ (List.mem_of_getElem? hxkl)
  rw [show ks.length - 1 = t.is.length by omega] at hktl
  refine WPc.region ?_
  refine WP.val rfl rfl rfl (Val.move rfl rfl) ?_
  refine WP.val rfl rfl rfl (Val.nilCheck rfl rfl) ?_
  refine WP.val rfl rfl rfl (Val.fieldAddr (j := 1) rfl Ty.fo213_1 rfl rfl) ?_
  refine WP.val rfl rfl rfl (Val.load (v := .slice (some ⟨bc, oc, none⟩) ((kp ks).length) cc) rfl Ty.sc211 rfl (fun w h => (hn.cells w (h.at 2 rfl)).2.1)) ?_
  refine WP.val rfl rfl rfl (Val.len rfl Ty.sl211 rfl) ?_
  refine WP.val rfl rfl rfl (Val.gtr rfl rfl rfl) ?_
  refine WP.nx ?_
  refine WPc.ifP rfl (fun h7 => ?_) (fun h7 => ?_)
  ·
   have h7 : ((0 : Int) < (((kp ks).length : Nat) : Int)) := h7
   refine WPc.seq ?_
   refine WPD.s0 Ty.mixed ?_
   refine WPD.tM 0 rfl rfl rfl rfl (Val.move rfl rfl) ?_
   refine WPD.tM 1 rfl rfl rfl rfl (Val.nilCheck rfl rfl) ?_
   refine WPD.tM 2 rfl rfl rfl rfl (Val.fieldAddr (j := 1) rfl Ty.fo213_1 rfl rfl) ?_
   refine WPD.tL 3 rfl rfl rfl rfl (fun _ h => h) (Val.load (v := .slice (some ⟨bc, oc, none⟩) ((kp ks).length) cc) rfl Ty.sc211 rfl (fun w h => (hn.cells w (h.at 2 rfl)).2.1)) ?_
   refine WPD.tM 4 rfl rfl rfl rfl (Val.move rfl rfl) ?_
   refine WPD.tM 5 rfl rfl rfl rfl (Val.nilCheck rfl rfl) ?_
   refine WPD.tM 6 rfl rfl rfl rfl (Val.fieldAddr (j := 1) rfl Ty.fo213_1 rfl rfl) ?_
   refine WPD.tL 7 rfl rfl rfl rfl (fun _ h => h) (Val.load (v := .slice (some ⟨bc, oc, none⟩) ((kp ks).length) cc) rfl Ty.sc211 rfl (fun w h => (hn.cells w (h.at 2 rfl)).2.1)) ?_
   refine WPD.tL 8 rfl rfl rfl rfl (fun _ h => h) (Val.len rfl Ty.sl211 rfl) ?_
   refine WPD.tM 9 rfl rfl rfl rfl (Val.sub (z := ((((kp ks).length) - 1 : Nat) : Int)) rfl rfl rfl ((w64 (by omega) (by omega)).trans (by omega))) ?_
   refine WPD.tM 10 rfl rfl rfl rfl (Val.indexAddr (j := ((kp ks).length) - 1) (q := oc + ((kp ks).length) - 1) rfl Ty.sl211 rfl rfl (by omega) (by omega) (by omega)) ?_
   refine WPD.tL 11 rfl rfl rfl rfl (fun _ h => h) (Val.load (v := .pointer (some ⟨pkl, 0, none⟩)) rfl Ty.sc171 rfl (fun w h => (by have h9 := hc w (h.at 2 rfl) (ks.length - 1) _ (kp_at hxkl) 0 _ rfl; rw [Nat.mul_one, Nat.add_zero] at h9; rw [show oc + (kp ks).length - 1 = oc + (ks.length - 1) by rw [kp_len]; omega]; exact h9))) ?_
   refine WPD.tM 12 rfl rfl rfl rfl (Val.move rfl rfl) ?_
   refine WPD.tL 13 rfl rfl rfl rfl (fun _ h => h) (Val.loadAgg (cs := [.int .i64 0, .int .i64 0, .bool false]) rfl Ty.ag251 rfl rfl (fun w h => h.range 0 rfl rfl)) ?_
   refine WPD.tL 14 rfl rfl rfl rfl (fun _ h => h) (Val.loadAgg (cs := [.int .i64 0, .int .i64 0, .bool false]) rfl Ty.ag251 rfl rfl (fun w h => h.range 1 rfl rfl)) ?_
   refine WPD.tM 15 rfl rfl rfl rfl (Val.move rfl rfl) ?_
   refine WPD.tM 16 rfl rfl rfl rfl (Val.move rfl rfl) ?_
   refine WPD.tM 17 rfl rfl rfl rfl (Val.move rfl rfl) ?_
   iterate 3 (refine WPD.perm pl4 ?_)
   refine WPD.stepC 18 (by kernel_rfl) rfl rfl rfl rfl (by kernel_rfl) (Eff.call rfl rfl Try.call131 (ih pkl tkl hb v hrkl (by have h1 := vis_len (most := o.most) (pre (h + 1) t t.is.length) out; rw [hv] at h1; have hR := pre_all_step (h := h) hkl hktl; rw [hR] at hsz; simp only [List.length_append] at hsz h1; omega))) ?_
   rintro _ _ ⟨_, ⟨hb1, rfl, rfl⟩, rfl⟩
   refine ⟨_, (fun _ h => h), ?_⟩
   show WPD _ _ _ _ _ _ _ _ _ (_ :: OutP ob (vis o.most v (ino h tkl)).1 :: _)
   refine WPD.tM 19 rfl rfl rfl rfl (Val.move rfl rfl) ?_
   refine WPD.tM 20 rfl rfl rfl rfl (Val.extract rfl rfl rfl) ?_
   refine WPD.tM 21 rfl rfl rfl rfl (Val.extract rfl rfl rfl) ?_
   refine WPD.tM 22 rfl rfl rfl rfl (Val.assign rfl rfl) ?_
   refine WPD.tM 23 rfl rfl rfl rfl (Val.assign rfl rfl) ?_
   refine WPD.done (by kernel_rfl) ?_
   refine Out.next ?_
   refine WPc.sr ?_
   refine WP.val rfl rfl rfl (Val.move rfl rfl) ?_
   refine WP.val rfl rfl rfl (Val.not rfl rfl) ?_
   refine WP.nx ?_
   refine WPc.cond rfl (fun h8 => ?_) (fun h8 => ?_)
   ·
    have h8 : (!((vis o.most v (ino h tkl)).2)) = true := h8
    refine WPc.sr ?_
    refine WP.val rfl rfl rfl (Val.move rfl rfl) ?_
    refine WP.val rfl rfl rfl (Val.assign rfl rfl) ?_
    refine WP.val rfl rfl rfl (Val.assign rfl rfl) ?_
    refine WP.nx ?_
    refine WPc.ret ?_
    refine Out.block_ret ?_
    refine Out.then_ret ?_
    have hok : (vis o.most v (ino h tkl)).2 = false := by first | assumption | simp_all
    have hfin : vis o.most out (ino (h + 1) t) = ((vis o.most v (ino h tkl)).1, false) := by rw [pre_all_step (h := h) hkl hktl, vis_app _ _ _ _ hv, ← hok]
    refine Out.perm pl3 ?_
    refine Out.drop ?_
    refine Out.perm pl3 ?_
    refine Out.drop ?_
    exact Out.ret2 (L' := _) Try.results131 rfl rfl ⟨_, by first | (rw [hfin]; done) | (rw [hfin]; rfl), by rw [hfin]⟩ (fun _ h => h)
   ·
    have h8 : (!((vis o.most v (ino h tkl)).2)) = false := h8
    refine WPc.skip ?_
    refine Out.block ?_
    refine Out.next ?_
    refine WPc.sr ?_
    refine WP.val rfl rfl rfl (Val.move rfl rfl) ?_
    refine WP.val rfl rfl rfl (Val.assign rfl rfl) ?_
    refine WP.val rfl rfl rfl (Val.assign rfl rfl) ?_
    refine WP.nx ?_
    refine WPc.ret ?_
    have hok : (vis o.most v (ino h tkl)).2 = true := by first | assumption | simp_all
    have hfin : vis o.most out (ino (h + 1) t) = ((vis o.most v (ino h tkl)).1, true) := by rw [pre_all_step (h := h) hkl hktl, vis_app _ _ _ _ hv, ← hok]
    refine Out.perm pl3 ?_
    refine Out.drop ?_
    refine Out.perm pl3 ?_
    refine Out.drop ?_
    exact Out.ret2 (L' := _) Try.results131 rfl rfl ⟨_, by first | (rw [hfin]; done) | (rw [hfin]; rfl), by rw [hfin]⟩ (fun _ h => h)
  ·
   have h7 : ¬ ((0 : Int) < (((kp ks).length : Nat) : Int)) := h7
   exfalso; have := kp_len ks; omega
set_option maxRecDepth 100000 in
set_option maxHeartbeats 2000000 in
theorem it_step_nil (A : HProp) (Q : Value → Prop) (ob pb : Nat) (o : Bop) (h : Nat) (RT : Nat × Tr → Prop) (t : Tr) (ih : ∀ (p : Nat) (t : Tr) (hb0 : Bool) (out : List El), RT (p, t) → out.length + (ino h t).length ≤ 1000000 → Does Try.prog 131 [.pointer (some ⟨p, 0, none⟩), .int .i64 1, .agg #[.int .i64 0, .int .i64 0, .bool false], .agg #[.int .i64 0, .int .i64 0, .bool false], .bool false, .bool (hb0), .func (.func 109) #[] #[.pointer (some ⟨ob, 0, none⟩), .pointer (some ⟨pb, 0, none⟩)]] [A, OutP ob out, Blk pb [.int .i64 (o.kind), .int .i64 (o.tree), .int .i64 (o.el.k), .int .i64 (o.el.v), .int .i64 (o.from_), .int .i64 (o.till), .int .i64 (o.most), .bool (o.again)] 57] (fun v L => ∃ hb, v = .tuple #[.bool hb, .bool (vis o.most out (ino h t)).2] ∧ L = [A, OutP ob (vis o.most out (ino h t)).1, Blk pb [.int .i64 (o.kind), .int .i64 (o.tree), .int .i64 (o.el.k), .int .i64 (o.el.v), .int .i64 (o.from_), .int .i64 (o.till), .int .i64 (o.most), .bool (o.again)] 57]))  (p : Nat) (ai : Option Addr) (ci : Nat) (hni : t.is.length = 0) (bc oc cc : Nat) (ks : List (Nat × Tr)) (hc : ∀ w, Holds A w → ∀ i x, (kp ks)[i]? = some x → w.rangeAt bc (oc + i * 1) (vcf x)) (hkl : t.ks.length = t.is.length + 1) (hks : ∀ x ∈ ks, RT x) (hksl : ks.length = t.ks.length) (hk6 : ks.length ≤ 1000000) (cw : Value) (hn : NodeAt A Q (p, t) (.slice ai 0 ci) (.slice (some ⟨bc, oc, none⟩) (kp ks).length cc) cw ks) (hb0 : Bool) (out : List El) (hi6 : t.is.length ≤ 1000000) (hsz : out.length + (ino (h + 1) t).length ≤ 1000000) : Does Try.prog 131 [.pointer (some ⟨p, 0, none⟩), .int .i64 1, .agg #[.int .i64 0, .int .i64 0, .bool false], .agg #[.int .i64 0, .int .i64 0, .bool false], .bool false, .bool (hb0), .func (.func 109) #[] #[.pointer (some ⟨ob, 0, none⟩), .pointer (some ⟨pb, 0, none⟩)]] [A, OutP ob out, Blk pb [.int .i64 (o.kind), .int .i64 (o.tree), .int .i64 (o.el.k), .int .i64 (o.el.v), .int .i64 (o.from_), .int .i64 (o.till), .int .i64 (o.most), .bool (o.again)] 57] (fun v L => ∃ hb, v = .tuple #[.bool hb, .bool (vis o.most out (ino (h + 1) t)).2] ∧ L = [A, OutP ob (vis o.most out (ino (h + 1) t)).1, Blk pb [.int .i64 (o.kind), .int .i64 (o.tree), .int .i64 (o.el.k), .int .i64 (o.el.v), .int .i64 (o.from_), .int .i64 (o.till), .int .i64 (o.most), .bool (o.again)] 57]) := by
 refine Does.enter 343 Try.func131 rfl rfl rfl fun W F => ?_
 show WPc _ _ _ _ _ [(0, .pointer (some ⟨p, 0, none⟩)), (1, .int .i64 1), (2, .agg #[.int .i64 0, .int .i64 0, .bool false]), (3, .agg #[.int .i64 0, .int .i64 0, .bool false]), (4, .bool false), (5, .bool (hb0)), (6, .func (.func 109) #[] #[.pointer (some ⟨ob, 0, none⟩), .pointer (some ⟨pb, 0, none⟩)])] (A :: OutP ob out :: Blk pb [.int .i64 (o.kind), .int .i64 (o.tree), .int .i64 (o.el.k), .int .i64 (o.el.v), .int .i64 (o.from_), .int .i64 (o.till), .int .i64 (o.most), .bool (o.again)] 57 :: F)
 refine WPc.sr ?_
 refine WP.eff rfl rfl rfl (Eff.box (C := [.int .i64 0, .int .i64 0, .bool false]) rfl rfl rfl) ?_
 rintro _ _ ⟨b1, rfl, rfl⟩
 refine WP.eff rfl rfl rfl (Eff.box (C := [.int .i64 0, .int .i64 0, .bool false]) rfl rfl rfl) ?_
 rintro _ _ ⟨b2, rfl, rfl⟩
 refine WP.val rfl rfl rfl (Val.assign rfl rfl) ?_
 refine WP.val rfl rfl rfl (Val.assign rfl rfl) ?_
 refine WP.nx ?_
 refine WPc.sr ?_
 refine WP.val rfl rfl rfl (Val.assign rfl rfl) ?_
 refine WP.val rfl rfl rfl (Val.assign rfl rfl) ?_
 refine WP.nx ?_
 refine WPc.sr ?_
 refine WP.val rfl rfl rfl (Val.assign rfl rfl) ?_
 refine WP.nx ?_
 refine WPc.seq ?_
 refine WPc.seq ?_
 have hkpl := kp_len ks
 refine WPc.region ?_
 refine WP.val rfl rfl rfl (Val.move rfl rfl) ?_
 refine WP.nx ?_
 refine WPc.block ?_
 refine WPc.sr ?_
 refine WP.val rfl rfl rfl (Val.eqlK rfl rfl rfl rfl) ?_
 refine WP.val rfl rfl rfl (Val.assign rfl rfl) ?_
 refine WP.nx ?_
 refine WPc.condT rfl rfl ?_
 refine WPc.seq ?_
 refine WPc.sr ?_
 refine WP.val rfl rfl rfl (Val.fieldAddr (j := 2) rfl Ty.fo251_1 rfl rfl) ?_
 refine WP.val rfl rfl rfl (Val.load rfl Ty.sc4 rfl (fun w h => h.cell 1 rfl rfl)) ?_
 refine WP.nx ?_
 refine WPc.condF rfl rfl ?_
 refine WPc.skip ?_
 refine Out.next ?_
 refine WPc.seq ?_
 refine WPc.sr ?_
 refine WP.val rfl rfl rfl (Val.move rfl rfl) ?_
 refine WP.val rfl rfl rfl (Val.assign rfl rfl) ?_
 refine WP.nx ?_
 refine WPc.block ?_
 iterate 3 (refine WPc.perm pl4 ?_)
 refine WPc.perm pl3 ?_
 refine WPc.perm pl4 ?_
 refine WPc.loop (ι := Nat × Bool × List El) (fun ⟨i, hb, v⟩ => i ≤ 0 ∧ vis o.most out (pre (h + 1) t i) = (v, true)) (fun ⟨i, hb, v⟩ => [(0, .pointer (some ⟨p, 0, none⟩)), (1, .int .i64 1), (4, .bool false), (5, .bool (hb)), (6, .func (.func 109) #[] #[.pointer (some ⟨ob, 0, none⟩), .pointer (some ⟨pb, 0, none⟩)]), (9, .pointer (some ⟨b1, 0, none⟩)), (10, .pointer (some ⟨b2, 0, none⟩)), (19, .int .i64 (((i : Nat) : Int)))]) (fun ⟨i, hb, v⟩ => Blk b1 [.int .i64 0, .int .i64 0, .bool false] 251 :: Blk b2 [.int .i64 0, .int .i64 0, .bool false] 251 :: A :: OutP ob v :: Blk pb [.int .i64 (o.kind), .int .i64 (o.tree), .int .i64 (o.el.k), .int .i64 (o.el.v), .int .i64 (o.from_), .int .i64 (o.till), .int .i64 (o.most), .bool (o.again)] 57 :: F) (fun ⟨i, hb, v⟩ => 0 - i) (0, hb0, out) ⟨Nat.zero_le _, by rw [pre_zero]; rfl⟩ ((Sub.cons rfl (Sub.cons rfl (Sub.cons rfl (Sub.cons rfl (Sub.cons rfl (Sub.cons rfl (Sub.cons rfl (Sub.cons rfl Sub.nil))))))))) (fun _ h => h) ?_
 rintro ⟨i, hb, v⟩ ⟨hi1, hv⟩
 show WPc _ _ _ _ _ [(0, _), (1, _), (4, _), (5, .bool (hb)), (6, _), (9, .pointer (some ⟨b1, 0, none⟩)), (10, .pointer (some ⟨b2, 0, none⟩)), (19, .int .i64 (((i : Nat) : Int)))] (Blk b1 [.int .i64 0, .int .i64 0, .bool false] 251 :: Blk b2 [.int .i64 0, .int .i64 0, .bool false] 251 :: _ :: OutP ob v :: _)
 replace hi1 : i ≤ 0 := hi1
 refine WPc.seq ?_
 refine WPc.sr ?_
 refine WP.val rfl rfl rfl (Val.move rfl rfl) ?_
 refine WP.val rfl rfl rfl (Val.move rfl rfl) ?_
 refine WP.val rfl rfl rfl (Val.nilCheck rfl rfl) ?_
 refine WP.val rfl rfl rfl (Val.fieldAddr (j := 0) rfl Ty.fo213_0 rfl rfl) ?_
 refine WP.val rfl rfl rfl (Val.load (v := .slice ai 0 ci) rfl Ty.sc210 rfl (fun w h => (hn.cells w (h.at 2 rfl)).1)) ?_
 refine WP.val rfl rfl rfl (Val.len rfl Ty.sl210 rfl) ?_
 refine WP.val rfl rfl rfl (Val.lss rfl rfl rfl) ?_
 refine WP.nx ?_
 refine WPc.ifP rfl (fun h1 => ?_) (fun h1 => ?_)
 ·
  have h1 : (((i : Nat) : Int) < (0 : Int)) := h1
  exfalso; omega
 ·
  have h1 : ¬ (((i : Nat) : Int) < (0 : Int)) := h1
  refine WPc.exit ?_
  refine Out.then_exit ?_
  refine Out.then_exit ?_
  refine Out.block_exit ?_
  refine Out.next ?_
  refine WPc.seq ?_
  have hin : i = t.is.length := by rw [hni]; omega
  rw [hin] at hv
  obtain ⟨⟨pkl, tkl⟩, hxkl⟩ : ∃ k, ks[ks.length - 1]? = some k := ⟨_, List.getElem?_eq_getElem (by omega)⟩
  have hktl := ks_at hn.snd hxkl
  have hrkl := hks _ (List.mem_of_getElem? hxkl)
  rw [show ks.length - 1 = t.is.length by omega] at hktl
  refine WPc.region ?_
  refine WP.val rfl rfl rfl (Val.move rfl rfl) ?_
  refine WP.val rfl rfl rfl (Val.nilCheck rfl rfl) ?_
  refine WP.val rfl rfl rfl (Val.fieldAddr (j := 1) rfl Ty.fo213_1 rfl rfl) ?_
  refine WP.val rfl rfl rfl (Val.load (v := .slice (some ⟨bc, oc, none⟩) ((kp ks).length) cc) rfl Ty.sc211 rfl (fun w h => (hn.cells w (h.at 2 rfl)).2.1)) ?_
  refine WP.val rfl rfl rfl (Val.len rfl Ty.sl211 rfl) ?_
  refine WP.val rfl rfl rfl (Val.gtr rfl rfl rfl) ?_
  refine WP.nx ?_
  refine WPc.ifP rfl (fun h2 => ?_) (fun h2 => ?_)
  ·
   have h2 : ((0 : Int) < (((kp ks).length : Nat) : Int)) := h2
   refine WPc.seq ?_
   refine WPD.s0 Ty.mixed ?_
   refine WPD.tM 0 rfl rfl rfl rfl (Val.move rfl rfl) ?_
   refine WPD.tM 1 rfl rfl rfl rfl (Val.nilCheck rfl rfl) ?_
   refine WPD.tM 2 rfl rfl rfl rfl (Val.fieldAddr (j := 1) rfl Ty.fo213_1 rfl rfl) ?_
   refine WPD.tL 3 rfl rfl rfl rfl (fun _ h => h) (Val.load (v := .slice (some ⟨bc, oc, none⟩) ((kp ks).length) cc) rfl Ty.sc211 rfl (fun w h => (hn.cells w (h.at 2 rfl)).2.1)) ?_
   refine WPD.tM 4 rfl rfl rfl rfl (Val.move rfl rfl) ?_
   refine WPD.tM 5 rfl rfl rfl rfl (Val.nilCheck rfl rfl) ?_
   refine WPD.tM 6 rfl rfl rfl rfl (Val.fieldAddr (j := 1) rfl Ty.fo213_1 rfl rfl) ?_
   refine WPD.tL 7 rfl rfl rfl rfl (fun _ h => h) (Val.load (v := .slice (some ⟨bc, oc, none⟩) ((kp ks).length) cc) rfl Ty.sc211 rfl (fun w h => (hn.cells w (h.at 2 rfl)).2.1)) ?_
   refine WPD.tL 8 rfl rfl rfl rfl (fun _ h => h) (Val.len rfl Ty.sl211 rfl) ?_
   refine WPD.tM 9 rfl rfl rfl rfl (Val.sub (z := ((((kp ks).length) - 1 : Nat) : Int)) rfl rfl rfl ((w64 (by omega) (by omega)).trans (by omega))) ?_
   refine WPD.tM 10 rfl rfl rfl rfl (Val.indexAddr (j := ((kp ks).length) - 1) (q := oc + ((kp ks).length) - 1) rfl Ty.sl211 rfl rfl (by omega) (by omega) (by omega)) ?_
   refine WPD.tL 11 rfl rfl rfl rfl (fun _ h => h) (Val.load (v := .pointer (some ⟨pkl, 0, none⟩)) rfl Ty.sc171 rfl (fun w h => (by have h9 := hc w (h.at 2 rfl) (ks.length - 1) _ (kp_at hxkl) 0 _ rfl; rw [Nat.mul_one, Nat.add_zero] at h9; rw [show oc + (kp ks).length - 1 = oc + (ks.length - 1) by rw [kp_len]; omega]; exact h9))) ?_
   refine WPD.tM 12 rfl rfl rfl rfl (Val.move rfl rfl) ?_
   refine WPD.tL 13 rfl rfl rfl rfl (fun _ h => h) (Val.loadAgg (cs := [.int .i64 0, .int .i64 0, .bool false]) rfl Ty.ag251 rfl rfl (fun w h => h.range 0 rfl rfl)) ?_
   refine WPD.tL 14 rfl rfl rfl rfl (fun _ h => h) (Val.loadAgg (cs := [.int .i64 0, .int .i64 0, .bool false]) rfl Ty.ag251 rfl rfl (fun w h => h.range 1 rfl rfl)) ?_
   refine WPD.tM 15 rfl rfl rfl rfl (Val.move rfl rfl) ?_
   refine WPD.tM 16 rfl rfl rfl rfl (Val.move rfl rfl) ?_
   refine WPD.tM 17 rfl rfl rfl rfl (Val.move rfl rfl) ?_
   iterate 3 (refine WPD.perm pl4 ?_)
   refine WPD.stepC 18 (by kernel_rfl) rfl rfl rfl rfl (by kernel_rfl) (Eff.call rfl rfl Try.call131 (ih pkl tkl hb v hrkl (by have h1 := vis_len (most := o.most) (pre (h + 1) t t.is.length) out; rw [hv] at h1; have hR := pre_all_step (h := h) hkl hktl; rw [hR] at hsz; simp only [List.length_append] at hsz h1; omega))) ?_
   rintro _ _ ⟨_, ⟨hb1, rfl, rfl⟩, rfl⟩
   refine ⟨_, (fun _ h => h), ?_⟩
   show WPD _ _ _ _ _ _ _ _ _ (_ :: OutP ob (vis o.most v (ino h tkl)).1 :: _)
   refine WPD.tM 19 rfl rfl rfl rfl (Val.move rfl rfl) ?_
   refine WPD.tM 20 rfl rfl rfl rfl (Val.extract rfl rfl rfl) ?_
   refine WPD.tM 21 rfl rfl rfl rfl (Val.extract rfl rfl rfl) ?_
   refine WPD.tM 22 rfl rfl rfl rfl (Val.assign rfl rfl) ?_
   refine WPD.tM 23 rfl rfl rfl rfl (Val.assign rfl rfl) ?_
   refine WPD.done (by kernel_rfl) ?_
   refine Out.next ?_
   refine WPc.sr ?_
   refine WP.val rfl rfl rfl (Val.move rfl rfl) ?_
   refine WP.val rfl rfl rfl (Val.not rfl rfl) ?_
   refine WP.nx ?_
   refine WPc.cond rfl (fun h3 => ?_) (fun h3 => ?_)
   ·
    have h3 : (!((vis o.most v (ino h tkl)).2)) = true := h3
    refine WPc.sr ?_
    refine WP.val rfl rfl rfl (Val.move rfl rfl) ?_
    refine WP.val rfl rfl rfl (Val.assign rfl rfl) ?_
    refine WP.val rfl rfl rfl (Val.assign rfl rfl) ?_
    refine WP.nx ?_
    refine WPc.ret ?_
    refine Out.block_ret ?_
    refine Out.then_ret ?_
    have hok : (vis o.most v (ino h tkl)).2 = false := by first | assumption | simp_all
    have hfin : vis o.most out (ino (h + 1) t) = ((vis o.most v (ino h tkl)).1, false) := by rw [pre_all_step (h := h) hkl hktl, vis_app _ _ _ _ hv, ← hok]
    refine Out.perm pl3 ?_
    refine Out.drop ?_
    refine Out.perm pl3 ?_
    refine Out.drop ?_
    exact Out.ret2 (L' := _) Try.results131 rfl rfl ⟨_, by first | (rw [hfin]; done) | (rw [hfin]; rfl), by rw [hfin]⟩ (fun _ h => h)
   ·
    have h3 : (!((vis o.most v (ino h tkl)).2)) = false := h3
    refine WPc.skip ?_
    refine Out.block ?_
    refine Out.next ?_
    refine WPc.sr ?_
    refine WP.val rfl rfl rfl (Val.move rfl rfl) ?_
    refine WP.val rfl rfl rfl (Val.assign rfl rfl) ?_
    refine WP.val rfl rfl rfl (Val.assign rfl rfl) ?_
    refine WP.nx ?_
    refine WPc.ret ?_
    have hok : (vis o.most v (ino h tkl)).2 = true := by first | assumption | simp_all
    have hfin : vis o.most out (ino (h + 1) t) = ((vis o.most v (ino h tkl)).1, true) := by rw [pre_all_step (h := h) hkl hktl, vis_app _ _ _ _ hv, ← hok]
    refine Out.perm pl3 ?_
    refine Out.drop ?_
    refine Out.perm pl3 ?_
    refine Out.drop ?_
    exact Out.ret2 (L' := _) Try.results131 rfl rfl ⟨_, by first | (rw [hfin]; done) | (rw [hfin]; rfl), by rw [hfin]⟩ (fun _ h => h)
  ·
   have h2 : ¬ ((0 : Int) < (((kp ks).length : Nat) : Int)) := h2
   exfalso; have := kp_len ks; omega

theorem iter_spec (A : HProp) (Q : Value → Prop) (ob pb : Nat) (o : Bop) (m M : Nat) (hM2 : M ≤ 1000) : ∀ (h p : Nat) (t : Tr) (hb0 : Bool) (out : List El), RdT A Q h (p, t) → Bal m M h t → out.length + (ino h t).length ≤ 1000000 → Does Try.prog 131 [.pointer (some ⟨p, 0, none⟩), .int .i64 1, .agg #[.int .i64 0, .int .i64 0, .bool false], .agg #[.int .i64 0, .int .i64 0, .bool false], .bool false, .bool (hb0), .func (.func 109) #[] #[.pointer (some ⟨ob, 0, none⟩), .pointer (some ⟨pb, 0, none⟩)]] [A, OutP ob out, Blk pb [.int .i64 (o.kind), .int .i64 (o.tree), .int .i64 (o.el.k), .int .i64 (o.el.v), .int .i64 (o.from_), .int .i64 (o.till), .int .i64 (o.most), .bool (o.again)] 57] (fun v L => ∃ hb, v = .tuple #[.bool hb, .bool (vis o.most out (ino h t)).2] ∧ L = [A, OutP ob (vis o.most out (ino h t)).1, Blk pb [.int .i64 (o.kind), .int .i64 (o.tree), .int .i64 (o.el.k), .int .i64 (o.el.v), .int .i64 (o.from_), .int .i64 (o.till), .int .i64 (o.most), .bool (o.again)] 57])
 | 0, p, t, hb0, out, ⟨vi, vc, cw, hn⟩, hb, hs => by
  have hi6 : t.is.length ≤ 1000000 := by have := hb.2; omega
  rcases id hn.items with ⟨bi, oi, ci, rfl, hi⟩ | ⟨e, ai, ci, rfl⟩
  ·
   exact it_leaf_row A Q ob pb o t p bi oi ci hi vc cw hn hb0 out hi6 hs
  ·
   exact it_leaf_nil A Q ob pb o t p ai ci (by dsimp only at e; rw [e]; rfl) vc cw hn hb0 out hi6 hs
 | h + 1, p, t, hb0, out, ⟨vi, vc, cw, ks, hn, hk⟩, hb, hs => by
  have hi6 : t.is.length ≤ 1000000 := by have := hb.2.1; omega
  have hkl : t.ks.length = t.is.length + 1 := hb.1
  have hks : ks.length = t.ks.length := ks_len hn.snd
  have hk6 : ks.length ≤ 1000000 := by rw [hks, hkl]; exact Nat.le_trans (Nat.succ_le_succ hb.2.1) (by omega)
  obtain ⟨bc, oc, cc, rfl, hc⟩ := Rd.pos hn.kids (by rw [kp_len, hks, hkl]; exact Nat.succ_pos _)
  have hRT : ∀ x ∈ ks, RdT A Q h x ∧ Bal m M h x.2 := fun x hx => ⟨hk x hx, (hb.2.2 x.2 (by have := hn.snd; rw [← this]; exact List.mem_map.2 ⟨x, hx, rfl⟩)).2⟩
  rcases id hn.items with ⟨bi, oi, ci, rfl, hi⟩ | ⟨e, ai, ci, rfl⟩
  ·
   exact it_step_row A Q ob pb o h (fun x => RdT A Q h x ∧ Bal m M h x.2) t (fun p t hb0 out hr hs => iter_spec A Q ob pb o m M hM2 h p t hb0 out hr.1 hr.2 hs) p bi oi ci hi bc oc cc ks hc hkl hRT hks hk6 cw hn hb0 out hi6 hs
  ·
   exact it_step_nil A Q ob pb o h (fun x => RdT A Q h x ∧ Bal m M h x.2) t (fun p t hb0 out hr hs => iter_spec A Q ob pb o m M hM2 h p t hb0 out hr.1 hr.2 hs) p ai ci (by dsimp only at e; rw [e]; rfl) bc oc cc ks hc hkl hRT hks hk6 cw hn hb0 out hi6 hs

end Go.Proofs.Ythmkdioafjmclaa.Bt13
