import Derived.Test.YthmkdioafjmclaaSlTerse
import Derived.Test.YthmkdioafjmclaaBt13
namespace Go.Proofs.Ythmkdioafjmclaa.Bt14
open Go.RowKit Go.Proofs.Ythmkdioafjmclaa Go.Proofs.Ythmkdioafjmclaa.Sl Go.Proofs.Ythmkdioafjmclaa.Bt Go.Proofs.Ythmkdioafjmclaa.Bt2 Go.Proofs.Ythmkdioafjmclaa.Bt3 Go.Proofs.Ythmkdioafjmclaa.Bt4 Go.Proofs.Ythmkdioafjmclaa.Bt5 Go.Proofs.Ythmkdioafjmclaa.Bt6 Go.Proofs.Ythmkdioafjmclaa.Bt7 Go.Proofs.Ythmkdioafjmclaa.Bt8 Go.Proofs.Ythmkdioafjmclaa.Bt9 Go.Proofs.Ythmkdioafjmclaa.Bt10 Go.Proofs.Ythmkdioafjmclaa.Bt11 Go.Proofs.Ythmkdioafjmclaa.Bt12 Go.Proofs.Ythmkdioafjmclaa.Bt13
set_option linter.unusedVariables false
set_option linter.unusedSimpArgs false
set_option linter.unusedSectionVars false


def getT : Nat → Tr → El → Option El
 | 0, t, x => if (findI t.is x).2 then some (t.is.getD (findI t.is x).1 El0) else none
 | h + 1, t, x => if (findI t.is x).2 then some (t.is.getD (findI t.is x).1 El0) else getT h (kid t (findI t.is x).1) x
set_option maxRecDepth 100000 in
set_option maxHeartbeats 2000000 in
theorem emp_spec (z : Nat) : Does Try.prog 132 [] [] (fun v L => v = .agg #[.int .i64 0, .int .i64 0, .bool false] ∧ L = []) := by
 refine Does.enter 2 Try.func132 rfl rfl rfl fun W F => ?_
 show WPc _ _ _ _ _ [] (F)
 refine WPc.sr ?_
 refine WP.eff rfl rfl rfl (Eff.alloc rfl Ty.z251) ?_
 rintro _ _ ⟨b1, rfl, rfl⟩
 refine WP.nx ?_
 refine WPc.sr ?_
 refine WP.val rfl rfl rfl (Val.mk (cs := [.int .i64 0, .int .i64 0, .bool false]) rfl rfl (fun _ => by kernel_rfl)) ?_
 refine WP.eff0 rfl rfl (Eff.storeAgg (cs := [.int .i64 0, .int .i64 0, .bool false]) (C' := [.int .i64 0, .int .i64 0, .bool false]) rfl Ty.ag251 rfl rfl rfl rfl (by simp) rfl) ?_
 rintro _ _ rfl
 refine WP.nx ?_
 refine WPc.ret ?_
 exact Out.retRun (L' := _) (results_cell (cs := [.int .i64 0, .int .i64 0, .bool false]) Try.results132 Ty.ag251 rfl rfl (fun w h => h.range 0 rfl rfl)) ⟨rfl, rfl⟩ (fun w h => h.drop)
set_option maxRecDepth 100000 in
set_option maxHeartbeats 2000000 in
theorem asc_nil (c d tb ob pb : Nat) (n : Int) (o : Bop) (out : List El) : Does Try.prog 110 [.pointer (some ⟨tb, 0, none⟩), .func (.func 109) #[] #[.pointer (some ⟨ob, 0, none⟩), .pointer (some ⟨pb, 0, none⟩)]] [Blk tb [.int .i64 (((d : Nat) : Int)), .int .i64 (n), .pointer none, .pointer (some ⟨c, 0, none⟩)] 174, OutP ob out, Blk pb [.int .i64 (o.kind), .int .i64 (o.tree), .int .i64 (o.el.k), .int .i64 (o.el.v), .int .i64 (o.from_), .int .i64 (o.till), .int .i64 (o.most), .bool (o.again)] 57] (fun v L => v = v ∧ L = [Blk tb [.int .i64 ((d : Nat) : Int), .int .i64 n, .pointer none, .pointer (some ⟨c, 0, none⟩)] 174, OutP ob out, Blk pb [.int .i64 (o.kind), .int .i64 (o.tree), .int .i64 (o.el.k), .int .i64 (o.el.v), .int .i64 (o.from_), .int .i64 (o.till), .int .i64 (o.most), .bool (o.again)] 57]) := by
 refine Does.enter 17 Try.func110 rfl rfl rfl fun W F => ?_
 show WPc _ _ _ _ _ [(0, .pointer (some ⟨tb, 0, none⟩)), (1, .func (.func 109) #[] #[.pointer (some ⟨ob, 0, none⟩), .pointer (some ⟨pb, 0, none⟩)])] (Blk tb [.int .i64 (((d : Nat) : Int)), .int .i64 (n), .pointer none, .pointer (some ⟨c, 0, none⟩)] 174 :: OutP ob out :: Blk pb [.int .i64 (o.kind), .int .i64 (o.tree), .int .i64 (o.el.k), .int .i64 (o.el.v), .int .i64 (o.from_), .int .i64 (o.till), .int .i64 (o.most), .bool (o.again)] 57 :: F)
 refine WPc.seq ?_
 refine WPc.sr ?_
 refine WP.val rfl rfl rfl (Val.move rfl rfl) ?_
 refine WP.val rfl rfl rfl (Val.nilCheck rfl rfl) ?_
 refine WP.val rfl rfl rfl (Val.fieldAddr (j := 2) rfl Ty.fo174_2 rfl rfl) ?_
 refine WP.val rfl rfl rfl (Val.load rfl Ty.sc171 rfl (fun w h => h.cell 0 rfl rfl)) ?_
 refine WP.val rfl rfl rfl (Val.nilP rfl Ty.ip171 rfl rfl) ?_
 refine WP.nx ?_
 refine WPc.condT rfl rfl ?_
 refine WPc.ret ?_
 refine Out.then_ret ?_
 exact Out.ret0 (L' := _) Try.results110 ⟨rfl, rfl⟩ (fun _ h => h)
set_option maxRecDepth 100000 in
set_option maxHeartbeats 2000000 in
theorem asc_some (A : HProp) (Q : Value → Prop) (c d tb ob pb m M ht p : Nat) (t : Tr) (n : Int) (o : Bop) (out : List El) (hM2 : M ≤ 1000) (hrd : RdT A Q ht (p, t)) (hbal : Bal m M ht t) (hsz : out.length + (ino ht t).length ≤ 1000000) : Does Try.prog 110 [.pointer (some ⟨tb, 0, none⟩), .func (.func 109) #[] #[.pointer (some ⟨ob, 0, none⟩), .pointer (some ⟨pb, 0, none⟩)]] [Blk tb [.int .i64 (((d : Nat) : Int)), .int .i64 (n), .pointer (some ⟨p, 0, none⟩), .pointer (some ⟨c, 0, none⟩)] 174, A, OutP ob out, Blk pb [.int .i64 (o.kind), .int .i64 (o.tree), .int .i64 (o.el.k), .int .i64 (o.el.v), .int .i64 (o.from_), .int .i64 (o.till), .int .i64 (o.most), .bool (o.again)] 57] (fun v L => v = v ∧ L = [Blk tb [.int .i64 ((d : Nat) : Int), .int .i64 n, .pointer (some ⟨p, 0, none⟩), .pointer (some ⟨c, 0, none⟩)] 174, A, OutP ob (vis o.most out (ino ht t)).1, Blk pb [.int .i64 (o.kind), .int .i64 (o.tree), .int .i64 (o.el.k), .int .i64 (o.el.v), .int .i64 (o.from_), .int .i64 (o.till), .int .i64 (o.most), .bool (o.again)] 57]) := by
 refine Does.enter 17 Try.func110 rfl rfl rfl fun W F => ?_
 show WPc _ _ _ _ _ [(0, .pointer (some ⟨tb, 0, none⟩)), (1, .func (.func 109) #[] #[.pointer (some ⟨ob, 0, none⟩), .pointer (some ⟨pb, 0, none⟩)])] (Blk tb [.int .i64 (((d : Nat) : Int)), .int .i64 (n), .pointer (some ⟨p, 0, none⟩), .pointer (some ⟨c, 0, none⟩)] 174 :: A :: OutP ob out :: Blk pb [.int .i64 (o.kind), .int .i64 (o.tree), .int .i64 (o.el.k), .int .i64 (o.el.v), .int .i64 (o.from_), .int .i64 (o.till), .int .i64 (o.most), .bool (o.again)] 57 :: F)
 refine WPc.seq ?_
 refine WPc.sr ?_
 refine WP.val rfl rfl rfl (Val.move rfl rfl) ?_
 refine WP.val rfl rfl rfl (Val.nilCheck rfl rfl) ?_
 refine WP.val rfl rfl rfl (Val.fieldAddr (j := 2) rfl Ty.fo174_2 rfl rfl) ?_
 refine WP.val rfl rfl rfl (Val.load rfl Ty.sc171 rfl (fun w h => h.cell 0 rfl rfl)) ?_
 refine WP.val rfl rfl rfl (Val.nilP rfl Ty.ip171 rfl rfl) ?_
 refine WP.nx ?_
 refine WPc.condF rfl rfl ?_
 refine WPc.skip ?_
 refine Out.next ?_
 refine WPD.start (Sat W [Blk tb [.int .i64 (((d : Nat) : Int)), .int .i64 (n), .pointer (some ⟨p, 0, none⟩), .pointer (some ⟨c, 0, none⟩)] 174]) Ty.mixed ?_
 refine WPD.tS 0 rfl rfl rfl rfl (fun w h => (h).dropEnd (L := [_])) (Val.move rfl rfl) ?_
 refine WPD.tS 1 rfl rfl rfl rfl (fun w h => (h).dropEnd (L := [_])) (Val.nilCheck rfl rfl) ?_
 refine WPD.tS 2 rfl rfl rfl rfl (fun w h => (h).dropEnd (L := [_])) (Val.fieldAddr (j := 2) rfl Ty.fo174_2 rfl rfl) ?_
 refine WPD.tL 3 rfl rfl rfl rfl (fun w h => (h).dropEnd (L := [_])) (Val.load rfl Ty.sc171 rfl (fun w h => h.cell 0 rfl rfl)) ?_
 refine WPD.tS 6 rfl rfl rfl rfl (fun w h => (h).dropEnd (L := [_])) (Val.move rfl rfl) ?_
 refine WPD.step 4 (by kernel_rfl) rfl rfl rfl rfl (Eff.call rfl rfl Try.call132 (emp_spec 0)) ?_
 rintro _ _ ⟨_, ⟨rfl, rfl⟩, rfl⟩
 refine ⟨(fun w h => (h).dropEnd (L := [_])), ?_⟩
 refine WPD.step 5 (by kernel_rfl) rfl rfl rfl rfl (Eff.call rfl rfl Try.call132 (emp_spec 0)) ?_
 rintro _ _ ⟨_, ⟨rfl, rfl⟩, rfl⟩
 refine ⟨(fun w h => (h).dropEnd (L := [_])), ?_⟩
 iterate 3 (refine WPD.perm pl3 ?_)
 refine WPD.stepC 7 (by kernel_rfl) rfl rfl rfl rfl (by kernel_rfl) (Eff.call rfl rfl Try.call131 (iter_spec A Q ob pb o m M hM2 ht p t false out hrd hbal hsz)) ?_
 rintro _ _ ⟨_, ⟨hb1, rfl, rfl⟩, rfl⟩
 refine ⟨_, (fun _ h => h), ?_⟩
 show WPD _ _ _ _ _ _ _ _ _ (_ :: OutP ob (vis o.most out (ino ht t)).1 :: _)
 refine WPD.done (by kernel_rfl) ?_
 iterate 3 (refine Out.perm pl2 ?_)
 refine Out.perm pl3 ?_
 exact Out.end0 (L' := _) Try.results110 ⟨rfl, rfl⟩ (fun _ h => h)
set_option maxRecDepth 100000 in
set_option maxHeartbeats 2000000 in
theorem get_leaf_row (A : HProp) (c f : Nat) (x : El) (t : Tr) (p : Nat) (bi oi ci : Nat) (hi : ∀ w, Holds A w → ∀ i x, t.is[i]? = some x → w.rangeAt bi (oi + i * 2) (El.cells x)) (vc : Value) (cw : Value) (hn : NodeAt A (· = .pointer (some ⟨c, 0, none⟩)) (p, t) (.slice (some ⟨bi, oi, none⟩) t.is.length ci) (vc) cw []) (hi6 : t.is.length ≤ 1000000) : Does Try.prog 105 [.pointer (some ⟨p, 0, none⟩), .agg #[.int .i64 (x.k), .int .i64 (x.v)]] [A, Blk c [.pointer (some ⟨f, 0, none⟩), .func (.func 53) #[] #[]] 170] (fun v L => v = opv (getT 0 t x) ∧ L = [A, Blk c [.pointer (some ⟨f, 0, none⟩), .func (.func 53) #[] #[]] 170]) := by
 refine Does.enter 49 Try.func105 rfl rfl rfl fun W F => ?_
 show WPc _ _ _ _ _ [(0, .pointer (some ⟨p, 0, none⟩)), (1, .agg #[.int .i64 (x.k), .int .i64 (x.v)])] (A :: Blk c [.pointer (some ⟨f, 0, none⟩), .func (.func 53) #[] #[]] 170 :: F)
 refine WPc.sr ?_
 refine WP.eff rfl rfl rfl (Eff.box (C := [.int .i64 (x.k), .int .i64 (x.v)]) rfl rfl rfl) ?_
 rintro _ _ ⟨b1, rfl, rfl⟩
 refine WP.eff rfl rfl rfl (Eff.alloc rfl Ty.z55) ?_
 rintro _ _ ⟨b2, rfl, rfl⟩
 refine WP.val rfl rfl rfl (Val.assign rfl rfl) ?_
 refine WP.nx ?_
 refine WPc.seq ?_
 have hfl := findI_le t.is x
 refine WPD.s0 Ty.mixed ?_
 refine WPD.tM 0 rfl rfl rfl rfl (Val.move rfl rfl) ?_
 refine WPD.tM 1 rfl rfl rfl rfl (Val.nilCheck rfl rfl) ?_
 refine WPD.tM 2 rfl rfl rfl rfl (Val.fieldAddr (j := 0) rfl Ty.fo213_0 rfl rfl) ?_
 refine WPD.tL 3 rfl rfl rfl rfl (fun _ h => h) (Val.load (v := .slice (some ⟨bi, oi, none⟩) t.is.length ci) rfl Ty.sc210 rfl (fun w h => (hn.cells w (h.at 2 rfl)).1)) ?_
 refine WPD.tL 4 rfl rfl rfl rfl (fun _ h => h) (Val.loadAgg (cs := [.int .i64 (x.k), .int .i64 (x.v)]) rfl Ty.ag55 rfl rfl (fun w h => h.range 1 rfl rfl)) ?_
 refine WPD.tM 5 rfl rfl rfl rfl (Val.move rfl rfl) ?_
 refine WPD.tM 6 rfl rfl rfl rfl (Val.nilCheck rfl rfl) ?_
 refine WPD.tM 7 rfl rfl rfl rfl (Val.fieldAddr (j := 2) rfl Ty.fo213_2 rfl rfl) ?_
 refine WPD.tL 8 rfl rfl rfl rfl (fun _ h => h) (Val.load (v := .pointer (some ⟨c, 0, none⟩)) rfl Ty.sc172 rfl (fun w h => (by have h9 := (hn.cells w (h.at 2 rfl)).2.2; rw [hn.cow] at h9; exact h9))) ?_
 refine WPD.tM 9 rfl rfl rfl rfl (Val.nilCheck rfl rfl) ?_
 refine WPD.tM 10 rfl rfl rfl rfl (Val.fieldAddr (j := 1) rfl Ty.fo170_1 rfl rfl) ?_
 refine WPD.tL 11 rfl rfl rfl rfl (fun _ h => h) (Val.load rfl Ty.sc165 rfl (fun w h => h.cell 3 rfl rfl)) ?_
 refine WPD.perm pl2 ?_
 refine WPD.stepC 12 (by kernel_rfl) rfl rfl rfl rfl (by kernel_rfl) (Eff.call rfl rfl Try.call124 (find_spec A x t.is hi6 (.slice (some ⟨bi, oi, none⟩) t.is.length ci) hn.items)) ?_
 rintro _ _ ⟨_, ⟨rfl, rfl⟩, rfl⟩
 refine ⟨_, (fun _ h => h), ?_⟩
 show WPD _ _ _ _ _ _ _ _ _ (_ :: Blk b2 [.int .i64 0, .int .i64 0] 55 :: Blk b1 [.int .i64 (x.k), .int .i64 (x.v)] 55 :: _)
 refine WPD.tM 13 rfl rfl rfl rfl (Val.move rfl rfl) ?_
 refine WPD.tM 14 rfl rfl rfl rfl (Val.extract rfl rfl rfl) ?_
 refine WPD.tM 15 rfl rfl rfl rfl (Val.extract rfl rfl rfl) ?_
 refine WPD.tM 16 rfl rfl rfl rfl (Val.assign rfl rfl) ?_
 refine WPD.tM 17 rfl rfl rfl rfl (Val.assign rfl rfl) ?_
 refine WPD.done (by kernel_rfl) ?_
 refine Out.next ?_
 refine WPc.seq ?_
 refine WPc.sr ?_
 refine WP.val rfl rfl rfl (Val.move rfl rfl) ?_
 refine WP.nx ?_
 refine WPc.cond rfl (fun h1 => ?_) (fun h1 => ?_)
 ·
  have h1 : ((findI t.is x).2) = true := h1
  refine WPc.seq ?_
  have hfd : (findI t.is x).2 = true := by assumption
  obtain ⟨y, hy⟩ : ∃ y, t.is[(findI t.is x).1]? = some y := ⟨_, List.getElem?_eq_getElem (hfl.2 hfd)⟩
  have hfl2 := hfl.2 hfd
  refine WPc.region ?_
  refine WP.val rfl rfl rfl (Val.move rfl rfl) ?_
  refine WP.val rfl rfl rfl (Val.nilCheck rfl rfl) ?_
  refine WP.val rfl rfl rfl (Val.fieldAddr (j := 0) rfl Ty.fo213_0 rfl rfl) ?_
  refine WP.val rfl rfl rfl (Val.load (v := .slice (some ⟨bi, oi, none⟩) t.is.length ci) rfl Ty.sc210 rfl (fun w h => (hn.cells w (h.at 0 rfl)).1)) ?_
  refine WP.val rfl rfl rfl (Val.move rfl rfl) ?_
  refine WP.val rfl rfl rfl (Val.indexAddr (j := (findI t.is x).1) (q := oi + ((findI t.is x).1) * 2) rfl Ty.sl210 rfl rfl (by omega) (by omega) (by omega)) ?_
  refine WP.val rfl rfl rfl (Val.loadAgg (cs := [.int .i64 (y.k), .int .i64 (y.v)]) rfl Ty.ag55 rfl (by rfl) (fun w h => hi w (h.at 0 rfl) (findI t.is x).1 y hy)) ?_
  refine WP.perm pl1 ?_
  refine WP.eff0 rfl rfl (Eff.storeAgg (cs := [.int .i64 (y.k), .int .i64 (y.v)]) (C' := [.int .i64 (y.k), .int .i64 (y.v)]) rfl Ty.ag55 rfl rfl rfl rfl (by simp) rfl) ?_
  rintro _ _ rfl
  refine WP.val rfl rfl rfl (Val.assign rfl rfl) ?_
  refine WP.nx ?_
  refine WPc.ret ?_
  refine Out.then_ret ?_
  have hg : getT 0 t x = some y := by simp only [getT]; rw [if_pos hfd, getD_at hy]
  refine Out.perm pl2 ?_
  refine Out.drop ?_
  exact Out.retRun (L' := _) (results_ct Try.results105 rfl Ty.ag55 rfl rfl (fun w h => h.range 0 rfl rfl)) ⟨by rw [hg]; rfl, rfl⟩ (fun w h => h.drop)
 ·
  have h1 : ((findI t.is x).2) = false := h1
  refine WPc.sr ?_
  refine WP.val rfl rfl rfl (Val.move rfl rfl) ?_
  refine WP.val rfl rfl rfl (Val.nilCheck rfl rfl) ?_
  refine WP.val rfl rfl rfl (Val.fieldAddr (j := 1) rfl Ty.fo213_1 rfl rfl) ?_
  refine WP.val rfl rfl rfl (Val.load (v := vc) rfl Ty.sc211 rfl (fun w h => (hn.cells w (h.at 0 rfl)).2.1)) ?_
  refine WP.val rfl rfl rfl (Rd.len hn.kids rfl Ty.sl211 rfl) ?_
  refine WP.val rfl rfl rfl (Val.gtr rfl rfl rfl) ?_
  refine WP.nx ?_
  refine WPc.ifP rfl (fun h2 => ?_) (fun h2 => ?_)
  ·
   have h2 : ((0 : Int) < (0 : Int)) := h2
   exfalso; omega
  ·
   have h2 : ¬ ((0 : Int) < (0 : Int)) := h2
   refine WPc.skip ?_
   refine Out.next ?_
   refine WPc.ret ?_
   have hg : getT 0 t x = none := by simp only [getT]; rw [if_neg (by simp_all)]
   refine Out.perm pl2 ?_
   refine Out.drop ?_
   refine Out.perm pl2 ?_
   refine Out.perm pl1 ?_
   refine Out.perm pl2 ?_
   exact Out.retRun (L' := _) (results_ct Try.results105 rfl Ty.ag55 rfl rfl (fun w h => h.range 0 rfl rfl)) ⟨by rw [hg]; rfl, rfl⟩ (fun w h => h.drop)
set_option maxRecDepth 100000 in
set_option maxHeartbeats 2000000 in
theorem get_leaf_nil (A : HProp) (c f : Nat) (x : El) (t : Tr) (p : Nat) (ai : Option Addr) (ci : Nat) (hni : t.is.length = 0) (vc : Value) (cw : Value) (hn : NodeAt A (· = .pointer (some ⟨c, 0, none⟩)) (p, t) (.slice ai 0 ci) (vc) cw []) (hi6 : t.is.length ≤ 1000000) : Does Try.prog 105 [.pointer (some ⟨p, 0, none⟩), .agg #[.int .i64 (x.k), .int .i64 (x.v)]] [A, Blk c [.pointer (some ⟨f, 0, none⟩), .func (.func 53) #[] #[]] 170] (fun v L => v = opv (getT 0 t x) ∧ L = [A, Blk c [.pointer (some ⟨f, 0, none⟩), .func (.func 53) #[] #[]] 170]) := by
 refine Does.enter 49 Try.func105 rfl rfl rfl fun W F => ?_
 show WPc _ _ _ _ _ [(0, .pointer (some ⟨p, 0, none⟩)), (1, .agg #[.int .i64 (x.k), .int .i64 (x.v)])] (A :: Blk c [.pointer (some ⟨f, 0, none⟩), .func (.func 53) #[] #[]] 170 :: F)
 refine WPc.sr ?_
 refine WP.eff rfl rfl rfl (Eff.box (C := [.int .i64 (x.k), .int .i64 (x.v)]) rfl rfl rfl) ?_
 rintro _ _ ⟨b1, rfl, rfl⟩
 refine WP.eff rfl rfl rfl (Eff.alloc rfl Ty.z55) ?_
 rintro _ _ ⟨b2, rfl, rfl⟩
 refine WP.val rfl rfl rfl (Val.assign rfl rfl) ?_
 refine WP.nx ?_
 refine WPc.seq ?_
 have hfl := findI_le t.is x
 refine WPD.s0 Ty.mixed ?_
 refine WPD.tM 0 rfl rfl rfl rfl (Val.move rfl rfl) ?_
 refine WPD.tM 1 rfl rfl rfl rfl (Val.nilCheck rfl rfl) ?_
 refine WPD.tM 2 rfl rfl rfl rfl (Val.fieldAddr (j := 0) rfl Ty.fo213_0 rfl rfl) ?_
 refine WPD.tL 3 rfl rfl rfl rfl (fun _ h => h) (Val.load (v := .slice ai 0 ci) rfl Ty.sc210 rfl (fun w h => (hn.cells w (h.at 2 rfl)).1)) ?_
 refine WPD.tL 4 rfl rfl rfl rfl (fun _ h => h) (Val.loadAgg (cs := [.int .i64 (x.k), .int .i64 (x.v)]) rfl Ty.ag55 rfl rfl (fun w h => h.range 1 rfl rfl)) ?_
 refine WPD.tM 5 rfl rfl rfl rfl (Val.move rfl rfl) ?_
 refine WPD.tM 6 rfl rfl rfl rfl (Val.nilCheck rfl rfl) ?_
 refine WPD.tM 7 rfl rfl rfl rfl (Val.fieldAddr (j := 2) rfl Ty.fo213_2 rfl rfl) ?_
 refine WPD.tL 8 rfl rfl rfl rfl (fun _ h => h) (Val.load (v := .pointer (some ⟨c, 0, none⟩)) rfl Ty.sc172 rfl (fun w h => (by have h9 := (hn.cells w (h.at 2 rfl)).2.2; rw [hn.cow] at h9; exact h9))) ?_
 refine WPD.tM 9 rfl rfl rfl rfl (Val.nilCheck rfl rfl) ?_
 refine WPD.tM 10 rfl rfl rfl rfl (Val.fieldAddr (j := 1) rfl Ty.fo170_1 rfl rfl) ?_
 refine WPD.tL 11 rfl rfl rfl rfl (fun _ h => h) (Val.load rfl Ty.sc165 rfl (fun w h => h.cell 3 rfl rfl)) ?_
 refine WPD.perm pl2 ?_
 refine WPD.stepC 12 (by kernel_rfl) rfl rfl rfl rfl (by kernel_rfl) (Eff.call rfl rfl Try.call124 (find_spec A x t.is hi6 (.slice ai 0 ci) hn.items)) ?_
 rintro _ _ ⟨_, ⟨rfl, rfl⟩, rfl⟩
 refine ⟨_, (fun _ h => h), ?_⟩
 show WPD _ _ _ _ _ _ _ _ _ (_ :: Blk b2 [.int .i64 0, .int .i64 0] 55 :: Blk b1 [.int .i64 (x.k), .int .i64 (x.v)] 55 :: _)
 refine WPD.tM 13 rfl rfl rfl rfl (Val.move rfl rfl) ?_
 refine WPD.tM 14 rfl rfl rfl rfl (Val.extract rfl rfl rfl) ?_
 refine WPD.tM 15 rfl rfl rfl rfl (Val.extract rfl rfl rfl) ?_
 refine WPD.tM 16 rfl rfl rfl rfl (Val.assign rfl rfl) ?_
 refine WPD.tM 17 rfl rfl rfl rfl (Val.assign rfl rfl) ?_
 refine WPD.done (by kernel_rfl) ?_
 refine Out.next ?_
 refine WPc.seq ?_
 refine WPc.sr ?_
 refine WP.val rfl rfl rfl (Val.move rfl rfl) ?_
 refine WP.nx ?_
 refine WPc.cond rfl (fun h1 => ?_) (fun h1 => ?_)
 ·
  have h1 : ((findI t.is x).2) = true := h1
  exfalso; have h9 := hfl.2 h1; omega
 ·
  have h1 : ((findI t.is x).2) = false := h1
  refine WPc.sr ?_
  refine WP.val rfl rfl rfl (Val.move rfl rfl) ?_
  refine WP.val rfl rfl rfl (Val.nilCheck rfl rfl) ?_
  refine WP.val rfl rfl rfl (Val.fieldAddr (j := 1) rfl Ty.fo213_1 rfl rfl) ?_
  refine WP.val rfl rfl rfl (Val.load (v := vc) rfl Ty.sc211 rfl (fun w h => (hn.cells w (h.at 0 rfl)).2.1)) ?_
  refine WP.val rfl rfl rfl (Rd.len hn.kids rfl Ty.sl211 rfl) ?_
  refine WP.val rfl rfl rfl (Val.gtr rfl rfl rfl) ?_
  refine WP.nx ?_
  refine WPc.ifP rfl (fun h2 => ?_) (fun h2 => ?_)
  ·
   have h2 : ((0 : Int) < (0 : Int)) := h2
   exfalso; omega
  ·
   have h2 : ¬ ((0 : Int) < (0 : Int)) := h2
   refine WPc.skip ?_
   refine Out.next ?_
   refine WPc.ret ?_
   have hg : getT 0 t x = none := by simp only [getT]; rw [if_neg (by simp_all)]
   refine Out.perm pl2 ?_
   refine Out.drop ?_
   refine Out.perm pl2 ?_
   refine Out.perm pl1 ?_
   refine Out.perm pl2 ?_
   exact Out.retRun (L' := _) (results_ct Try.results105 rfl Ty.ag55 rfl rfl (fun w h => h.range 0 rfl rfl)) ⟨by rw [hg]; rfl, rfl⟩ (fun w h => h.drop)
set_option maxRecDepth 100000 in
set_option maxHeartbeats 2000000 in
theorem get_step_row (A : HProp) (c f : Nat) (x : El) (h : Nat) (RT : Nat × Tr → Prop) (t : Tr) (ih : ∀ (p : Nat) (t : Tr), RT (p, t) → Does Try.prog 105 [.pointer (some ⟨p, 0, none⟩), .agg #[.int .i64 x.k, .int .i64 x.v]] [A, Blk c [.pointer (some ⟨f, 0, none⟩), .func (.func 53) #[] #[]] 170] (fun v L => v = opv (getT h t x) ∧ L = [A, Blk c [.pointer (some ⟨f, 0, none⟩), .func (.func 53) #[] #[]] 170])) (p : Nat) (bi oi ci : Nat) (hi : ∀ w, Holds A w → ∀ i x, t.is[i]? = some x → w.rangeAt bi (oi + i * 2) (El.cells x)) (bc oc cc : Nat) (ks : List (Nat × Tr)) (hc : ∀ w, Holds A w → ∀ i x, (kp ks)[i]? = some x → w.rangeAt bc (oc + i * 1) (vcf x)) (hkl : t.ks.length = t.is.length + 1) (hks : ∀ x ∈ ks, RT x) (hksl : ks.length = t.ks.length) (hk6 : ks.length ≤ 1000000) (cw : Value) (hn : NodeAt A (· = .pointer (some ⟨c, 0, none⟩)) (p, t) (.slice (some ⟨bi, oi, none⟩) t.is.length ci) (.slice (some ⟨bc, oc, none⟩) (kp ks).length cc) cw ks) (hi6 : t.is.length ≤ 1000000) : Does Try.prog 105 [.pointer (some ⟨p, 0, none⟩), .agg #[.int .i64 (x.k), .int .i64 (x.v)]] [A, Blk c [.pointer (some ⟨f, 0, none⟩), .func (.func 53) #[] #[]] 170] (fun v L => v = opv (getT (h + 1) t x) ∧ L = [A, Blk c [.pointer (some ⟨f, 0, none⟩), .func (.func 53) #[] #[]] 170]) := by
 refine Does.enter 49 Try.func105 rfl rfl rfl fun W F => ?_
 show WPc _ _ _ _ _ [(0, .pointer (some ⟨p, 0, none⟩)), (1, .agg #[.int .i64 (x.k), .int .i64 (x.v)])] (A :: Blk c [.pointer (some ⟨f, 0, none⟩), .func (.func 53) #[] #[]] 170 :: F)
 refine WPc.sr ?_
 refine WP.eff rfl rfl rfl (Eff.box (C := [.int .i64 (x.k), .int .i64 (x.v)]) rfl rfl rfl) ?_
 rintro _ _ ⟨b1, rfl, rfl⟩
 refine WP.eff rfl rfl rfl (Eff.alloc rfl Ty.z55) ?_
 rintro _ _ ⟨b2, rfl, rfl⟩
 refine WP.val rfl rfl rfl (Val.assign rfl rfl) ?_
 refine WP.nx ?_
 refine WPc.seq ?_
 have hfl := findI_le t.is x
 refine WPD.s0 Ty.mixed ?_
 refine WPD.tM 0 rfl rfl rfl rfl (Val.move rfl rfl) ?_
 refine WPD.tM 1 rfl rfl rfl rfl (Val.nilCheck rfl rfl) ?_
 refine WPD.tM 2 rfl rfl rfl rfl (Val.fieldAddr (j := 0) rfl Ty.fo213_0 rfl rfl) ?_
 refine WPD.tL 3 rfl rfl rfl rfl (fun _ h => h) (Val.load (v := .slice (some ⟨bi, oi, none⟩) t.is.length ci) rfl Ty.sc210 rfl (fun w h => (hn.cells w (h.at 2 rfl)).1)) ?_
 refine WPD.tL 4 rfl rfl rfl rfl (fun _ h => h) (Val.loadAgg (cs := [.int .i64 (x.k), .int .i64 (x.v)]) rfl Ty.ag55 rfl rfl (fun w h => h.range 1 rfl rfl)) ?_
 refine WPD.tM 5 rfl rfl rfl rfl (Val.move rfl rfl) ?_
 refine WPD.tM 6 rfl rfl rfl rfl (Val.nilCheck rfl rfl) ?_
 refine WPD.tM 7 rfl rfl rfl rfl (Val.fieldAddr (j := 2) rfl Ty.fo213_2 rfl rfl) ?_
 refine WPD.tL 8 rfl rfl rfl rfl (fun _ h => h) (Val.load (v := .pointer (some ⟨c, 0, none⟩)) rfl Ty.sc172 rfl (fun w h => (by have h9 := (hn.cells w (h.at 2 rfl)).2.2; rw [hn.cow] at h9; exact h9))) ?_
 refine WPD.tM 9 rfl rfl rfl rfl (Val.nilCheck rfl rfl) ?_
 refine WPD.tM 10 rfl rfl rfl rfl (Val.fieldAddr (j := 1) rfl Ty.fo170_1 rfl rfl) ?_
 refine WPD.tL 11 rfl rfl rfl rfl (fun _ h => h) (Val.load rfl Ty.sc165 rfl (fun w h => h.cell 3 rfl rfl)) ?_
 refine WPD.perm pl2 ?_
 refine WPD.stepC 12 (by kernel_rfl) rfl rfl rfl rfl (by kernel_rfl) (Eff.call rfl rfl Try.call124 (find_spec A x t.is hi6 (.slice (some ⟨bi, oi, none⟩) t.is.length ci) hn.items)) ?_
 rintro _ _ ⟨_, ⟨rfl, rfl⟩, rfl⟩
 refine ⟨_, (fun _ h => h), ?_⟩
 show WPD _ _ _ _ _ _ _ _ _ (_ :: Blk b2 [.int .i64 0, .int .i64 0] 55 :: Blk b1 [.int .i64 (x.k), .int .i64 (x.v)] 55 :: _)
 refine WPD.tM 13 rfl rfl rfl rfl (Val.move rfl rfl) ?_
 refine WPD.tM 14 rfl rfl rfl rfl (Val.extract rfl rfl rfl) ?_
 refine WPD.tM 15 rfl rfl rfl rfl (Val.extract rfl rfl rfl) ?_
 refine WPD.tM 16 rfl rfl rfl rfl (Val.assign rfl rfl) ?_
 refine WPD.tM 17 rfl rfl rfl rfl (Val.assign rfl rfl) ?_
 refine WPD.done (by kernel_rfl) ?_
 refine Out.next ?_
 refine WPc.seq ?_
 refine WPc.sr ?_
 refine WP.val rfl rfl rfl (Val.move rfl rfl) ?_
 refine WP.nx ?_
 refine WPc.cond rfl (fun h1 => ?_) (fun h1 => ?_)
 ·
  have h1 : ((findI t.is x).2) = true := h1
  refine WPc.seq ?_
  have hfd : (findI t.is x).2 = true := by assumption
  obtain ⟨y, hy⟩ : ∃ y, t.is[(findI t.is x).1]? = some y := ⟨_, List.getElem?_eq_getElem (hfl.2 hfd)⟩
  have hfl2 := hfl.2 hfd
  refine WPc.region ?_
  refine WP.val rfl rfl rfl (Val.move rfl rfl) ?_
  refine WP.val rfl rfl rfl (Val.nilCheck rfl rfl) ?_
  refine WP.val rfl rfl rfl (Val.fieldAddr (j := 0) rfl Ty.fo213_0 rfl rfl) ?_
  refine WP.val rfl rfl rfl (Val.load (v := .slice (some ⟨bi, oi, none⟩) t.is.length ci) rfl Ty.sc210 rfl (fun w h => (hn.cells w (h.at 0 rfl)).1)) ?_
  refine WP.val rfl rfl rfl (Val.move rfl rfl) ?_
  refine WP.val rfl rfl rfl (Val.indexAddr (j := (findI t.is x).1) (q := oi + ((findI t.is x).1) * 2) rfl Ty.sl210 rfl rfl (by omega) (by omega) (by omega)) ?_
  refine WP.val rfl rfl rfl (Val.loadAgg (cs := [.int .i64 (y.k), .int .i64 (y.v)]) rfl Ty.ag55 rfl (by rfl) (fun w h => hi w (h.at 0 rfl) (findI t.is x).1 y hy)) ?_
  refine WP.perm pl1 ?_
  refine WP.eff0 rfl rfl (Eff.storeAgg (cs := [.int .i64 (y.k), .int .i64 (y.v)]) (C' := [.int .i64 (y.k), .int .i64 (y.v)]) rfl Ty.ag55 rfl rfl rfl rfl (by simp) rfl) ?_
  rintro _ _ rfl
  refine WP.val rfl rfl rfl (Val.assign rfl rfl) ?_
  refine WP.nx ?_
  refine WPc.ret ?_
  refine Out.then_ret ?_
  have hg : getT (h + 1) t x = some y := by simp only [getT]; rw [if_pos hfd, getD_at hy]
  refine Out.perm pl2 ?_
  refine Out.drop ?_
  exact Out.retRun (L' := _) (results_ct Try.results105 rfl Ty.ag55 rfl rfl (fun w h => h.range 0 rfl rfl)) ⟨by rw [hg]; rfl, rfl⟩ (fun w h => h.drop)
 ·
  have h1 : ((findI t.is x).2) = false := h1
  refine WPc.sr ?_
  refine WP.val rfl rfl rfl (Val.move rfl rfl) ?_
  refine WP.val rfl rfl rfl (Val.nilCheck rfl rfl) ?_
  refine WP.val rfl rfl rfl (Val.fieldAddr (j := 1) rfl Ty.fo213_1 rfl rfl) ?_
  refine WP.val rfl rfl rfl (Val.load (v := .slice (some ⟨bc, oc, none⟩) ((kp ks).length) cc) rfl Ty.sc211 rfl (fun w h => (hn.cells w (h.at 0 rfl)).2.1)) ?_
  refine WP.val rfl rfl rfl (Val.len rfl Ty.sl211 rfl) ?_
  refine WP.val rfl rfl rfl (Val.gtr rfl rfl rfl) ?_
  refine WP.nx ?_
  refine WPc.ifP rfl (fun h2 => ?_) (fun h2 => ?_)
  ·
   have h2 : ((0 : Int) < (((kp ks).length : Nat) : Int)) := h2
   refine WPc.seq ?_
   obtain ⟨⟨pk, tk⟩, hxk⟩ : ∃ k, ks[(findI t.is x).1]? = some k := ⟨_, List.getElem?_eq_getElem (by omega)⟩
   have hkt := ks_at hn.snd hxk
   have hrk := hks _ (List.mem_of_getElem? hxk)
   have hkpl := kp_len ks
   refine WPD.s0 Ty.mixed ?_
   refine WPD.tM 0 rfl rfl rfl rfl (Val.move rfl rfl) ?_
   refine WPD.tM 1 rfl rfl rfl rfl (Val.nilCheck rfl rfl) ?_
   refine WPD.tM 2 rfl rfl rfl rfl (Val.fieldAddr (j := 1) rfl Ty.fo213_1 rfl rfl) ?_
   refine WPD.tL 3 rfl rfl rfl rfl (fun _ h => h) (Val.load (v := .slice (some ⟨bc, oc, none⟩) ((kp ks).length) cc) rfl Ty.sc211 rfl (fun w h => (hn.cells w (h.at 0 rfl)).2.1)) ?_
   refine WPD.tM 4 rfl rfl rfl rfl (Val.move rfl rfl) ?_
   refine WPD.tM 5 rfl rfl rfl rfl (Val.indexAddr (j := (findI t.is x).1) (q := oc + (findI t.is x).1) rfl Ty.sl211 rfl rfl (by omega) (by omega) (by omega)) ?_
   refine WPD.tL 6 rfl rfl rfl rfl (fun _ h => h) (Val.load (v := .pointer (some ⟨pk, 0, none⟩)) rfl Ty.sc171 rfl (fun w h => (by have h9 := hc w (h.at 0 rfl) (findI t.is x).1 _ (kp_at hxk) 0 _ rfl; rw [Nat.mul_one, Nat.add_zero] at h9; exact h9))) ?_
   refine WPD.tL 7 rfl rfl rfl rfl (fun _ h => h) (Val.loadAgg (cs := [.int .i64 (x.k), .int .i64 (x.v)]) rfl Ty.ag55 rfl rfl (fun w h => h.range 2 rfl rfl)) ?_
   refine WPD.perm pl3 ?_
   refine WPD.perm pl1 ?_
   refine WPD.stepC 8 (by kernel_rfl) rfl rfl rfl rfl (by kernel_rfl) (Eff.call rfl rfl Try.call105 (ih pk tk hrk)) ?_
   rintro _ _ ⟨_, ⟨rfl, rfl⟩, rfl⟩
   refine ⟨_, (fun _ h => h), ?_⟩
   refine WPD.tM 9 rfl rfl rfl rfl (Val.extract rfl rfl rfl) ?_
   refine WPD.tM 10 rfl rfl rfl rfl (Val.extract rfl rfl rfl) ?_
   refine WPD.perm pl2 ?_
   refine WPD.stepC0 11 (by kernel_rfl) rfl rfl rfl (by kernel_rfl) (Eff.storeAgg (cs := [.int .i64 (((getT h tk x).getD El0).k), .int .i64 (((getT h tk x).getD El0).v)]) (C' := [.int .i64 (((getT h tk x).getD El0).k), .int .i64 (((getT h tk x).getD El0).v)]) rfl Ty.ag55 rfl rfl rfl rfl (by simp) rfl) ?_
   rintro _ _ rfl
   refine ⟨_, (fun _ h => h), ?_⟩
   refine WPD.tM 12 rfl rfl rfl rfl (Val.assign rfl rfl) ?_
   refine WPD.done (by kernel_rfl) ?_
   refine Out.next ?_
   refine WPc.ret ?_
   refine Out.then_ret ?_
   have hg : getT (h + 1) t x = getT h tk x := by simp only [getT]; rw [if_neg (by simp_all), kid_at hkt]
   refine Out.perm pl3 ?_
   refine Out.drop ?_
   exact Out.retRun (L' := _) (results_ct Try.results105 rfl Ty.ag55 rfl rfl (fun w h => h.range 0 rfl rfl)) ⟨by rw [hg]; rfl, rfl⟩ (fun w h => h.drop)
  ·
   have h2 : ¬ ((0 : Int) < (((kp ks).length : Nat) : Int)) := h2
   exfalso; have := kp_len ks; omega
set_option maxRecDepth 100000 in
set_option maxHeartbeats 2000000 in
theorem get_step_nil (A : HProp) (c f : Nat) (x : El) (h : Nat) (RT : Nat × Tr → Prop) (t : Tr) (ih : ∀ (p : Nat) (t : Tr), RT (p, t) → Does Try.prog 105 [.pointer (some ⟨p, 0, none⟩), .agg #[.int .i64 x.k, .int .i64 x.v]] [A, Blk c [.pointer (some ⟨f, 0, none⟩), .func (.func 53) #[] #[]] 170] (fun v L => v = opv (getT h t x) ∧ L = [A, Blk c [.pointer (some ⟨f, 0, none⟩), .func (.func 53) #[] #[]] 170])) (p : Nat) (ai : Option Addr) (ci : Nat) (hni : t.is.length = 0) (bc oc cc : Nat) (ks : List (Nat × Tr)) (hc : ∀ w, Holds A w → ∀ i x, (kp ks)[i]? = some x → w.rangeAt bc (oc + i * 1) (vcf x)) (hkl : t.ks.length = t.is.length + 1) (hks : ∀ x ∈ ks, RT x) (hksl : ks.length = t.ks.length) (hk6 : ks.length ≤ 1000000) (cw : Value) (hn : NodeAt A (· = .pointer (some ⟨c, 0, none⟩)) (p, t) (.slice ai 0 ci) (.slice (some ⟨bc, oc, none⟩) (kp ks).length cc) cw ks) (hi6 : t.is.length ≤ 1000000) : Does Try.prog 105 [.pointer (some ⟨p, 0, none⟩), .agg #[.int .i64 (x.k), .int .i64 (x.v)]] [A, Blk c [.pointer (some ⟨f, 0, none⟩), .func (.func 53) #[] #[]] 170] (fun v L => v = opv (getT (h + 1) t x) ∧ L = [A, Blk c [.pointer (some ⟨f, 0, none⟩), .func (.func 53) #[] #[]] 170]) := by
 refine Does.enter 49 Try.func105 rfl rfl rfl fun W F => ?_
 show WPc _ _ _ _ _ [(0, .pointer (some ⟨p, 0, none⟩)), (1, .agg #[.int .i64 (x.k), .int .i64 (x.v)])] (A :: Blk c [.pointer (some ⟨f, 0, none⟩), .func (.func 53) #[] #[]] 170 :: F)
 refine WPc.sr ?_
 refine WP.eff rfl rfl rfl (Eff.box (C := [.int .i64 (x.k), .int .i64 (x.v)]) rfl rfl rfl) ?_
 rintro _ _ ⟨b1, rfl, rfl⟩
 refine WP.eff rfl rfl rfl (Eff.alloc rfl Ty.z55) ?_
 rintro _ _ ⟨b2, rfl, rfl⟩
 refine WP.val rfl rfl rfl (Val.assign rfl rfl) ?_
 refine WP.nx ?_
 refine WPc.seq ?_
 have hfl := findI_le t.is x
 refine WPD.s0 Ty.mixed ?_
 refine WPD.tM 0 rfl rfl rfl rfl (Val.move rfl rfl) ?_
 refine WPD.tM 1 rfl rfl rfl rfl (Val.nilCheck rfl rfl) ?_
 refine WPD.tM 2 rfl rfl rfl rfl (Val.fieldAddr (j := 0) rfl Ty.fo213_0 rfl rfl) ?_
 refine WPD.tL 3 rfl rfl rfl rfl (fun _ h => h) (Val.load (v := .slice ai 0 ci) rfl Ty.sc210 rfl (fun w h => (hn.cells w (h.at 2 rfl)).1)) ?_
 refine WPD.tL 4 rfl rfl rfl rfl (fun _ h => h) (Val.loadAgg (cs := [.int .i64 (x.k), .int .i64 (x.v)]) rfl Ty.ag55 rfl rfl (fun w h => h.range 1 rfl rfl)) ?_
 refine WPD.tM 5 rfl rfl rfl rfl (Val.move rfl rfl) ?_
 refine WPD.tM 6 rfl rfl rfl rfl (Val.nilCheck rfl rfl) ?_
 refine WPD.tM 7 rfl rfl rfl rfl (Val.fieldAddr (j := 2) rfl Ty.fo213_2 rfl rfl) ?_
 refine WPD.tL 8 rfl rfl rfl rfl (fun _ h => h) (Val.load (v := .pointer (some ⟨c, 0, none⟩)) rfl Ty.sc172 rfl (fun w h => (by have h9 := (hn.cells w (h.at 2 rfl)).2.2; rw [hn.cow] at h9; exact h9))) ?_
 refine WPD.tM 9 rfl rfl rfl rfl (Val.nilCheck rfl rfl) ?_
 refine WPD.tM 10 rfl rfl rfl rfl (Val.fieldAddr (j := 1) rfl Ty.fo170_1 rfl rfl) ?_
 refine WPD.tL 11 rfl rfl rfl rfl (fun _ h => h) (Val.load rfl Ty.sc165 rfl (fun w h => h.cell 3 rfl rfl)) ?_
 refine WPD.perm pl2 ?_
 refine WPD.stepC 12 (by kernel_rfl) rfl rfl rfl rfl (by kernel_rfl) (Eff.call rfl rfl Try.call124 (find_spec A x t.is hi6 (.slice ai 0 ci) hn.items)) ?_
 rintro _ _ ⟨_, ⟨rfl, rfl⟩, rfl⟩
 refine ⟨_, (fun _ h => h), ?_⟩
 show WPD _ _ _ _ _ _ _ _ _ (_ :: Blk b2 [.int .i64 0, .int .i64 0] 55 :: Blk b1 [.int .i64 (x.k), .int .i64 (x.v)] 55 :: _)
 refine WPD.tM 13 rfl rfl rfl rfl (Val.move rfl rfl) ?_
 refine WPD.tM 14 rfl rfl rfl rfl (Val.extract rfl rfl rfl) ?_
 refine WPD.tM 15 rfl rfl rfl rfl (Val.extract rfl rfl rfl) ?_
 refine WPD.tM 16 rfl rfl rfl rfl (Val.assign rfl rfl) ?_
 refine WPD.tM 17 rfl rfl rfl rfl (Val.assign rfl rfl) ?_
 refine WPD.done (by kernel_rfl) ?_
 refine Out.next ?_
 refine WPc.seq ?_
 refine WPc.sr ?_
 refine WP.val rfl rfl rfl (Val.move rfl rfl) ?_
 refine WP.nx ?_
 refine WPc.cond rfl (fun h1 => ?_) (fun h1 => ?_)
 ·
  have h1 : ((findI t.is x).2) = true := h1
  exfalso; have h9 := hfl.2 h1; omega
 ·
  have h1 : ((findI t.is x).2) = false := h1
  refine WPc.sr ?_
  refine WP.val rfl rfl rfl (Val.move rfl rfl) ?_
  refine WP.val rfl rfl rfl (Val.nilCheck rfl rfl) ?_
  refine WP.val rfl rfl rfl (Val.fieldAddr (j := 1) rfl Ty.fo213_1 rfl rfl) ?_
  refine WP.val rfl rfl rfl (Val.load (v := .slice (some ⟨bc, oc, none⟩) ((kp ks).length) cc) rfl Ty.sc211 rfl (fun w h => (hn.cells w (h.at 0 rfl)).2.1)) ?_
  refine WP.val rfl rfl rfl (Val.len rfl Ty.sl211 rfl) ?_
  refine WP.val rfl rfl rfl (Val.gtr rfl rfl rfl) ?_
  refine WP.nx ?_
  refine WPc.ifP rfl (fun h2 => ?_) (fun h2 => ?_)
  ·
   have h2 : ((0 : Int) < (((kp ks).length : Nat) : Int)) := h2
   refine WPc.seq ?_
   obtain ⟨⟨pk, tk⟩, hxk⟩ : ∃ k, ks[(findI t.is x).1]? = some k := ⟨_, List.getElem?_eq_getElem (by omega)⟩
   have hkt := ks_at hn.snd hxk
   have hrk := hks _ (List.mem_of_getElem? hxk)
   have hkpl := kp_len ks
   refine WPD.s0 Ty.mixed ?_
   refine WPD.tM 0 rfl rfl rfl rfl (Val.move rfl rfl) ?_
   refine WPD.tM 1 rfl rfl rfl rfl (Val.nilCheck rfl rfl) ?_
   refine WPD.tM 2 rfl rfl rfl rfl (Val.fieldAddr (j := 1) rfl Ty.fo213_1 rfl rfl) ?_
   refine WPD.tL 3 rfl rfl rfl rfl (fun _ h => h) (Val.load (v := .slice (some ⟨bc, oc, none⟩) ((kp ks).length) cc) rfl Ty.sc211 rfl (fun w h => (hn.cells w (h.at 0 rfl)).2.1)) ?_
   refine WPD.tM 4 rfl rfl rfl rfl (Val.move rfl rfl) ?_
   refine WPD.tM 5 rfl rfl rfl rfl (Val.indexAddr (j := (findI t.is x).1) (q := oc + (findI t.is x).1) rfl Ty.sl211 rfl rfl (by omega) (by omega) (by omega)) ?_
   refine WPD.tL 6 rfl rfl rfl rfl (fun _ h => h) (Val.load (v := .pointer (some ⟨pk, 0, none⟩)) rfl Ty.sc171 rfl (fun w h => (by have h9 := hc w (h.at 0 rfl) (findI t.is x).1 _ (kp_at hxk) 0 _ rfl; rw [Nat.mul_one, Nat.add_zero] at h9; exact h9))) ?_
   refine WPD.tL 7 rfl rfl rfl rfl (fun _ h => h) (Val.loadAgg (cs := [.int .i64 (x.k), .int .i64 (x.v)]) rfl Ty.ag55 rfl rfl (fun w h => h.range 2 rfl rfl)) ?_
   refine WPD.perm pl3 ?_
   refine WPD.perm pl1 ?_
   refine WPD.stepC 8 (by kernel_rfl) rfl rfl rfl rfl (by kernel_rfl) (Eff.call rfl rfl Try.call105 (ih pk tk hrk)) ?_
   rintro _ _ ⟨_, ⟨rfl, rfl⟩, rfl⟩
   refine ⟨_, (fun _ h => h), ?_⟩
   refine WPD.tM 9 rfl rfl rfl rfl (Val.extract rfl rfl rfl) ?_
   refine WPD.tM 10 rfl rfl rfl rfl (Val.extract rfl rfl rfl) ?_
   refine WPD.perm pl2 ?_
   refine WPD.stepC0 11 (by kernel_rfl) rfl rfl rfl (by kernel_rfl) (Eff.storeAgg (cs := [.int .i64 (((getT h tk x).getD El0).k), .int .i64 (((getT h tk x).getD El0).v)]) (C' := [.int .i64 (((getT h tk x).getD El0).k), .int .i64 (((getT h tk x).getD El0).v)]) rfl Ty.ag55 rfl rfl rfl rfl (by simp) rfl) ?_
   rintro _ _ rfl
   refine ⟨_, (fun _ h => h), ?_⟩
   refine WPD.tM 12 rfl rfl rfl rfl (Val.assign rfl rfl) ?_
   refine WPD.done (by kernel_rfl) ?_
   refine Out.next ?_
   refine WPc.ret ?_
   refine Out.then_ret ?_
   have hg : getT (h + 1) t x = getT h tk x := by simp only [getT]; rw [if_neg (by simp_all), kid_at hkt]
   refine Out.perm pl3 ?_
   refine Out.drop ?_
   exact Out.retRun (L' := _) (results_ct Try.results105 rfl Ty.ag55 rfl rfl (fun w h => h.range 0 rfl rfl)) ⟨by rw [hg]; rfl, rfl⟩ (fun w h => h.drop)
  ·
   have h2 : ¬ ((0 : Int) < (((kp ks).length : Nat) : Int)) := h2
   exfalso; have := kp_len ks; omega

theorem get_spec (A : HProp) (c f : Nat) (x : El) (m M : Nat) (hM2 : M ≤ 1000) : ∀ (h p : Nat) (t : Tr), RdT A (· = .pointer (some ⟨c, 0, none⟩)) h (p, t) → Bal m M h t → Does Try.prog 105 [.pointer (some ⟨p, 0, none⟩), .agg #[.int .i64 x.k, .int .i64 x.v]] [A, Blk c [.pointer (some ⟨f, 0, none⟩), .func (.func 53) #[] #[]] 170] (fun v L => v = opv (getT h t x) ∧ L = [A, Blk c [.pointer (some ⟨f, 0, none⟩), .func (.func 53) #[] #[]] 170])
 | 0, p, t, ⟨vi, vc, cw, hn⟩, hb => by
  have hi6 : t.is.length ≤ 1000000 := by have := hb.2; omega
  rcases id hn.items with ⟨bi, oi, ci, rfl, hi⟩ | ⟨e, ai, ci, rfl⟩
  ·
   exact get_leaf_row A c f x t p bi oi ci hi vc cw hn hi6
  ·
   exact get_leaf_nil A c f x t p ai ci (by dsimp only at e; rw [e]; rfl) vc cw hn hi6
 | h + 1, p, t, ⟨vi, vc, cw, ks, hn, hk⟩, hb => by
  have hi6 : t.is.length ≤ 1000000 := by have := hb.2.1; omega
  have hkl : t.ks.length = t.is.length + 1 := hb.1
  have hks : ks.length = t.ks.length := ks_len hn.snd
  have hk6 : ks.length ≤ 1000000 := by rw [hks, hkl]; exact Nat.le_trans (Nat.succ_le_succ hb.2.1) (by omega)
  obtain ⟨bc, oc, cc, rfl, hc⟩ := Rd.pos hn.kids (by rw [kp_len, hks, hkl]; exact Nat.succ_pos _)
  have hRT : ∀ x ∈ ks, RdT A (· = .pointer (some ⟨c, 0, none⟩)) h x ∧ Bal m M h x.2 := fun x hx => ⟨hk x hx, (hb.2.2 x.2 (by have := hn.snd; rw [← this]; exact List.mem_map.2 ⟨x, hx, rfl⟩)).2⟩
  rcases id hn.items with ⟨bi, oi, ci, rfl, hi⟩ | ⟨e, ai, ci, rfl⟩
  ·
   exact get_step_row A c f x h (fun x => RdT A (· = .pointer (some ⟨c, 0, none⟩)) h x ∧ Bal m M h x.2) t (fun p t hr => get_spec A c f x m M hM2 h p t hr.1 hr.2) p bi oi ci hi bc oc cc ks hc hkl hRT hks hk6 cw hn hi6
  ·
   exact get_step_nil A c f x h (fun x => RdT A (· = .pointer (some ⟨c, 0, none⟩)) h x ∧ Bal m M h x.2) t (fun p t hr => get_spec A c f x m M hM2 h p t hr.1 hr.2) p ai ci (by dsimp only at e; rw [e]; rfl) bc oc cc ks hc hkl hRT hks hk6 cw hn hi6

end Go.Proofs.Ythmkdioafjmclaa.Bt14
