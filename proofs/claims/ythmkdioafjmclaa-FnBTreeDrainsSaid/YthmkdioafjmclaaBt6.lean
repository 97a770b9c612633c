import Derived.Test.YthmkdioafjmclaaSlTerse
import Derived.Test.YthmkdioafjmclaaBt5
namespace Go.Proofs.Ythmkdioafjmclaa.Bt6
open Go.RowKit Go.Proofs.Ythmkdioafjmclaa Go.Proofs.Ythmkdioafjmclaa.Sl Go.Proofs.Ythmkdioafjmclaa.Bt Go.Proofs.Ythmkdioafjmclaa.Bt2 Go.Proofs.Ythmkdioafjmclaa.Bt3 Go.Proofs.Ythmkdioafjmclaa.Bt4 Go.Proofs.Ythmkdioafjmclaa.Bt5
set_option linter.unusedVariables false
set_option linter.unusedSimpArgs false
set_option linter.unusedSectionVars false


theorem ks_get {ks : List (Nat × Tr)} {t tk : Tr} {i : Nat} (h : ks.map (·.2) = t.ks) (hk : t.ks[i]? = some tk) : ∃ pk, ks[i]? = some (pk, tk) := by
 rw [← h, List.getElem?_map] at hk
 cases hq : ks[i]? with
 | none => rw [hq] at hk; cases hk
 | some k => obtain ⟨pk, tk'⟩ := k; rw [hq] at hk; simp at hk; subst hk; exact ⟨pk, rfl⟩
def spl (t : Tr) (i d : Nat) (tk : Tr) : Tr := .nd (t.is.take i ++ tk.is.getD d El0 :: t.is.drop i) (t.ks.take i ++ .nd (tk.is.take d) (tk.ks.take (d + 1)) :: .nd (tk.is.drop (d + 1)) (tk.ks.drop (d + 1)) :: t.ks.drop (i + 1))
def mspl (M : Nat) (t : Tr) (i : Nat) : Tr × Bool := match t.ks[i]? with
 | none => (t, false)
 | some tk => if tk.is.length < M then (t, false) else (spl t i (M / 2) tk, true)
theorem kp_two {ks : List (Nat × Tr)} {i p1 p2 : Nat} {tk l r : Tr} (h : ks[i]? = some (p1, tk)) : (kp ks).take (i + 1) ++ .pointer (some ⟨p2, 0, none⟩) :: (kp ks).drop (i + 1) = kp (ks.take i ++ (p1, l) :: (p2, r) :: ks.drop (i + 1)) := by
 have h1 : (kp ks).take (i + 1) = (kp ks).take i ++ [.pointer (some ⟨p1, 0, none⟩)] := take_more (kp_at h)
 rw [h1, kp_take, kp_drop, kp_app]
 simp [kp]
theorem perm_two {α : Type} {a b : α} {x y : List α} : (a :: b :: (x ++ y)).Perm (x ++ a :: b :: y) := by
 have h1 : (x ++ a :: b :: y).Perm (a :: (x ++ b :: y)) := List.perm_middle
 have h2 : (x ++ b :: y).Perm (b :: (x ++ y)) := List.perm_middle
 exact (h1.trans (h2.cons a)).symm
theorem snd_two {ks : List (Nat × Tr)} {t l r : Tr} {i p1 p2 : Nat} (h : ks.map (·.2) = t.ks) : (ks.take i ++ (p1, l) :: (p2, r) :: ks.drop (i + 1)).map (·.2) = t.ks.take i ++ l :: r :: t.ks.drop (i + 1) := by
 rw [← h]; simp
theorem snd_one {ks : List (Nat × Tr)} {t l tk : Tr} {i p1 : Nat} (h : ks.map (·.2) = t.ks) (hx : ks[i]? = some (p1, tk)) : (ks.take i ++ (p1, l) :: ks.drop (i + 1)).map (·.2) = t.ks.set i l := by
 have hlt := (List.getElem?_eq_some_iff.1 hx).1
 rw [← h, List.set_eq_take_append_cons_drop, if_pos (by simpa using hlt)]; simp
theorem kp_one_set {ks : List (Nat × Tr)} {l tk : Tr} {i p1 : Nat} (hx : ks[i]? = some (p1, tk)) : kp (ks.take i ++ (p1, l) :: ks.drop (i + 1)) = kp ks := by
 conv => { rhs; rw [split_at hx] }
 simp [kp]
theorem len_one_set {ks : List (Nat × Tr)} {l tk : Tr} {i p1 : Nat} (hx : ks[i]? = some (p1, tk)) : (ks.take i ++ (p1, l) :: ks.drop (i + 1)).length = ks.length := by
 rw [← kp_len, kp_one_set hx, kp_len]
set_option maxRecDepth 100000 in
set_option maxHeartbeats 2000000 in
theorem mspl_spec (c f ht p i M : Nat) (t tk : Tr) (htk : t.ks[i]? = some tk) (h0 : 0 < M) (h5 : i ≤ t.is.length) (h6 : t.is.length ≤ 1000000) (h7 : t.ks.length ≤ 1000000) (h8 : 0 < tk.ks.length → M / 2 < tk.ks.length) (h9 : tk.is.length ≤ 1000000) (h10 : tk.ks.length ≤ 1000000) (hM : M ≤ 1000000) : Does Try.prog 126 [.pointer (some ⟨p, 0, none⟩), .int .i64 (((i : Nat) : Int)), .int .i64 (((M : Nat) : Int))] [Nd c (ht + 1) (p, t), Blk c [.pointer (some ⟨f, 0, none⟩), .func (.func 53) #[] #[]] 170, FL f] (fun v L => v = .bool (mspl M t i).2 ∧ L = [Nd c (ht + 1) (p, (mspl M t i).1), Blk c [.pointer (some ⟨f, 0, none⟩), .func (.func 53) #[] #[]] 170, FL f]) := by
 refine Does.enter 46 Try.func126 rfl rfl rfl fun W F => ?_
 show WPc _ _ _ _ _ [(0, .pointer (some ⟨p, 0, none⟩)), (1, .int .i64 (((i : Nat) : Int))), (2, .int .i64 (((M : Nat) : Int)))] (Nd c (ht + 1) (p, t) :: Blk c [.pointer (some ⟨f, 0, none⟩), .func (.func 53) #[] #[]] 170 :: FL f :: F)
 refine WPc.sr ?_
 refine WP.val rfl rfl rfl (Val.assign rfl rfl) ?_
 refine WP.nx ?_
 refine WPc.seq ?_
 refine WPc.seq ?_
 refine WPc.open (fun w h => h.ndOpen) ?_
 rintro ⟨vi, vc, ks⟩
 refine WPc.pure (fun hk => ?_)
 obtain ⟨hk, hl⟩ := hk
 dsimp only at hk hl
 have hkl := ks_len hk
 show WPc _ _ _ _ _ _ (Blk p [vi, vc, .pointer (some ⟨c, 0, none⟩)] 213 :: Own 55 2 vi t.is.length (flatOf El.cells t.is) :: Own 171 1 vc ks.length (flatOf vcf (kp ks)) :: Kds (Rk c (ht + 1)) ks :: _)
 obtain ⟨pk, hx⟩ := ks_get hk htk
 have hi : i < ks.length := (List.getElem?_eq_some_iff.1 hx).1
 have hka := kp_at hx
 refine WPc.perm pl2 ?_
 refine WPc.open (fun w h => h.ownPos (by omega)) ?_
 rintro ⟨g1, cg1, spg1⟩
 refine WPc.pure (fun hvg1 => ?_)
 obtain ⟨rfl, hng1, hlg1, hsg1, hcg1⟩ := hvg1
 dsimp only at hng1 hlg1 hsg1 hcg1
 show WPc _ _ _ _ _ _ (Blk g1 (flatOf vcf (kp ks) ++ spg1) 171 :: Blk p [vi, .slice (some ⟨g1, 0, none⟩) ks.length cg1, .pointer (some ⟨c, 0, none⟩)] 213 :: _)
 refine WPc.perm pl3 ?_
 refine WPc.conv (fun w h => Sat.kOut (R := Rk c (ht + 1)) hx h) ?_
 show WPc _ _ _ _ _ _ (Nd c ht (pk, tk) :: Kds (Rk c (ht + 1)) (ks.take i ++ ks.drop (i + 1)) :: _)
 refine WPc.open (fun w h => h.ndOpen) ?_
 rintro ⟨vix, vcx, ksx⟩
 refine WPc.pure (fun hkx => ?_)
 obtain ⟨hkx, hlx⟩ := hkx
 dsimp only at hkx hlx
 have hklx := ks_len hkx
 show WPc _ _ _ _ _ _ (Blk pk [vix, vcx, .pointer (some ⟨c, 0, none⟩)] 213 :: Own 55 2 vix tk.is.length (flatOf El.cells tk.is) :: Own 171 1 vcx ksx.length (flatOf vcf (kp ksx)) :: Kds (Rk c ht) ksx :: _)
 refine WPc.region ?_
 refine WP.val rfl rfl rfl (Val.move rfl rfl) ?_
 refine WP.val rfl rfl rfl (Val.nilCheck rfl rfl) ?_
 refine WP.val rfl rfl rfl (Val.fieldAddr (j := 1) rfl Ty.fo213_1 rfl rfl) ?_
 refine WP.val rfl rfl rfl (Val.load rfl Ty.sc211 rfl (fun w h => h.cell 6 rfl rfl)) ?_
 refine WP.val rfl rfl rfl (Val.move rfl rfl) ?_
 refine WP.val rfl rfl rfl (Val.indexAddr (j := i) (q := i) rfl Ty.sl211 rfl rfl (by omega) (by omega) (by omega)) ?_
 refine WP.val rfl rfl rfl (Val.load (v := .pointer (some ⟨pk, 0, none⟩)) rfl Ty.sc171 rfl (fun w h => ((h.at 5 rfl).cell _).trans (vflat_at hka))) ?_
 refine WP.val rfl rfl rfl (Val.nilCheck rfl rfl) ?_
 refine WP.val rfl rfl rfl (Val.fieldAddr (j := 0) rfl Ty.fo213_0 rfl rfl) ?_
 refine WP.val rfl rfl rfl (Val.load rfl Ty.sc210 rfl (fun w h => h.cell 0 rfl rfl)) ?_
 refine WP.val rfl rfl rfl (Val.lenOwn rfl Ty.sl210 rfl (fun w h => h.at 1 rfl)) ?_
 refine WP.val rfl rfl rfl (Val.move rfl rfl) ?_
 refine WP.val rfl rfl rfl (Val.lss rfl rfl rfl) ?_
 refine WP.nx ?_
 refine WPc.ifP rfl (fun h1 => ?_) (fun h1 => ?_)
 ·
  have h1 : (((tk.is.length : Nat) : Int) < ((M : Nat) : Int)) := h1
  refine WPc.sr ?_
  refine WP.val rfl rfl rfl (Val.assign rfl rfl) ?_
  refine WP.nx ?_
  refine WPc.ret ?_
  refine Out.then_ret ?_
  iterate 4 (refine Out.perm pl3 ?_)
  refine Out.conv (fun w h => Sat.ndMk (c := c) (h := ht) (t := tk) (ks := ksx) hkx hlx h) ?_
  show Out _ _ _ _ _ (Nd c ht (pk, tk) :: _)
  refine Out.perm pl1 ?_
  refine Out.perm pl1 ?_
  refine Out.conv (fun w h => (by have h9 := Sat.kIn (R := Rk c (ht + 1)) (x := (pk, tk)) (ks := ks) (i := i) h; rw [← split_at hx] at h9; exact h9)) ?_
  show Out _ _ _ _ _ (Kds (Rk c (ht + 1)) ks :: _)
  refine Out.perm pl1 ?_
  refine Out.conv (fun w h => Sat.ownMk (e := 171) (k := 1) (b := g1) (m := ks.length) (cap := cg1) (xs := flatOf vcf (kp ks)) (sp := spg1) (by exact h) hng1 hlg1 hsg1 hcg1) ?_
  refine Out.perm pl1 ?_
  refine Out.perm pl1 ?_
  refine Out.perm pl3 ?_
  refine Out.perm pl3 ?_
  refine Out.conv (fun w h => Sat.ndMk (c := c) (h := (ht + 1)) (t := t) (ks := ks) hk hl h) ?_
  show Out _ _ _ _ _ (Nd c (ht + 1) (p, t) :: _)
  have hms : mspl M t i = (t, false) := by unfold mspl; rw [htk]; dsimp only; rw [if_pos (by omega)]
  exact Out.ret1 (L' := _) Try.results126 rfl ⟨by rw [hms], by rw [hms]⟩ (fun _ h => h)
 ·
  have h1 : ¬ (((tk.is.length : Nat) : Int) < ((M : Nat) : Int)) := h1
  refine WPc.skip ?_
  refine Out.next ?_
  refine WPc.seq ?_
  iterate 4 (refine WPc.perm pl3 ?_)
  refine WPc.conv (fun w h => Sat.ndMk (c := c) (h := ht) (t := tk) (ks := ksx) hkx hlx h) ?_
  show WPc _ _ _ _ _ _ (Nd c ht (pk, tk) :: _)
  refine WPc.perm pl1 ?_
  refine WPc.perm pl1 ?_
  refine WPc.conv (fun w h => (by have h9 := Sat.kIn (R := Rk c (ht + 1)) (x := (pk, tk)) (ks := ks) (i := i) h; rw [← split_at hx] at h9; exact h9)) ?_
  show WPc _ _ _ _ _ _ (Kds (Rk c (ht + 1)) ks :: _)
  refine WPc.perm pl1 ?_
  refine WPc.conv (fun w h => Sat.ownMk (e := 171) (k := 1) (b := g1) (m := ks.length) (cap := cg1) (xs := flatOf vcf (kp ks)) (sp := spg1) (by exact h) hng1 hlg1 hsg1 hcg1) ?_
  obtain ⟨y, hy⟩ : ∃ y, tk.is[M / 2]? = some y := ⟨_, List.getElem?_eq_getElem (by omega)⟩
  refine WPc.region ?_
  refine WP.val rfl rfl rfl (Val.move rfl rfl) ?_
  refine WP.val rfl rfl rfl (Val.move rfl rfl) ?_
  refine WP.perm pl1 ?_
  refine WP.perm pl1 ?_
  refine WP.perm pl2 ?_
  refine WP.eff rfl rfl rfl (Eff.call rfl rfl Try.call127 (mchild_spec c ht p i vi (.slice (some ⟨g1, 0, none⟩) ks.length cg1) ks pk tk hx (by omega))) ?_
  rintro _ _ ⟨_, ⟨rfl, rfl⟩, rfl⟩
  show WP _ _ _ _ _ _ _ (_ :: Own 171 1 (.slice (some ⟨g1, 0, none⟩) ks.length cg1) ks.length (flatOf vcf (kp ks)) :: _)
  refine WP.val rfl rfl rfl (Val.assign rfl rfl) ?_
  refine WP.nx ?_
  refine WPc.seq ?_
  refine WPc.perm pl2 ?_
  refine WPc.conv (fun w h => Sat.kOut (R := Rk c (ht + 1)) hx h) ?_
  show WPc _ _ _ _ _ _ (Nd c ht (pk, tk) :: Kds (Rk c (ht + 1)) (ks.take i ++ ks.drop (i + 1)) :: _)
  refine WPc.region ?_
  refine WP.val rfl rfl rfl (Val.move rfl rfl) ?_
  refine WP.val rfl rfl rfl (Val.move rfl rfl) ?_
  refine WP.val rfl rfl rfl (Val.quo (z := ((M / 2 : Nat) : Int)) rfl rfl rfl (by omega) (show IntKind.i64.wrap ((M / 2 : Nat) : Int) = _ from w64 (by omega) (by omega))) ?_
  refine WP.perm pl6 ?_
  refine WP.perm pl6 ?_
  refine WP.perm pl2 ?_
  refine WP.eff rfl rfl rfl (Eff.call rfl rfl Try.call102 (split_spec c f ht pk (M / 2) tk y hy (by omega) (by omega) h8)) ?_
  rintro _ _ ⟨_, ⟨p2, rfl, rfl⟩, rfl⟩
  show WP _ _ _ _ _ _ _ (Nd c ht (pk, (Tr.nd (tk.is.take (M / 2)) (tk.ks.take (M / 2 + 1)))) :: Nd c ht (p2, (Tr.nd (tk.is.drop (M / 2 + 1)) (tk.ks.drop (M / 2 + 1)))) :: _)
  refine WP.val rfl rfl rfl (Val.move rfl rfl) ?_
  refine WP.val rfl rfl rfl (Val.extract rfl rfl rfl) ?_
  refine WP.val rfl rfl rfl (Val.extract rfl rfl rfl) ?_
  refine WP.eff rfl rfl rfl (Eff.alloc rfl Ty.z55) ?_
  rintro _ _ ⟨b2, rfl, rfl⟩
  refine WP.eff0 rfl rfl (Eff.storeAgg (cs := [.int .i64 (y.k), .int .i64 (y.v)]) (C' := [.int .i64 (y.k), .int .i64 (y.v)]) rfl Ty.ag55 rfl rfl rfl rfl (by simp) rfl) ?_
  rintro _ _ rfl
  refine WP.val rfl rfl rfl (Val.assign rfl rfl) ?_
  refine WP.nx ?_
  refine WPc.seq ?_
  refine WPD.s0 Ty.mixed ?_
  refine WPD.tM 0 rfl rfl rfl rfl (Val.move rfl rfl) ?_
  refine WPD.tM 1 rfl rfl rfl rfl (Val.nilCheck rfl rfl) ?_
  refine WPD.tM 2 rfl rfl rfl rfl (Val.fieldAddr (j := 0) rfl Ty.fo213_0 rfl rfl) ?_
  refine WPD.tM 3 rfl rfl rfl rfl (Val.move rfl rfl) ?_
  refine WPD.tL 4 rfl rfl rfl rfl (fun _ h => h) (Val.loadAgg (cs := [.int .i64 (y.k), .int .i64 (y.v)]) rfl Ty.ag55 rfl rfl (fun w h => h.range 0 rfl rfl)) ?_
  refine WPD.perm pl8 ?_
  refine WPD.perm pl7 ?_
  refine WPD.stepC 5 (by kernel_rfl) rfl rfl rfl rfl (by kernel_rfl) (Eff.call rfl rfl Try.call125 (insatE p vi (.slice (some ⟨g1, 0, none⟩) ks.length cg1) (.pointer (some ⟨c, 0, none⟩)) t.is y  i (by omega) (by omega))) ?_
  rintro _ _ ⟨_, ⟨wi, hwi, rfl⟩, rfl⟩
  refine ⟨_, (fun _ h => h), ?_⟩
  show WPD _ _ _ _ _ _ _ _ _ (Blk p [wi, .slice (some ⟨g1, 0, none⟩) ks.length cg1, .pointer (some ⟨c, 0, none⟩)] 213 :: Own 55 2 wi ((t.is).length + 1) (flatOf El.cells ((t.is).take i ++ y :: (t.is).drop i)) :: Blk b2 [.int .i64 (y.k), .int .i64 (y.v)] 55 :: _)
  refine WPD.done (by kernel_rfl) ?_
  refine Out.next ?_
  refine WPc.sr ?_
  refine WP.val rfl rfl rfl (Val.move rfl rfl) ?_
  refine WP.val rfl rfl rfl (Val.nilCheck rfl rfl) ?_
  refine WP.val rfl rfl rfl (Val.fieldAddr (j := 1) rfl Ty.fo213_1 rfl rfl) ?_
  refine WP.val rfl rfl rfl (Val.move rfl rfl) ?_
  refine WP.val rfl rfl rfl (Val.add (z := ((i + 1 : Nat) : Int)) rfl rfl rfl ((w64 (by omega) (by omega)).trans (by omega))) ?_
  refine WP.val rfl rfl rfl (Val.move rfl rfl) ?_
  refine WP.perm pl8 ?_
  refine WP.c1 (B := Own 171 1 (.slice (some ⟨g1, 0, none⟩) ks.length cg1) ((kp ks).length) (flatOf vcf (kp ks))) (fun w h => by rw [kp_len]; exact h) ?_
  refine WP.perm pl1 ?_
  refine WP.eff rfl rfl rfl (Eff.call rfl rfl Try.call138 (insatP p wi (.slice (some ⟨g1, 0, none⟩) ks.length cg1) (.pointer (some ⟨c, 0, none⟩)) (kp ks) (kp_one _) (.pointer (some ⟨p2, 0, none⟩)) rfl (i + 1) (by rw [kp_len]; omega) (by rw [kp_len]; omega))) ?_
  rintro _ _ ⟨_, ⟨wc, hwc, rfl⟩, rfl⟩
  show WP _ _ _ _ _ _ _ (Blk p [wi, wc, .pointer (some ⟨c, 0, none⟩)] 213 :: Own 171 1 wc ((kp ks).length + 1) (flatOf vcf ((kp ks).take (i + 1) ++ (.pointer (some ⟨p2, 0, none⟩)) :: (kp ks).drop (i + 1))) :: _)
  refine WP.nx ?_
  refine WPc.sr ?_
  refine WP.val rfl rfl rfl (Val.assign rfl rfl) ?_
  refine WP.nx ?_
  refine WPc.ret ?_
  refine Out.perm pl8 ?_
  refine Out.perm pl6 ?_
  refine Out.conv (fun w h => h.kConsMk) ?_
  refine Out.perm pl5 ?_
  refine Out.conv (fun w h => h.kConsMk) ?_
  refine Out.conv (fun w h => Sat.kPerm perm_two h) ?_
  have hsp : spl t i (M / 2) tk = Tr.nd (t.is.take i ++ y :: t.is.drop i) (t.ks.take i ++ (Tr.nd (tk.is.take (M / 2)) (tk.ks.take (M / 2 + 1))) :: (Tr.nd (tk.is.drop (M / 2 + 1)) (tk.ks.drop (M / 2 + 1))) :: t.ks.drop (i + 1)) := by unfold spl; rw [getD_at hy]
  have hms : mspl M t i = (spl t i (M / 2) tk, true) := by unfold mspl; rw [htk]; dsimp only; rw [if_neg (by omega)]
  refine Out.perm pl2 ?_
  refine Out.c1 (B := Own 171 1 wc ((ks.take i ++ (pk, (Tr.nd (tk.is.take (M / 2)) (tk.ks.take (M / 2 + 1)))) :: (p2, (Tr.nd (tk.is.drop (M / 2 + 1)) (tk.ks.drop (M / 2 + 1)))) :: ks.drop (i + 1)).length) (flatOf vcf (kp (ks.take i ++ (pk, (Tr.nd (tk.is.take (M / 2)) (tk.ks.take (M / 2 + 1)))) :: (p2, (Tr.nd (tk.is.drop (M / 2 + 1)) (tk.ks.drop (M / 2 + 1)))) :: ks.drop (i + 1))))) (fun w h => by have e1 : (kp ks).length + 1 = (ks.take i ++ (pk, (Tr.nd (tk.is.take (M / 2)) (tk.ks.take (M / 2 + 1)))) :: (p2, (Tr.nd (tk.is.drop (M / 2 + 1)) (tk.ks.drop (M / 2 + 1)))) :: ks.drop (i + 1)).length := (by rw [← kp_len (ks.take i ++ (pk, (Tr.nd (tk.is.take (M / 2)) (tk.ks.take (M / 2 + 1)))) :: (p2, (Tr.nd (tk.is.drop (M / 2 + 1)) (tk.ks.drop (M / 2 + 1)))) :: ks.drop (i + 1)), ← kp_two hx, List.length_append, List.length_take, List.length_cons, List.length_drop, kp_len]; omega); rw [← e1, ← kp_two hx]; exact h) ?_
  refine Out.perm pl3 ?_
  refine Out.c1 (B := Own 55 2 wi ((t.is.take i ++ y :: t.is.drop i).length) (flatOf El.cells (t.is.take i ++ y :: t.is.drop i))) (fun w h => by rw [List.length_append, List.length_take, List.length_cons, List.length_drop, show min i t.is.length + (t.is.length - i + 1) = t.is.length + 1 by omega]; exact h) ?_
  iterate 3 (refine Out.perm pl2 ?_)
  refine Out.perm pl3 ?_
  refine Out.conv (fun w h => Sat.ndMk (c := c) (h := (ht + 1)) (t := (Tr.nd (t.is.take i ++ y :: t.is.drop i) (t.ks.take i ++ (Tr.nd (tk.is.take (M / 2)) (tk.ks.take (M / 2 + 1))) :: (Tr.nd (tk.is.drop (M / 2 + 1)) (tk.ks.drop (M / 2 + 1))) :: t.ks.drop (i + 1)))) (ks := (ks.take i ++ (pk, (Tr.nd (tk.is.take (M / 2)) (tk.ks.take (M / 2 + 1)))) :: (p2, (Tr.nd (tk.is.drop (M / 2 + 1)) (tk.ks.drop (M / 2 + 1)))) :: ks.drop (i + 1))) (snd_two hk) (fun h0 => by cases h0) h) ?_
  show Out _ _ _ _ _ (Nd c (ht + 1) (p, (Tr.nd (t.is.take i ++ y :: t.is.drop i) (t.ks.take i ++ (Tr.nd (tk.is.take (M / 2)) (tk.ks.take (M / 2 + 1))) :: (Tr.nd (tk.is.drop (M / 2 + 1)) (tk.ks.drop (M / 2 + 1))) :: t.ks.drop (i + 1)))) :: _)
  refine Out.perm pl1 ?_
  refine Out.drop ?_
  exact Out.ret1 (L' := _) Try.results126 rfl ⟨by rw [hms], by rw [hms, hsp]⟩ (fun _ h => h)

end Go.Proofs.Ythmkdioafjmclaa.Bt6
