import Derived.Test.YthmkdioafjmclaaSlTerse
import Derived.Test.YthmkdioafjmclaaBt6
namespace Go.Proofs.Ythmkdioafjmclaa.Bt7
open Go.RowKit Go.Proofs.Ythmkdioafjmclaa Go.Proofs.Ythmkdioafjmclaa.Sl Go.Proofs.Ythmkdioafjmclaa.Bt Go.Proofs.Ythmkdioafjmclaa.Bt2 Go.Proofs.Ythmkdioafjmclaa.Bt3 Go.Proofs.Ythmkdioafjmclaa.Bt4 Go.Proofs.Ythmkdioafjmclaa.Bt5 Go.Proofs.Ythmkdioafjmclaa.Bt6
set_option linter.unusedVariables false
set_option linter.unusedSimpArgs false
set_option linter.unusedSectionVars false


def Bal (m M : Nat) : Nat → Tr → Prop
 | 0, t => t.ks = [] ∧ t.is.length ≤ M
 | h + 1, t => t.ks.length = t.is.length + 1 ∧ t.is.length ≤ M ∧ ∀ k ∈ t.ks, m ≤ k.is.length ∧ Bal m M h k
theorem Bal.le {m M : Nat} : ∀ {h : Nat} {t : Tr}, Bal m M h t → t.is.length ≤ M ∧ t.ks.length ≤ M + 1 ∧ (0 < t.ks.length → t.ks.length = t.is.length + 1)
 | 0, t, hb => ⟨hb.2, by rw [hb.1]; simp, fun h => by rw [hb.1] at h; simp at h⟩
 | _ + 1, t, hb => ⟨hb.2.1, by rw [hb.1]; have := hb.2.1; omega, fun _ => hb.1⟩
theorem split_bal {m M : Nat} (hM : M = 2 * m + 1) : ∀ {h : Nat} {t : Tr}, Bal m M h t → M ≤ t.is.length → Bal m M h (.nd (t.is.take m) (t.ks.take (m + 1))) ∧ Bal m M h (.nd (t.is.drop (m + 1)) (t.ks.drop (m + 1))) ∧ (t.is.take m).length = m ∧ (t.is.drop (m + 1)).length = m
 | 0, t, hb, hl => by
  obtain ⟨h1, h2⟩ := hb
  refine ⟨⟨by show t.ks.take _ = []; rw [h1]; simp, ?_⟩, ⟨by show t.ks.drop _ = []; rw [h1]; simp, ?_⟩, ?_, ?_⟩
  ·
   show (t.is.take m).length ≤ M; rw [List.length_take]; omega
  ·
   show (t.is.drop (m + 1)).length ≤ M; rw [List.length_drop]; omega
  ·
   rw [List.length_take]; omega
  ·
   rw [List.length_drop]; omega
 | h + 1, t, hb, hl => by
  obtain ⟨h1, h2, h3⟩ := hb
  refine ⟨⟨?_, ?_, fun k hk => h3 k (List.mem_of_mem_take hk)⟩, ⟨?_, ?_, fun k hk => h3 k (List.mem_of_mem_drop hk)⟩, ?_, ?_⟩
  ·
   show (t.ks.take (m + 1)).length = (t.is.take m).length + 1; rw [List.length_take, List.length_take]; omega
  ·
   show (t.is.take m).length ≤ M; rw [List.length_take]; omega
  ·
   show (t.ks.drop (m + 1)).length = (t.is.drop (m + 1)).length + 1; rw [List.length_drop, List.length_drop]; omega
  ·
   show (t.is.drop (m + 1)).length ≤ M; rw [List.length_drop]; omega
  ·
   rw [List.length_take]; omega
  ·
   rw [List.length_drop]; omega
/-- the node to go on with, behind a split -/
structure Fits (m M h : Nat) (t1 : Tr) (j : Nat) (tk : Tr) : Prop where
 at_ : t1.ks[j]? = some tk
 lt : tk.is.length < M
 bal : Bal m M h tk
theorem mspl_false {m M h i : Nat} {t t1 : Tr} (hb : Bal m M (h + 1) t) (hi : i ≤ t.is.length) (e : mspl M t i = (t1, false)) : t1 = t ∧ ∃ tk, Fits m M h t1 i tk := by
 have hlt : i < t.ks.length := by rw [hb.1]; omega
 have hx : t.ks[i]? = some t.ks[i] := List.getElem?_eq_getElem hlt
 unfold mspl at e
 rw [hx] at e
 dsimp only at e
 split at e
 ·
  rename_i h1
  obtain ⟨rfl, -⟩ := Prod.mk.inj e
  exact ⟨rfl, _, hx, h1, (hb.2.2 _ (List.getElem_mem hlt)).2⟩
 ·
  cases (Prod.mk.inj e).2
theorem mspl_true {m M h i : Nat} {t t1 : Tr} (hM : M = 2 * m + 1) (hb : Bal m M (h + 1) t) (hlt : t.is.length < M) (hi : i ≤ t.is.length) (e : mspl M t i = (t1, true)) : Bal m M (h + 1) t1 ∧ t1.is.length = t.is.length + 1 ∧ (∃ tk, Fits m M h t1 i tk) ∧ ∃ tk, Fits m M h t1 (i + 1) tk := by
 have hk : i < t.ks.length := by rw [hb.1]; omega
 have hx : t.ks[i]? = some t.ks[i] := List.getElem?_eq_getElem hk
 unfold mspl at e
 rw [hx] at e
 dsimp only at e
 split at e
 ·
  cases (Prod.mk.inj e).2
 ·
  rename_i h1
  obtain ⟨rfl, -⟩ := Prod.mk.inj e
  have hb1 := (hb.2.2 _ (List.getElem_mem hk))
  have hd : M / 2 = m := by omega
  obtain ⟨b1, b2, l1, l2⟩ := split_bal hM hb1.2 (by omega)
  have hlt2 : (t.ks.take i).length = i := by rw [List.length_take]; omega
  have hln : (spl t i (M / 2) t.ks[i]).is.length = t.is.length + 1 := by
   show (t.is.take i ++ _ :: t.is.drop i).length = _
   rw [List.length_append, List.length_take, List.length_cons, List.length_drop]; omega
  rw [hd] at hln ⊢
  refine ⟨⟨?_, by rw [hln]; omega, ?_⟩, hln, ⟨.nd (t.ks[i].is.take m) (t.ks[i].ks.take (m + 1)), ?_, by show (t.ks[i].is.take m).length < M; omega, b1⟩, .nd (t.ks[i].is.drop (m + 1)) (t.ks[i].ks.drop (m + 1)), ?_, by show (t.ks[i].is.drop (m + 1)).length < M; omega, b2⟩
  ·
   rw [hln]
   show (t.ks.take i ++ _ :: _ :: t.ks.drop (i + 1)).length = _
   rw [List.length_append, List.length_cons, List.length_cons, List.length_drop, hlt2, hb.1]; omega
  ·
   intro k hk
   have hk : k ∈ t.ks.take i ++ .nd (t.ks[i].is.take m) (t.ks[i].ks.take (m + 1)) :: .nd (t.ks[i].is.drop (m + 1)) (t.ks[i].ks.drop (m + 1)) :: t.ks.drop (i + 1) := hk
   rw [List.mem_append, List.mem_cons, List.mem_cons] at hk
   rcases hk with hk | rfl | rfl | hk
   ·
    exact hb.2.2 k (List.mem_of_mem_take hk)
   ·
    exact ⟨by show m ≤ (t.ks[i].is.take m).length; omega, b1⟩
   ·
    exact ⟨by show m ≤ (t.ks[i].is.drop (m + 1)).length; omega, b2⟩
   ·
    exact hb.2.2 k (List.mem_of_mem_drop hk)
  ·
   show (t.ks.take i ++ _ :: _ :: t.ks.drop (i + 1))[i]? = _
   rw [List.getElem?_append_right (by omega), hlt2]; simp
  ·
   show (t.ks.take i ++ _ :: _ :: t.ks.drop (i + 1))[i + 1]? = _
   rw [List.getElem?_append_right (by omega), hlt2]; simp
/-- what insert does -/
def ins (M : Nat) : Nat → Tr → El → Tr × Option El
 | 0, t, x => if (findI t.is x).2 then (.nd (t.is.set (findI t.is x).1 x) t.ks, some (t.is.getD (findI t.is x).1 El0)) else (.nd (t.is.take (findI t.is x).1 ++ x :: t.is.drop (findI t.is x).1) t.ks, none)
 | h + 1, t, x => if (findI t.is x).2 then (.nd (t.is.set (findI t.is x).1 x) t.ks, some (t.is.getD (findI t.is x).1 El0)) else
  let i := (findI t.is x).1
  let t1 := (mspl M t i).1
  let y := t1.is.getD i El0
  if (mspl M t i).2 = true ∧ ¬ x.k < y.k ∧ ¬ y.k < x.k then (.nd (t1.is.set i x) t1.ks, some y) else
  let j := if (mspl M t i).2 = true ∧ ¬ x.k < y.k then i + 1 else i
  (.nd t1.is (t1.ks.set j (ins M h (t1.ks.getD j (.nd [] [])) x).1), (ins M h (t1.ks.getD j (.nd [] [])) x).2)
theorem ins_found {M h : Nat} {t : Tr} {x y : El} {i : Nat} (h1 : (findI t.is x).1 = i) (h2 : (findI t.is x).2 = true) (hy : t.is[i]? = some y) : ins M h t x = (.nd (t.is.set i x) t.ks, some y) := by
 cases h <;> simp only [ins, h1, h2, if_true, getD_at hy]
theorem ins_leaf {M : Nat} {t : Tr} {x : El} {i : Nat} (h1 : (findI t.is x).1 = i) (h2 : (findI t.is x).2 = false) : ins M 0 t x = (.nd (t.is.take i ++ x :: t.is.drop i) t.ks, none) := by
 simp only [ins, h1, h2, Bool.false_eq_true, if_false]
theorem ins_eq {M h : Nat} {t t1 : Tr} {x y : El} {i : Nat} (h1 : (findI t.is x).1 = i) (h2 : (findI t.is x).2 = false) (h3 : mspl M t i = (t1, true)) (hy : t1.is[i]? = some y) (h4 : ¬ x.k < y.k) (h5 : ¬ y.k < x.k) : ins M (h + 1) t x = (.nd (t1.is.set i x) t1.ks, some y) := by
 simp only [ins, h1, h2, h3, Bool.false_eq_true, if_false, getD_at hy]
 rw [if_pos ⟨trivial, h4, h5⟩]
theorem ins_go {M h : Nat} {t t1 tk : Tr} {x : El} {i j : Nat} {sp : Bool} (h1 : (findI t.is x).1 = i) (h2 : (findI t.is x).2 = false) (h3 : mspl M t i = (t1, sp)) (hk : t1.ks[j]? = some tk)
  (h4 : (sp = false ∧ j = i) ∨ ∃ y, t1.is[i]? = some y ∧ sp = true ∧ (x.k < y.k ∧ j = i ∨ ¬ x.k < y.k ∧ y.k < x.k ∧ j = i + 1)) : ins M (h + 1) t x = (.nd t1.is (t1.ks.set j (ins M h tk x).1), (ins M h tk x).2) := by
 have hd : t1.ks.getD j (.nd [] []) = tk := by rw [List.getD_eq_getElem?_getD, hk]; rfl
 simp only [ins, h1, h2, h3, Bool.false_eq_true, if_false]
 rcases h4 with ⟨rfl, rfl⟩ | ⟨y, hy, rfl, ⟨h5, rfl⟩ | ⟨h5, h6, rfl⟩⟩
 ·
  rw [if_neg (by simp), if_neg (by simp), hd]
 ·
  rw [getD_at hy, if_neg (by simp [h5]), if_neg (by simp [h5]), hd]
 ·
  rw [getD_at hy, if_neg (by simp [h6]), if_pos ⟨rfl, h5⟩, hd]
def opv (o : Option El) : Value := .tuple #[.agg #[.int .i64 (o.getD El0).k, .int .i64 (o.getD El0).v], .bool o.isSome]
/-- what a row of one's own reads as -/
theorem own_rdB {W w : World} {L : List HProp} {v : Value} {is : List El} (h : Sat W (Own 55 2 v is.length (flatOf El.cells is) :: L) w) : ∃ B : HProp, Sat W (Pure (Rd B 2 El.cells v is ∧ ∀ r s hh, B.p r s hh → (Own 55 2 v is.length (flatOf El.cells is)).p r s hh) :: B :: L) w := by
 rcases h.own with ⟨rfl, e0, e1, h2⟩ | ⟨b, cap, sp, rfl, q1, q2, q3, q4, q5⟩
 ·
  exact ⟨_, Sat.pure_mk ⟨.inr ⟨List.eq_nil_of_length_eq_zero e0, none, 0, rfl⟩, fun _ _ _ h => h⟩ h⟩
 ·
  refine ⟨Blk b (flatOf El.cells is ++ sp) 55, Sat.pure_mk ⟨.inl ⟨b, 0, cap, rfl, fun w hw i x hx => ?_⟩, fun r s hh hB => ⟨some (b, cap, sp), fun _ => False, s, fun _ h => h.elim, fun _ h => h, fun _ h => h.elim, ⟨rfl, q1, q2, q3, q4⟩, s, fun _ => False, fun _ h => h, fun _ h => h.elim, fun _ _ h => h, hB, trivial⟩⟩ q5⟩
  rw [Nat.zero_add]
  exact hw.cell_range (flatOf_range El.len hx)
set_option maxRecDepth 100000 in
set_option maxHeartbeats 2000000 in
theorem insert_leaf (c f m M : Nat) (hM : M = 2 * m + 1) (hM2 : M ≤ 1000) (x : El) (p : Nat) (t : Tr) (hbal : Bal m M 0 t) (hlt : t.is.length < M) : Does Try.prog 103 [.pointer (some ⟨p, 0, none⟩), .agg #[.int .i64 (x.k), .int .i64 (x.v)], .int .i64 (((M : Nat) : Int))] [Nd c 0 (p, t), Blk c [.pointer (some ⟨f, 0, none⟩), .func (.func 53) #[] #[]] 170, FL f] (fun v L => v = opv (ins M 0 t x).2 ∧ L = [Nd c 0 (p, (ins M 0 t x).1), Blk c [.pointer (some ⟨f, 0, none⟩), .func (.func 53) #[] #[]] 170, FL f]) := by
 refine Does.enter 115 Try.func103 rfl rfl rfl fun W F => ?_
 show WPc _ _ _ _ _ [(0, .pointer (some ⟨p, 0, none⟩)), (1, .agg #[.int .i64 (x.k), .int .i64 (x.v)]), (2, .int .i64 (((M : Nat) : Int)))] (Nd c 0 (p, t) :: Blk c [.pointer (some ⟨f, 0, none⟩), .func (.func 53) #[] #[]] 170 :: FL f :: F)
 refine WPc.sr ?_
 refine WP.eff rfl rfl rfl (Eff.box (C := [.int .i64 (x.k), .int .i64 (x.v)]) rfl rfl rfl) ?_
 rintro _ _ ⟨b1, rfl, rfl⟩
 refine WP.eff rfl rfl rfl (Eff.alloc rfl Ty.z55) ?_
 rintro _ _ ⟨b2, rfl, rfl⟩
 refine WP.val rfl rfl rfl (Val.assign rfl rfl) ?_
 refine WP.nx ?_
 refine WPc.seq ?_
 refine WPc.perm pl2 ?_
 refine WPc.open (fun w h => h.ndOpen) ?_
 rintro ⟨vi, vc, ks⟩
 refine WPc.pure (fun hk => ?_)
 obtain ⟨hk, hl⟩ := hk
 dsimp only at hk hl
 have hkl := ks_len hk
 show WPc _ _ _ _ _ _ (Blk p [vi, vc, .pointer (some ⟨c, 0, none⟩)] 213 :: Own 55 2 vi t.is.length (flatOf El.cells t.is) :: Own 171 1 vc ks.length (flatOf vcf (kp ks)) :: Kds (Rk c 0) ks :: Blk b2 [.int .i64 0, .int .i64 0] 55 :: Blk b1 [.int .i64 (x.k), .int .i64 (x.v)] 55 :: _)
 have hle := hbal.le
 have hfl := findI_le t.is x
 refine WPc.perm pl1 ?_
 refine WPc.open (fun w h => own_rdB h) ?_
 rintro B
 refine WPc.pure (fun hB => ?_)
 show WPc _ _ _ _ _ _ (B :: _)
 refine WPD.s0 Ty.mixed ?_
 refine WPD.tM 0 rfl rfl rfl rfl (Val.move rfl rfl) ?_
 refine WPD.tM 1 rfl rfl rfl rfl (Val.nilCheck rfl rfl) ?_
 refine WPD.tM 2 rfl rfl rfl rfl (Val.fieldAddr (j := 0) rfl Ty.fo213_0 rfl rfl) ?_
 refine WPD.tL 3 rfl rfl rfl rfl (fun _ h => h) (Val.load rfl Ty.sc210 rfl (fun w h => h.cell 1 rfl rfl)) ?_
 refine WPD.tL 4 rfl rfl rfl rfl (fun _ h => h) (Val.loadAgg (cs := [.int .i64 (x.k), .int .i64 (x.v)]) rfl Ty.ag55 rfl rfl (fun w h => h.range 5 rfl rfl)) ?_
 refine WPD.tM 5 rfl rfl rfl rfl (Val.move rfl rfl) ?_
 refine WPD.tM 6 rfl rfl rfl rfl (Val.nilCheck rfl rfl) ?_
 refine WPD.tM 7 rfl rfl rfl rfl (Val.fieldAddr (j := 2) rfl Ty.fo213_2 rfl rfl) ?_
 refine WPD.tL 8 rfl rfl rfl rfl (fun _ h => h) (Val.load rfl Ty.sc172 rfl (fun w h => h.cell 1 rfl rfl)) ?_
 refine WPD.tM 9 rfl rfl rfl rfl (Val.nilCheck rfl rfl) ?_
 refine WPD.tM 10 rfl rfl rfl rfl (Val.fieldAddr (j := 1) rfl Ty.fo170_1 rfl rfl) ?_
 refine WPD.tL 11 rfl rfl rfl rfl (fun _ h => h) (Val.load rfl Ty.sc165 rfl (fun w h => h.cell 6 rfl rfl)) ?_
 refine WPD.stepC 12 (by kernel_rfl) rfl rfl rfl rfl (by kernel_rfl) (Eff.call rfl rfl Try.call124 (find_spec B x t.is (by omega) vi hB.1)) ?_
 rintro _ _ ⟨_, ⟨rfl, rfl⟩, rfl⟩
 refine ⟨_, (fun _ h => h), ?_⟩
 refine WPD.tM 13 rfl rfl rfl rfl (Val.move rfl rfl) ?_
 refine WPD.tM 14 rfl rfl rfl rfl (Val.extract rfl rfl rfl) ?_
 refine WPD.tM 15 rfl rfl rfl rfl (Val.extract rfl rfl rfl) ?_
 refine WPD.tM 16 rfl rfl rfl rfl (Val.assign rfl rfl) ?_
 refine WPD.tM 17 rfl rfl rfl rfl (Val.assign rfl rfl) ?_
 refine WPD.done (by kernel_rfl) ?_
 refine Out.next ?_
 refine WPc.seq ?_
 refine WPc.seq ?_
 refine WPc.conv (fun w h => h.imp hB.2) ?_
 show WPc _ _ _ _ _ _ (Own 55 2 vi t.is.length (flatOf El.cells t.is) :: _)
 generalize hfi : (findI t.is x).1 = i
 generalize hfd : (findI t.is x).2 = fd
 rw [hfi, hfd] at hfl
 refine WPc.region ?_
 refine WP.val rfl rfl rfl (Val.move rfl rfl) ?_
 refine WP.nx ?_
 refine WPc.cond rfl (fun h1 => ?_) (fun h1 => ?_)
 ·
  have h1 : (fd) = true := h1
  refine WPc.seq ?_
  have hfd1 : fd = true := by assumption
  have hit := hfl.2 hfd1
  refine WPc.open (fun w h => h.ownPos (by omega)) ?_
  rintro ⟨g3, cg3, spg3⟩
  refine WPc.pure (fun hvg3 => ?_)
  obtain ⟨rfl, hng3, hlg3, hsg3, hcg3⟩ := hvg3
  dsimp only at hng3 hlg3 hsg3 hcg3
  show WPc _ _ _ _ _ _ (Blk g3 (flatOf El.cells t.is ++ spg3) 55 :: Blk p [.slice (some ⟨g3, 0, none⟩) t.is.length cg3, vc, .pointer (some ⟨c, 0, none⟩)] 213 :: _)
  obtain ⟨y, hy⟩ : ∃ y, t.is[i]? = some y := ⟨_, List.getElem?_eq_getElem (by omega)⟩
  refine WPc.region ?_
  refine WP.val rfl rfl rfl (Val.move rfl rfl) ?_
  refine WP.val rfl rfl rfl (Val.nilCheck rfl rfl) ?_
  refine WP.val rfl rfl rfl (Val.fieldAddr (j := 0) rfl Ty.fo213_0 rfl rfl) ?_
  refine WP.val rfl rfl rfl (Val.load rfl Ty.sc210 rfl (fun w h => h.cell 1 rfl rfl)) ?_
  refine WP.val rfl rfl rfl (Val.move rfl rfl) ?_
  refine WP.val rfl rfl rfl (Val.indexAddr (j := i) (q := i * 2) rfl Ty.sl210 rfl rfl (by omega) (by omega) (by omega)) ?_
  refine WP.val rfl rfl rfl (Val.loadAgg (cs := [.int .i64 (y.k), .int .i64 (y.v)]) rfl Ty.ag55 rfl (by rfl) (fun w h => (h.at 0 rfl).cell_range (flatOf_range El.len hy))) ?_
  refine WP.eff rfl rfl rfl (Eff.alloc rfl Ty.z55) ?_
  rintro _ _ ⟨b4, rfl, rfl⟩
  refine WP.eff0 rfl rfl (Eff.storeAgg (cs := [.int .i64 (y.k), .int .i64 (y.v)]) (C' := [.int .i64 (y.k), .int .i64 (y.v)]) rfl Ty.ag55 rfl rfl rfl rfl (by simp) rfl) ?_
  rintro _ _ rfl
  refine WP.nx ?_
  refine WPc.seq ?_
  refine WPD.s0 Ty.mixed ?_
  refine WPD.tM 0 rfl rfl rfl rfl (Val.move rfl rfl) ?_
  refine WPD.tM 1 rfl rfl rfl rfl (Val.nilCheck rfl rfl) ?_
  refine WPD.tM 2 rfl rfl rfl rfl (Val.fieldAddr (j := 0) rfl Ty.fo213_0 rfl rfl) ?_
  refine WPD.tL 3 rfl rfl rfl rfl (fun _ h => h) (Val.load rfl Ty.sc210 rfl (fun w h => h.cell 2 rfl rfl)) ?_
  refine WPD.tM 4 rfl rfl rfl rfl (Val.move rfl rfl) ?_
  refine WPD.tL 5 rfl rfl rfl rfl (fun _ h => h) (Val.loadAgg (cs := [.int .i64 (x.k), .int .i64 (x.v)]) rfl Ty.ag55 rfl rfl (fun w h => h.range 6 rfl rfl)) ?_
  refine WPD.tM 6 rfl rfl rfl rfl (Val.indexAddr (j := i) (q := i * 2) rfl Ty.sl210 rfl rfl (by omega) (by omega) (by omega)) ?_
  refine WPD.perm pl1 ?_
  refine WPD.stepC0 7 (by kernel_rfl) rfl rfl rfl (by kernel_rfl) (Eff.storeAgg (cs := [.int .i64 (x.k), .int .i64 (x.v)]) (C' := flatOf El.cells (t.is.set i x) ++ spg3) rfl Ty.ag55 rfl rfl rfl rfl (by rw [List.length_append, flatOf_length El.len]; omega) (flat_set El.len t.is i x spg3 (by omega))) ?_
  rintro _ _ rfl
  refine ⟨_, (fun _ h => h), ?_⟩
  refine WPD.done (by kernel_rfl) ?_
  refine Out.next ?_
  refine WPc.sr ?_
  refine WP.val rfl rfl rfl (Val.loadAgg (cs := [.int .i64 (y.k), .int .i64 (y.v)]) rfl Ty.ag55 rfl rfl (fun w h => h.range 1 rfl rfl)) ?_
  refine WP.perm pl5 ?_
  refine WP.eff0 rfl rfl (Eff.storeAgg (cs := [.int .i64 (y.k), .int .i64 (y.v)]) (C' := [.int .i64 (y.k), .int .i64 (y.v)]) rfl Ty.ag55 rfl rfl rfl rfl (by simp) rfl) ?_
  rintro _ _ rfl
  refine WP.val rfl rfl rfl (Val.assign rfl rfl) ?_
  refine WP.nx ?_
  refine WPc.ret ?_
  refine Out.then_ret ?_
  refine Out.perm pl1 ?_
  refine Out.conv (fun w h => Sat.ownMk (e := 55) (k := 2) (b := g3) (m := t.is.length) (cap := cg3) (xs := flatOf El.cells (t.is.set i x)) (sp := spg3) (by exact h) hng3 (by rw [flatOf_length El.len, List.length_set]) hsg3 hcg3) ?_
  refine Out.c1 (B := Own 55 2 (.slice (some ⟨g3, 0, none⟩) t.is.length cg3) ((t.is.set i x).length) (flatOf El.cells (t.is.set i x))) (fun w h => by rw [List.length_set]; exact h) ?_
  refine Out.perm pl5 ?_
  refine Out.perm pl5 ?_
  refine Out.perm pl2 ?_
  refine Out.perm pl5 ?_
  refine Out.conv (fun w h => Sat.ndMk (c := c) (h := 0) (t := (Tr.nd (t.is.set i x) t.ks)) (ks := ks) hk hl h) ?_
  show Out _ _ _ _ _ (Nd c 0 (p, (Tr.nd (t.is.set i x) t.ks)) :: Blk b2 [.int .i64 (y.k), .int .i64 (y.v)] 55 :: Blk b4 [.int .i64 (y.k), .int .i64 (y.v)] 55 :: _)
  have hins : ins M 0 t x = _ := ins_found hfi (by rw [hfd]; assumption) hy
  refine Out.perm pl2 ?_
  refine Out.drop ?_
  refine Out.perm pl2 ?_
  refine Out.drop ?_
  refine Out.perm pl3 ?_
  refine Out.perm pl3 ?_
  refine Out.perm pl2 ?_
  refine Out.perm pl3 ?_
  exact Out.retRun (L' := _) (results_ct Try.results103 rfl Ty.ag55 rfl rfl (fun w h => h.range 0 rfl rfl)) ⟨by rw [hins]; rfl, by rw [hins]⟩ (fun w h => h.drop)
 ·
  have h1 : (fd) = false := h1
  refine WPc.skip ?_
  refine Out.next ?_
  refine WPc.seq ?_
  refine WPc.sr ?_
  refine WP.val rfl rfl rfl (Val.move rfl rfl) ?_
  refine WP.val rfl rfl rfl (Val.nilCheck rfl rfl) ?_
  refine WP.val rfl rfl rfl (Val.fieldAddr (j := 1) rfl Ty.fo213_1 rfl rfl) ?_
  refine WP.val rfl rfl rfl (Val.load rfl Ty.sc211 rfl (fun w h => h.cell 1 rfl rfl)) ?_
  refine WP.val rfl rfl rfl (Val.lenOwn rfl Ty.sl211 rfl (fun w h => h.at 2 rfl)) ?_
  refine WP.val rfl rfl rfl (Val.eql rfl rfl rfl) ?_
  refine WP.nx ?_
  refine WPc.ifP rfl (fun h2 => ?_) (fun h2 => ?_)
  ·
   have h2 : (((ks.length : Nat) : Int) = (0 : Int)) := h2
   refine WPc.seq ?_
   refine WPD.s0 Ty.mixed ?_
   refine WPD.tM 0 rfl rfl rfl rfl (Val.move rfl rfl) ?_
   refine WPD.tM 1 rfl rfl rfl rfl (Val.nilCheck rfl rfl) ?_
   refine WPD.tM 2 rfl rfl rfl rfl (Val.fieldAddr (j := 0) rfl Ty.fo213_0 rfl rfl) ?_
   refine WPD.tM 3 rfl rfl rfl rfl (Val.move rfl rfl) ?_
   refine WPD.tL 4 rfl rfl rfl rfl (fun _ h => h) (Val.loadAgg (cs := [.int .i64 (x.k), .int .i64 (x.v)]) rfl Ty.ag55 rfl rfl (fun w h => h.range 5 rfl rfl)) ?_
   refine WPD.perm pl1 ?_
   refine WPD.stepC 5 (by kernel_rfl) rfl rfl rfl rfl (by kernel_rfl) (Eff.call rfl rfl Try.call125 (insatE p vi vc (.pointer (some ⟨c, 0, none⟩)) t.is x  i (by omega) (by omega))) ?_
   rintro _ _ ⟨_, ⟨wi, hwi, rfl⟩, rfl⟩
   refine ⟨_, (fun _ h => h), ?_⟩
   show WPD _ _ _ _ _ _ _ _ _ (Blk p [wi, vc, .pointer (some ⟨c, 0, none⟩)] 213 :: Own 55 2 wi ((t.is).length + 1) (flatOf El.cells ((t.is).take i ++ x :: (t.is).drop i)) :: _)
   refine WPD.done (by kernel_rfl) ?_
   refine Out.next ?_
   refine WPc.ret ?_
   refine Out.then_ret ?_
   refine Out.perm pl1 ?_
   refine Out.c1 (B := Own 55 2 wi ((t.is.take i ++ x :: t.is.drop i).length) (flatOf El.cells (t.is.take i ++ x :: t.is.drop i))) (fun w h => by rw [List.length_append, List.length_take, List.length_cons, List.length_drop, show min i t.is.length + (t.is.length - i + 1) = t.is.length + 1 by omega]; exact h) ?_
   refine Out.perm pl3 ?_
   refine Out.perm pl3 ?_
   refine Out.perm pl2 ?_
   refine Out.perm pl3 ?_
   refine Out.conv (fun w h => Sat.ndMk (c := c) (h := 0) (t := (Tr.nd (t.is.take i ++ x :: t.is.drop i) t.ks)) (ks := ks) hk hl h) ?_
   show Out _ _ _ _ _ (Nd c 0 (p, (Tr.nd (t.is.take i ++ x :: t.is.drop i) t.ks)) :: _)
   have hins := ins_leaf (M := M) hfi (by rw [hfd]; assumption)
   refine Out.perm pl2 ?_
   refine Out.drop ?_
   refine Out.perm pl3 ?_
   refine Out.perm pl3 ?_
   refine Out.perm pl2 ?_
   refine Out.perm pl3 ?_
   exact Out.retRun (L' := _) (results_ct Try.results103 rfl Ty.ag55 rfl rfl (fun w h => h.range 0 rfl rfl)) ⟨by rw [hins]; rfl, by rw [hins]⟩ (fun w h => h.drop)
  ·
   have h2 : ¬ (((ks.length : Nat) : Int) = (0 : Int)) := h2
   exfalso; have h0 := hl rfl; have h00 : ks.length = 0 := (by rw [h0]; rfl); omega
set_option maxRecDepth 100000 in
set_option maxHeartbeats 2000000 in
theorem insert_step (c f m M : Nat) (hM : M = 2 * m + 1) (hM2 : M ≤ 1000) (x : El) (ht : Nat) (ih : ∀ (p : Nat) (t : Tr), Bal m M ht t → t.is.length < M → Does Try.prog 103 [.pointer (some ⟨p, 0, none⟩), .agg #[.int .i64 x.k, .int .i64 x.v], .int .i64 ((M : Nat) : Int)] [Nd c ht (p, t), Blk c [.pointer (some ⟨f, 0, none⟩), .func (.func 53) #[] #[]] 170, FL f] (fun v L => v = opv (ins M ht t x).2 ∧ L = [Nd c ht (p, (ins M ht t x).1), Blk c [.pointer (some ⟨f, 0, none⟩), .func (.func 53) #[] #[]] 170, FL f])) (p : Nat) (t : Tr) (hbal : Bal m M (ht + 1) t) (hlt : t.is.length < M) : Does Try.prog 103 [.pointer (some ⟨p, 0, none⟩), .agg #[.int .i64 (x.k), .int .i64 (x.v)], .int .i64 (((M : Nat) : Int))] [Nd c (ht + 1) (p, t), Blk c [.pointer (some ⟨f, 0, none⟩), .func (.func 53) #[] #[]] 170, FL f] (fun v L => v = opv (ins M (ht + 1) t x).2 ∧ L = [Nd c (ht + 1) (p, (ins M (ht + 1) t x).1), Blk c [.pointer (some ⟨f, 0, none⟩), .func (.func 53) #[] #[]] 170, FL f]) := by
 refine Does.enter 115 Try.func103 rfl rfl rfl fun W F => ?_
 show WPc _ _ _ _ _ [(0, .pointer (some ⟨p, 0, none⟩)), (1, .agg #[.int .i64 (x.k), .int .i64 (x.v)]), (2, .int .i64 (((M : Nat) : Int)))] (Nd c (ht + 1) (p, t) :: Blk c [.pointer (some ⟨f, 0, none⟩), .func (.func 53) #[] #[]] 170 :: FL f :: F)
 refine WPc.sr ?_
 refine WP.eff rfl rfl rfl (Eff.box (C := [.int .i64 (x.k), .int .i64 (x.v)]) rfl rfl rfl) ?_
 rintro _ _ ⟨b1, rfl, rfl⟩
 refine WP.eff rfl rfl rfl (Eff.alloc rfl Ty.z55) ?_
 rintro _ _ ⟨b2, rfl, rfl⟩
 refine WP.val rfl rfl rfl (Val.assign rfl rfl) ?_
 refine WP.nx ?_
 refine WPc.seq ?_
 refine WPc.perm pl2 ?_
 refine WPc.open (fun w h => h.ndOpen) ?_
 rintro ⟨vi, vc, ks⟩
 refine WPc.pure (fun hk => ?_)
 obtain ⟨hk, hl⟩ := hk
 dsimp only at hk hl
 have hkl := ks_len hk
 show WPc _ _ _ _ _ _ (Blk p [vi, vc, .pointer (some ⟨c, 0, none⟩)] 213 :: Own 55 2 vi t.is.length (flatOf El.cells t.is) :: Own 171 1 vc ks.length (flatOf vcf (kp ks)) :: Kds (Rk c (ht + 1)) ks :: Blk b2 [.int .i64 0, .int .i64 0] 55 :: Blk b1 [.int .i64 (x.k), .int .i64 (x.v)] 55 :: _)
 have hle := hbal.le
 have hfl := findI_le t.is x
 refine WPc.perm pl1 ?_
 refine WPc.open (fun w h => own_rdB h) ?_
 rintro B
 refine WPc.pure (fun hB => ?_)
 show WPc _ _ _ _ _ _ (B :: _)
 refine WPD.s0 Ty.mixed ?_
 refine WPD.tM 0 rfl rfl rfl rfl (Val.move rfl rfl) ?_
 refine WPD.tM 1 rfl rfl rfl rfl (Val.nilCheck rfl rfl) ?_
 refine WPD.tM 2 rfl rfl rfl rfl (Val.fieldAddr (j := 0) rfl Ty.fo213_0 rfl rfl) ?_
 refine WPD.tL 3 rfl rfl rfl rfl (fun _ h => h) (Val.load rfl Ty.sc210 rfl (fun w h => h.cell 1 rfl rfl)) ?_
 refine WPD.tL 4 rfl rfl rfl rfl (fun _ h => h) (Val.loadAgg (cs := [.int .i64 (x.k), .int .i64 (x.v)]) rfl Ty.ag55 rfl rfl (fun w h => h.range 5 rfl rfl)) ?_
 refine WPD.tM 5 rfl rfl rfl rfl (Val.move rfl rfl) ?_
 refine WPD.tM 6 rfl rfl rfl rfl (Val.nilCheck rfl rfl) ?_
 refine WPD.tM 7 rfl rfl rfl rfl (Val.fieldAddr (j := 2) rfl Ty.fo213_2 rfl rfl) ?_
 refine WPD.tL 8 rfl rfl rfl rfl (fun _ h => h) (Val.load rfl Ty.sc172 rfl (fun w h => h.cell 1 rfl rfl)) ?_
 refine WPD.tM 9 rfl rfl rfl rfl (Val.nilCheck rfl rfl) ?_
 refine WPD.tM 10 rfl rfl rfl rfl (Val.fieldAddr (j := 1) rfl Ty.fo170_1 rfl rfl) ?_
 refine WPD.tL 11 rfl rfl rfl rfl (fun _ h => h) (Val.load rfl Ty.sc165 rfl (fun w h => h.cell 6 rfl rfl)) ?_
 refine WPD.stepC 12 (by kernel_rfl) rfl rfl rfl rfl (by kernel_rfl) (Eff.call rfl rfl Try.call124 (find_spec B x t.is (by omega) vi hB.1)) ?_
 rintro _ _ ⟨_, ⟨rfl, rfl⟩, rfl⟩
 refine ⟨_, (fun _ h => h), ?_⟩
 refine WPD.tM 13 rfl rfl rfl rfl (Val.move rfl rfl) ?_
 refine WPD.tM 14 rfl rfl rfl rfl (Val.extract rfl rfl rfl) ?_
 refine WPD.tM 15 rfl rfl rfl rfl (Val.extract rfl rfl rfl) ?_
 refine WPD.tM 16 rfl rfl rfl rfl (Val.assign rfl rfl) ?_
 refine WPD.tM 17 rfl rfl rfl rfl (Val.assign rfl rfl) ?_
 refine WPD.done (by kernel_rfl) ?_
 refine Out.next ?_
 refine WPc.seq ?_
 refine WPc.seq ?_
 refine WPc.conv (fun w h => h.imp hB.2) ?_
 show WPc _ _ _ _ _ _ (Own 55 2 vi t.is.length (flatOf El.cells t.is) :: _)
 generalize hfi : (findI t.is x).1 = i
 generalize hfd : (findI t.is x).2 = fd
 rw [hfi, hfd] at hfl
 refine WPc.region ?_
 refine WP.val rfl rfl rfl (Val.move rfl rfl) ?_
 refine WP.nx ?_
 refine WPc.cond rfl (fun h1 => ?_) (fun h1 => ?_)
 ·
  have h1 : (fd) = true := h1
  refine WPc.seq ?_
  have hfd1 : fd = true := by assumption
  have hit := hfl.2 hfd1
  refine WPc.open (fun w h => h.ownPos (by omega)) ?_
  rintro ⟨g3, cg3, spg3⟩
  refine WPc.pure (fun hvg3 => ?_)
  obtain ⟨rfl, hng3, hlg3, hsg3, hcg3⟩ := hvg3
  dsimp only at hng3 hlg3 hsg3 hcg3
  show WPc _ _ _ _ _ _ (Blk g3 (flatOf El.cells t.is ++ spg3) 55 :: Blk p [.slice (some ⟨g3, 0, none⟩) t.is.length cg3, vc, .pointer (some ⟨c, 0, none⟩)] 213 :: _)
  obtain ⟨y, hy⟩ : ∃ y, t.is[i]? = some y := ⟨_, List.getElem?_eq_getElem (by omega)⟩
  refine WPc.region ?_
  refine WP.val rfl rfl rfl (Val.move rfl rfl) ?_
  refine WP.val rfl rfl rfl (Val.nilCheck rfl rfl) ?_
  refine WP.val rfl rfl rfl (Val.fieldAddr (j := 0) rfl Ty.fo213_0 rfl rfl) ?_
  refine WP.val rfl rfl rfl (Val.load rfl Ty.sc210 rfl (fun w h => h.cell 1 rfl rfl)) ?_
  refine WP.val rfl rfl rfl (Val.move rfl rfl) ?_
  refine WP.val rfl rfl rfl (Val.indexAddr (j := i) (q := i * 2) rfl Ty.sl210 rfl rfl (by omega) (by omega) (by omega)) ?_
  refine WP.val rfl rfl rfl (Val.loadAgg (cs := [.int .i64 (y.k), .int .i64 (y.v)]) rfl Ty.ag55 rfl (by rfl) (fun w h => (h.at 0 rfl).cell_range (flatOf_range El.len hy))) ?_
  refine WP.eff rfl rfl rfl (Eff.alloc rfl Ty.z55) ?_
  rintro _ _ ⟨b4, rfl, rfl⟩
  refine WP.eff0 rfl rfl (Eff.storeAgg (cs := [.int .i64 (y.k), .int .i64 (y.v)]) (C' := [.int .i64 (y.k), .int .i64 (y.v)]) rfl Ty.ag55 rfl rfl rfl rfl (by simp) rfl) ?_
  rintro _ _ rfl
  refine WP.nx ?_
  refine WPc.seq ?_
  refine WPD.s0 Ty.mixed ?_
  refine WPD.tM 0 rfl rfl rfl rfl (Val.move rfl rfl) ?_
  refine WPD.tM 1 rfl rfl rfl rfl (Val.nilCheck rfl rfl) ?_
  refine WPD.tM 2 rfl rfl rfl rfl (Val.fieldAddr (j := 0) rfl Ty.fo213_0 rfl rfl) ?_
  refine WPD.tL 3 rfl rfl rfl rfl (fun _ h => h) (Val.load rfl Ty.sc210 rfl (fun w h => h.cell 2 rfl rfl)) ?_
  refine WPD.tM 4 rfl rfl rfl rfl (Val.move rfl rfl) ?_
  refine WPD.tL 5 rfl rfl rfl rfl (fun _ h => h) (Val.loadAgg (cs := [.int .i64 (x.k), .int .i64 (x.v)]) rfl Ty.ag55 rfl rfl (fun w h => h.range 6 rfl rfl)) ?_
  refine WPD.tM 6 rfl rfl rfl rfl (Val.indexAddr (j := i) (q := i * 2) rfl Ty.sl210 rfl rfl (by omega) (by omega) (by omega)) ?_
  refine WPD.perm pl1 ?_
  refine WPD.stepC0 7 (by kernel_rfl) rfl rfl rfl (by kernel_rfl) (Eff.storeAgg (cs := [.int .i64 (x.k), .int .i64 (x.v)]) (C' := flatOf El.cells (t.is.set i x) ++ spg3) rfl Ty.ag55 rfl rfl rfl rfl (by rw [List.length_append, flatOf_length El.len]; omega) (flat_set El.len t.is i x spg3 (by omega))) ?_
  rintro _ _ rfl
  refine ⟨_, (fun _ h => h), ?_⟩
  refine WPD.done (by kernel_rfl) ?_
  refine Out.next ?_
  refine WPc.sr ?_
  refine WP.val rfl rfl rfl (Val.loadAgg (cs := [.int .i64 (y.k), .int .i64 (y.v)]) rfl Ty.ag55 rfl rfl (fun w h => h.range 1 rfl rfl)) ?_
  refine WP.perm pl5 ?_
  refine WP.eff0 rfl rfl (Eff.storeAgg (cs := [.int .i64 (y.k), .int .i64 (y.v)]) (C' := [.int .i64 (y.k), .int .i64 (y.v)]) rfl Ty.ag55 rfl rfl rfl rfl (by simp) rfl) ?_
  rintro _ _ rfl
  refine WP.val rfl rfl rfl (Val.assign rfl rfl) ?_
  refine WP.nx ?_
  refine WPc.ret ?_
  refine Out.then_ret ?_
  refine Out.perm pl1 ?_
  refine Out.conv (fun w h => Sat.ownMk (e := 55) (k := 2) (b := g3) (m := t.is.length) (cap := cg3) (xs := flatOf El.cells (t.is.set i x)) (sp := spg3) (by exact h) hng3 (by rw [flatOf_length El.len, List.length_set]) hsg3 hcg3) ?_
  refine Out.c1 (B := Own 55 2 (.slice (some ⟨g3, 0, none⟩) t.is.length cg3) ((t.is.set i x).length) (flatOf El.cells (t.is.set i x))) (fun w h => by rw [List.length_set]; exact h) ?_
  refine Out.perm pl5 ?_
  refine Out.perm pl5 ?_
  refine Out.perm pl2 ?_
  refine Out.perm pl5 ?_
  refine Out.conv (fun w h => Sat.ndMk (c := c) (h := (ht + 1)) (t := (Tr.nd (t.is.set i x) t.ks)) (ks := ks) hk hl h) ?_
  show Out _ _ _ _ _ (Nd c (ht + 1) (p, (Tr.nd (t.is.set i x) t.ks)) :: Blk b2 [.int .i64 (y.k), .int .i64 (y.v)] 55 :: Blk b4 [.int .i64 (y.k), .int .i64 (y.v)] 55 :: _)
  have hins : ins M (ht + 1) t x = _ := ins_found hfi (by rw [hfd]; assumption) hy
  refine Out.perm pl2 ?_
  refine Out.drop ?_
  refine Out.perm pl2 ?_
  refine Out.drop ?_
  refine Out.perm pl3 ?_
  refine Out.perm pl3 ?_
  refine Out.perm pl2 ?_
  refine Out.perm pl3 ?_
  exact Out.retRun (L' := _) (results_ct Try.results103 rfl Ty.ag55 rfl rfl (fun w h => h.range 0 rfl rfl)) ⟨by rw [hins]; rfl, by rw [hins]⟩ (fun w h => h.drop)
 ·
  have h1 : (fd) = false := h1
  refine WPc.skip ?_
  refine Out.next ?_
  refine WPc.seq ?_
  refine WPc.sr ?_
  refine WP.val rfl rfl rfl (Val.move rfl rfl) ?_
  refine WP.val rfl rfl rfl (Val.nilCheck rfl rfl) ?_
  refine WP.val rfl rfl rfl (Val.fieldAddr (j := 1) rfl Ty.fo213_1 rfl rfl) ?_
  refine WP.val rfl rfl rfl (Val.load rfl Ty.sc211 rfl (fun w h => h.cell 1 rfl rfl)) ?_
  refine WP.val rfl rfl rfl (Val.lenOwn rfl Ty.sl211 rfl (fun w h => h.at 2 rfl)) ?_
  refine WP.val rfl rfl rfl (Val.eql rfl rfl rfl) ?_
  refine WP.nx ?_
  refine WPc.ifP rfl (fun h2 => ?_) (fun h2 => ?_)
  ·
   have h2 : (((ks.length : Nat) : Int) = (0 : Int)) := h2
   exfalso; have h0 := hbal.1; omega
  ·
   have h2 : ¬ (((ks.length : Nat) : Int) = (0 : Int)) := h2
   refine WPc.skip ?_
   refine Out.next ?_
   refine WPc.seq ?_
   refine WPc.seq ?_
   refine WPc.perm pl3 ?_
   refine WPc.perm pl3 ?_
   refine WPc.perm pl2 ?_
   refine WPc.perm pl3 ?_
   refine WPc.conv (fun w h => Sat.ndMk (c := c) (h := (ht + 1)) (t := t) (ks := ks) hk hl h) ?_
   show WPc _ _ _ _ _ _ (Nd c (ht + 1) (p, t) :: _)
   have hfd0 : fd = false := by assumption
   obtain ⟨tkx, htkx⟩ : ∃ k, t.ks[i]? = some k := ⟨_, List.getElem?_eq_getElem (by have := hbal.1; omega)⟩
   have hbx := hbal.2.2 tkx (List.mem_of_getElem? htkx)
   have hlx := hbx.2.le
   refine WPc.region ?_
   iterate 3 (refine WP.val rfl rfl rfl (Val.move rfl rfl) ?_)
   refine WP.perm pl4 ?_
   refine WP.perm pl4 ?_
   refine WP.perm pl2 ?_
   refine WP.eff rfl rfl rfl (Eff.call rfl rfl Try.call126 (mspl_spec c f ht p i M t tkx htkx (by omega) hfl.1 (by omega) (by omega) (by omega) (by omega) (by omega) (by omega))) ?_
   rintro _ _ ⟨_, ⟨rfl, rfl⟩, rfl⟩
   show WP _ _ _ _ _ _ _ (Nd c (ht + 1) (p, (mspl M t i).1) :: _)
   refine WP.nx ?_
   refine WPc.cond rfl (fun h3 => ?_) (fun h3 => ?_)
   ·
    have h3 : ((mspl M t i).2) = true := h3
    refine WPc.seq ?_
    generalize hms : mspl M t i = ms at *
    obtain ⟨t1, sp⟩ := ms
    dsimp only at *
    have hsp : sp = true := by assumption
    subst hsp
    obtain ⟨hb1, hl1, ⟨tk0, hf0⟩, tk1, hf1⟩ := mspl_true hM hbal hlt hfl.1 hms
    refine WPc.open (fun w h => h.ndOpen) ?_
    rintro ⟨vi1, vc1, ks1⟩
    refine WPc.pure (fun hk1 => ?_)
    obtain ⟨hk1, hl1⟩ := hk1
    dsimp only at hk1 hl1
    have hkl1 := ks_len hk1
    show WPc _ _ _ _ _ _ (Blk p [vi1, vc1, .pointer (some ⟨c, 0, none⟩)] 213 :: Own 55 2 vi1 t1.is.length (flatOf El.cells t1.is) :: Own 171 1 vc1 ks1.length (flatOf vcf (kp ks1)) :: Kds (Rk c (ht + 1)) ks1 :: _)
    have hle1 := hb1.le
    refine WPc.perm pl1 ?_
    refine WPc.open (fun w h => h.ownPos (by omega)) ?_
    rintro ⟨g5, cg5, spg5⟩
    refine WPc.pure (fun hvg5 => ?_)
    obtain ⟨rfl, hng5, hlg5, hsg5, hcg5⟩ := hvg5
    dsimp only at hng5 hlg5 hsg5 hcg5
    show WPc _ _ _ _ _ _ (Blk g5 (flatOf El.cells t1.is ++ spg5) 55 :: Blk p [.slice (some ⟨g5, 0, none⟩) t1.is.length cg5, vc1, .pointer (some ⟨c, 0, none⟩)] 213 :: _)
    obtain ⟨y, hy⟩ : ∃ y, t1.is[i]? = some y := ⟨_, List.getElem?_eq_getElem (by omega)⟩
    refine WPc.region ?_
    refine WP.val rfl rfl rfl (Val.move rfl rfl) ?_
    refine WP.val rfl rfl rfl (Val.nilCheck rfl rfl) ?_
    refine WP.val rfl rfl rfl (Val.fieldAddr (j := 0) rfl Ty.fo213_0 rfl rfl) ?_
    refine WP.val rfl rfl rfl (Val.load rfl Ty.sc210 rfl (fun w h => h.cell 1 rfl rfl)) ?_
    refine WP.val rfl rfl rfl (Val.move rfl rfl) ?_
    refine WP.val rfl rfl rfl (Val.indexAddr (j := i) (q := i * 2) rfl Ty.sl210 rfl rfl (by omega) (by omega) (by omega)) ?_
    refine WP.val rfl rfl rfl (Val.loadAgg (cs := [.int .i64 (y.k), .int .i64 (y.v)]) rfl Ty.ag55 rfl (by rfl) (fun w h => (h.at 0 rfl).cell_range (flatOf_range El.len hy))) ?_
    refine WP.eff rfl rfl rfl (Eff.alloc rfl Ty.z55) ?_
    rintro _ _ ⟨b6, rfl, rfl⟩
    refine WP.eff0 rfl rfl (Eff.storeAgg (cs := [.int .i64 (y.k), .int .i64 (y.v)]) (C' := [.int .i64 (y.k), .int .i64 (y.v)]) rfl Ty.ag55 rfl rfl rfl rfl (by simp) rfl) ?_
    rintro _ _ rfl
    refine WP.nx ?_
    refine WPc.block ?_
    refine WPc.seq ?_
    refine WPD.s0 Ty.mixed ?_
    refine WPD.tM 0 rfl rfl rfl rfl (Val.move rfl rfl) ?_
    refine WPD.tM 1 rfl rfl rfl rfl (Val.nilCheck rfl rfl) ?_
    refine WPD.tM 2 rfl rfl rfl rfl (Val.fieldAddr (j := 2) rfl Ty.fo213_2 rfl rfl) ?_
    refine WPD.tL 3 rfl rfl rfl rfl (fun _ h => h) (Val.load rfl Ty.sc172 rfl (fun w h => h.cell 2 rfl rfl)) ?_
    refine WPD.tM 4 rfl rfl rfl rfl (Val.nilCheck rfl rfl) ?_
    refine WPD.tM 5 rfl rfl rfl rfl (Val.fieldAddr (j := 1) rfl Ty.fo170_1 rfl rfl) ?_
    refine WPD.tL 6 rfl rfl rfl rfl (fun _ h => h) (Val.load rfl Ty.sc165 rfl (fun w h => h.cell 5 rfl rfl)) ?_
    refine WPD.tL 7 rfl rfl rfl rfl (fun _ h => h) (Val.loadAgg (cs := [.int .i64 (x.k), .int .i64 (x.v)]) rfl Ty.ag55 rfl rfl (fun w h => h.range 8 rfl rfl)) ?_
    refine WPD.tL 8 rfl rfl rfl rfl (fun _ h => h) (Val.loadAgg (cs := [.int .i64 (y.k), .int .i64 (y.v)]) rfl Ty.ag55 rfl rfl (fun w h => h.range 0 rfl rfl)) ?_
    refine WPD.stepC 9 (by kernel_rfl) rfl rfl rfl rfl (by kernel_rfl) (Eff.callF (args' := [.agg #[.int .i64 (x.k), .int .i64 (x.v)], .agg #[.int .i64 (y.k), .int .i64 (y.v)]]) rfl rfl rfl rfl Try.call53 (less_spec x y)) ?_
    rintro _ _ ⟨_, ⟨rfl, rfl⟩, rfl⟩
    refine ⟨_, (fun _ h => h), ?_⟩
    show WPD _ _ _ _ _ _ _ _ _ (Blk b6 [.int .i64 (y.k), .int .i64 (y.v)] 55 :: _)
    refine WPD.tM 10 rfl rfl rfl rfl (Val.assign rfl rfl) ?_
    refine WPD.done (by kernel_rfl) ?_
    refine Out.next ?_
    refine WPc.ifP rfl (fun h4 => ?_) (fun h4 => ?_)
    ·
     have h4 : (x.k < y.k) := h4
     refine WPc.skip ?_
     refine Out.block ?_
     refine Out.next ?_
     refine WPc.seq ?_
     refine WPc.perm pl1 ?_
     refine WPc.conv (fun w h => Sat.ownMk (e := 55) (k := 2) (b := g5) (m := t1.is.length) (cap := cg5) (xs := flatOf El.cells t1.is) (sp := spg5) (by exact h) hng5 hlg5 hsg5 hcg5) ?_
     obtain ⟨pk, hx⟩ := ks_get hk1 hf0.at_
     refine WPD.start (Sat W [Blk b1 [.int .i64 (x.k), .int .i64 (x.v)] 55]) Ty.mixed ?_
     refine WPD.tS 0 rfl rfl rfl rfl (fun w h => ((h.perm pl8)).dropEnd (L := [_])) (Val.move rfl rfl) ?_
     refine WPD.tS 1 rfl rfl rfl rfl (fun w h => ((h.perm pl8)).dropEnd (L := [_])) (Val.move rfl rfl) ?_
     refine WPD.tL 3 rfl rfl rfl rfl (fun w h => ((h.perm pl8)).dropEnd (L := [_])) (Val.loadAgg (cs := [.int .i64 (x.k), .int .i64 (x.v)]) rfl Ty.ag55 rfl rfl (fun w h => h.range 0 rfl rfl)) ?_
     refine WPD.tS 4 rfl rfl rfl rfl (fun w h => ((h.perm pl8)).dropEnd (L := [_])) (Val.move rfl rfl) ?_
     iterate 3 (refine WPD.perm pl4 ?_)
     refine WPD.step 2 (by kernel_rfl) rfl rfl rfl rfl (Eff.call rfl rfl Try.call127 (mchild_spec c ht p i (.slice (some ⟨g5, 0, none⟩) t1.is.length cg5) vc1 ks1 pk tk0 hx (by omega))) ?_
     rintro _ _ ⟨_, ⟨rfl, rfl⟩, rfl⟩
     refine ⟨(fun w h => ((h.perm pl8)).dropEnd (L := [_])), ?_⟩
     show WPD _ _ _ _ _ _ _ _ _ (_ :: _ :: _ :: Own 55 2 (.slice (some ⟨g5, 0, none⟩) t1.is.length cg5) t1.is.length (flatOf El.cells t1.is) :: _)
     refine WPD.perm pl2 ?_
     refine WPD.conv (fun w h => Sat.kOut (R := Rk c (ht + 1)) hx h) ?_
     show WPD _ _ _ _ _ _ _ _ _ (Nd c ht (pk, tk0) :: Kds (Rk c (ht + 1)) (ks1.take i ++ ks1.drop (i + 1)) :: _)
     refine WPD.perm pl7 ?_
     refine WPD.perm pl7 ?_
     refine WPD.perm pl2 ?_
     refine WPD.stepC 5 (by kernel_rfl) rfl rfl rfl rfl (by kernel_rfl) (Eff.call rfl rfl Try.call103 (ih pk tk0 hf0.bal hf0.lt)) ?_
     rintro _ _ ⟨_, ⟨rfl, rfl⟩, rfl⟩
     refine ⟨_, (fun _ h => h), ?_⟩
     show WPD _ _ _ _ _ _ _ _ _ (Nd c ht (pk, (ins M ht tk0 x).1) :: _)
     refine WPD.tM 6 rfl rfl rfl rfl (Val.extract rfl rfl rfl) ?_
     refine WPD.tM 7 rfl rfl rfl rfl (Val.extract rfl rfl rfl) ?_
     refine WPD.perm pl8 ?_
     refine WPD.stepC0 8 (by kernel_rfl) rfl rfl rfl (by kernel_rfl) (Eff.storeAgg (cs := [.int .i64 (((ins M ht tk0 x).2.getD El0).k), .int .i64 (((ins M ht tk0 x).2.getD El0).v)]) (C' := [.int .i64 (((ins M ht tk0 x).2.getD El0).k), .int .i64 (((ins M ht tk0 x).2.getD El0).v)]) rfl Ty.ag55 rfl rfl rfl rfl (by simp) rfl) ?_
     rintro _ _ rfl
     refine ⟨_, (fun _ h => h), ?_⟩
     refine WPD.tM 9 rfl rfl rfl rfl (Val.assign rfl rfl) ?_
     refine WPD.done (by kernel_rfl) ?_
     refine Out.next ?_
     refine WPc.ret ?_
     refine Out.perm pl4 ?_
     refine Out.perm pl2 ?_
     refine Out.conv (fun w h => Sat.kIn (R := Rk c (ht + 1)) (x := (pk, (ins M ht tk0 x).1)) (ks := ks1) (i := i) h) ?_
     show Out _ _ _ _ _ (Kds (Rk c (ht + 1)) (ks1.take i ++ (pk, (ins M ht tk0 x).1) :: ks1.drop (i + 1)) :: Blk b2 [.int .i64 (((ins M ht tk0 x).2.getD El0).k), .int .i64 (((ins M ht tk0 x).2.getD El0).v)] 55 :: _)
     refine Out.perm pl5 ?_
     refine Out.c1 (B := Own 171 1 vc1 ((ks1.take i ++ (pk, (ins M ht tk0 x).1) :: ks1.drop (i + 1)).length) (flatOf vcf (kp (ks1.take i ++ (pk, (ins M ht tk0 x).1) :: ks1.drop (i + 1))))) (fun w h => by rw [len_one_set hx, kp_one_set hx]; exact h) ?_
     refine Out.perm pl1 ?_
     refine Out.perm pl1 ?_
     refine Out.perm pl6 ?_
     refine Out.perm pl6 ?_
     refine Out.conv (fun w h => Sat.ndMk (c := c) (h := (ht + 1)) (t := (Tr.nd t1.is (t1.ks.set i (ins M ht tk0 x).1))) (ks := (ks1.take i ++ (pk, (ins M ht tk0 x).1) :: ks1.drop (i + 1))) (snd_one hk1 hx) (fun h0 => by cases h0) h) ?_
     show Out _ _ _ _ _ (Nd c (ht + 1) (p, (Tr.nd t1.is (t1.ks.set i (ins M ht tk0 x).1))) :: _)
     have hins := ins_go (M := M) (h := ht) hfi (by rw [hfd]; assumption) hms hf0.at_ (.inr ⟨y, hy, rfl, .inl ⟨by assumption, rfl⟩⟩)
     refine Out.perm pl4 ?_
     refine Out.drop ?_
     refine Out.perm pl4 ?_
     refine Out.drop ?_
     refine Out.perm pl3 ?_
     refine Out.perm pl3 ?_
     refine Out.perm pl2 ?_
     refine Out.perm pl3 ?_
     exact Out.retRun (L' := _) (results_ct Try.results103 rfl Ty.ag55 rfl rfl (fun w h => h.range 0 rfl rfl)) ⟨by rw [hins]; rfl, by rw [hins]⟩ (fun w h => h.drop)
    ·
     have h4 : ¬ (x.k < y.k) := h4
     refine WPc.seq ?_
     refine WPD.s0 Ty.mixed ?_
     refine WPD.tM 0 rfl rfl rfl rfl (Val.move rfl rfl) ?_
     refine WPD.tM 1 rfl rfl rfl rfl (Val.nilCheck rfl rfl) ?_
     refine WPD.tM 2 rfl rfl rfl rfl (Val.fieldAddr (j := 2) rfl Ty.fo213_2 rfl rfl) ?_
     refine WPD.tL 3 rfl rfl rfl rfl (fun _ h => h) (Val.load rfl Ty.sc172 rfl (fun w h => h.cell 2 rfl rfl)) ?_
     refine WPD.tM 4 rfl rfl rfl rfl (Val.nilCheck rfl rfl) ?_
     refine WPD.tM 5 rfl rfl rfl rfl (Val.fieldAddr (j := 1) rfl Ty.fo170_1 rfl rfl) ?_
     refine WPD.tL 6 rfl rfl rfl rfl (fun _ h => h) (Val.load rfl Ty.sc165 rfl (fun w h => h.cell 5 rfl rfl)) ?_
     refine WPD.tL 7 rfl rfl rfl rfl (fun _ h => h) (Val.loadAgg (cs := [.int .i64 (y.k), .int .i64 (y.v)]) rfl Ty.ag55 rfl rfl (fun w h => h.range 0 rfl rfl)) ?_
     refine WPD.tL 8 rfl rfl rfl rfl (fun _ h => h) (Val.loadAgg (cs := [.int .i64 (x.k), .int .i64 (x.v)]) rfl Ty.ag55 rfl rfl (fun w h => h.range 8 rfl rfl)) ?_
     refine WPD.stepC 9 (by kernel_rfl) rfl rfl rfl rfl (by kernel_rfl) (Eff.callF (args' := [.agg #[.int .i64 (y.k), .int .i64 (y.v)], .agg #[.int .i64 (x.k), .int .i64 (x.v)]]) rfl rfl rfl rfl Try.call53 (less_spec y x)) ?_
     rintro _ _ ⟨_, ⟨rfl, rfl⟩, rfl⟩
     refine ⟨_, (fun _ h => h), ?_⟩
     refine WPD.tM 10 rfl rfl rfl rfl (Val.assign rfl rfl) ?_
     refine WPD.done (by kernel_rfl) ?_
     refine Out.next ?_
     refine WPc.ifP rfl (fun h5 => ?_) (fun h5 => ?_)
     ·
      have h5 : (y.k < x.k) := h5
      refine WPc.region ?_
      refine WP.val rfl rfl rfl (Val.move rfl rfl) ?_
      refine WP.val rfl rfl rfl (Val.add (z := ((i + 1 : Nat) : Int)) rfl rfl rfl ((w64 (by omega) (by omega)).trans (by omega))) ?_
      refine WP.val rfl rfl rfl (Val.assign rfl rfl) ?_
      refine WP.nil ?_
      refine Out.block ?_
      refine Out.next ?_
      refine WPc.seq ?_
      refine WPc.perm pl1 ?_
      refine WPc.conv (fun w h => Sat.ownMk (e := 55) (k := 2) (b := g5) (m := t1.is.length) (cap := cg5) (xs := flatOf El.cells t1.is) (sp := spg5) (by exact h) hng5 hlg5 hsg5 hcg5) ?_
      obtain ⟨pk, hx⟩ := ks_get hk1 hf1.at_
      refine WPD.start (Sat W [Blk b1 [.int .i64 (x.k), .int .i64 (x.v)] 55]) Ty.mixed ?_
      refine WPD.tS 0 rfl rfl rfl rfl (fun w h => ((h.perm pl8)).dropEnd (L := [_])) (Val.move rfl rfl) ?_
      refine WPD.tS 1 rfl rfl rfl rfl (fun w h => ((h.perm pl8)).dropEnd (L := [_])) (Val.move rfl rfl) ?_
      refine WPD.tL 3 rfl rfl rfl rfl (fun w h => ((h.perm pl8)).dropEnd (L := [_])) (Val.loadAgg (cs := [.int .i64 (x.k), .int .i64 (x.v)]) rfl Ty.ag55 rfl rfl (fun w h => h.range 0 rfl rfl)) ?_
      refine WPD.tS 4 rfl rfl rfl rfl (fun w h => ((h.perm pl8)).dropEnd (L := [_])) (Val.move rfl rfl) ?_
      iterate 3 (refine WPD.perm pl4 ?_)
      refine WPD.step 2 (by kernel_rfl) rfl rfl rfl rfl (Eff.call rfl rfl Try.call127 (mchild_spec c ht p (i + 1) (.slice (some ⟨g5, 0, none⟩) t1.is.length cg5) vc1 ks1 pk tk1 hx (by omega))) ?_
      rintro _ _ ⟨_, ⟨rfl, rfl⟩, rfl⟩
      refine ⟨(fun w h => ((h.perm pl8)).dropEnd (L := [_])), ?_⟩
      show WPD _ _ _ _ _ _ _ _ _ (_ :: _ :: _ :: Own 55 2 (.slice (some ⟨g5, 0, none⟩) t1.is.length cg5) t1.is.length (flatOf El.cells t1.is) :: _)
      refine WPD.perm pl2 ?_
      refine WPD.conv (fun w h => Sat.kOut (R := Rk c (ht + 1)) hx h) ?_
      show WPD _ _ _ _ _ _ _ _ _ (Nd c ht (pk, tk1) :: Kds (Rk c (ht + 1)) (ks1.take (i + 1) ++ ks1.drop ((i + 1) + 1)) :: _)
      refine WPD.perm pl7 ?_
      refine WPD.perm pl7 ?_
      refine WPD.perm pl2 ?_
      refine WPD.stepC 5 (by kernel_rfl) rfl rfl rfl rfl (by kernel_rfl) (Eff.call rfl rfl Try.call103 (ih pk tk1 hf1.bal hf1.lt)) ?_
      rintro _ _ ⟨_, ⟨rfl, rfl⟩, rfl⟩
      refine ⟨_, (fun _ h => h), ?_⟩
      show WPD _ _ _ _ _ _ _ _ _ (Nd c ht (pk, (ins M ht tk1 x).1) :: _)
      refine WPD.tM 6 rfl rfl rfl rfl (Val.extract rfl rfl rfl) ?_
      refine WPD.tM 7 rfl rfl rfl rfl (Val.extract rfl rfl rfl) ?_
      refine WPD.perm pl8 ?_
      refine WPD.stepC0 8 (by kernel_rfl) rfl rfl rfl (by kernel_rfl) (Eff.storeAgg (cs := [.int .i64 (((ins M ht tk1 x).2.getD El0).k), .int .i64 (((ins M ht tk1 x).2.getD El0).v)]) (C' := [.int .i64 (((ins M ht tk1 x).2.getD El0).k), .int .i64 (((ins M ht tk1 x).2.getD El0).v)]) rfl Ty.ag55 rfl rfl rfl rfl (by simp) rfl) ?_
      rintro _ _ rfl
      refine ⟨_, (fun _ h => h), ?_⟩
      refine WPD.tM 9 rfl rfl rfl rfl (Val.assign rfl rfl) ?_
      refine WPD.done (by kernel_rfl) ?_
      refine Out.next ?_
      refine WPc.ret ?_
      refine Out.perm pl4 ?_
      refine Out.perm pl2 ?_
      refine Out.conv (fun w h => Sat.kIn (R := Rk c (ht + 1)) (x := (pk, (ins M ht tk1 x).1)) (ks := ks1) (i := (i + 1)) h) ?_
      show Out _ _ _ _ _ (Kds (Rk c (ht + 1)) (ks1.take (i + 1) ++ (pk, (ins M ht tk1 x).1) :: ks1.drop ((i + 1) + 1)) :: Blk b2 [.int .i64 (((ins M ht tk1 x).2.getD El0).k), .int .i64 (((ins M ht tk1 x).2.getD El0).v)] 55 :: _)
      refine Out.perm pl5 ?_
      refine Out.c1 (B := Own 171 1 vc1 ((ks1.take (i + 1) ++ (pk, (ins M ht tk1 x).1) :: ks1.drop ((i + 1) + 1)).length) (flatOf vcf (kp (ks1.take (i + 1) ++ (pk, (ins M ht tk1 x).1) :: ks1.drop ((i + 1) + 1))))) (fun w h => by rw [len_one_set hx, kp_one_set hx]; exact h) ?_
      refine Out.perm pl1 ?_
      refine Out.perm pl1 ?_
      refine Out.perm pl6 ?_
      refine Out.perm pl6 ?_
      refine Out.conv (fun w h => Sat.ndMk (c := c) (h := (ht + 1)) (t := (Tr.nd t1.is (t1.ks.set (i + 1) (ins M ht tk1 x).1))) (ks := (ks1.take (i + 1) ++ (pk, (ins M ht tk1 x).1) :: ks1.drop ((i + 1) + 1))) (snd_one hk1 hx) (fun h0 => by cases h0) h) ?_
      show Out _ _ _ _ _ (Nd c (ht + 1) (p, (Tr.nd t1.is (t1.ks.set (i + 1) (ins M ht tk1 x).1))) :: _)
      have hins := ins_go (M := M) (h := ht) hfi (by rw [hfd]; assumption) hms hf1.at_ (.inr ⟨y, hy, rfl, .inr ⟨by assumption, by assumption, rfl⟩⟩)
      refine Out.perm pl4 ?_
      refine Out.drop ?_
      refine Out.perm pl4 ?_
      refine Out.drop ?_
      refine Out.perm pl3 ?_
      refine Out.perm pl3 ?_
      refine Out.perm pl2 ?_
      refine Out.perm pl3 ?_
      exact Out.retRun (L' := _) (results_ct Try.results103 rfl Ty.ag55 rfl rfl (fun w h => h.range 0 rfl rfl)) ⟨by rw [hins]; rfl, by rw [hins]⟩ (fun w h => h.drop)
     ·
      have h5 : ¬ (y.k < x.k) := h5
      refine WPc.sr ?_
      refine WP.val rfl rfl rfl (Val.move rfl rfl) ?_
      refine WP.val rfl rfl rfl (Val.nilCheck rfl rfl) ?_
      refine WP.val rfl rfl rfl (Val.fieldAddr (j := 0) rfl Ty.fo213_0 rfl rfl) ?_
      refine WP.val rfl rfl rfl (Val.load rfl Ty.sc210 rfl (fun w h => h.cell 2 rfl rfl)) ?_
      refine WP.val rfl rfl rfl (Val.move rfl rfl) ?_
      refine WP.val rfl rfl rfl (Val.indexAddr (j := i) (q := i * 2) rfl Ty.sl210 rfl rfl (by omega) (by omega) (by omega)) ?_
      refine WP.val rfl rfl rfl (Val.loadAgg (cs := [.int .i64 (y.k), .int .i64 (y.v)]) rfl Ty.ag55 rfl (by rfl) (fun w h => (h.at 1 rfl).cell_range (flatOf_range El.len hy))) ?_
      refine WP.eff rfl rfl rfl (Eff.alloc rfl Ty.z55) ?_
      rintro _ _ ⟨b7, rfl, rfl⟩
      refine WP.eff0 rfl rfl (Eff.storeAgg (cs := [.int .i64 (y.k), .int .i64 (y.v)]) (C' := [.int .i64 (y.k), .int .i64 (y.v)]) rfl Ty.ag55 rfl rfl rfl rfl (by simp) rfl) ?_
      rintro _ _ rfl
      refine WP.nx ?_
      refine WPc.seq ?_
      refine WPD.s0 Ty.mixed ?_
      refine WPD.tM 0 rfl rfl rfl rfl (Val.move rfl rfl) ?_
      refine WPD.tM 1 rfl rfl rfl rfl (Val.nilCheck rfl rfl) ?_
      refine WPD.tM 2 rfl rfl rfl rfl (Val.fieldAddr (j := 0) rfl Ty.fo213_0 rfl rfl) ?_
      refine WPD.tL 3 rfl rfl rfl rfl (fun _ h => h) (Val.load rfl Ty.sc210 rfl (fun w h => h.cell 3 rfl rfl)) ?_
      refine WPD.tM 4 rfl rfl rfl rfl (Val.move rfl rfl) ?_
      refine WPD.tL 5 rfl rfl rfl rfl (fun _ h => h) (Val.loadAgg (cs := [.int .i64 (x.k), .int .i64 (x.v)]) rfl Ty.ag55 rfl rfl (fun w h => h.range 9 rfl rfl)) ?_
      refine WPD.tM 6 rfl rfl rfl rfl (Val.indexAddr (j := i) (q := i * 2) rfl Ty.sl210 rfl rfl (by omega) (by omega) (by omega)) ?_
      refine WPD.perm pl2 ?_
      refine WPD.stepC0 7 (by kernel_rfl) rfl rfl rfl (by kernel_rfl) (Eff.storeAgg (cs := [.int .i64 (x.k), .int .i64 (x.v)]) (C' := flatOf El.cells (t1.is.set i x) ++ spg5) rfl Ty.ag55 rfl rfl rfl rfl (by rw [List.length_append, flatOf_length El.len]; omega) (flat_set El.len t1.is i x spg5 (by omega))) ?_
      rintro _ _ rfl
      refine ⟨_, (fun _ h => h), ?_⟩
      refine WPD.done (by kernel_rfl) ?_
      refine Out.next ?_
      refine WPc.sr ?_
      refine WP.val rfl rfl rfl (Val.loadAgg (cs := [.int .i64 (y.k), .int .i64 (y.v)]) rfl Ty.ag55 rfl rfl (fun w h => h.range 1 rfl rfl)) ?_
      refine WP.perm pl8 ?_
      refine WP.eff0 rfl rfl (Eff.storeAgg (cs := [.int .i64 (y.k), .int .i64 (y.v)]) (C' := [.int .i64 (y.k), .int .i64 (y.v)]) rfl Ty.ag55 rfl rfl rfl rfl (by simp) rfl) ?_
      rintro _ _ rfl
      refine WP.val rfl rfl rfl (Val.assign rfl rfl) ?_
      refine WP.nx ?_
      refine WPc.ret ?_
      refine Out.block_ret ?_
      refine Out.then_ret ?_
      refine Out.perm pl1 ?_
      refine Out.conv (fun w h => Sat.ownMk (e := 55) (k := 2) (b := g5) (m := t1.is.length) (cap := cg5) (xs := flatOf El.cells (t1.is.set i x)) (sp := spg5) (by exact h) hng5 (by rw [flatOf_length El.len, List.length_set]) hsg5 hcg5) ?_
      refine Out.c1 (B := Own 55 2 (.slice (some ⟨g5, 0, none⟩) t1.is.length cg5) ((t1.is.set i x).length) (flatOf El.cells (t1.is.set i x))) (fun w h => by rw [List.length_set]; exact h) ?_
      refine Out.perm pl6 ?_
      refine Out.perm pl6 ?_
      refine Out.perm pl2 ?_
      refine Out.perm pl6 ?_
      refine Out.conv (fun w h => Sat.ndMk (c := c) (h := (ht + 1)) (t := (Tr.nd (t1.is.set i x) t1.ks)) (ks := ks1) hk1 hl1 h) ?_
      show Out _ _ _ _ _ (Nd c (ht + 1) (p, (Tr.nd (t1.is.set i x) t1.ks)) :: Blk b2 [.int .i64 (y.k), .int .i64 (y.v)] 55 :: Blk b7 [.int .i64 (y.k), .int .i64 (y.v)] 55 :: _)
      have hins := ins_eq (M := M) (h := ht) hfi (by rw [hfd]; assumption) hms hy (by assumption) (by assumption)
      refine Out.perm pl2 ?_
      refine Out.drop ?_
      refine Out.perm pl2 ?_
      refine Out.drop ?_
      refine Out.perm pl4 ?_
      refine Out.drop ?_
      refine Out.perm pl3 ?_
      refine Out.perm pl3 ?_
      refine Out.perm pl2 ?_
      refine Out.perm pl3 ?_
      exact Out.retRun (L' := _) (results_ct Try.results103 rfl Ty.ag55 rfl rfl (fun w h => h.range 0 rfl rfl)) ⟨by rw [hins]; rfl, by rw [hins]⟩ (fun w h => h.drop)
   ·
    have h3 : ((mspl M t i).2) = false := h3
    refine WPc.skip ?_
    refine Out.next ?_
    refine WPc.seq ?_
    generalize hms : mspl M t i = ms at *
    obtain ⟨t1, sp⟩ := ms
    dsimp only at *
    have hsp : sp = false := by assumption
    subst hsp
    obtain ⟨ht1, tk, hf⟩ := mspl_false hbal hfl.1 hms
    have hb1 : Bal m M (ht + 1) t1 := ht1 ▸ hbal
    refine WPc.open (fun w h => h.ndOpen) ?_
    rintro ⟨vi1, vc1, ks1⟩
    refine WPc.pure (fun hk1 => ?_)
    obtain ⟨hk1, hl1⟩ := hk1
    dsimp only at hk1 hl1
    have hkl1 := ks_len hk1
    show WPc _ _ _ _ _ _ (Blk p [vi1, vc1, .pointer (some ⟨c, 0, none⟩)] 213 :: Own 55 2 vi1 t1.is.length (flatOf El.cells t1.is) :: Own 171 1 vc1 ks1.length (flatOf vcf (kp ks1)) :: Kds (Rk c (ht + 1)) ks1 :: _)
    have hle1 := hb1.le
    obtain ⟨pk, hx⟩ := ks_get hk1 hf.at_
    refine WPD.start (Sat W [Blk b1 [.int .i64 (x.k), .int .i64 (x.v)] 55]) Ty.mixed ?_
    refine WPD.tS 0 rfl rfl rfl rfl (fun w h => ((h.perm pl7)).dropEnd (L := [_])) (Val.move rfl rfl) ?_
    refine WPD.tS 1 rfl rfl rfl rfl (fun w h => ((h.perm pl7)).dropEnd (L := [_])) (Val.move rfl rfl) ?_
    refine WPD.tL 3 rfl rfl rfl rfl (fun w h => ((h.perm pl7)).dropEnd (L := [_])) (Val.loadAgg (cs := [.int .i64 (x.k), .int .i64 (x.v)]) rfl Ty.ag55 rfl rfl (fun w h => h.range 0 rfl rfl)) ?_
    refine WPD.tS 4 rfl rfl rfl rfl (fun w h => ((h.perm pl7)).dropEnd (L := [_])) (Val.move rfl rfl) ?_
    refine WPD.perm pl3 ?_
    refine WPD.perm pl3 ?_
    refine WPD.perm pl2 ?_
    refine WPD.step 2 (by kernel_rfl) rfl rfl rfl rfl (Eff.call rfl rfl Try.call127 (mchild_spec c ht p i vi1 vc1 ks1 pk tk hx (by omega))) ?_
    rintro _ _ ⟨_, ⟨rfl, rfl⟩, rfl⟩
    refine ⟨(fun w h => ((h.perm pl7)).dropEnd (L := [_])), ?_⟩
    refine WPD.perm pl2 ?_
    refine WPD.conv (fun w h => Sat.kOut (R := Rk c (ht + 1)) hx h) ?_
    show WPD _ _ _ _ _ _ _ _ _ (Nd c ht (pk, tk) :: Kds (Rk c (ht + 1)) (ks1.take i ++ ks1.drop (i + 1)) :: _)
    refine WPD.perm pl6 ?_
    refine WPD.perm pl6 ?_
    refine WPD.perm pl2 ?_
    refine WPD.stepC 5 (by kernel_rfl) rfl rfl rfl rfl (by kernel_rfl) (Eff.call rfl rfl Try.call103 (ih pk tk hf.bal hf.lt)) ?_
    rintro _ _ ⟨_, ⟨rfl, rfl⟩, rfl⟩
    refine ⟨_, (fun _ h => h), ?_⟩
    show WPD _ _ _ _ _ _ _ _ _ (Nd c ht (pk, (ins M ht tk x).1) :: _)
    refine WPD.tM 6 rfl rfl rfl rfl (Val.extract rfl rfl rfl) ?_
    refine WPD.tM 7 rfl rfl rfl rfl (Val.extract rfl rfl rfl) ?_
    refine WPD.perm pl7 ?_
    refine WPD.stepC0 8 (by kernel_rfl) rfl rfl rfl (by kernel_rfl) (Eff.storeAgg (cs := [.int .i64 (((ins M ht tk x).2.getD El0).k), .int .i64 (((ins M ht tk x).2.getD El0).v)]) (C' := [.int .i64 (((ins M ht tk x).2.getD El0).k), .int .i64 (((ins M ht tk x).2.getD El0).v)]) rfl Ty.ag55 rfl rfl rfl rfl (by simp) rfl) ?_
    rintro _ _ rfl
    refine ⟨_, (fun _ h => h), ?_⟩
    refine WPD.tM 9 rfl rfl rfl rfl (Val.assign rfl rfl) ?_
    refine WPD.done (by kernel_rfl) ?_
    refine Out.next ?_
    refine WPc.ret ?_
    refine Out.perm pl4 ?_
    refine Out.perm pl2 ?_
    refine Out.conv (fun w h => Sat.kIn (R := Rk c (ht + 1)) (x := (pk, (ins M ht tk x).1)) (ks := ks1) (i := i) h) ?_
    show Out _ _ _ _ _ (Kds (Rk c (ht + 1)) (ks1.take i ++ (pk, (ins M ht tk x).1) :: ks1.drop (i + 1)) :: Blk b2 [.int .i64 (((ins M ht tk x).2.getD El0).k), .int .i64 (((ins M ht tk x).2.getD El0).v)] 55 :: _)
    refine Out.perm pl5 ?_
    refine Out.c1 (B := Own 171 1 vc1 ((ks1.take i ++ (pk, (ins M ht tk x).1) :: ks1.drop (i + 1)).length) (flatOf vcf (kp (ks1.take i ++ (pk, (ins M ht tk x).1) :: ks1.drop (i + 1))))) (fun w h => by rw [len_one_set hx, kp_one_set hx]; exact h) ?_
    refine Out.perm pl1 ?_
    refine Out.perm pl1 ?_
    refine Out.perm pl6 ?_
    refine Out.perm pl6 ?_
    refine Out.conv (fun w h => Sat.ndMk (c := c) (h := (ht + 1)) (t := (Tr.nd t1.is (t1.ks.set i (ins M ht tk x).1))) (ks := (ks1.take i ++ (pk, (ins M ht tk x).1) :: ks1.drop (i + 1))) (snd_one hk1 hx) (fun h0 => by cases h0) h) ?_
    show Out _ _ _ _ _ (Nd c (ht + 1) (p, (Tr.nd t1.is (t1.ks.set i (ins M ht tk x).1))) :: _)
    have hins := ins_go (M := M) (h := ht) hfi (by rw [hfd]; assumption) hms hf.at_ (.inl ⟨rfl, rfl⟩)
    refine Out.perm pl4 ?_
    refine Out.drop ?_
    refine Out.perm pl3 ?_
    refine Out.perm pl3 ?_
    refine Out.perm pl2 ?_
    refine Out.perm pl3 ?_
    exact Out.retRun (L' := _) (results_ct Try.results103 rfl Ty.ag55 rfl rfl (fun w h => h.range 0 rfl rfl)) ⟨by rw [hins]; rfl, by rw [hins]⟩ (fun w h => h.drop)

theorem insert_spec (c f m M : Nat) (hM : M = 2 * m + 1) (hM2 : M ≤ 1000) (x : El) : ∀ (ht p : Nat) (t : Tr), Bal m M ht t → t.is.length < M → Does Try.prog 103 [.pointer (some ⟨p, 0, none⟩), .agg #[.int .i64 x.k, .int .i64 x.v], .int .i64 ((M : Nat) : Int)] [Nd c ht (p, t), Blk c [.pointer (some ⟨f, 0, none⟩), .func (.func 53) #[] #[]] 170, FL f] (fun v L => v = opv (ins M ht t x).2 ∧ L = [Nd c ht (p, (ins M ht t x).1), Blk c [.pointer (some ⟨f, 0, none⟩), .func (.func 53) #[] #[]] 170, FL f])
 | 0, p, t, hb, hl => insert_leaf c f m M hM hM2 x p t hb hl
 | ht + 1, p, t, hb, hl => insert_step c f m M hM hM2 x ht (insert_spec c f m M hM hM2 x ht) p t hb hl

end Go.Proofs.Ythmkdioafjmclaa.Bt7
