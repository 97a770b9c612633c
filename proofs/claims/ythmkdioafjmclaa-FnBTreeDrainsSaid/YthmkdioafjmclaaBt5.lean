import Derived.Test.YthmkdioafjmclaaSlTerse
import Derived.Test.YthmkdioafjmclaaBt4
namespace Go.Proofs.Ythmkdioafjmclaa.Bt5
open Go.RowKit Go.Proofs.Ythmkdioafjmclaa Go.Proofs.Ythmkdioafjmclaa.Sl Go.Proofs.Ythmkdioafjmclaa.Bt Go.Proofs.Ythmkdioafjmclaa.Bt2 Go.Proofs.Ythmkdioafjmclaa.Bt3 Go.Proofs.Ythmkdioafjmclaa.Bt4
set_option linter.unusedVariables false
set_option linter.unusedSimpArgs false
set_option linter.unusedSectionVars false


def kp (ks : List (Nat × Tr)) : List Value := ks.map fun k => .pointer (some ⟨k.1, 0, none⟩)
theorem kp_one (ks : List (Nat × Tr)) : ∀ x ∈ kp ks, x.oneCell' = true := fun x hx => by obtain ⟨_, _, rfl⟩ := List.mem_map.1 hx; rfl
theorem kp_len (ks : List (Nat × Tr)) : (kp ks).length = ks.length := by simp [kp]
theorem kp_app (a b : List (Nat × Tr)) : kp (a ++ b) = kp a ++ kp b := by simp [kp]
theorem kp_take (a : List (Nat × Tr)) (i : Nat) : (kp a).take i = kp (a.take i) := by simp [kp]
theorem kp_drop (a : List (Nat × Tr)) (i : Nat) : (kp a).drop i = kp (a.drop i) := by simp [kp]
theorem kp_at {ks : List (Nat × Tr)} {i pk : Nat} {tk : Tr} (h : ks[i]? = some (pk, tk)) : (kp ks)[i]? = some (.pointer (some ⟨pk, 0, none⟩)) := by unfold kp; rw [List.getElem?_map, h]; rfl
def Nd1 (c : Nat) (lf : Prop) (R : Nat × Tr → HProp) (k : Nat × Tr) : HProp := Ex fun q : Value × Value × List (Nat × Tr) =>
 Sep [Pure (q.2.2.map (·.2) = k.2.ks ∧ (lf → q.2.2 = [])), Blk k.1 [q.1, q.2.1, .pointer (some ⟨c, 0, none⟩)] 213, Own 55 2 q.1 k.2.is.length (flatOf El.cells k.2.is), Own 171 1 q.2.1 q.2.2.length (flatOf vcf (kp q.2.2)), Kds R q.2.2]
/-- a node of height h with its children, all of the context c -/
def Nd (c : Nat) : Nat → Nat × Tr → HProp
 | 0 => Nd1 c True (fun _ => Pure False)
 | h + 1 => Nd1 c False (Nd c h)
def Rk (c : Nat) : Nat → Nat × Tr → HProp
 | 0 => fun _ => Pure False
 | h + 1 => Nd c h
section
variable {W w : World} {L : List HProp}
theorem _root_.Go.Proofs.Ythmkdioafjmclaa.Sl.Sat.ndOpen {c h : Nat} {k : Nat × Tr} (hs : Sat W (Nd c h k :: L) w) : ∃ q : Value × Value × List (Nat × Tr), Sat W (Pure (q.2.2.map (·.2) = k.2.ks ∧ (h = 0 → q.2.2 = [])) :: Blk k.1 [q.1, q.2.1, .pointer (some ⟨c, 0, none⟩)] 213 :: Own 55 2 q.1 k.2.is.length (flatOf El.cells k.2.is) :: Own 171 1 q.2.1 q.2.2.length (flatOf vcf (kp q.2.2)) :: Kds (Rk c h) q.2.2 :: L) w := by
 cases h with
 | zero =>
  obtain ⟨q, h2⟩ := Sat.ex hs
  have h3 := h2.sep
  exact ⟨q, Sat.pure_mk ⟨h3.pure.1, fun _ => h3.pure.2 trivial⟩ h3.drop⟩
 | succ h =>
  obtain ⟨q, h2⟩ := Sat.ex hs
  have h3 := h2.sep
  exact ⟨q, Sat.pure_mk ⟨h3.pure.1, fun h0 => by cases h0⟩ h3.drop⟩
theorem _root_.Go.Proofs.Ythmkdioafjmclaa.Sl.Sat.ndMk {c h p : Nat} {t : Tr} {vi vc : Value} {ks : List (Nat × Tr)} (h1 : ks.map (·.2) = t.ks) (h2 : h = 0 → ks = []) (hs : Sat W (Blk p [vi, vc, .pointer (some ⟨c, 0, none⟩)] 213 :: Own 55 2 vi t.is.length (flatOf El.cells t.is) :: Own 171 1 vc ks.length (flatOf vcf (kp ks)) :: Kds (Rk c h) ks :: L) w) : Sat W (Nd c h (p, t) :: L) w := by
 cases h with
 | zero => exact Sat.ex_mk (vi, vc, ks) (Sat.sep_mk (Sat.pure_mk ⟨h1, fun _ => h2 rfl⟩ hs))
 | succ h => exact Sat.ex_mk (vi, vc, ks) (Sat.sep_mk (Sat.pure_mk ⟨h1, fun h => h.elim⟩ hs))
end
theorem ks_len {ks : List (Nat × Tr)} {t : Tr} (h : ks.map (·.2) = t.ks) : ks.length = t.ks.length := by rw [← h, List.length_map]
theorem ks_at {ks : List (Nat × Tr)} {t : Tr} {i : Nat} {k : Nat × Tr} (h : ks.map (·.2) = t.ks) (hk : ks[i]? = some k) : t.ks[i]? = some k.2 := by rw [← h, List.getElem?_map, hk]; rfl

theorem tr_is {a : List El} {b : List Tr} : (Tr.nd a b).is = a := rfl
theorem tr_ks {a : List El} {b : List Tr} : (Tr.nd a b).ks = b := rfl
set_option maxRecDepth 100000 in
set_option maxHeartbeats 2000000 in
theorem split_spec (c f ht p i : Nat) (t : Tr) (x : El) (hx : t.is[i]? = some x) (h6 : t.is.length ≤ 1000000) (h7 : t.ks.length ≤ 1000000) (h8 : 0 < t.ks.length → i < t.ks.length) : Does Try.prog 102 [.pointer (some ⟨p, 0, none⟩), .int .i64 (((i : Nat) : Int))] [Nd c ht (p, t), Blk c [.pointer (some ⟨f, 0, none⟩), .func (.func 53) #[] #[]] 170, FL f] (fun v L => ∃ p2, v = .tuple #[.agg #[.int .i64 x.k, .int .i64 x.v], .pointer (some ⟨p2, 0, none⟩)] ∧ L = [Nd c ht (p, (Tr.nd (t.is.take i) (t.ks.take (i + 1)))), Nd c ht (p2, (Tr.nd (t.is.drop (i + 1)) (t.ks.drop (i + 1)))), Blk c [.pointer (some ⟨f, 0, none⟩), .func (.func 53) #[] #[]] 170, FL f]) := by
 refine Does.enter 69 Try.func102 rfl rfl rfl fun W F => ?_
 show WPc _ _ _ _ _ [(0, .pointer (some ⟨p, 0, none⟩)), (1, .int .i64 (((i : Nat) : Int)))] (Nd c ht (p, t) :: Blk c [.pointer (some ⟨f, 0, none⟩), .func (.func 53) #[] #[]] 170 :: FL f :: F)
 refine WPc.sr ?_
 refine WP.eff rfl rfl rfl (Eff.alloc rfl Ty.z55) ?_
 rintro _ _ ⟨b1, rfl, rfl⟩
 refine WP.val rfl rfl rfl (Val.assign rfl rfl) ?_
 refine WP.nx ?_
 refine WPc.seq ?_
 refine WPc.perm pl1 ?_
 refine WPc.open (fun w h => h.ndOpen) ?_
 rintro ⟨vi, vc, ks⟩
 refine WPc.pure (fun hk => ?_)
 obtain ⟨hk, hl⟩ := hk
 dsimp only at hk hl
 have hkl := ks_len hk
 show WPc _ _ _ _ _ _ (Blk p [vi, vc, .pointer (some ⟨c, 0, none⟩)] 213 :: Own 55 2 vi t.is.length (flatOf El.cells t.is) :: Own 171 1 vc ks.length (flatOf vcf (kp ks)) :: Kds (Rk c ht) ks :: Blk b1 [.int .i64 0, .int .i64 0] 55 :: _)
 have hi : i < t.is.length := (List.getElem?_eq_some_iff.1 hx).1
 refine WPc.perm pl1 ?_
 refine WPc.open (fun w h => h.ownPos (by omega)) ?_
 rintro ⟨g2, cg2, spg2⟩
 refine WPc.pure (fun hvg2 => ?_)
 obtain ⟨rfl, hng2, hlg2, hsg2, hcg2⟩ := hvg2
 dsimp only at hng2 hlg2 hsg2 hcg2
 show WPc _ _ _ _ _ _ (Blk g2 (flatOf El.cells t.is ++ spg2) 55 :: Blk p [.slice (some ⟨g2, 0, none⟩) t.is.length cg2, vc, .pointer (some ⟨c, 0, none⟩)] 213 :: _)
 refine WPc.region ?_
 refine WP.val rfl rfl rfl (Val.move rfl rfl) ?_
 refine WP.val rfl rfl rfl (Val.nilCheck rfl rfl) ?_
 refine WP.val rfl rfl rfl (Val.fieldAddr (j := 0) rfl Ty.fo213_0 rfl rfl) ?_
 refine WP.val rfl rfl rfl (Val.load rfl Ty.sc210 rfl (fun w h => h.cell 1 rfl rfl)) ?_
 refine WP.val rfl rfl rfl (Val.move rfl rfl) ?_
 refine WP.val rfl rfl rfl (Val.indexAddr (j := i) (q := i * 2) rfl Ty.sl210 rfl rfl (by omega) (by omega) (by omega)) ?_
 refine WP.val rfl rfl rfl (Val.loadAgg (cs := [.int .i64 (x.k), .int .i64 (x.v)]) rfl Ty.ag55 rfl (by rfl) (fun w h => (h.at 0 rfl).cell_range (flatOf_range El.len hx))) ?_
 refine WP.eff rfl rfl rfl (Eff.alloc rfl Ty.z55) ?_
 rintro _ _ ⟨b3, rfl, rfl⟩
 refine WP.eff0 rfl rfl (Eff.storeAgg (cs := [.int .i64 (x.k), .int .i64 (x.v)]) (C' := [.int .i64 (x.k), .int .i64 (x.v)]) rfl Ty.ag55 rfl rfl rfl rfl (by simp) rfl) ?_
 rintro _ _ rfl
 refine WP.nx ?_
 refine WPc.sr ?_
 refine WP.val rfl rfl rfl (Val.move rfl rfl) ?_
 refine WP.val rfl rfl rfl (Val.nilCheck rfl rfl) ?_
 refine WP.val rfl rfl rfl (Val.fieldAddr (j := 2) rfl Ty.fo213_2 rfl rfl) ?_
 refine WP.val rfl rfl rfl (Val.load rfl Ty.sc172 rfl (fun w h => h.cell 2 rfl rfl)) ?_
 refine WP.perm pl7 ?_
 refine WP.perm pl7 ?_
 refine WP.eff rfl rfl rfl (Eff.call rfl rfl Try.call99 (cownew_spec c f)) ?_
 rintro _ _ ⟨_, ⟨pq, w1q, w2q, rfl, rfl⟩, rfl⟩
 show WP _ _ _ _ _ _ _ (Blk pq [w1q, w2q, .pointer (some ⟨c, 0, none⟩)] 213 :: Own 55 2 w1q 0 ([]) :: Own 171 1 w2q 0 ([]) :: _ :: _ :: Blk b3 [.int .i64 (x.k), .int .i64 (x.v)] 55 :: _)
 refine WP.val rfl rfl rfl (Val.assign rfl rfl) ?_
 refine WP.nx ?_
 refine WPc.seq ?_
 refine WPD.s0 Ty.mixed ?_
 refine WPD.tM 0 rfl rfl rfl rfl (Val.move rfl rfl) ?_
 refine WPD.tM 1 rfl rfl rfl rfl (Val.move rfl rfl) ?_
 refine WPD.tM 2 rfl rfl rfl rfl (Val.nilCheck rfl rfl) ?_
 refine WPD.tM 3 rfl rfl rfl rfl (Val.fieldAddr (j := 0) rfl Ty.fo213_0 rfl rfl) ?_
 refine WPD.tL 4 rfl rfl rfl rfl (fun _ h => h) (Val.load rfl Ty.sc210 rfl (fun w h => h.cell 0 rfl rfl)) ?_
 refine WPD.tM 5 rfl rfl rfl rfl (Val.move rfl rfl) ?_
 refine WPD.tM 6 rfl rfl rfl rfl (Val.nilCheck rfl rfl) ?_
 refine WPD.tM 7 rfl rfl rfl rfl (Val.fieldAddr (j := 0) rfl Ty.fo213_0 rfl rfl) ?_
 refine WPD.tL 8 rfl rfl rfl rfl (fun _ h => h) (Val.load rfl Ty.sc210 rfl (fun w h => h.cell 7 rfl rfl)) ?_
 refine WPD.tM 9 rfl rfl rfl rfl (Val.move rfl rfl) ?_
 refine WPD.tM 10 rfl rfl rfl rfl (Val.add (z := ((i + 1 : Nat) : Int)) rfl rfl rfl ((w64 (by omega) (by omega)).trans (by omega))) ?_
 refine WPD.tM 11 rfl rfl rfl rfl (Val.slice (lo := i + 1) (hi := t.is.length) (j := (if cg2 = i + 1 then 0 else 0 + (i + 1) * 2)) (vlo := some (.i64, ((i + 1 : Nat) : Int))) (vhi := none) rfl Ty.sl210 rfl rfl rfl (by simp [bnd]; try omega) (by simp [bnd]; try omega) (by omega) (by omega) (by omega) rfl) ?_
 refine WPD.perm pl1 ?_
 refine WPD.stepC 12 (by kernel_rfl) rfl rfl rfl rfl (by kernel_rfl) (Eff.append (m := t.is.length - (i + 1)) (n0 := 0) (news := flatOf El.cells (t.is.drop (i + 1))) rfl Ty.sl210 Ty.z55 rfl rfl rfl (.slice Ty.sl210 (by rw [flatOf_length El.len, List.length_drop]) (el_one _) (fun w h => cells_range ((h.at 6 rfl).cell_range (flat_range2 El.len (show t.is.drop (i + 1) = [] ∨ (if cg2 = i + 1 then 0 else 0 + (i + 1) * 2) = (i + 1) * 2 by by_cases hq : cg2 = i + 1; exact .inl (List.drop_eq_nil_of_le (by omega)); exact .inr (by rw [if_neg hq]; omega)) List.take_length)))) (by omega) (by omega)) ?_
 rintro v4 _ ⟨onev4, rfl⟩
 refine ⟨_, (fun _ h => h), ?_⟩
 refine WPD.tM 13 rfl rfl rfl rfl (Val.nilCheck rfl rfl) ?_
 refine WPD.tM 14 rfl rfl rfl rfl (Val.fieldAddr (j := 0) rfl Ty.fo213_0 rfl rfl) ?_
 refine WPD.perm pl1 ?_
 refine WPD.stepC0 15 (by kernel_rfl) rfl rfl rfl (by kernel_rfl) (Eff.store rfl Ty.sc210 rfl rfl onev4 (by simp) st0) ?_
 rintro _ _ rfl
 refine ⟨_, (fun _ h => h), ?_⟩
 refine WPD.done (by kernel_rfl) ?_
 refine Out.next ?_
 refine WPc.seq ?_
 refine WPc.perm pl1 ?_
 refine WPc.c1 (B := Own 55 2 v4 ((t.is.drop (i + 1)).length) (flatOf El.cells (t.is.drop (i + 1)))) (fun w h => by rw [Nat.zero_add, List.nil_append, ← List.length_drop] at h; exact h) ?_
 refine WPc.perm pl6 ?_
 refine WPc.conv (fun w h => Sat.ownMk (e := 55) (k := 2) (b := g2) (m := t.is.length) (cap := cg2) (xs := flatOf El.cells t.is) (sp := spg2) (by exact h) hng2 hlg2 hsg2 hcg2) ?_
 refine WPc.region ?_
 refine WP.val rfl rfl rfl (Val.move rfl rfl) ?_
 refine WP.val rfl rfl rfl (Val.nilCheck rfl rfl) ?_
 refine WP.val rfl rfl rfl (Val.fieldAddr (j := 0) rfl Ty.fo213_0 rfl rfl) ?_
 refine WP.val rfl rfl rfl (Val.move rfl rfl) ?_
 refine WP.perm pl7 ?_
 refine WP.eff rfl rfl rfl (Eff.call rfl rfl Try.call122 (truncE p (.slice (some ⟨g2, 0, none⟩) t.is.length cg2) vc (.pointer (some ⟨c, 0, none⟩)) i t.is (by omega) (by omega))) ?_
 rintro _ _ ⟨_, ⟨wi, hwi, rfl⟩, rfl⟩
 show WP _ _ _ _ _ _ _ (Blk p [wi, vc, .pointer (some ⟨c, 0, none⟩)] 213 :: Own 55 2 wi i (flatOf El.cells ((t.is).take i)) :: Own 55 2 v4 ((t.is.drop (i + 1)).length) (flatOf El.cells (t.is.drop (i + 1))) :: Blk pq [v4, w2q, .pointer (some ⟨c, 0, none⟩)] 213 :: _)
 refine WP.nx ?_
 refine WPc.seq ?_
 refine WPc.sr ?_
 refine WP.val rfl rfl rfl (Val.move rfl rfl) ?_
 refine WP.val rfl rfl rfl (Val.nilCheck rfl rfl) ?_
 refine WP.val rfl rfl rfl (Val.fieldAddr (j := 1) rfl Ty.fo213_1 rfl rfl) ?_
 refine WP.val rfl rfl rfl (Val.load rfl Ty.sc211 rfl (fun w h => h.cell 0 rfl rfl)) ?_
 refine WP.val rfl rfl rfl (Val.lenOwn rfl Ty.sl211 rfl (fun w h => h.at 8 rfl)) ?_
 refine WP.val rfl rfl rfl (Val.gtr rfl rfl rfl) ?_
 refine WP.nx ?_
 refine WPc.ifP rfl (fun h1 => ?_) (fun h1 => ?_)
 ·
  have h1 : ((0 : Int) < ((ks.length : Nat) : Int)) := h1
  refine WPc.seq ?_
  refine WPc.perm pl8 ?_
  refine WPc.open (fun w h => h.ownPos (by omega)) ?_
  rintro ⟨g5, cg5, spg5⟩
  refine WPc.pure (fun hvg5 => ?_)
  obtain ⟨rfl, hng5, hlg5, hsg5, hcg5⟩ := hvg5
  dsimp only at hng5 hlg5 hsg5 hcg5
  show WPc _ _ _ _ _ _ (Blk g5 (flatOf vcf (kp ks) ++ spg5) 171 :: Blk p [wi, .slice (some ⟨g5, 0, none⟩) ks.length cg5, .pointer (some ⟨c, 0, none⟩)] 213 :: _)
  refine WPD.s0 Ty.mixed ?_
  refine WPD.tM 0 rfl rfl rfl rfl (Val.move rfl rfl) ?_
  refine WPD.tM 1 rfl rfl rfl rfl (Val.move rfl rfl) ?_
  refine WPD.tM 2 rfl rfl rfl rfl (Val.nilCheck rfl rfl) ?_
  refine WPD.tM 3 rfl rfl rfl rfl (Val.fieldAddr (j := 1) rfl Ty.fo213_1 rfl rfl) ?_
  refine WPD.tL 4 rfl rfl rfl rfl (fun _ h => h) (Val.load rfl Ty.sc211 rfl (fun w h => h.cell 4 rfl rfl)) ?_
  refine WPD.tM 5 rfl rfl rfl rfl (Val.move rfl rfl) ?_
  refine WPD.tM 6 rfl rfl rfl rfl (Val.nilCheck rfl rfl) ?_
  refine WPD.tM 7 rfl rfl rfl rfl (Val.fieldAddr (j := 1) rfl Ty.fo213_1 rfl rfl) ?_
  refine WPD.tL 8 rfl rfl rfl rfl (fun _ h => h) (Val.load rfl Ty.sc211 rfl (fun w h => h.cell 1 rfl rfl)) ?_
  refine WPD.tM 9 rfl rfl rfl rfl (Val.move rfl rfl) ?_
  refine WPD.tM 10 rfl rfl rfl rfl (Val.add (z := ((i + 1 : Nat) : Int)) rfl rfl rfl ((w64 (by omega) (by omega)).trans (by omega))) ?_
  refine WPD.tM 11 rfl rfl rfl rfl (Val.slice (lo := i + 1) (hi := ks.length) (j := (if cg5 = i + 1 then 0 else 0 + (i + 1))) (vlo := some (.i64, ((i + 1 : Nat) : Int))) (vhi := none) rfl Ty.sl211 rfl rfl rfl (by simp [bnd]; try omega) (by simp [bnd]; try omega) (by omega) (by omega) (by omega) (by simp)) ?_
  refine WPD.perm pl5 ?_
  refine WPD.stepC 12 (by kernel_rfl) rfl rfl rfl rfl (by kernel_rfl) (Eff.append (m := ks.length - (i + 1)) (n0 := 0) (news := flatOf vcf ((kp ks).drop (i + 1))) rfl Ty.sl211 Ty.z171 rfl rfl rfl (.slice Ty.sl211 (by rw [flatOf_length vcf_len, List.length_drop, kp_len]) (v_one (fun x hx => kp_one _ x (List.mem_of_mem_drop hx))) (fun w h => cells_range ((h.at 1 rfl).cell_range (flat_range2 vcf_len (show (kp ks).drop (i + 1) = [] ∨ (if cg5 = i + 1 then 0 else 0 + (i + 1)) = (i + 1) * 1 by by_cases hq : cg5 = i + 1; exact .inl (List.drop_eq_nil_of_le (by rw [kp_len]; omega)); exact .inr (by rw [if_neg hq]; omega)) List.take_length)))) (by omega) (by omega)) ?_
  rintro v6 _ ⟨onev6, rfl⟩
  refine ⟨_, (fun _ h => h), ?_⟩
  refine WPD.tM 13 rfl rfl rfl rfl (Val.nilCheck rfl rfl) ?_
  refine WPD.tM 14 rfl rfl rfl rfl (Val.fieldAddr (j := 1) rfl Ty.fo213_1 rfl rfl) ?_
  refine WPD.perm pl5 ?_
  refine WPD.stepC0 15 (by kernel_rfl) rfl rfl rfl (by kernel_rfl) (Eff.store rfl Ty.sc211 rfl rfl onev6 (by simp) st1) ?_
  rintro _ _ rfl
  refine ⟨_, (fun _ h => h), ?_⟩
  refine WPD.done (by kernel_rfl) ?_
  refine Out.next ?_
  refine WPc.perm pl1 ?_
  refine WPc.c1 (B := Own 171 1 v6 ((ks.drop (i + 1)).length) (flatOf vcf (kp (ks.drop (i + 1))))) (fun w h => by rw [Nat.zero_add, List.nil_append, ← List.length_drop, kp_drop] at h; exact h) ?_
  refine WPc.perm pl2 ?_
  refine WPc.conv (fun w h => Sat.ownMk (e := 171) (k := 1) (b := g5) (m := ks.length) (cap := cg5) (xs := flatOf vcf (kp ks)) (sp := spg5) (by exact h) hng5 hlg5 hsg5 hcg5) ?_
  refine WPc.region ?_
  refine WP.val rfl rfl rfl (Val.move rfl rfl) ?_
  refine WP.val rfl rfl rfl (Val.nilCheck rfl rfl) ?_
  refine WP.val rfl rfl rfl (Val.fieldAddr (j := 1) rfl Ty.fo213_1 rfl rfl) ?_
  refine WP.val rfl rfl rfl (Val.move rfl rfl) ?_
  refine WP.val rfl rfl rfl (Val.add (z := ((i + 1 : Nat) : Int)) rfl rfl rfl ((w64 (by omega) (by omega)).trans (by omega))) ?_
  refine WP.c1 (B := Own 171 1 (.slice (some ⟨g5, 0, none⟩) ks.length cg5) (((kp ks)).length) (flatOf vcf (kp ks))) (fun w h => by rw [kp_len]; exact h) ?_
  refine WP.perm pl3 ?_
  refine WP.eff rfl rfl rfl (Eff.call rfl rfl Try.call123 (truncP p wi (.slice (some ⟨g5, 0, none⟩) ks.length cg5) (.pointer (some ⟨c, 0, none⟩)) (i + 1) ((kp ks)) (kp_one _) (by rw [kp_len]; omega) (by rw [kp_len]; omega))) ?_
  rintro _ _ ⟨_, ⟨wc, hwc, rfl⟩, rfl⟩
  show WP _ _ _ _ _ _ _ (Blk p [wi, wc, .pointer (some ⟨c, 0, none⟩)] 213 :: Own 171 1 wc (i + 1) (flatOf vcf (((kp ks)).take (i + 1))) :: Own 171 1 v6 ((ks.drop (i + 1)).length) (flatOf vcf (kp (ks.drop (i + 1)))) :: Blk pq [v4, v6, .pointer (some ⟨c, 0, none⟩)] 213 :: _)
  refine WP.nx ?_
  refine WPc.sr ?_
  refine WP.val rfl rfl rfl (Val.loadAgg (cs := [.int .i64 (x.k), .int .i64 (x.v)]) rfl Ty.ag55 rfl rfl (fun w h => h.range 8 rfl rfl)) ?_
  refine WP.val rfl rfl rfl (Val.move rfl rfl) ?_
  refine WP.perm pl10 ?_
  refine WP.eff0 rfl rfl (Eff.storeAgg (cs := [.int .i64 (x.k), .int .i64 (x.v)]) (C' := [.int .i64 (x.k), .int .i64 (x.v)]) rfl Ty.ag55 rfl rfl rfl rfl (by simp) rfl) ?_
  rintro _ _ rfl
  refine WP.val rfl rfl rfl (Val.assign rfl rfl) ?_
  refine WP.nx ?_
  refine WPc.ret ?_
  refine Out.perm pl10 ?_
  have hcut : ks = ks.take (i + 1) ++ ks.drop (i + 1) := (List.take_append_drop _ _).symm
  refine Out.conv (fun w h => Sat.kApp (by rw [← hcut]; exact h)) ?_
  refine Out.perm pl4 ?_
  refine Out.c1 (B := Own 171 1 wc ((ks.take (i + 1)).length) (flatOf vcf (kp (ks.take (i + 1))))) (fun w h => by rw [List.length_take, Nat.min_eq_left (by omega), ← kp_take]; exact h) ?_
  refine Out.perm pl7 ?_
  refine Out.c1 (B := Own 55 2 wi ((t.is.take i).length) (flatOf El.cells (t.is.take i))) (fun w h => by rw [List.length_take, Nat.min_eq_left (by omega)]; exact h) ?_
  iterate 3 (refine Out.perm pl2 ?_)
  refine Out.perm pl5 ?_
  refine Out.conv (fun w h => Sat.ndMk (c := c) (h := ht) (t := (Tr.nd (t.is.take i) (t.ks.take (i + 1)))) (ks := ks.take (i + 1)) (by rw [tr_ks, ← hk]; simp) (fun h0 => by have := hl h0; first | rfl | exact this | (rw [this]; rfl) | (simp [this])) h) ?_
  show Out _ _ _ _ _ (Nd c ht (p, (Tr.nd (t.is.take i) (t.ks.take (i + 1)))) :: Kds (Rk c ht) (ks.drop (i + 1)) :: Blk b1 [.int .i64 (x.k), .int .i64 (x.v)] 55 :: _)
  refine Out.perm pl1 ?_
  refine Out.perm pl3 ?_
  refine Out.perm pl5 ?_
  refine Out.perm pl5 ?_
  refine Out.conv (fun w h => Sat.ndMk (c := c) (h := ht) (t := (Tr.nd (t.is.drop (i + 1)) (t.ks.drop (i + 1)))) (ks := ks.drop (i + 1)) (by rw [tr_ks, ← hk]; simp) (fun h0 => by have := hl h0; first | rfl | exact this | (rw [this]; rfl) | (simp [this])) h) ?_
  show Out _ _ _ _ _ (Nd c ht (pq, (Tr.nd (t.is.drop (i + 1)) (t.ks.drop (i + 1)))) :: _)
  refine Out.perm pl5 ?_
  refine Out.drop ?_
  refine Out.perm pl4 ?_
  refine Out.perm pl4 ?_
  refine Out.perm pl2 ?_
  refine Out.perm pl3 ?_
  refine Out.perm pl4 ?_
  exact Out.retRun (L' := _) (results_ct Try.results102 rfl Ty.ag55 rfl rfl (fun w h => h.range 0 rfl rfl)) ⟨_, rfl, rfl⟩ (fun w h => h.drop)
 ·
  have h1 : ¬ ((0 : Int) < ((ks.length : Nat) : Int)) := h1
  refine WPc.skip ?_
  refine Out.next ?_
  refine WPc.sr ?_
  refine WP.val rfl rfl rfl (Val.loadAgg (cs := [.int .i64 (x.k), .int .i64 (x.v)]) rfl Ty.ag55 rfl rfl (fun w h => h.range 7 rfl rfl)) ?_
  refine WP.val rfl rfl rfl (Val.move rfl rfl) ?_
  refine WP.perm pl10 ?_
  refine WP.eff0 rfl rfl (Eff.storeAgg (cs := [.int .i64 (x.k), .int .i64 (x.v)]) (C' := [.int .i64 (x.k), .int .i64 (x.v)]) rfl Ty.ag55 rfl rfl rfl rfl (by simp) rfl) ?_
  rintro _ _ rfl
  refine WP.val rfl rfl rfl (Val.assign rfl rfl) ?_
  refine WP.nx ?_
  refine WPc.ret ?_
  have hks0 : ks = [] := List.eq_nil_of_length_eq_zero (by omega)
  have htk0 : t.ks = [] := by rw [← hk, hks0]; rfl
  refine Out.conv (fun w h => Sat.kNil (R := Rk c ht) h) ?_
  refine Out.perm pl3 ?_
  refine Out.c1 (B := Own 55 2 wi ((t.is.take i).length) (flatOf El.cells (t.is.take i))) (fun w h => by rw [List.length_take, Nat.min_eq_left (by omega)]; exact h) ?_
  refine Out.perm pl11 ?_
  refine Out.perm pl11 ?_
  refine Out.perm pl2 ?_
  refine Out.perm pl5 ?_
  refine Out.conv (fun w h => Sat.ndMk (c := c) (h := ht) (t := (Tr.nd (t.is.take i) (t.ks.take (i + 1)))) (ks := ks) (by rw [tr_ks, htk0]; simp [hks0]) (fun h0 => by have := hl h0; first | rfl | exact this | (rw [this]; rfl) | (simp [this])) h) ?_
  show Out _ _ _ _ _ (Nd c ht (p, (Tr.nd (t.is.take i) (t.ks.take (i + 1)))) :: Kds (Rk c ht) [] :: Blk b1 [.int .i64 (x.k), .int .i64 (x.v)] 55 :: _)
  refine Out.perm pl1 ?_
  refine Out.perm pl5 ?_
  refine Out.perm pl4 ?_
  refine Out.perm pl5 ?_
  refine Out.conv (fun w h => Sat.ndMk (c := c) (h := ht) (t := (Tr.nd (t.is.drop (i + 1)) (t.ks.drop (i + 1)))) (ks := []) (by rw [tr_ks, htk0]; simp [hks0]) (fun h0 => by have := hl h0; first | rfl | exact this | (rw [this]; rfl) | (simp [this])) h) ?_
  show Out _ _ _ _ _ (Nd c ht (pq, (Tr.nd (t.is.drop (i + 1)) (t.ks.drop (i + 1)))) :: _)
  refine Out.perm pl5 ?_
  refine Out.drop ?_
  refine Out.perm pl4 ?_
  refine Out.perm pl4 ?_
  refine Out.perm pl2 ?_
  refine Out.perm pl3 ?_
  refine Out.perm pl4 ?_
  exact Out.retRun (L' := _) (results_ct Try.results102 rfl Ty.ag55 rfl rfl (fun w h => h.range 0 rfl rfl)) ⟨_, rfl, rfl⟩ (fun w h => h.drop)

theorem kp_same {ks : List (Nat × Tr)} {i pk : Nat} {tk : Tr} (h : ks[i]? = some (pk, tk)) : (kp ks).set i (.pointer (some ⟨pk, 0, none⟩)) = kp ks := by
 apply List.ext_getElem?
 intro j
 rw [List.getElem?_set]
 split
 ·
  rename_i e; subst e
  rw [if_pos (by rw [kp_len]; exact (List.getElem?_eq_some_iff.1 h).1), kp_at h]
 ·
  rfl
set_option maxRecDepth 100000 in
set_option maxHeartbeats 2000000 in
theorem mchild_spec (c ht p i : Nat) (vi vc : Value) (ks : List (Nat × Tr)) (pk : Nat) (tk : Tr) (hx : ks[i]? = some (pk, tk)) (h6 : ks.length ≤ 1000000) : Does Try.prog 127 [.pointer (some ⟨p, 0, none⟩), .int .i64 (((i : Nat) : Int))] [Blk p [vi, vc, .pointer (some ⟨c, 0, none⟩)] 213, Own 171 1 vc ks.length (flatOf vcf (kp ks)), Kds (Rk c (ht + 1)) ks] (fun v L => v = .pointer (some ⟨pk, 0, none⟩) ∧ L = [Blk p [vi, vc, .pointer (some ⟨c, 0, none⟩)] 213, Own 171 1 vc ks.length (flatOf vcf (kp ks)), Kds (Rk c (ht + 1)) ks]) := by
 refine Does.enter 26 Try.func127 rfl rfl rfl fun W F => ?_
 show WPc _ _ _ _ _ [(0, .pointer (some ⟨p, 0, none⟩)), (1, .int .i64 (((i : Nat) : Int)))] (Blk p [vi, vc, .pointer (some ⟨c, 0, none⟩)] 213 :: Own 171 1 vc ks.length (flatOf vcf (kp ks)) :: Kds (Rk c (ht + 1)) ks :: F)
 refine WPc.sr ?_
 refine WP.val rfl rfl rfl (Val.assign rfl rfl) ?_
 refine WP.nx ?_
 refine WPc.seq ?_
 have hi : i < ks.length := (List.getElem?_eq_some_iff.1 hx).1
 have hka := kp_at hx
 refine WPc.perm pl1 ?_
 refine WPc.open (fun w h => h.ownPos (by omega)) ?_
 rintro ⟨g1, cg1, spg1⟩
 refine WPc.pure (fun hvg1 => ?_)
 obtain ⟨rfl, hng1, hlg1, hsg1, hcg1⟩ := hvg1
 dsimp only at hng1 hlg1 hsg1 hcg1
 show WPc _ _ _ _ _ _ (Blk g1 (flatOf vcf (kp ks) ++ spg1) 171 :: Blk p [vi, .slice (some ⟨g1, 0, none⟩) ks.length cg1, .pointer (some ⟨c, 0, none⟩)] 213 :: _)
 refine WPc.perm pl2 ?_
 refine WPc.conv (fun w h => Sat.kOut (R := Rk c (ht + 1)) hx h) ?_
 show WPc _ _ _ _ _ _ (Nd c ht (pk, tk) :: Kds (Rk c (ht + 1)) (ks.take i ++ ks.drop (i + 1)) :: _)
 refine WPc.open (fun w h => h.ndOpen) ?_
 rintro ⟨vix, vcx, ksx⟩
 refine WPc.pure (fun hkx => ?_)
 obtain ⟨hkx, hlx⟩ := hkx
 dsimp only at hkx hlx
 have hklx := ks_len hkx
 show WPc _ _ _ _ _ _ (Blk pk [vix, vcx, .pointer (some ⟨c, 0, none⟩)] 213 :: Own 55 2 vix tk.is.length (flatOf El.cells tk.is) :: Own 171 1 vcx ksx.length (flatOf vcf (kp ksx)) :: Kds (Rk c ht) ksx :: _)
 refine WPD.s0 Ty.mixed ?_
 refine WPD.tM 0 rfl rfl rfl rfl (Val.move rfl rfl) ?_
 refine WPD.tM 1 rfl rfl rfl rfl (Val.nilCheck rfl rfl) ?_
 refine WPD.tM 2 rfl rfl rfl rfl (Val.fieldAddr (j := 1) rfl Ty.fo213_1 rfl rfl) ?_
 refine WPD.tL 3 rfl rfl rfl rfl (fun _ h => h) (Val.load rfl Ty.sc211 rfl (fun w h => h.cell 6 rfl rfl)) ?_
 refine WPD.tM 4 rfl rfl rfl rfl (Val.move rfl rfl) ?_
 refine WPD.tM 5 rfl rfl rfl rfl (Val.indexAddr (j := i) (q := i) rfl Ty.sl211 rfl rfl (by omega) (by omega) (by omega)) ?_
 refine WPD.tL 6 rfl rfl rfl rfl (fun _ h => h) (Val.load (v := .pointer (some ⟨pk, 0, none⟩)) rfl Ty.sc171 rfl (fun w h => ((h.at 5 rfl).cell _).trans (vflat_at hka))) ?_
 refine WPD.tM 7 rfl rfl rfl rfl (Val.move rfl rfl) ?_
 refine WPD.tM 8 rfl rfl rfl rfl (Val.nilCheck rfl rfl) ?_
 refine WPD.tM 9 rfl rfl rfl rfl (Val.fieldAddr (j := 2) rfl Ty.fo213_2 rfl rfl) ?_
 refine WPD.tL 10 rfl rfl rfl rfl (fun _ h => h) (Val.load rfl Ty.sc172 rfl (fun w h => h.cell 6 rfl rfl)) ?_
 refine WPD.stepC 11 (by kernel_rfl) rfl rfl rfl rfl (by kernel_rfl) (Eff.call rfl rfl Try.call100 (mut_spec c pk vix vcx)) ?_
 rintro _ _ ⟨_, ⟨rfl, rfl⟩, rfl⟩
 refine ⟨_, (fun _ h => h), ?_⟩
 refine WPD.tM 12 rfl rfl rfl rfl (Val.assign rfl rfl) ?_
 refine WPD.done (by kernel_rfl) ?_
 refine Out.next ?_
 refine WPc.sr ?_
 refine WP.val rfl rfl rfl (Val.move rfl rfl) ?_
 refine WP.val rfl rfl rfl (Val.nilCheck rfl rfl) ?_
 refine WP.val rfl rfl rfl (Val.fieldAddr (j := 1) rfl Ty.fo213_1 rfl rfl) ?_
 refine WP.val rfl rfl rfl (Val.load rfl Ty.sc211 rfl (fun w h => h.cell 6 rfl rfl)) ?_
 refine WP.val rfl rfl rfl (Val.move rfl rfl) ?_
 refine WP.val rfl rfl rfl (Val.move rfl rfl) ?_
 refine WP.val rfl rfl rfl (Val.indexAddr (j := i) (q := i) rfl Ty.sl211 rfl rfl (by omega) (by omega) (by omega)) ?_
 refine WP.perm pl5 ?_
 refine WP.eff0 rfl rfl (Eff.store (C' := flatOf vcf (kp ks) ++ spg1) rfl Ty.sc171 rfl rfl rfl (by rw [List.length_append, flat_vcf, kp_len]; omega) (by rw [List.set_append_left _ _ (by rw [flat_vcf, kp_len]; omega), flat_vcf, kp_same hx])) ?_
 rintro _ _ rfl
 refine WP.nx ?_
 refine WPc.sr ?_
 refine WP.val rfl rfl rfl (Val.move rfl rfl) ?_
 refine WP.val rfl rfl rfl (Val.assign rfl rfl) ?_
 refine WP.nx ?_
 refine WPc.ret ?_
 iterate 4 (refine Out.perm pl4 ?_)
 refine Out.conv (fun w h => Sat.ndMk (c := c) (h := ht) (t := tk) (ks := ksx) hkx hlx h) ?_
 show Out _ _ _ _ _ (Nd c ht (pk, tk) :: _)
 refine Out.perm pl2 ?_
 refine Out.perm pl1 ?_
 refine Out.conv (fun w h => (by have h9 := Sat.kIn (R := Rk c (ht + 1)) (x := (pk, tk)) (ks := ks) (i := i) h; rw [← split_at hx] at h9; exact h9)) ?_
 show Out _ _ _ _ _ (Kds (Rk c (ht + 1)) ks :: _)
 refine Out.perm pl1 ?_
 refine Out.conv (fun w h => Sat.ownMk (e := 171) (k := 1) (b := g1) (m := ks.length) (cap := cg1) (xs := flatOf vcf (kp ks)) (sp := spg1) (by exact h) hng1 hlg1 hsg1 hcg1) ?_
 refine Out.perm pl1 ?_
 refine Out.perm pl1 ?_
 refine Out.perm pl2 ?_
 exact Out.ret1 (L' := _) Try.results127 rfl ⟨rfl, rfl⟩ (fun _ h => h)

end Go.Proofs.Ythmkdioafjmclaa.Bt5
