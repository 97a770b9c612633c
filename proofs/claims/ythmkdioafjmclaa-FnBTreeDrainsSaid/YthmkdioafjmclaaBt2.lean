import Derived.Test.YthmkdioafjmclaaSlTerse
import Derived.Test.YthmkdioafjmclaaBt
namespace Go.Proofs.Ythmkdioafjmclaa.Bt2
open Go.RowKit Go.Proofs.Ythmkdioafjmclaa Go.Proofs.Ythmkdioafjmclaa.Sl Go.Proofs.Ythmkdioafjmclaa.Bt
set_option linter.unusedVariables false
set_option linter.unusedSimpArgs false
set_option linter.unusedSectionVars false

set_option maxRecDepth 100000 in
set_option maxHeartbeats 2000000 in
theorem popE_row (p : Nat) (vc vw : Value) (x : El) (xs : List El)  (hp0 : 0 < xs.length) (hx : xs[xs.length - 1]? = some x) (b cap : Nat) (sp : List Value) (hn : xs.length ≤ cap) (hsp : sp.length = (cap - xs.length) * 2) (hcap : cap ≤ maxLen) (hx6 : xs.length ≤ 1000000) : Does Try.prog 139 [.pointer (some ⟨p, 0, none⟩)] [Blk p [.slice (some ⟨b, 0, none⟩) xs.length cap, vc, vw] 213, Blk b (flatOf El.cells xs ++ sp) 55] (fun v L => ∃ v2, v2.oneCell' = true ∧ v = .agg #[.int .i64 x.k, .int .i64 x.v] ∧ L = [Blk p [v2, vc, vw] 213, Own 55 2 v2 (xs.length - 1) (flatOf El.cells (xs.take (xs.length - 1)))]) := by
 refine Does.enter 29 Try.func139 rfl rfl rfl fun W F => ?_
 show WPc _ _ _ _ _ [(0, .pointer (some ⟨p, 0, none⟩))] (Blk p [.slice (some ⟨b, 0, none⟩) xs.length cap, vc, vw] 213 :: Blk b (flatOf El.cells xs ++ sp) 55 :: F)
 refine WPc.sr ?_
 refine WP.eff rfl rfl rfl (Eff.alloc rfl Ty.z55) ?_
 rintro _ _ ⟨b1, rfl, rfl⟩
 refine WP.nx ?_
 refine WPc.sr ?_
 refine WP.val rfl rfl rfl (Val.move rfl rfl) ?_
 refine WP.val rfl rfl rfl (Val.nilCheck rfl rfl) ?_
 refine WP.val rfl rfl rfl (Val.load rfl Ty.sc210 rfl (fun w h => h.cell 1 rfl rfl)) ?_
 refine WP.val rfl rfl rfl (Val.len rfl Ty.sl210 rfl) ?_
 refine WP.val rfl rfl rfl (Val.sub (z := ((xs.length - 1 : Nat) : Int)) rfl rfl rfl ((w64 (by omega) (by omega)).trans (by omega))) ?_
 refine WP.val rfl rfl rfl (Val.assign rfl rfl) ?_
 refine WP.nx ?_
 refine WPc.sr ?_
 refine WP.val rfl rfl rfl (Val.move rfl rfl) ?_
 refine WP.val rfl rfl rfl (Val.nilCheck rfl rfl) ?_
 refine WP.val rfl rfl rfl (Val.load rfl Ty.sc210 rfl (fun w h => h.cell 1 rfl rfl)) ?_
 refine WP.val rfl rfl rfl (Val.move rfl rfl) ?_
 refine WP.val rfl rfl rfl (Val.indexAddr (j := xs.length - 1) (q := (xs.length - 1) * 2) rfl Ty.sl210 rfl rfl (by omega) (by omega) (by omega)) ?_
 refine WP.val rfl rfl rfl (Val.loadAgg (cs := [.int .i64 (x.k), .int .i64 (x.v)]) rfl Ty.ag55 rfl (by rfl) (fun w h => (h.at 2 rfl).cell_range (flatOf_range El.len hx))) ?_
 refine WP.eff0 rfl rfl (Eff.storeAgg (cs := [.int .i64 (x.k), .int .i64 (x.v)]) (C' := [.int .i64 (x.k), .int .i64 (x.v)]) rfl Ty.ag55 rfl rfl rfl rfl (by simp) rfl) ?_
 rintro _ _ rfl
 refine WP.nx ?_
 refine WPc.sr ?_
 refine WP.eff rfl rfl rfl (Eff.alloc rfl Ty.z55) ?_
 rintro _ _ ⟨b2, rfl, rfl⟩
 refine WP.nx ?_
 refine WPc.seq ?_
 refine WPD.s0 Ty.mixed ?_
 refine WPD.tM 0 rfl rfl rfl rfl (Val.move rfl rfl) ?_
 refine WPD.tM 1 rfl rfl rfl rfl (Val.nilCheck rfl rfl) ?_
 refine WPD.tL 2 rfl rfl rfl rfl (fun _ h => h) (Val.load rfl Ty.sc210 rfl (fun w h => h.cell 2 rfl rfl)) ?_
 refine WPD.tM 3 rfl rfl rfl rfl (Val.move rfl rfl) ?_
 refine WPD.tL 4 rfl rfl rfl rfl (fun _ h => h) (Val.loadAgg (cs := [.int .i64 0, .int .i64 0]) rfl Ty.ag55 rfl rfl (fun w h => h.range 0 rfl rfl)) ?_
 refine WPD.tM 5 rfl rfl rfl rfl (Val.indexAddr (j := xs.length - 1) (q := (xs.length - 1) * 2) rfl Ty.sl210 rfl rfl (by omega) (by omega) (by omega)) ?_
 refine WPD.perm pl3 ?_
 refine WPD.stepC0 6 (by kernel_rfl) rfl rfl rfl (by kernel_rfl) (Eff.storeAgg (cs := [.int .i64 0, .int .i64 0]) (C' := flatOf El.cells (xs.set (xs.length - 1) El0) ++ sp) rfl Ty.ag55 rfl rfl rfl rfl (by rw [List.length_append, flatOf_length El.len]; omega) (flat_set El.len xs (xs.length - 1) El0 sp (by omega))) ?_
 rintro _ _ rfl
 refine ⟨_, (fun _ h => h), ?_⟩
 refine WPD.done (by kernel_rfl) ?_
 refine Out.next ?_
 refine WPc.sr ?_
 refine WP.val rfl rfl rfl (Val.move rfl rfl) ?_
 refine WP.val rfl rfl rfl (Val.move rfl rfl) ?_
 refine WP.val rfl rfl rfl (Val.nilCheck rfl rfl) ?_
 refine WP.val rfl rfl rfl (Val.load rfl Ty.sc210 rfl (fun w h => h.cell 3 rfl rfl)) ?_
 refine WP.val rfl rfl rfl (Val.move rfl rfl) ?_
 refine WP.val rfl rfl rfl (Val.slice (lo := 0) (hi := xs.length - 1) (j := 0) (vlo := none) (vhi := some (.i64, ((xs.length - 1 : Nat) : Int))) rfl Ty.sl210 rfl rfl rfl (by simp [bnd]) (by simp [bnd]; try omega) (by omega) (by omega) (by omega) (by simp)) ?_
 refine WP.val rfl rfl rfl (Val.nilCheck rfl rfl) ?_
 refine WP.perm pl3 ?_
 refine WP.eff0 rfl rfl (Eff.store rfl Ty.sc210 rfl rfl rfl (by simp) st0) ?_
 rintro _ _ rfl
 refine WP.nx ?_
 refine WPc.ret ?_
 refine Out.perm pl1 ?_
 refine Out.conv (fun w h => Sat.ownMk (e := 55) (k := 2) (b := b) (m := xs.length - 1) (cap := cap) (xs := flatOf El.cells (xs.take (xs.length - 1))) (sp := flatOf El.cells ((xs.set (xs.length - 1) El0).drop (xs.length - 1)) ++ sp) (by rw [← List.append_assoc, ← List.take_set_of_le (Nat.le_refl _) (a := El0), ← flatOf_append, List.take_append_drop]; exact h) (by omega) (by rw [flatOf_length El.len, List.length_take, Nat.min_eq_left (by omega)]) (by rw [List.length_append, flatOf_length El.len, List.length_drop, List.length_set, hsp, ← Nat.add_mul]; congr 1; omega) hcap) ?_
 refine Out.perm pl2 ?_
 refine Out.drop ?_
 refine Out.perm pl1 ?_
 refine Out.perm pl2 ?_
 exact Out.retRun (L' := _) (results_cell (cs := [.int .i64 (x.k), .int .i64 (x.v)]) Try.results139 Ty.ag55 rfl rfl (fun w h => h.range 0 rfl rfl)) ⟨_, rfl, rfl, rfl⟩ (fun w h => h.drop)

theorem popE (p : Nat) (vi vc vw : Value) (x : El) (xs : List El)  (hp0 : 0 < xs.length) (hx : xs[xs.length - 1]? = some x) (hx6 : xs.length ≤ 1000000) : Does Try.prog 139 [.pointer (some ⟨p, 0, none⟩)] [Blk p [vi, vc, vw] 213, Own 55 2 vi xs.length (flatOf El.cells xs)] (fun v L => ∃ v2, v2.oneCell' = true ∧ v = .agg #[.int .i64 x.k, .int .i64 x.v] ∧ L = [Blk p [v2, vc, vw] 213, Own 55 2 v2 (xs.length - 1) (flatOf El.cells (xs.take (xs.length - 1)))]) := by
 intro W F w hs
 rcases (hs.perm pl1).own with ⟨rfl, e0, -, h2⟩ | ⟨b, cap, sp, rfl, q1, q2, q3, q4, q5⟩
 ·
  exfalso; first | omega | (have := (List.getElem?_eq_some_iff.1 hx).1; omega)
 ·
  exact popE_row p vc vw x xs  hp0 hx b cap sp q1 (by simpa using q3) q4 hx6 W F w (q5.perm pl1)
set_option maxRecDepth 100000 in
set_option maxHeartbeats 2000000 in
theorem popP_row (p : Nat) (vi vw : Value) (x : Value) (xs : List Value) (hone1 : ∀ x ∈ xs, x.oneCell' = true) (hp0 : 0 < xs.length) (hx : xs[xs.length - 1]? = some x) (b cap : Nat) (sp : List Value) (hn : xs.length ≤ cap) (hsp : sp.length = (cap - xs.length) * 1) (hcap : cap ≤ maxLen) (hx6 : xs.length ≤ 1000000) : Does Try.prog 143 [.pointer (some ⟨p, 1, none⟩)] [Blk p [vi, .slice (some ⟨b, 0, none⟩) xs.length cap, vw] 213, Blk b (flatOf vcf xs ++ sp) 171] (fun v L => ∃ v2, v2.oneCell' = true ∧ v = x ∧ L = [Blk p [vi, v2, vw] 213, Own 171 1 v2 (xs.length - 1) (flatOf vcf (xs.take (xs.length - 1)))]) := by
 refine Does.enter 29 Try.func143 rfl rfl rfl fun W F => ?_
 show WPc _ _ _ _ _ [(0, .pointer (some ⟨p, 1, none⟩))] (Blk p [vi, .slice (some ⟨b, 0, none⟩) xs.length cap, vw] 213 :: Blk b (flatOf vcf xs ++ sp) 171 :: F)
 refine WPc.sr ?_
 refine WP.val rfl rfl rfl (Val.assign rfl rfl) ?_
 refine WP.nx ?_
 refine WPc.sr ?_
 refine WP.val rfl rfl rfl (Val.move rfl rfl) ?_
 refine WP.val rfl rfl rfl (Val.nilCheck rfl rfl) ?_
 refine WP.val rfl rfl rfl (Val.load rfl Ty.sc211 rfl (fun w h => h.cell 0 rfl rfl)) ?_
 refine WP.val rfl rfl rfl (Val.len rfl Ty.sl211 rfl) ?_
 refine WP.val rfl rfl rfl (Val.sub (z := ((xs.length - 1 : Nat) : Int)) rfl rfl rfl ((w64 (by omega) (by omega)).trans (by omega))) ?_
 refine WP.val rfl rfl rfl (Val.assign rfl rfl) ?_
 refine WP.nx ?_
 refine WPc.sr ?_
 refine WP.val rfl rfl rfl (Val.move rfl rfl) ?_
 refine WP.val rfl rfl rfl (Val.nilCheck rfl rfl) ?_
 refine WP.val rfl rfl rfl (Val.load rfl Ty.sc211 rfl (fun w h => h.cell 0 rfl rfl)) ?_
 refine WP.val rfl rfl rfl (Val.move rfl rfl) ?_
 refine WP.val rfl rfl rfl (Val.indexAddr (j := xs.length - 1) (q := xs.length - 1) rfl Ty.sl211 rfl rfl (by omega) (by omega) (by omega)) ?_
 refine WP.val rfl rfl rfl (Val.load (v := x) rfl Ty.sc171 rfl (fun w h => ((h.at 1 rfl).cell _).trans (vflat_at hx))) ?_
 refine WP.val rfl rfl rfl (Val.assign rfl rfl) ?_
 refine WP.nx ?_
 refine WPc.sr ?_
 refine WP.val rfl rfl rfl (Val.assign rfl rfl) ?_
 refine WP.nx ?_
 refine WPc.sr ?_
 refine WP.val rfl rfl rfl (Val.move rfl rfl) ?_
 refine WP.val rfl rfl rfl (Val.nilCheck rfl rfl) ?_
 refine WP.val rfl rfl rfl (Val.load rfl Ty.sc211 rfl (fun w h => h.cell 0 rfl rfl)) ?_
 refine WP.val rfl rfl rfl (Val.move rfl rfl) ?_
 refine WP.val rfl rfl rfl (Val.move rfl rfl) ?_
 refine WP.val rfl rfl rfl (Val.indexAddr (j := xs.length - 1) (q := xs.length - 1) rfl Ty.sl211 rfl rfl (by omega) (by omega) (by omega)) ?_
 refine WP.perm pl1 ?_
 refine WP.eff0 rfl rfl (Eff.store (C' := flatOf vcf (xs.set (xs.length - 1) VP) ++ sp) rfl Ty.sc171 rfl rfl rfl (by rw [List.length_append, flatOf_length vcf_len]; omega) (by rw [List.set_append_left _ _ (by rw [flat_vcf]; omega), flat_vcf, flat_vcf]; rfl)) ?_
 rintro _ _ rfl
 refine WP.nx ?_
 refine WPc.sr ?_
 refine WP.val rfl rfl rfl (Val.move rfl rfl) ?_
 refine WP.val rfl rfl rfl (Val.move rfl rfl) ?_
 refine WP.val rfl rfl rfl (Val.nilCheck rfl rfl) ?_
 refine WP.val rfl rfl rfl (Val.load rfl Ty.sc211 rfl (fun w h => h.cell 1 rfl rfl)) ?_
 refine WP.val rfl rfl rfl (Val.move rfl rfl) ?_
 refine WP.val rfl rfl rfl (Val.slice (lo := 0) (hi := xs.length - 1) (j := 0) (vlo := none) (vhi := some (.i64, ((xs.length - 1 : Nat) : Int))) rfl Ty.sl211 rfl rfl rfl (by simp [bnd]) (by simp [bnd]; try omega) (by omega) (by omega) (by omega) (by simp)) ?_
 refine WP.val rfl rfl rfl (Val.nilCheck rfl rfl) ?_
 refine WP.perm pl1 ?_
 refine WP.eff0 rfl rfl (Eff.store rfl Ty.sc211 rfl rfl rfl (by simp) st1) ?_
 rintro _ _ rfl
 refine WP.nx ?_
 refine WPc.ret ?_
 refine Out.perm pl1 ?_
 refine Out.conv (fun w h => Sat.ownMk (e := 171) (k := 1) (b := b) (m := xs.length - 1) (cap := cap) (xs := flatOf vcf (xs.take (xs.length - 1))) (sp := flatOf vcf ((xs.set (xs.length - 1) VP).drop (xs.length - 1)) ++ sp) (by rw [← List.append_assoc, ← List.take_set_of_le (Nat.le_refl _) (a := VP), ← flatOf_append, List.take_append_drop]; exact h) (by omega) (by rw [flatOf_length vcf_len, List.length_take, Nat.min_eq_left (by omega)]) (by rw [List.length_append, flatOf_length vcf_len, List.length_drop, List.length_set, hsp, ← Nat.add_mul]; congr 1; omega) hcap) ?_
 refine Out.perm pl1 ?_
 exact Out.ret1 (L' := _) Try.results143 rfl ⟨_, rfl, rfl, rfl⟩ (fun _ h => h)

theorem popP (p : Nat) (vi vc vw : Value) (x : Value) (xs : List Value) (hone1 : ∀ x ∈ xs, x.oneCell' = true) (hp0 : 0 < xs.length) (hx : xs[xs.length - 1]? = some x) (hx6 : xs.length ≤ 1000000) : Does Try.prog 143 [.pointer (some ⟨p, 1, none⟩)] [Blk p [vi, vc, vw] 213, Own 171 1 vc xs.length (flatOf vcf xs)] (fun v L => ∃ v2, v2.oneCell' = true ∧ v = x ∧ L = [Blk p [vi, v2, vw] 213, Own 171 1 v2 (xs.length - 1) (flatOf vcf (xs.take (xs.length - 1)))]) := by
 intro W F w hs
 rcases (hs.perm pl1).own with ⟨rfl, e0, -, h2⟩ | ⟨b, cap, sp, rfl, q1, q2, q3, q4, q5⟩
 ·
  exfalso; first | omega | (have := (List.getElem?_eq_some_iff.1 hx).1; omega)
 ·
  exact popP_row p vi vw x xs hone1 hp0 hx b cap sp q1 (by simpa using q3) q4 hx6 W F w (q5.perm pl1)
set_option maxRecDepth 100000 in
set_option maxHeartbeats 2000000 in
theorem rematE_row (p : Nat) (vc vw : Value) (i : Nat) (x : El) (xs : List El)  (hx : xs[i]? = some x) (b cap : Nat) (sp : List Value) (hn : xs.length ≤ cap) (hsp : sp.length = (cap - xs.length) * 2) (hcap : cap ≤ maxLen) (hx6 : xs.length ≤ 1000000) : Does Try.prog 140 [.pointer (some ⟨p, 0, none⟩), .int .i64 (((i : Nat) : Int))] [Blk p [.slice (some ⟨b, 0, none⟩) xs.length cap, vc, vw] 213, Blk b (flatOf El.cells xs ++ sp) 55] (fun v L => ∃ v2, v2.oneCell' = true ∧ v = .agg #[.int .i64 x.k, .int .i64 x.v] ∧ L = [Blk p [v2, vc, vw] 213, Own 55 2 v2 (xs.length - 1) (flatOf El.cells (xs.eraseIdx i))]) := by
 refine Does.enter 47 Try.func140 rfl rfl rfl fun W F => ?_
 show WPc _ _ _ _ _ [(0, .pointer (some ⟨p, 0, none⟩)), (1, .int .i64 (((i : Nat) : Int)))] (Blk p [.slice (some ⟨b, 0, none⟩) xs.length cap, vc, vw] 213 :: Blk b (flatOf El.cells xs ++ sp) 55 :: F)
 refine WPc.sr ?_
 refine WP.eff rfl rfl rfl (Eff.alloc rfl Ty.z55) ?_
 rintro _ _ ⟨b1, rfl, rfl⟩
 refine WP.nx ?_
 refine WPc.seq ?_
 have hi : i < xs.length := (List.getElem?_eq_some_iff.1 hx).1
 have hll : (xs.take i ++ xs.drop (i + 1) ++ xs.drop (xs.length - 1)).length = xs.length := by rw [List.length_append, List.length_append, List.length_take, List.length_drop, List.length_drop]; omega
 refine WPc.region ?_
 refine WP.val rfl rfl rfl (Val.move rfl rfl) ?_
 refine WP.val rfl rfl rfl (Val.nilCheck rfl rfl) ?_
 refine WP.val rfl rfl rfl (Val.load rfl Ty.sc210 rfl (fun w h => h.cell 1 rfl rfl)) ?_
 refine WP.val rfl rfl rfl (Val.move rfl rfl) ?_
 refine WP.val rfl rfl rfl (Val.indexAddr (j := i) (q := i * 2) rfl Ty.sl210 rfl rfl (by omega) (by omega) (by omega)) ?_
 refine WP.val rfl rfl rfl (Val.loadAgg (cs := [.int .i64 (x.k), .int .i64 (x.v)]) rfl Ty.ag55 rfl (by rfl) (fun w h => (h.at 2 rfl).cell_range (flatOf_range El.len hx))) ?_
 refine WP.eff rfl rfl rfl (Eff.alloc rfl Ty.z55) ?_
 rintro _ _ ⟨b2, rfl, rfl⟩
 refine WP.eff0 rfl rfl (Eff.storeAgg (cs := [.int .i64 (x.k), .int .i64 (x.v)]) (C' := [.int .i64 (x.k), .int .i64 (x.v)]) rfl Ty.ag55 rfl rfl rfl rfl (by simp) rfl) ?_
 rintro _ _ rfl
 refine WP.nx ?_
 refine WPc.seq ?_
 refine WPD.s0 Ty.mixed ?_
 refine WPD.tM 0 rfl rfl rfl rfl (Val.move rfl rfl) ?_
 refine WPD.tM 1 rfl rfl rfl rfl (Val.nilCheck rfl rfl) ?_
 refine WPD.tL 2 rfl rfl rfl rfl (fun _ h => h) (Val.load rfl Ty.sc210 rfl (fun w h => h.cell 2 rfl rfl)) ?_
 refine WPD.tM 3 rfl rfl rfl rfl (Val.move rfl rfl) ?_
 refine WPD.tM 4 rfl rfl rfl rfl (Val.slice (lo := i) (hi := xs.length) (j := (if cap = i then 0 else 0 + i * 2)) (vlo := some (.i64, ((i : Nat) : Int))) (vhi := none) rfl Ty.sl210 rfl rfl rfl (by simp [bnd]; try omega) (by simp [bnd]; try omega) (by omega) (by omega) (by omega) rfl) ?_
 refine WPD.tM 5 rfl rfl rfl rfl (Val.move rfl rfl) ?_
 refine WPD.tM 6 rfl rfl rfl rfl (Val.nilCheck rfl rfl) ?_
 refine WPD.tL 7 rfl rfl rfl rfl (fun _ h => h) (Val.load rfl Ty.sc210 rfl (fun w h => h.cell 2 rfl rfl)) ?_
 refine WPD.tM 8 rfl rfl rfl rfl (Val.move rfl rfl) ?_
 refine WPD.tM 9 rfl rfl rfl rfl (Val.add (z := ((i + 1 : Nat) : Int)) rfl rfl rfl ((w64 (by omega) (by omega)).trans (by omega))) ?_
 refine WPD.tM 10 rfl rfl rfl rfl (Val.slice (lo := i + 1) (hi := xs.length) (j := (if cap = i + 1 then 0 else 0 + (i + 1) * 2)) (vlo := some (.i64, ((i + 1 : Nat) : Int))) (vhi := none) rfl Ty.sl210 rfl rfl rfl (by simp [bnd]; try omega) (by simp [bnd]; try omega) (by omega) (by omega) (by omega) rfl) ?_
 refine WPD.perm pl3 ?_
 refine WPD.stepC 11 (by kernel_rfl) rfl rfl rfl rfl (by kernel_rfl) (Eff.copyIn (q := xs.length - (i + 1)) (cs := flatOf El.cells (xs.drop (i + 1))) (C' := flatOf El.cells ((xs.take i ++ xs.drop (i + 1) ++ xs.drop (xs.length - 1))) ++ sp) rfl Ty.sl210 rfl rfl ((Nat.min_eq_left (by omega)).trans (by omega)) ((flatOf_length El.len _).trans (by rw [List.length_drop])) (flat_range2 El.len (show xs.drop (i + 1) = [] ∨ (if cap = i + 1 then 0 else 0 + (i + 1) * 2) = (i + 1) * 2 by by_cases hq : cap = i + 1; exact .inl (List.drop_eq_nil_of_le (by omega)); exact .inr (by rw [if_neg hq]; omega)) (List.take_length)) (el_one _) (by rw [List.length_append, flatOf_length El.len, flatOf_length El.len, List.length_drop]; split <;> omega) (flat_copy El.len (show xs.drop (i + 1) = [] ∨ (if cap = i then 0 else 0 + i * 2) = i * 2 from .inr (by rw [if_neg (by omega)]; omega)) (by rw [List.length_drop]; omega) (by rw [List.length_drop]; congr 2; omega))) ?_
 rintro _ _ ⟨rfl, rfl⟩
 refine ⟨_, (fun _ h => h), ?_⟩
 refine WPD.done (by kernel_rfl) ?_
 refine Out.next ?_
 refine WPc.sr ?_
 refine WP.eff rfl rfl rfl (Eff.alloc rfl Ty.z55) ?_
 rintro _ _ ⟨b3, rfl, rfl⟩
 refine WP.nx ?_
 refine WPc.seq ?_
 refine WPD.s0 Ty.mixed ?_
 refine WPD.tM 0 rfl rfl rfl rfl (Val.move rfl rfl) ?_
 refine WPD.tM 1 rfl rfl rfl rfl (Val.nilCheck rfl rfl) ?_
 refine WPD.tL 2 rfl rfl rfl rfl (fun _ h => h) (Val.load rfl Ty.sc210 rfl (fun w h => h.cell 4 rfl rfl)) ?_
 refine WPD.tM 3 rfl rfl rfl rfl (Val.move rfl rfl) ?_
 refine WPD.tM 4 rfl rfl rfl rfl (Val.nilCheck rfl rfl) ?_
 refine WPD.tL 5 rfl rfl rfl rfl (fun _ h => h) (Val.load rfl Ty.sc210 rfl (fun w h => h.cell 4 rfl rfl)) ?_
 refine WPD.tL 6 rfl rfl rfl rfl (fun _ h => h) (Val.len rfl Ty.sl210 rfl) ?_
 refine WPD.tM 7 rfl rfl rfl rfl (Val.sub (z := ((xs.length - 1 : Nat) : Int)) rfl rfl rfl ((w64 (by omega) (by omega)).trans (by omega))) ?_
 refine WPD.tL 8 rfl rfl rfl rfl (fun _ h => h) (Val.loadAgg (cs := [.int .i64 0, .int .i64 0]) rfl Ty.ag55 rfl rfl (fun w h => h.range 0 rfl rfl)) ?_
 refine WPD.tM 9 rfl rfl rfl rfl (Val.indexAddr (j := xs.length - 1) (q := (xs.length - 1) * 2) rfl Ty.sl210 rfl rfl (by omega) (by omega) (by omega)) ?_
 refine WPD.perm pl1 ?_
 refine WPD.stepC0 10 (by kernel_rfl) rfl rfl rfl (by kernel_rfl) (Eff.storeAgg (cs := [.int .i64 0, .int .i64 0]) (C' := flatOf El.cells ((xs.take i ++ xs.drop (i + 1) ++ xs.drop (xs.length - 1)).set (xs.length - 1) El0) ++ sp) rfl Ty.ag55 rfl rfl rfl rfl (by rw [List.length_append, flatOf_length El.len]; omega) (flat_set El.len (xs.take i ++ xs.drop (i + 1) ++ xs.drop (xs.length - 1)) (xs.length - 1) El0 sp (by omega))) ?_
 rintro _ _ rfl
 refine ⟨_, (fun _ h => h), ?_⟩
 refine WPD.done (by kernel_rfl) ?_
 refine Out.next ?_
 refine WPc.seq ?_
 refine WPD.s0 Ty.mixed ?_
 refine WPD.tM 0 rfl rfl rfl rfl (Val.move rfl rfl) ?_
 refine WPD.tM 1 rfl rfl rfl rfl (Val.move rfl rfl) ?_
 refine WPD.tM 2 rfl rfl rfl rfl (Val.nilCheck rfl rfl) ?_
 refine WPD.tL 3 rfl rfl rfl rfl (fun _ h => h) (Val.load rfl Ty.sc210 rfl (fun w h => h.cell 4 rfl rfl)) ?_
 refine WPD.tM 4 rfl rfl rfl rfl (Val.move rfl rfl) ?_
 refine WPD.tM 5 rfl rfl rfl rfl (Val.nilCheck rfl rfl) ?_
 refine WPD.tL 6 rfl rfl rfl rfl (fun _ h => h) (Val.load rfl Ty.sc210 rfl (fun w h => h.cell 4 rfl rfl)) ?_
 refine WPD.tL 7 rfl rfl rfl rfl (fun _ h => h) (Val.len rfl Ty.sl210 rfl) ?_
 refine WPD.tM 8 rfl rfl rfl rfl (Val.sub (z := ((xs.length - 1 : Nat) : Int)) rfl rfl rfl ((w64 (by omega) (by omega)).trans (by omega))) ?_
 refine WPD.tM 9 rfl rfl rfl rfl (Val.slice (lo := 0) (hi := xs.length - 1) (j := 0) (vlo := none) (vhi := some (.i64, ((xs.length - 1 : Nat) : Int))) rfl Ty.sl210 rfl rfl rfl (by simp [bnd]) (by simp [bnd]; try omega) (by omega) (by omega) (by omega) (by simp)) ?_
 refine WPD.tM 10 rfl rfl rfl rfl (Val.nilCheck rfl rfl) ?_
 refine WPD.perm pl4 ?_
 refine WPD.stepC0 11 (by kernel_rfl) rfl rfl rfl (by kernel_rfl) (Eff.store rfl Ty.sc210 rfl rfl rfl (by simp) st0) ?_
 rintro _ _ rfl
 refine ⟨_, (fun _ h => h), ?_⟩
 refine WPD.done (by kernel_rfl) ?_
 refine Out.next ?_
 refine WPc.sr ?_
 refine WP.val rfl rfl rfl (Val.loadAgg (cs := [.int .i64 (x.k), .int .i64 (x.v)]) rfl Ty.ag55 rfl rfl (fun w h => h.range 3 rfl rfl)) ?_
 refine WP.perm pl4 ?_
 refine WP.eff0 rfl rfl (Eff.storeAgg (cs := [.int .i64 (x.k), .int .i64 (x.v)]) (C' := [.int .i64 (x.k), .int .i64 (x.v)]) rfl Ty.ag55 rfl rfl rfl rfl (by simp) rfl) ?_
 rintro _ _ rfl
 refine WP.nx ?_
 refine WPc.ret ?_
 refine Out.perm pl2 ?_
 refine Out.conv (fun w h => Sat.ownMk (e := 55) (k := 2) (b := b) (m := xs.length - 1) (cap := cap) (xs := flatOf El.cells (xs.eraseIdx i)) (sp := flatOf El.cells (((xs.take i ++ xs.drop (i + 1) ++ xs.drop (xs.length - 1)).set (xs.length - 1) El0).drop (xs.length - 1)) ++ sp) (by rw [← List.append_assoc, ← ers_list (z := El0) hi, ← flatOf_append, List.take_append_drop]; exact h) (by omega) (by rw [flatOf_length El.len, List.length_eraseIdx_of_lt hi]) (by rw [List.length_append, flatOf_length El.len, List.length_drop, List.length_set, hll, hsp, ← Nat.add_mul]; congr 1; omega) hcap) ?_
 refine Out.perm pl3 ?_
 refine Out.drop ?_
 refine Out.perm pl3 ?_
 refine Out.drop ?_
 refine Out.perm pl2 ?_
 refine Out.perm pl2 ?_
 exact Out.retRun (L' := _) (results_cell (cs := [.int .i64 (x.k), .int .i64 (x.v)]) Try.results140 Ty.ag55 rfl rfl (fun w h => h.range 0 rfl rfl)) ⟨_, rfl, rfl, rfl⟩ (fun w h => h.drop)

theorem rematE (p : Nat) (vi vc vw : Value) (i : Nat) (x : El) (xs : List El)  (hx : xs[i]? = some x) (hx6 : xs.length ≤ 1000000) : Does Try.prog 140 [.pointer (some ⟨p, 0, none⟩), .int .i64 (((i : Nat) : Int))] [Blk p [vi, vc, vw] 213, Own 55 2 vi xs.length (flatOf El.cells xs)] (fun v L => ∃ v2, v2.oneCell' = true ∧ v = .agg #[.int .i64 x.k, .int .i64 x.v] ∧ L = [Blk p [v2, vc, vw] 213, Own 55 2 v2 (xs.length - 1) (flatOf El.cells (xs.eraseIdx i))]) := by
 intro W F w hs
 rcases (hs.perm pl1).own with ⟨rfl, e0, -, h2⟩ | ⟨b, cap, sp, rfl, q1, q2, q3, q4, q5⟩
 ·
  exfalso; first | omega | (have := (List.getElem?_eq_some_iff.1 hx).1; omega)
 ·
  exact rematE_row p vc vw i x xs  hx b cap sp q1 (by simpa using q3) q4 hx6 W F w (q5.perm pl1)
set_option maxRecDepth 100000 in
set_option maxHeartbeats 2000000 in
theorem rematP_row (p : Nat) (vi vw : Value) (i : Nat) (x : Value) (xs : List Value) (hone1 : ∀ x ∈ xs, x.oneCell' = true) (hx : xs[i]? = some x) (b cap : Nat) (sp : List Value) (hn : xs.length ≤ cap) (hsp : sp.length = (cap - xs.length) * 1) (hcap : cap ≤ maxLen) (hx6 : xs.length ≤ 1000000) : Does Try.prog 144 [.pointer (some ⟨p, 1, none⟩), .int .i64 (((i : Nat) : Int))] [Blk p [vi, .slice (some ⟨b, 0, none⟩) xs.length cap, vw] 213, Blk b (flatOf vcf xs ++ sp) 171] (fun v L => ∃ v2, v2.oneCell' = true ∧ v = x ∧ L = [Blk p [vi, v2, vw] 213, Own 171 1 v2 (xs.length - 1) (flatOf vcf (xs.eraseIdx i))]) := by
 refine Does.enter 47 Try.func144 rfl rfl rfl fun W F => ?_
 show WPc _ _ _ _ _ [(0, .pointer (some ⟨p, 1, none⟩)), (1, .int .i64 (((i : Nat) : Int)))] (Blk p [vi, .slice (some ⟨b, 0, none⟩) xs.length cap, vw] 213 :: Blk b (flatOf vcf xs ++ sp) 171 :: F)
 refine WPc.sr ?_
 refine WP.val rfl rfl rfl (Val.assign rfl rfl) ?_
 refine WP.nx ?_
 refine WPc.seq ?_
 have hi : i < xs.length := (List.getElem?_eq_some_iff.1 hx).1
 have hll : (xs.take i ++ xs.drop (i + 1) ++ xs.drop (xs.length - 1)).length = xs.length := by rw [List.length_append, List.length_append, List.length_take, List.length_drop, List.length_drop]; omega
 refine WPc.region ?_
 refine WP.val rfl rfl rfl (Val.move rfl rfl) ?_
 refine WP.val rfl rfl rfl (Val.nilCheck rfl rfl) ?_
 refine WP.val rfl rfl rfl (Val.load rfl Ty.sc211 rfl (fun w h => h.cell 0 rfl rfl)) ?_
 refine WP.val rfl rfl rfl (Val.move rfl rfl) ?_
 refine WP.val rfl rfl rfl (Val.indexAddr (j := i) (q := i) rfl Ty.sl211 rfl rfl (by omega) (by omega) (by omega)) ?_
 refine WP.val rfl rfl rfl (Val.load (v := x) rfl Ty.sc171 rfl (fun w h => ((h.at 1 rfl).cell _).trans (vflat_at hx))) ?_
 refine WP.val rfl rfl rfl (Val.assign rfl rfl) ?_
 refine WP.nx ?_
 refine WPc.seq ?_
 refine WPD.s0 Ty.mixed ?_
 refine WPD.tM 0 rfl rfl rfl rfl (Val.move rfl rfl) ?_
 refine WPD.tM 1 rfl rfl rfl rfl (Val.nilCheck rfl rfl) ?_
 refine WPD.tL 2 rfl rfl rfl rfl (fun _ h => h) (Val.load rfl Ty.sc211 rfl (fun w h => h.cell 0 rfl rfl)) ?_
 refine WPD.tM 3 rfl rfl rfl rfl (Val.move rfl rfl) ?_
 refine WPD.tM 4 rfl rfl rfl rfl (Val.slice (lo := i) (hi := xs.length) (j := (if cap = i then 0 else 0 + i)) (vlo := some (.i64, ((i : Nat) : Int))) (vhi := none) rfl Ty.sl211 rfl rfl rfl (by simp [bnd]; try omega) (by simp [bnd]; try omega) (by omega) (by omega) (by omega) (by simp)) ?_
 refine WPD.tM 5 rfl rfl rfl rfl (Val.move rfl rfl) ?_
 refine WPD.tM 6 rfl rfl rfl rfl (Val.nilCheck rfl rfl) ?_
 refine WPD.tL 7 rfl rfl rfl rfl (fun _ h => h) (Val.load rfl Ty.sc211 rfl (fun w h => h.cell 0 rfl rfl)) ?_
 refine WPD.tM 8 rfl rfl rfl rfl (Val.move rfl rfl) ?_
 refine WPD.tM 9 rfl rfl rfl rfl (Val.add (z := ((i + 1 : Nat) : Int)) rfl rfl rfl ((w64 (by omega) (by omega)).trans (by omega))) ?_
 refine WPD.tM 10 rfl rfl rfl rfl (Val.slice (lo := i + 1) (hi := xs.length) (j := (if cap = i + 1 then 0 else 0 + (i + 1))) (vlo := some (.i64, ((i + 1 : Nat) : Int))) (vhi := none) rfl Ty.sl211 rfl rfl rfl (by simp [bnd]; try omega) (by simp [bnd]; try omega) (by omega) (by omega) (by omega) (by simp)) ?_
 refine WPD.perm pl1 ?_
 refine WPD.stepC 11 (by kernel_rfl) rfl rfl rfl rfl (by kernel_rfl) (Eff.copyIn (q := xs.length - (i + 1)) (cs := flatOf vcf (xs.drop (i + 1))) (C' := flatOf vcf ((xs.take i ++ xs.drop (i + 1) ++ xs.drop (xs.length - 1))) ++ sp) rfl Ty.sl211 rfl rfl ((Nat.min_eq_left (by omega)).trans (by omega)) ((flatOf_length vcf_len _).trans (by rw [List.length_drop])) (flat_range2 vcf_len (show xs.drop (i + 1) = [] ∨ (if cap = i + 1 then 0 else 0 + (i + 1)) = (i + 1) * 1 by by_cases hq : cap = i + 1; exact .inl (List.drop_eq_nil_of_le (by omega)); exact .inr (by rw [if_neg hq]; omega)) (List.take_length)) (v_one (fun x hx => hone1 x (List.mem_of_mem_drop hx))) (by rw [List.length_append, flatOf_length vcf_len, flatOf_length vcf_len, List.length_drop]; split <;> omega) (flat_copy vcf_len (show xs.drop (i + 1) = [] ∨ (if cap = i then 0 else 0 + i) = i * 1 from .inr (by rw [if_neg (by omega)]; omega)) (by rw [List.length_drop]; omega) (by rw [List.length_drop]; congr 2; omega))) ?_
 rintro _ _ ⟨rfl, rfl⟩
 refine ⟨_, (fun _ h => h), ?_⟩
 refine WPD.done (by kernel_rfl) ?_
 refine Out.next ?_
 refine WPc.sr ?_
 refine WP.val rfl rfl rfl (Val.assign rfl rfl) ?_
 refine WP.nx ?_
 refine WPc.seq ?_
 refine WPD.s0 Ty.mixed ?_
 refine WPD.tM 0 rfl rfl rfl rfl (Val.move rfl rfl) ?_
 refine WPD.tM 1 rfl rfl rfl rfl (Val.nilCheck rfl rfl) ?_
 refine WPD.tL 2 rfl rfl rfl rfl (fun _ h => h) (Val.load rfl Ty.sc211 rfl (fun w h => h.cell 1 rfl rfl)) ?_
 refine WPD.tM 3 rfl rfl rfl rfl (Val.move rfl rfl) ?_
 refine WPD.tM 4 rfl rfl rfl rfl (Val.nilCheck rfl rfl) ?_
 refine WPD.tL 5 rfl rfl rfl rfl (fun _ h => h) (Val.load rfl Ty.sc211 rfl (fun w h => h.cell 1 rfl rfl)) ?_
 refine WPD.tL 6 rfl rfl rfl rfl (fun _ h => h) (Val.len rfl Ty.sl211 rfl) ?_
 refine WPD.tM 7 rfl rfl rfl rfl (Val.sub (z := ((xs.length - 1 : Nat) : Int)) rfl rfl rfl ((w64 (by omega) (by omega)).trans (by omega))) ?_
 refine WPD.tM 8 rfl rfl rfl rfl (Val.move rfl rfl) ?_
 refine WPD.tM 9 rfl rfl rfl rfl (Val.indexAddr (j := xs.length - 1) (q := xs.length - 1) rfl Ty.sl211 rfl rfl (by omega) (by omega) (by omega)) ?_
 refine WPD.stepC0 10 (by kernel_rfl) rfl rfl rfl (by kernel_rfl) (Eff.store (C' := flatOf vcf ((xs.take i ++ xs.drop (i + 1) ++ xs.drop (xs.length - 1)).set (xs.length - 1) VP) ++ sp) rfl Ty.sc171 rfl rfl rfl (by rw [List.length_append, flatOf_length vcf_len]; omega) (by rw [List.set_append_left _ _ (by rw [flat_vcf]; omega), flat_vcf, flat_vcf]; rfl)) ?_
 rintro _ _ rfl
 refine ⟨_, (fun _ h => h), ?_⟩
 refine WPD.done (by kernel_rfl) ?_
 refine Out.next ?_
 refine WPc.seq ?_
 refine WPD.s0 Ty.mixed ?_
 refine WPD.tM 0 rfl rfl rfl rfl (Val.move rfl rfl) ?_
 refine WPD.tM 1 rfl rfl rfl rfl (Val.move rfl rfl) ?_
 refine WPD.tM 2 rfl rfl rfl rfl (Val.nilCheck rfl rfl) ?_
 refine WPD.tL 3 rfl rfl rfl rfl (fun _ h => h) (Val.load rfl Ty.sc211 rfl (fun w h => h.cell 1 rfl rfl)) ?_
 refine WPD.tM 4 rfl rfl rfl rfl (Val.move rfl rfl) ?_
 refine WPD.tM 5 rfl rfl rfl rfl (Val.nilCheck rfl rfl) ?_
 refine WPD.tL 6 rfl rfl rfl rfl (fun _ h => h) (Val.load rfl Ty.sc211 rfl (fun w h => h.cell 1 rfl rfl)) ?_
 refine WPD.tL 7 rfl rfl rfl rfl (fun _ h => h) (Val.len rfl Ty.sl211 rfl) ?_
 refine WPD.tM 8 rfl rfl rfl rfl (Val.sub (z := ((xs.length - 1 : Nat) : Int)) rfl rfl rfl ((w64 (by omega) (by omega)).trans (by omega))) ?_
 refine WPD.tM 9 rfl rfl rfl rfl (Val.slice (lo := 0) (hi := xs.length - 1) (j := 0) (vlo := none) (vhi := some (.i64, ((xs.length - 1 : Nat) : Int))) rfl Ty.sl211 rfl rfl rfl (by simp [bnd]) (by simp [bnd]; try omega) (by omega) (by omega) (by omega) (by simp)) ?_
 refine WPD.tM 10 rfl rfl rfl rfl (Val.nilCheck rfl rfl) ?_
 refine WPD.perm pl1 ?_
 refine WPD.stepC0 11 (by kernel_rfl) rfl rfl rfl (by kernel_rfl) (Eff.store rfl Ty.sc211 rfl rfl rfl (by simp) st1) ?_
 rintro _ _ rfl
 refine ⟨_, (fun _ h => h), ?_⟩
 refine WPD.done (by kernel_rfl) ?_
 refine Out.next ?_
 refine WPc.sr ?_
 refine WP.val rfl rfl rfl (Val.move rfl rfl) ?_
 refine WP.val rfl rfl rfl (Val.assign rfl rfl) ?_
 refine WP.nx ?_
 refine WPc.ret ?_
 refine Out.perm pl1 ?_
 refine Out.conv (fun w h => Sat.ownMk (e := 171) (k := 1) (b := b) (m := xs.length - 1) (cap := cap) (xs := flatOf vcf (xs.eraseIdx i)) (sp := flatOf vcf (((xs.take i ++ xs.drop (i + 1) ++ xs.drop (xs.length - 1)).set (xs.length - 1) VP).drop (xs.length - 1)) ++ sp) (by rw [← List.append_assoc, ← ers_list (z := VP) hi, ← flatOf_append, List.take_append_drop]; exact h) (by omega) (by rw [flatOf_length vcf_len, List.length_eraseIdx_of_lt hi]) (by rw [List.length_append, flatOf_length vcf_len, List.length_drop, List.length_set, hll, hsp, ← Nat.add_mul]; congr 1; omega) hcap) ?_
 refine Out.perm pl1 ?_
 exact Out.ret1 (L' := _) Try.results144 rfl ⟨_, rfl, rfl, rfl⟩ (fun _ h => h)

theorem rematP (p : Nat) (vi vc vw : Value) (i : Nat) (x : Value) (xs : List Value) (hone1 : ∀ x ∈ xs, x.oneCell' = true) (hx : xs[i]? = some x) (hx6 : xs.length ≤ 1000000) : Does Try.prog 144 [.pointer (some ⟨p, 1, none⟩), .int .i64 (((i : Nat) : Int))] [Blk p [vi, vc, vw] 213, Own 171 1 vc xs.length (flatOf vcf xs)] (fun v L => ∃ v2, v2.oneCell' = true ∧ v = x ∧ L = [Blk p [vi, v2, vw] 213, Own 171 1 v2 (xs.length - 1) (flatOf vcf (xs.eraseIdx i))]) := by
 intro W F w hs
 rcases (hs.perm pl1).own with ⟨rfl, e0, -, h2⟩ | ⟨b, cap, sp, rfl, q1, q2, q3, q4, q5⟩
 ·
  exfalso; first | omega | (have := (List.getElem?_eq_some_iff.1 hx).1; omega)
 ·
  exact rematP_row p vi vw i x xs hone1 hx b cap sp q1 (by simpa using q3) q4 hx6 W F w (q5.perm pl1)

end Go.Proofs.Ythmkdioafjmclaa.Bt2
