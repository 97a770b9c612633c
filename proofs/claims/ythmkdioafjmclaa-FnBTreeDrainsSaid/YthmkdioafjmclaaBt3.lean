import Derived.Test.YthmkdioafjmclaaSlTerse
import Derived.Test.YthmkdioafjmclaaBt2
import Derived.Test.YthmkdioafjmclaaSlPtr
namespace Go.Proofs.Ythmkdioafjmclaa.Bt3
open Go.RowKit Go.Proofs.Ythmkdioafjmclaa Go.Proofs.Ythmkdioafjmclaa.Sl Go.Proofs.Ythmkdioafjmclaa.Bt Go.Proofs.Ythmkdioafjmclaa.Bt2
set_option linter.unusedVariables false
set_option linter.unusedSimpArgs false
set_option linter.unusedSectionVars false


theorem mu208_0 : mu0 Try.prog 208 0 = true := by kernel_rfl
theorem pe172 : ptrE Try.prog 172 = true := by kernel_rfl
inductive Tr where
 | nd (is : List El) (ks : List Tr)
def Tr.is : Tr → List El | .nd is _ => is
def Tr.ks : Tr → List Tr | .nd _ ks => ks
def pv (p : Nat) : Value := .pointer (some ⟨p, 0, none⟩)
def fes (l : List El) : List Value := flatOf El.cells l
def fps (l : List Value) : List Value := flatOf vcf l
/-- a node that waits to be used again -/
def FNode (p : Nat) : HProp := Ex fun q : Value × Value => Sep [Blk p [q.1, q.2, .pointer none] 213, Own 55 2 q.1 0 [], Own 171 1 q.2 0 []]
def qps (qs : List Nat) : List Value := qs.map pv
theorem qps_one (qs : List Nat) : ∀ x ∈ qps qs, x.oneCell' = true := fun x hx => by obtain ⟨_, _, rfl⟩ := List.mem_map.1 hx; rfl
theorem qps_len (qs : List Nat) : (qps qs).length = qs.length := by simp [qps]
/-- the list of nodes that wait -/
def FL (f : Nat) : HProp := Ex fun q : Nat × List Nat × List Value => Sep [Pure (q.2.1.length ≤ 32 ∧ q.2.2.length = 32 - q.2.1.length), Blk f [.slice (some ⟨q.1, 0, none⟩) q.2.1.length 32] 208, Blk q.1 (flatOf vcf (qps q.2.1) ++ q.2.2) 171, Kds FNode q.2.1]
section
variable {W w : World} {L : List HProp}
theorem _root_.Go.Proofs.Ythmkdioafjmclaa.Sl.Sat.flOpen {f : Nat} (h : Sat W (FL f :: L) w) : ∃ q : Nat × List Nat × List Value, Sat W (Pure (q.2.1.length ≤ 32 ∧ q.2.2.length = 32 - q.2.1.length) :: Blk f [.slice (some ⟨q.1, 0, none⟩) q.2.1.length 32] 208 :: Blk q.1 (flatOf vcf (qps q.2.1) ++ q.2.2) 171 :: Kds FNode q.2.1 :: L) w := by
 obtain ⟨q, h⟩ := h.ex
 exact ⟨q, h.sep⟩
theorem _root_.Go.Proofs.Ythmkdioafjmclaa.Sl.Sat.flMk {f b : Nat} {qs : List Nat} {sp : List Value} (h1 : qs.length ≤ 32) (h2 : sp.length = 32 - qs.length) (h : Sat W (Blk f [.slice (some ⟨b, 0, none⟩) qs.length 32] 208 :: Blk b (flatOf vcf (qps qs) ++ sp) 171 :: Kds FNode qs :: L) w) : Sat W (FL f :: L) w :=
 Sat.ex_mk (b, qs, sp) (Sat.sep_mk (Sat.pure_mk ⟨h1, h2⟩ h))
theorem _root_.Go.Proofs.Ythmkdioafjmclaa.Sl.Sat.fnOpen {p : Nat} (h : Sat W (FNode p :: L) w) : ∃ q : Value × Value, Sat W (Blk p [q.1, q.2, .pointer none] 213 :: Own 55 2 q.1 0 [] :: Own 171 1 q.2 0 [] :: L) w := by
 obtain ⟨q, h⟩ := h.ex
 exact ⟨q, h.sep⟩
theorem _root_.Go.Proofs.Ythmkdioafjmclaa.Sl.Sat.fnMk {p : Nat} {v1 v2 : Value} (h : Sat W (Blk p [v1, v2, .pointer none] 213 :: Own 55 2 v1 0 [] :: Own 171 1 v2 0 [] :: L) w) : Sat W (FNode p :: L) w :=
 Sat.ex_mk (v1, v2) (Sat.sep_mk h)
end
theorem last_split {l : List Nat} (h : 0 < l.length) : ∃ x, l[l.length - 1]? = some x ∧ l = l.take (l.length - 1) ++ [x] := by
 refine ⟨l[l.length - 1], List.getElem?_eq_getElem (by omega), ?_⟩
 have := split_at (l := l) (i := l.length - 1) (List.getElem?_eq_getElem (by omega))
 rw [show l.length - 1 + 1 = l.length by omega, List.drop_length] at this
 exact this
set_option maxRecDepth 100000 in
set_option maxHeartbeats 2000000 in
theorem f134_spec (p : Nat) : Does Try.prog 134 [.pointer (some ⟨p, 0, none⟩)] [] (fun v L => L = []) := by
 refine Does.enter 2 Try.func134 rfl rfl rfl fun W F => ?_
 show WPc _ _ _ _ _ [(0, .pointer (some ⟨p, 0, none⟩))] (F)
 refine WPc.skip ?_
 exact Out.end0 (L' := []) Try.results134 rfl (fun _ h => h)
set_option maxRecDepth 100000 in
set_option maxHeartbeats 2000000 in
theorem f135_spec (p : Nat) : Does Try.prog 135 [.pointer (some ⟨p, 0, none⟩)] [] (fun v L => L = []) := by
 refine Does.enter 2 Try.func135 rfl rfl rfl fun W F => ?_
 show WPc _ _ _ _ _ [(0, .pointer (some ⟨p, 0, none⟩))] (F)
 refine WPc.skip ?_
 exact Out.end0 (L' := []) Try.results135 rfl (fun _ h => h)

theorem qps_less {qs : List Nat} {x : Nat} (hsp : qs = qs.take (qs.length - 1) ++ [x]) : flatOf vcf ((qps qs).set (qs.length - 1) (.pointer none)) = flatOf vcf (qps (qs.take (qs.length - 1))) ++ [.pointer none] := by
 have hl : 0 < qs.length := by rw [hsp]; simp
 have h0 : qps qs = qps (qs.take (qs.length - 1)) ++ [pv x] := by conv => { lhs; rw [hsp] }; simp [qps]
 have hln : (qps (qs.take (qs.length - 1))).length = qs.length - 1 := by rw [qps_len, List.length_take]; omega
 rw [flat_vcf, flat_vcf, h0, List.set_append_right _ _ (by omega), hln]; simp
theorem less_len {qs : List Nat} : (qs.take (qs.length - 1)).length = qs.length - 1 := by rw [List.length_take]; omega
theorem less_perm {qs : List Nat} {x : Nat} (hsp : qs = qs.take (qs.length - 1) ++ [x]) : qs.Perm (x :: qs.take (qs.length - 1)) := by
 have := (List.perm_append_comm (l₁ := qs.take (qs.length - 1)) (l₂ := [x])); rw [← hsp] at this; exact this
set_option maxRecDepth 100000 in
set_option maxHeartbeats 2000000 in
theorem flnew_spec (f : Nat) : Does Try.prog 121 [.pointer (some ⟨f, 0, none⟩)] [FL f] (fun v L => ∃ p, v = .pointer (some ⟨p, 0, none⟩) ∧ L = [FNode p, FL f]) := by
 refine Does.enter 47 Try.func121 rfl rfl rfl fun W F => ?_
 show WPc _ _ _ _ _ [(0, .pointer (some ⟨f, 0, none⟩))] (FL f :: F)
 refine WPc.sr ?_
 refine WP.val rfl rfl rfl (Val.assign rfl rfl) ?_
 refine WP.nx ?_
 refine WPc.seq ?_
 refine WPc.open (fun w h => h.flOpen) ?_
 rintro ⟨fb, qs, fsp⟩
 refine WPc.pure (fun hq => ?_)
 obtain ⟨hq1, hq2⟩ := hq
 dsimp only at hq1 hq2
 show WPc _ _ _ _ _ _ (Blk f [.slice (some ⟨fb, 0, none⟩) qs.length 32] 208 :: Blk fb (flatOf vcf (qps qs) ++ fsp) 171 :: Kds FNode qs :: _)
 have hqe := hq2
 refine WPc.region ?_
 refine WP.val rfl rfl rfl (Val.move rfl rfl) ?_
 refine WP.val rfl rfl rfl (Val.nilCheck rfl rfl) ?_
 refine WP.val rfl rfl rfl (Val.mu rfl mu208_0 rfl (fun w h => h.at 0 rfl)) ?_
 refine WP.eff rfl rfl rfl (Eff.call rfl rfl Try.call134 (f134_spec f)) ?_
 rintro _ _ ⟨_, rfl, rfl⟩
 refine WP.nx ?_
 refine WPc.seq ?_
 by_cases hq0 : qs.length = 0
 ·
  refine WPc.region ?_
  refine WP.val rfl rfl rfl (Val.move rfl rfl) ?_
  refine WP.val rfl rfl rfl (Val.nilCheck rfl rfl) ?_
  refine WP.val rfl rfl rfl (Val.fieldAddr (j := 0) rfl Ty.fo208_1 rfl rfl) ?_
  refine WP.val rfl rfl rfl (Val.load rfl Ty.sc205 rfl (fun w h => h.cell 0 rfl rfl)) ?_
  refine WP.val rfl rfl rfl (Val.len rfl Ty.sl205 rfl) ?_
  refine WP.val rfl rfl rfl (Val.sub (z := -1) rfl rfl rfl ((w64 (by omega) (by omega)).trans (by omega))) ?_
  refine WP.val rfl rfl rfl (Val.assign rfl rfl) ?_
  refine WP.nx ?_
  refine WPc.seq ?_
  refine WPc.sr ?_
  refine WP.val rfl rfl rfl (Val.move rfl rfl) ?_
  refine WP.val rfl rfl rfl (Val.lss rfl rfl rfl) ?_
  refine WP.nx ?_
  refine WPc.ifP rfl (fun h1 => ?_) (fun h1 => ?_)
  ·
   have h1 : ((-1 : Int) < (0 : Int)) := h1
   refine WPc.sr ?_
   refine WP.val rfl rfl rfl (Val.move rfl rfl) ?_
   refine WP.val rfl rfl rfl (Val.nilCheck rfl rfl) ?_
   refine WP.val rfl rfl rfl (Val.mu rfl mu208_0 rfl (fun w h => h.at 0 rfl)) ?_
   refine WP.eff rfl rfl rfl (Eff.call rfl rfl Try.call135 (f135_spec f)) ?_
   rintro _ _ ⟨_, rfl, rfl⟩
   refine WP.nx ?_
   refine WPc.sr ?_
   refine WP.eff rfl rfl rfl (Eff.alloc rfl Ty.z213) ?_
   rintro _ _ ⟨b1, rfl, rfl⟩
   refine WP.val rfl rfl rfl (Val.assign rfl rfl) ?_
   refine WP.nx ?_
   refine WPc.ret ?_
   refine Out.then_ret ?_
   iterate 3 (refine Out.perm pl3 ?_)
   refine Out.conv (fun w h => Sat.flMk (f := f) (b := fb) (qs := qs) (sp := fsp) hq1 hq2 (by exact h)) ?_
   show Out _ _ _ _ _ (FL f :: Blk b1 [.slice none 0 0, .slice none 0 0, .pointer none] 213 :: _)
   refine Out.conv (fun w h => h.ownNil (e := 171) (k := 1)) ?_
   refine Out.conv (fun w h => h.ownNil (e := 55) (k := 2)) ?_
   refine Out.perm pl1 ?_
   refine Out.perm pl1 ?_
   refine Out.perm pl3 ?_
   refine Out.conv (fun w h => h.fnMk) ?_
   show Out _ _ _ _ _ (FNode b1 :: _)
   exact Out.ret1 (L' := _) Try.results121 rfl ⟨_, rfl, rfl⟩ (fun _ h => h)
  ·
   have h1 : ¬ ((-1 : Int) < (0 : Int)) := h1
   exfalso; omega
 ·
  refine WPc.region ?_
  refine WP.val rfl rfl rfl (Val.move rfl rfl) ?_
  refine WP.val rfl rfl rfl (Val.nilCheck rfl rfl) ?_
  refine WP.val rfl rfl rfl (Val.fieldAddr (j := 0) rfl Ty.fo208_1 rfl rfl) ?_
  refine WP.val rfl rfl rfl (Val.load rfl Ty.sc205 rfl (fun w h => h.cell 0 rfl rfl)) ?_
  refine WP.val rfl rfl rfl (Val.len rfl Ty.sl205 rfl) ?_
  refine WP.val rfl rfl rfl (Val.sub (z := ((qs.length - 1 : Nat) : Int)) rfl rfl rfl ((w64 (by omega) (by omega)).trans (by omega))) ?_
  refine WP.val rfl rfl rfl (Val.assign rfl rfl) ?_
  refine WP.nx ?_
  refine WPc.seq ?_
  refine WPc.sr ?_
  refine WP.val rfl rfl rfl (Val.move rfl rfl) ?_
  refine WP.val rfl rfl rfl (Val.lss rfl rfl rfl) ?_
  refine WP.nx ?_
  refine WPc.ifP rfl (fun h2 => ?_) (fun h2 => ?_)
  ·
   have h2 : (((qs.length - 1 : Nat) : Int) < (0 : Int)) := h2
   exfalso; omega
  ·
   have h2 : ¬ (((qs.length - 1 : Nat) : Int) < (0 : Int)) := h2
   refine WPc.skip ?_
   refine Out.next ?_
   refine WPc.seq ?_
   obtain ⟨x, hx, hsp⟩ := last_split (l := qs) (by omega)
   have hx2 : (qps qs)[qs.length - 1]? = some (pv x) := by unfold qps; rw [List.getElem?_map, hx]; rfl
   refine WPc.region ?_
   refine WP.val rfl rfl rfl (Val.move rfl rfl) ?_
   refine WP.val rfl rfl rfl (Val.nilCheck rfl rfl) ?_
   refine WP.val rfl rfl rfl (Val.fieldAddr (j := 0) rfl Ty.fo208_1 rfl rfl) ?_
   refine WP.val rfl rfl rfl (Val.load rfl Ty.sc205 rfl (fun w h => h.cell 0 rfl rfl)) ?_
   refine WP.val rfl rfl rfl (Val.move rfl rfl) ?_
   refine WP.val rfl rfl rfl (Val.indexAddr (j := qs.length - 1) (q := qs.length - 1) rfl Ty.sl205 rfl rfl (by omega) (by omega) (by omega)) ?_
   refine WP.val rfl rfl rfl (Val.load (v := .pointer (some ⟨x, 0, none⟩)) rfl Ty.sc171 rfl (fun w h => ((h.at 1 rfl).cell _).trans (vflat_at hx2))) ?_
   refine WP.val rfl rfl rfl (Val.assign rfl rfl) ?_
   refine WP.nx ?_
   refine WPc.sr ?_
   refine WP.val rfl rfl rfl (Val.move rfl rfl) ?_
   refine WP.val rfl rfl rfl (Val.nilCheck rfl rfl) ?_
   refine WP.val rfl rfl rfl (Val.fieldAddr (j := 0) rfl Ty.fo208_1 rfl rfl) ?_
   refine WP.val rfl rfl rfl (Val.load rfl Ty.sc205 rfl (fun w h => h.cell 0 rfl rfl)) ?_
   refine WP.val rfl rfl rfl (Val.move rfl rfl) ?_
   refine WP.val rfl rfl rfl (Val.indexAddr (j := qs.length - 1) (q := qs.length - 1) rfl Ty.sl205 rfl rfl (by omega) (by omega) (by omega)) ?_
   refine WP.perm pl1 ?_
   refine WP.eff0 rfl rfl (Eff.store (C' := flatOf vcf ((qps qs).set (qs.length - 1) (.pointer none)) ++ fsp) rfl Ty.sc171 rfl rfl rfl (by rw [List.length_append, flat_vcf, qps_len]; omega) (by rw [List.set_append_left _ _ (by rw [flat_vcf, qps_len]; omega), flat_vcf, flat_vcf])) ?_
   rintro _ _ rfl
   refine WP.nx ?_
   refine WPc.sr ?_
   refine WP.val rfl rfl rfl (Val.move rfl rfl) ?_
   refine WP.val rfl rfl rfl (Val.move rfl rfl) ?_
   refine WP.val rfl rfl rfl (Val.nilCheck rfl rfl) ?_
   refine WP.val rfl rfl rfl (Val.fieldAddr (j := 0) rfl Ty.fo208_1 rfl rfl) ?_
   refine WP.val rfl rfl rfl (Val.load rfl Ty.sc205 rfl (fun w h => h.cell 1 rfl rfl)) ?_
   refine WP.val rfl rfl rfl (Val.move rfl rfl) ?_
   refine WP.val rfl rfl rfl (Val.slice (lo := 0) (hi := qs.length - 1) (j := 0) (vlo := none) (vhi := some (.i64, ((qs.length - 1 : Nat) : Int))) rfl Ty.sl205 rfl rfl rfl (by simp [bnd]) (by simp [bnd]; try omega) (by omega) (by omega) (by omega) (by simp)) ?_
   refine WP.val rfl rfl rfl (Val.nilCheck rfl rfl) ?_
   refine WP.val rfl rfl rfl (Val.fieldAddr (j := 0) rfl Ty.fo208_1 rfl rfl) ?_
   refine WP.perm pl1 ?_
   refine WP.eff0 rfl rfl (Eff.store rfl Ty.sc205 rfl rfl rfl (by simp) st0) ?_
   rintro _ _ rfl
   refine WP.nx ?_
   refine WPc.sr ?_
   refine WP.val rfl rfl rfl (Val.move rfl rfl) ?_
   refine WP.val rfl rfl rfl (Val.nilCheck rfl rfl) ?_
   refine WP.val rfl rfl rfl (Val.mu rfl mu208_0 rfl (fun w h => h.at 0 rfl)) ?_
   refine WP.eff rfl rfl rfl (Eff.call rfl rfl Try.call135 (f135_spec f)) ?_
   rintro _ _ ⟨_, rfl, rfl⟩
   show WP _ _ _ _ _ _ _ (Blk f [.slice (some ⟨fb, 0, none⟩) (qs.length - 1) 32] 208 :: Blk fb (flatOf vcf ((qps qs).set (qs.length - 1) (.pointer none)) ++ fsp) 171 :: _)
   refine WP.nx ?_
   refine WPc.ret ?_
   refine Out.perm pl2 ?_
   refine Out.conv (fun w h => (Sat.kPerm (less_perm hsp) h).kCons) ?_
   refine Out.perm pl1 ?_
   refine Out.perm pl3 ?_
   refine Out.perm pl3 ?_
   refine Out.conv (fun w h => Sat.flMk (f := f) (b := fb) (qs := qs.take (qs.length - 1)) (sp := [.pointer none] ++ fsp) (by rw [less_len]; omega) (by rw [less_len, List.length_append, hq2, List.length_singleton]; omega) (by rw [less_len, ← List.append_assoc, ← qps_less hsp]; exact h)) ?_
   show Out _ _ _ _ _ (FL f :: FNode x :: _)
   refine Out.perm pl1 ?_
   exact Out.ret1 (L' := _) Try.results121 rfl ⟨_, rfl, rfl⟩ (fun _ h => h)

theorem qps_more {qs : List Nat} {p : Nat} : flatOf vcf (qps (qs ++ [p])) = flatOf vcf (qps qs) ++ [.pointer (some ⟨p, 0, none⟩)] := by rw [flat_vcf, flat_vcf]; simp [qps, pv]
set_option maxRecDepth 100000 in
set_option maxHeartbeats 2000000 in
theorem flfree_spec (f p : Nat) : Does Try.prog 142 [.pointer (some ⟨f, 0, none⟩), .pointer (some ⟨p, 0, none⟩)] [FL f, FNode p] (fun v L => ∃ b : Bool, v = .bool b ∧ L = [FL f]) := by
 refine Does.enter 34 Try.func142 rfl rfl rfl fun W F => ?_
 show WPc _ _ _ _ _ [(0, .pointer (some ⟨f, 0, none⟩)), (1, .pointer (some ⟨p, 0, none⟩))] (FL f :: FNode p :: F)
 refine WPc.sr ?_
 refine WP.val rfl rfl rfl (Val.assign rfl rfl) ?_
 refine WP.nx ?_
 refine WPc.seq ?_
 refine WPc.open (fun w h => h.flOpen) ?_
 rintro ⟨fb, qs, fsp⟩
 refine WPc.pure (fun hq => ?_)
 obtain ⟨hq1, hq2⟩ := hq
 dsimp only at hq1 hq2
 show WPc _ _ _ _ _ _ (Blk f [.slice (some ⟨fb, 0, none⟩) qs.length 32] 208 :: Blk fb (flatOf vcf (qps qs) ++ fsp) 171 :: Kds FNode qs :: _)
 refine WPc.region ?_
 refine WP.val rfl rfl rfl (Val.move rfl rfl) ?_
 refine WP.val rfl rfl rfl (Val.nilCheck rfl rfl) ?_
 refine WP.val rfl rfl rfl (Val.mu rfl mu208_0 rfl (fun w h => h.at 0 rfl)) ?_
 refine WP.eff rfl rfl rfl (Eff.call rfl rfl Try.call134 (f134_spec f)) ?_
 rintro _ _ ⟨_, rfl, rfl⟩
 refine WP.nx ?_
 refine WPc.seq ?_
 refine WPc.seq ?_
 refine WPD.s0 Ty.mixed ?_
 refine WPD.tM 0 rfl rfl rfl rfl (Val.move rfl rfl) ?_
 refine WPD.tM 1 rfl rfl rfl rfl (Val.nilCheck rfl rfl) ?_
 refine WPD.tM 2 rfl rfl rfl rfl (Val.fieldAddr (j := 0) rfl Ty.fo208_1 rfl rfl) ?_
 refine WPD.tL 3 rfl rfl rfl rfl (fun _ h => h) (Val.load rfl Ty.sc205 rfl (fun w h => h.cell 0 rfl rfl)) ?_
 refine WPD.tL 4 rfl rfl rfl rfl (fun _ h => h) (Val.len rfl Ty.sl205 rfl) ?_
 refine WPD.tM 5 rfl rfl rfl rfl (Val.move rfl rfl) ?_
 refine WPD.tM 6 rfl rfl rfl rfl (Val.nilCheck rfl rfl) ?_
 refine WPD.tM 7 rfl rfl rfl rfl (Val.fieldAddr (j := 0) rfl Ty.fo208_1 rfl rfl) ?_
 refine WPD.tL 8 rfl rfl rfl rfl (fun _ h => h) (Val.load rfl Ty.sc205 rfl (fun w h => h.cell 0 rfl rfl)) ?_
 refine WPD.tL 9 rfl rfl rfl rfl (fun _ h => h) (Val.cap rfl Ty.sl205 rfl) ?_
 refine WPD.tM 10 rfl rfl rfl rfl (Val.lss rfl rfl rfl) ?_
 refine WPD.done (by kernel_rfl) ?_
 refine Out.next ?_
 refine WPc.ifP rfl (fun h1 => ?_) (fun h1 => ?_)
 ·
  have h1 : (((qs.length : Nat) : Int) < (32 : Int)) := h1
  refine WPc.seq ?_
  have hroom : qs.length + 1 ≤ 32 := by omega
  refine WPc.region ?_
  refine WP.val rfl rfl rfl (Val.move rfl rfl) ?_
  refine WP.val rfl rfl rfl (Val.move rfl rfl) ?_
  refine WP.val rfl rfl rfl (Val.nilCheck rfl rfl) ?_
  refine WP.val rfl rfl rfl (Val.fieldAddr (j := 0) rfl Ty.fo208_1 rfl rfl) ?_
  refine WP.val rfl rfl rfl (Val.load rfl Ty.sc205 rfl (fun w h => h.cell 0 rfl rfl)) ?_
  refine WP.val rfl rfl rfl (Val.move rfl rfl) ?_
  refine WP.eff rfl rfl rfl (Eff.mkSlice (C := [.pointer (some ⟨p, 0, none⟩)]) rfl Ty.sl205 rfl (fun _ => by kernel_rfl)) ?_
  rintro _ _ ⟨b1, rfl, rfl⟩
  refine WP.perm pl2 ?_
  refine WP.eff rfl rfl rfl (Eff.appendIn (m := 1) (n0 := qs.length) (xs := flatOf vcf (qps qs)) (sp := fsp) (news := [.pointer (some ⟨p, 0, none⟩)]) rfl Ty.sl205 rfl rfl (.slice Ty.sl205 rfl rfl (fun w h => cells_range (h.range 1 rfl rfl))) (by omega) (by rw [flat_vcf, qps_len]; omega) (by rw [hq2]; omega)) ?_
  rintro _ _ ⟨rfl, rfl⟩
  refine WP.val rfl rfl rfl (Val.nilCheck rfl rfl) ?_
  refine WP.val rfl rfl rfl (Val.fieldAddr (j := 0) rfl Ty.fo208_1 rfl rfl) ?_
  refine WP.perm pl2 ?_
  refine WP.eff0 rfl rfl (Eff.store rfl Ty.sc205 rfl rfl rfl (by simp) st0) ?_
  rintro _ _ rfl
  refine WP.nx ?_
  refine WPc.region ?_
  refine WP.val rfl rfl rfl (Val.assign rfl rfl) ?_
  refine WP.nx ?_
  refine WPc.sr ?_
  refine WP.val rfl rfl rfl (Val.move rfl rfl) ?_
  refine WP.val rfl rfl rfl (Val.nilCheck rfl rfl) ?_
  refine WP.val rfl rfl rfl (Val.mu rfl mu208_0 rfl (fun w h => h.at 0 rfl)) ?_
  refine WP.eff rfl rfl rfl (Eff.call rfl rfl Try.call135 (f135_spec f)) ?_
  rintro _ _ ⟨_, rfl, rfl⟩
  show WP _ _ _ _ _ _ _ (Blk f [.slice (some ⟨fb, 0, none⟩) (qs.length + 1) 32] 208 :: Blk fb ((flatOf vcf (qps qs) ++ [.pointer (some ⟨p, 0, none⟩)]) ++ fsp.drop (1 * 1)) 171 :: Blk b1 [.pointer (some ⟨p, 0, none⟩)] 171 :: _)
  refine WP.nx ?_
  refine WPc.ret ?_
  refine Out.perm pl3 ?_
  refine Out.perm pl4 ?_
  refine Out.conv (fun w h => h.kConsMk) ?_
  refine Out.conv (fun w h => Sat.kPerm (List.perm_append_comm (l₁ := [p]) (l₂ := qs)) h) ?_
  refine Out.perm pl2 ?_
  refine Out.perm pl2 ?_
  refine Out.conv (fun w h => Sat.flMk (f := f) (b := fb) (qs := qs ++ [p]) (sp := fsp.drop 1) (by rw [List.length_append, List.length_singleton]; omega) (by rw [List.length_append, List.length_singleton, List.length_drop]; omega) (by rw [qps_more, List.length_append, List.length_singleton]; exact h)) ?_
  show Out _ _ _ _ _ (FL f :: _)
  refine Out.perm pl1 ?_
  refine Out.drop ?_
  exact Out.ret1 (L' := _) Try.results142 rfl ⟨true, rfl, rfl⟩ (fun _ h => h)
 ·
  have h1 : ¬ (((qs.length : Nat) : Int) < (32 : Int)) := h1
  refine WPc.skip ?_
  refine Out.next ?_
  refine WPc.sr ?_
  refine WP.val rfl rfl rfl (Val.move rfl rfl) ?_
  refine WP.val rfl rfl rfl (Val.nilCheck rfl rfl) ?_
  refine WP.val rfl rfl rfl (Val.mu rfl mu208_0 rfl (fun w h => h.at 0 rfl)) ?_
  refine WP.eff rfl rfl rfl (Eff.call rfl rfl Try.call135 (f135_spec f)) ?_
  rintro _ _ ⟨_, rfl, rfl⟩
  refine WP.nx ?_
  refine WPc.ret ?_
  iterate 3 (refine Out.perm pl2 ?_)
  refine Out.conv (fun w h => Sat.flMk (f := f) (b := fb) (qs := qs) (sp := fsp) hq1 hq2 (by exact h)) ?_
  show Out _ _ _ _ _ (FL f :: _)
  refine Out.perm pl1 ?_
  refine Out.drop ?_
  exact Out.ret1 (L' := _) Try.results142 rfl ⟨false, rfl, rfl⟩ (fun _ h => h)
set_option maxRecDepth 100000 in
set_option maxHeartbeats 2000000 in
theorem cownew_spec (c f : Nat) : Does Try.prog 99 [.pointer (some ⟨c, 0, none⟩)] [Blk c [.pointer (some ⟨f, 0, none⟩), .func (.func 53) #[] #[]] 170, FL f] (fun v L => ∃ p v1 v2, v = .pointer (some ⟨p, 0, none⟩) ∧ L = [Blk p [v1, v2, .pointer (some ⟨c, 0, none⟩)] 213, Own 55 2 v1 0 [], Own 171 1 v2 0 [], Blk c [.pointer (some ⟨f, 0, none⟩), .func (.func 53) #[] #[]] 170, FL f]) := by
 refine Does.enter 12 Try.func99 rfl rfl rfl fun W F => ?_
 show WPc _ _ _ _ _ [(0, .pointer (some ⟨c, 0, none⟩))] (Blk c [.pointer (some ⟨f, 0, none⟩), .func (.func 53) #[] #[]] 170 :: FL f :: F)
 refine WPc.sr ?_
 refine WP.val rfl rfl rfl (Val.assign rfl rfl) ?_
 refine WP.nx ?_
 refine WPc.sr ?_
 refine WP.val rfl rfl rfl (Val.move rfl rfl) ?_
 refine WP.val rfl rfl rfl (Val.nilCheck rfl rfl) ?_
 refine WP.val rfl rfl rfl (Val.fieldAddr (j := 0) rfl Ty.fo170_0 rfl rfl) ?_
 refine WP.val rfl rfl rfl (Val.load rfl Ty.sc167 rfl (fun w h => h.cell 0 rfl rfl)) ?_
 refine WP.perm pl1 ?_
 refine WP.eff rfl rfl rfl (Eff.call rfl rfl Try.call121 (flnew_spec f)) ?_
 rintro _ _ ⟨_, ⟨p, rfl, rfl⟩, rfl⟩
 show WP _ _ _ _ _ _ _ (FNode p :: _)
 refine WP.val rfl rfl rfl (Val.assign rfl rfl) ?_
 refine WP.nx ?_
 refine WPc.seq ?_
 refine WPc.open (fun w h => h.fnOpen) ?_
 rintro ⟨v1, v2⟩
 show WPc _ _ _ _ _ _ (Blk p [v1, v2, .pointer none] 213 :: Own 55 2 v1 0 ([]) :: Own 171 1 v2 0 ([]) :: _)
 refine WPc.region ?_
 refine WP.val rfl rfl rfl (Val.move rfl rfl) ?_
 refine WP.val rfl rfl rfl (Val.move rfl rfl) ?_
 refine WP.val rfl rfl rfl (Val.nilCheck rfl rfl) ?_
 refine WP.val rfl rfl rfl (Val.fieldAddr (j := 2) rfl Ty.fo213_2 rfl rfl) ?_
 refine WP.eff0 rfl rfl (Eff.store rfl Ty.sc172 rfl rfl rfl (by simp) st2) ?_
 rintro _ _ rfl
 refine WP.nx ?_
 refine WPc.ret ?_
 refine Out.perm pl3 ?_
 iterate 4 (refine Out.perm pl4 ?_)
 exact Out.ret1 (L' := _) Try.results99 rfl ⟨_, _, _, rfl, rfl⟩ (fun _ h => h)
set_option maxRecDepth 100000 in
set_option maxHeartbeats 2000000 in
theorem cowfree_spec (c f p : Nat) (vi vc : Value) (is : List El) (xs : List Value) (hone : ∀ x ∈ xs, x.oneCell' = true) (h6 : is.length ≤ 1000000) (h7 : xs.length ≤ 1000000) : Does Try.prog 130 [.pointer (some ⟨c, 0, none⟩), .pointer (some ⟨p, 0, none⟩)] [Blk c [.pointer (some ⟨f, 0, none⟩), .func (.func 53) #[] #[]] 170, FL f, Blk p [vi, vc, .pointer (some ⟨c, 0, none⟩)] 213, Own 55 2 vi is.length (flatOf El.cells is), Own 171 1 vc xs.length (flatOf vcf xs)] (fun v L => v = v ∧ L = [Blk c [.pointer (some ⟨f, 0, none⟩), .func (.func 53) #[] #[]] 170, FL f]) := by
 refine Does.enter 28 Try.func130 rfl rfl rfl fun W F => ?_
 show WPc _ _ _ _ _ [(0, .pointer (some ⟨c, 0, none⟩)), (1, .pointer (some ⟨p, 0, none⟩))] (Blk c [.pointer (some ⟨f, 0, none⟩), .func (.func 53) #[] #[]] 170 :: FL f :: Blk p [vi, vc, .pointer (some ⟨c, 0, none⟩)] 213 :: Own 55 2 vi is.length (flatOf El.cells is) :: Own 171 1 vc xs.length (flatOf vcf xs) :: F)
 refine WPc.sr ?_
 refine WP.val rfl rfl rfl (Val.assign rfl rfl) ?_
 refine WP.nx ?_
 refine WPc.seq ?_
 refine WPc.sr ?_
 refine WP.val rfl rfl rfl (Val.move rfl rfl) ?_
 refine WP.val rfl rfl rfl (Val.nilCheck rfl rfl) ?_
 refine WP.val rfl rfl rfl (Val.fieldAddr (j := 2) rfl Ty.fo213_2 rfl rfl) ?_
 refine WP.val rfl rfl rfl (Val.load rfl Ty.sc172 rfl (fun w h => h.cell 2 rfl rfl)) ?_
 refine WP.val rfl rfl rfl (Val.move rfl rfl) ?_
 refine WP.val rfl rfl rfl (Val.eqSame rfl pe172 rfl rfl) ?_
 refine WP.nx ?_
 refine WPc.condT rfl rfl ?_
 refine WPc.sr ?_
 refine WP.val rfl rfl rfl (Val.move rfl rfl) ?_
 refine WP.val rfl rfl rfl (Val.nilCheck rfl rfl) ?_
 refine WP.val rfl rfl rfl (Val.fieldAddr (j := 0) rfl Ty.fo213_0 rfl rfl) ?_
 refine WP.perm pl3 ?_
 refine WP.perm pl3 ?_
 refine WP.eff rfl rfl rfl (Eff.call rfl rfl Try.call122 (truncE p vi vc (.pointer (some ⟨c, 0, none⟩)) 0 is (Nat.zero_le _) (by omega))) ?_
 rintro _ _ ⟨_, ⟨wi, hwi, rfl⟩, rfl⟩
 show WP _ _ _ _ _ _ _ (Blk p [wi, vc, .pointer (some ⟨c, 0, none⟩)] 213 :: Own 55 2 wi 0 ([]) :: _)
 refine WP.nx ?_
 refine WPc.sr ?_
 refine WP.val rfl rfl rfl (Val.move rfl rfl) ?_
 refine WP.val rfl rfl rfl (Val.nilCheck rfl rfl) ?_
 refine WP.val rfl rfl rfl (Val.fieldAddr (j := 1) rfl Ty.fo213_1 rfl rfl) ?_
 refine WP.perm pl4 ?_
 refine WP.perm pl1 ?_
 refine WP.eff rfl rfl rfl (Eff.call rfl rfl Try.call123 (truncP p wi vc (.pointer (some ⟨c, 0, none⟩)) 0 xs hone (Nat.zero_le _) (by omega))) ?_
 rintro _ _ ⟨_, ⟨wc, hwc, rfl⟩, rfl⟩
 show WP _ _ _ _ _ _ _ (Blk p [wi, wc, .pointer (some ⟨c, 0, none⟩)] 213 :: Own 171 1 wc 0 ([]) :: _)
 refine WP.nx ?_
 refine WPc.sr ?_
 refine WP.val rfl rfl rfl (Val.move rfl rfl) ?_
 refine WP.val rfl rfl rfl (Val.nilCheck rfl rfl) ?_
 refine WP.val rfl rfl rfl (Val.fieldAddr (j := 2) rfl Ty.fo213_2 rfl rfl) ?_
 refine WP.eff0 rfl rfl (Eff.store rfl Ty.sc172 rfl rfl rfl (by simp) st2) ?_
 rintro _ _ rfl
 refine WP.nx ?_
 refine WPc.seq ?_
 refine WPc.seq ?_
 refine WPc.perm pl1 ?_
 refine WPc.perm pl2 ?_
 refine WPc.perm pl2 ?_
 refine WPc.conv (fun w h => h.fnMk) ?_
 show WPc _ _ _ _ _ _ (FNode p :: _)
 refine WPc.region ?_
 refine WP.val rfl rfl rfl (Val.move rfl rfl) ?_
 refine WP.val rfl rfl rfl (Val.nilCheck rfl rfl) ?_
 refine WP.val rfl rfl rfl (Val.fieldAddr (j := 0) rfl Ty.fo170_0 rfl rfl) ?_
 refine WP.val rfl rfl rfl (Val.load rfl Ty.sc167 rfl (fun w h => h.cell 1 rfl rfl)) ?_
 refine WP.val rfl rfl rfl (Val.move rfl rfl) ?_
 refine WP.perm pl2 ?_
 refine WP.eff rfl rfl rfl (Eff.call rfl rfl Try.call142 (flfree_spec f p)) ?_
 rintro _ _ ⟨_, ⟨bf, rfl, rfl⟩, rfl⟩
 refine WP.nx ?_
 refine WPc.cond rfl (fun h1 => ?_) (fun h1 => ?_)
 ·
  have h1 : (bf) = true := h1
  refine WPc.sr ?_
  refine WP.val rfl rfl rfl (Val.assign rfl rfl) ?_
  refine WP.nx ?_
  refine WPc.ret ?_
  refine Out.then_ret ?_
  refine Out.then_ret ?_
  refine Out.perm pl1 ?_
  exact Out.ret1 (L' := _) Try.results130 rfl ⟨rfl, rfl⟩ (fun _ h => h)
 ·
  have h1 : (bf) = false := h1
  refine WPc.skip ?_
  refine Out.next ?_
  refine WPc.sr ?_
  refine WP.val rfl rfl rfl (Val.assign rfl rfl) ?_
  refine WP.nx ?_
  refine WPc.ret ?_
  refine Out.then_ret ?_
  refine Out.perm pl1 ?_
  exact Out.ret1 (L' := _) Try.results130 rfl ⟨rfl, rfl⟩ (fun _ h => h)
set_option maxRecDepth 100000 in
set_option maxHeartbeats 2000000 in
theorem mut_spec (c p : Nat) (vi vc : Value) : Does Try.prog 100 [.pointer (some ⟨p, 0, none⟩), .pointer (some ⟨c, 0, none⟩)] [Blk p [vi, vc, .pointer (some ⟨c, 0, none⟩)] 213] (fun v L => v = .pointer (some ⟨p, 0, none⟩) ∧ L = [Blk p [vi, vc, .pointer (some ⟨c, 0, none⟩)] 213]) := by
 refine Does.enter 110 Try.func100 rfl rfl rfl fun W F => ?_
 show WPc _ _ _ _ _ [(0, .pointer (some ⟨p, 0, none⟩)), (1, .pointer (some ⟨c, 0, none⟩))] (Blk p [vi, vc, .pointer (some ⟨c, 0, none⟩)] 213 :: F)
 refine WPc.sr ?_
 refine WP.val rfl rfl rfl (Val.assign rfl rfl) ?_
 refine WP.nx ?_
 refine WPc.seq ?_
 refine WPc.sr ?_
 refine WP.val rfl rfl rfl (Val.move rfl rfl) ?_
 refine WP.val rfl rfl rfl (Val.nilCheck rfl rfl) ?_
 refine WP.val rfl rfl rfl (Val.fieldAddr (j := 2) rfl Ty.fo213_2 rfl rfl) ?_
 refine WP.val rfl rfl rfl (Val.load rfl Ty.sc172 rfl (fun w h => h.cell 0 rfl rfl)) ?_
 refine WP.val rfl rfl rfl (Val.move rfl rfl) ?_
 refine WP.val rfl rfl rfl (Val.eqSame rfl pe172 rfl rfl) ?_
 refine WP.nx ?_
 refine WPc.condT rfl rfl ?_
 refine WPc.sr ?_
 refine WP.val rfl rfl rfl (Val.move rfl rfl) ?_
 refine WP.val rfl rfl rfl (Val.assign rfl rfl) ?_
 refine WP.nx ?_
 refine WPc.ret ?_
 refine Out.then_ret ?_
 exact Out.ret1 (L' := _) Try.results100 rfl ⟨rfl, rfl⟩ (fun _ h => h)

end Go.Proofs.Ythmkdioafjmclaa.Bt3
