import Derived.Test.YthmkdioafjmclaaSlTerse
import Derived.Test.YthmkdioafjmclaaBt8
namespace Go.Proofs.Ythmkdioafjmclaa.Bt9
open Go.RowKit Go.Proofs.Ythmkdioafjmclaa Go.Proofs.Ythmkdioafjmclaa.Sl Go.Proofs.Ythmkdioafjmclaa.Bt Go.Proofs.Ythmkdioafjmclaa.Bt2 Go.Proofs.Ythmkdioafjmclaa.Bt3 Go.Proofs.Ythmkdioafjmclaa.Bt4 Go.Proofs.Ythmkdioafjmclaa.Bt5 Go.Proofs.Ythmkdioafjmclaa.Bt6 Go.Proofs.Ythmkdioafjmclaa.Bt7 Go.Proofs.Ythmkdioafjmclaa.Bt8
set_option linter.unusedVariables false
set_option linter.unusedSimpArgs false
set_option linter.unusedSectionVars false


def TE : Tr := .nd [] []
def kid (t : Tr) (i : Nat) : Tr := t.ks.getD i TE
theorem kid_at {t k : Tr} {i : Nat} (h : t.ks[i]? = some k) : kid t i = k := by unfold kid; rw [List.getD_eq_getElem?_getD, h]; rfl
def stealL (t : Tr) (i : Nat) : Tr :=
 let l := kid t (i - 1)
 let k := kid t i
 .nd (t.is.set (i - 1) (l.is.getD (l.is.length - 1) El0)) ((t.ks.set i (.nd (t.is.getD (i - 1) El0 :: k.is) (if 0 < l.ks.length then l.ks.getD (l.ks.length - 1) TE :: k.ks else k.ks))).set (i - 1) (.nd (l.is.take (l.is.length - 1)) (l.ks.take (l.ks.length - 1))))
def stealR (t : Tr) (i : Nat) : Tr :=
 let r := kid t (i + 1)
 let k := kid t i
 .nd (t.is.set i (r.is.getD 0 El0)) ((t.ks.set (i + 1) (.nd (r.is.eraseIdx 0) (r.ks.eraseIdx 0))).set i (.nd (k.is ++ [t.is.getD i El0]) (if 0 < r.ks.length then k.ks ++ [r.ks.getD 0 TE] else k.ks)))
def merge (t : Tr) (j : Nat) : Tr :=
 .nd (t.is.eraseIdx j) ((t.ks.eraseIdx (j + 1)).set j (.nd ((kid t j).is ++ [t.is.getD j El0] ++ (kid t (j + 1)).is) ((kid t j).ks ++ (kid t (j + 1)).ks)))
def grow (m : Nat) (t : Tr) (i : Nat) : Tr :=
 if 0 < i ∧ m < (kid t (i - 1)).is.length then stealL t i
 else if i < t.is.length ∧ m < (kid t (i + 1)).is.length then stealR t i
 else merge t (if t.is.length ≤ i then i - 1 else i)
theorem pair_out {α : Type} {ks : List α} {i j : Nat} {a b : α} (hij : i < j) (ha : ks[i]? = some a) (hb : ks[j]? = some b) :
  ∃ rest : List α, ks.Perm (a :: b :: rest) ∧ (∀ a' b', ((ks.set j b').set i a').Perm (a' :: b' :: rest)) ∧ ∀ a', ((ks.eraseIdx j).set i a').Perm (a' :: rest) := by
 have e1 := split_at ha
 have hi := (List.getElem?_eq_some_iff.1 ha).1
 have hb2 : (ks.drop (i + 1))[j - i - 1]? = some b := by rw [List.getElem?_drop, show i + 1 + (j - i - 1) = j by omega]; exact hb
 have e2 := split_at hb2
 generalize hx : ks.take i = x at e1
 generalize hy : (ks.drop (i + 1)).take (j - i - 1) = y at e2
 generalize hz : (ks.drop (i + 1)).drop (j - i - 1 + 1) = z at e2
 have hxl : x.length = i := by rw [← hx, List.length_take]; omega
 have hj := (List.getElem?_eq_some_iff.1 hb).1
 have hyl : y.length = j - i - 1 := by rw [← hy, List.length_take, List.length_drop]; omega
 rw [e2] at e1
 clear hx hy hz e2 ha hb hb2
 subst e1
 refine ⟨x ++ (y ++ z), ?_, fun a' b' => ?_, fun a' => ?_⟩
 ·
  exact List.perm_middle.trans ((by rw [← List.append_assoc, ← List.append_assoc]; exact List.perm_middle : (x ++ (y ++ b :: z)).Perm (b :: (x ++ (y ++ z)))).cons a)
 ·
  have e3 : ((x ++ a :: (y ++ b :: z)).set j b').set i a' = x ++ a' :: (y ++ b' :: z) := by
   have e4 : (y ++ b :: z).set (j - i - 1) b' = y ++ b' :: z := by rw [List.set_append_right _ _ (by omega), hyl, Nat.sub_self, List.set_cons_zero]
   have e5 : (x ++ a :: (y ++ b :: z)).set j b' = x ++ a :: (y ++ b' :: z) := by rw [List.set_append_right _ _ (by omega), hxl, show j - i = (j - i - 1) + 1 by omega, List.set_cons_succ, e4]
   rw [e5, List.set_append_right _ _ (by omega), hxl, Nat.sub_self, List.set_cons_zero]
  rw [e3]
  exact List.perm_middle.trans ((by rw [← List.append_assoc, ← List.append_assoc]; exact List.perm_middle : (x ++ (y ++ b' :: z)).Perm (b' :: (x ++ (y ++ z)))).cons a')
 ·
  have e3 : ((x ++ a :: (y ++ b :: z)).eraseIdx j).set i a' = x ++ a' :: (y ++ z) := by
   rw [List.eraseIdx_append_of_length_le (by omega), hxl, show j - i = (j - i - 1) + 1 by omega, List.eraseIdx_cons_succ, List.eraseIdx_append_of_length_le (by omega), hyl, Nat.sub_self, List.eraseIdx_cons_zero, List.set_append_right _ _ (by omega), hxl, Nat.sub_self, List.set_cons_zero]
  rw [e3]
  exact List.perm_middle
theorem kp_set {ks : List (Nat × Tr)} {i p : Nat} {t0 t1 : Tr} (h : ks[i]? = some (p, t0)) : kp (ks.set i (p, t1)) = kp ks := by
 unfold kp
 rw [List.map_set]
 exact kp_same h
theorem kp_erase (ks : List (Nat × Tr)) (i : Nat) : (kp ks).eraseIdx i = kp (ks.eraseIdx i) := by
 unfold kp
 rw [List.eraseIdx_eq_take_drop_succ, List.eraseIdx_eq_take_drop_succ, List.map_append, List.map_take, List.map_drop]
theorem snd_set {ks : List (Nat × Tr)} {l : List Tr} {i p : Nat} {t1 : Tr} (h : ks.map (·.2) = l) : (ks.set i (p, t1)).map (·.2) = l.set i t1 := by rw [List.map_set, h]
theorem snd_erase {ks : List (Nat × Tr)} {l : List Tr} {i : Nat} (h : ks.map (·.2) = l) : (ks.eraseIdx i).map (·.2) = l.eraseIdx i := by
 rw [← h, List.eraseIdx_eq_take_drop_succ, List.eraseIdx_eq_take_drop_succ, List.map_append, List.map_take, List.map_drop]
theorem last_perm {α : Type} {l : List α} {x : α} (h : l[l.length - 1]? = some x) : l.Perm (x :: l.take (l.length - 1)) := by
 have hlt := (List.getElem?_eq_some_iff.1 h).1
 have e := split_at h
 rw [show l.length - 1 + 1 = l.length by omega, List.drop_length] at e
 have h2 := List.perm_append_comm (l₁ := l.take (l.length - 1)) (l₂ := [x])
 rw [← e] at h2
 exact h2
theorem kp_cons (k : Nat × Tr) (ks : List (Nat × Tr)) : kp (k :: ks) = .pointer (some ⟨k.1, 0, none⟩) :: kp ks := rfl

theorem first_perm {α : Type} {l : List α} {x : α} (h : l[0]? = some x) : l.Perm (x :: l.eraseIdx 0) := by
 cases l with
 | nil => cases h
 | cons y l => simp at h; subst h; exact List.Perm.refl _
set_option maxRecDepth 100000 in
set_option maxHeartbeats 2000000 in
theorem grow_spec (c f m M ht p i : Nat) (t t2 : Tr) (x : El) (typ : Int) (o : Option El) (hM : M = 2 * m + 1) (hM2 : M ≤ 1000) (hm1 : 1 ≤ m) (hbal : Bal m M (ht + 1) t) (hil : i ≤ t.is.length) (hi1 : 1 ≤ t.is.length) (hrem : Does Try.prog 128 [.pointer (some ⟨p, 0, none⟩), .agg #[.int .i64 x.k, .int .i64 x.v], .int .i64 ((m : Nat) : Int), .int .i64 typ] [Nd c (ht + 1) (p, grow m t i), Blk c [.pointer (some ⟨f, 0, none⟩), .func (.func 53) #[] #[]] 170, FL f] (fun v L => v = opv o ∧ L = [Nd c (ht + 1) (p, t2), Blk c [.pointer (some ⟨f, 0, none⟩), .func (.func 53) #[] #[]] 170, FL f])) : Does Try.prog 141 [.pointer (some ⟨p, 0, none⟩), .int .i64 (((i : Nat) : Int)), .agg #[.int .i64 (x.k), .int .i64 (x.v)], .int .i64 (((m : Nat) : Int)), .int .i64 (typ)] [Nd c (ht + 1) (p, t), Blk c [.pointer (some ⟨f, 0, none⟩), .func (.func 53) #[] #[]] 170, FL f] (fun v L => v = opv o ∧ L = [Nd c (ht + 1) (p, t2), Blk c [.pointer (some ⟨f, 0, none⟩), .func (.func 53) #[] #[]] 170, FL f]) := by
 refine Does.enter 230 Try.func141 rfl rfl rfl fun W F => ?_
 show WPc _ _ _ _ _ [(0, .pointer (some ⟨p, 0, none⟩)), (1, .int .i64 (((i : Nat) : Int))), (2, .agg #[.int .i64 (x.k), .int .i64 (x.v)]), (3, .int .i64 (((m : Nat) : Int))), (4, .int .i64 (typ))] (Nd c (ht + 1) (p, t) :: Blk c [.pointer (some ⟨f, 0, none⟩), .func (.func 53) #[] #[]] 170 :: FL f :: F)
 refine WPc.sr ?_
 refine WP.eff rfl rfl rfl (Eff.box (C := [.int .i64 (x.k), .int .i64 (x.v)]) rfl rfl rfl) ?_
 rintro _ _ ⟨b1, rfl, rfl⟩
 refine WP.eff rfl rfl rfl (Eff.alloc rfl Ty.z55) ?_
 rintro _ _ ⟨b2, rfl, rfl⟩
 refine WP.val rfl rfl rfl (Val.assign rfl rfl) ?_
 refine WP.nx ?_
 refine WPc.seq ?_
 refine WPc.seq ?_
 by_cases hi0 : 0 < i
 ·
  refine WPc.perm pl2 ?_
  refine WPc.open (fun w h => h.ndOpen) ?_
  rintro ⟨vi, vc, ks⟩
  refine WPc.pure (fun hk => ?_)
  obtain ⟨hk, hl⟩ := hk
  dsimp only at hk hl
  have hkl := ks_len hk
  show WPc _ _ _ _ _ _ (Blk p [vi, vc, .pointer (some ⟨c, 0, none⟩)] 213 :: Own 55 2 vi t.is.length (flatOf El.cells t.is) :: Own 171 1 vc ks.length (flatOf vcf (kp ks)) :: Kds (Rk c (ht + 1)) ks :: Blk b2 [.int .i64 0, .int .i64 0] 55 :: Blk b1 [.int .i64 (x.k), .int .i64 (x.v)] 55 :: _)
  have hb1 := hbal.1
  have hb2 := hbal.2.1
  have hb3 := hbal.2.2
  have hkl2 : ks.length = t.is.length + 1 := by omega
  refine WPc.perm pl2 ?_
  refine WPc.open (fun w h => h.ownPos (by omega)) ?_
  rintro ⟨g3, cg3, spg3⟩
  refine WPc.pure (fun hvg3 => ?_)
  obtain ⟨rfl, hng3, hlg3, hsg3, hcg3⟩ := hvg3
  dsimp only at hng3 hlg3 hsg3 hcg3
  show WPc _ _ _ _ _ _ (Blk g3 (flatOf vcf (kp ks) ++ spg3) 171 :: Blk p [vi, .slice (some ⟨g3, 0, none⟩) ks.length cg3, .pointer (some ⟨c, 0, none⟩)] 213 :: _)
  obtain ⟨tl, htl⟩ : ∃ k, t.ks[i - 1]? = some k := ⟨_, List.getElem?_eq_getElem (by omega)⟩
  obtain ⟨pl, hxl⟩ := ks_get hk htl
  have hm_tl := hb3 tl (List.mem_of_getElem? htl)
  have hs_tl := hm_tl.2.le
  have hk_l := kp_at hxl
  refine WPc.perm pl3 ?_
  refine WPc.conv (fun w h => Sat.kOut (R := Rk c (ht + 1)) hxl h) ?_
  show WPc _ _ _ _ _ _ (Nd c ht (pl, tl) :: Kds (Rk c (ht + 1)) (ks.take (i - 1) ++ ks.drop ((i - 1) + 1)) :: _)
  refine WPc.open (fun w h => h.ndOpen) ?_
  rintro ⟨vil, vcl, ksl⟩
  refine WPc.pure (fun hkl => ?_)
  obtain ⟨hkl, hll⟩ := hkl
  dsimp only at hkl hll
  have hkll := ks_len hkl
  show WPc _ _ _ _ _ _ (Blk pl [vil, vcl, .pointer (some ⟨c, 0, none⟩)] 213 :: Own 55 2 vil tl.is.length (flatOf El.cells tl.is) :: Own 171 1 vcl ksl.length (flatOf vcf (kp ksl)) :: Kds (Rk c ht) ksl :: _)
  refine WPc.region ?_
  refine WP.val rfl rfl rfl (Val.move rfl rfl) ?_
  refine WP.val rfl rfl rfl (Val.gtr rfl rfl rfl) ?_
  refine WP.val rfl rfl rfl (Val.move rfl rfl) ?_
  refine WP.split 23 rfl (fun h1 => ?_) (fun h1 => ?_)
  ·
   have h1 : ((0 : Int) < ((i : Nat) : Int)) := h1
   refine WP.valG rfl rfl rfl rfl rfl rfl rfl (Val.move rfl rfl) ?_
   refine WP.valG rfl rfl rfl rfl rfl rfl rfl (Val.nilCheck rfl rfl) ?_
   refine WP.valG rfl rfl rfl rfl rfl rfl rfl (Val.fieldAddr (j := 1) rfl Ty.fo213_1 rfl rfl) ?_
   refine WP.valG rfl rfl rfl rfl rfl rfl rfl (Val.load rfl Ty.sc211 rfl (fun w h => h.cell 6 rfl rfl)) ?_
   refine WP.valG rfl rfl rfl rfl rfl rfl rfl (Val.move rfl rfl) ?_
   refine WP.valG rfl rfl rfl rfl rfl rfl rfl (Val.sub (z := ((i - 1 : Nat) : Int)) rfl rfl rfl ((w64 (by omega) (by omega)).trans (by omega))) ?_
   refine WP.valG rfl rfl rfl rfl rfl rfl rfl (Val.indexAddr (j := i - 1) (q := i - 1) rfl Ty.sl211 rfl rfl (by omega) (by omega) (by omega)) ?_
   refine WP.valG rfl rfl rfl rfl rfl rfl rfl (Val.load (v := .pointer (some ⟨pl, 0, none⟩)) rfl Ty.sc171 rfl (fun w h => ((h.at 5 rfl).cell _).trans (vflat_at hk_l))) ?_
   refine WP.valG rfl rfl rfl rfl rfl rfl rfl (Val.nilCheck rfl rfl) ?_
   refine WP.valG rfl rfl rfl rfl rfl rfl rfl (Val.fieldAddr (j := 0) rfl Ty.fo213_0 rfl rfl) ?_
   refine WP.valG rfl rfl rfl rfl rfl rfl rfl (Val.load rfl Ty.sc210 rfl (fun w h => h.cell 0 rfl rfl)) ?_
   refine WP.valG rfl rfl rfl rfl rfl rfl rfl (Val.lenOwn rfl Ty.sl210 rfl (fun w h => h.at 1 rfl)) ?_
   refine WP.valG rfl rfl rfl rfl rfl rfl rfl (Val.move rfl rfl) ?_
   refine WP.valG rfl rfl rfl rfl rfl rfl rfl (Val.gtr rfl rfl rfl) ?_
   refine WP.val rfl rfl rfl (Val.pickT rfl rfl rfl) ?_
   refine WP.nx ?_
   refine WPc.ifP rfl (fun h2 => ?_) (fun h2 => ?_)
   ·
    have h2 : (((m : Nat) : Int) < ((tl.is.length : Nat) : Int)) := h2
    refine WPc.seq ?_
    iterate 4 (refine WPc.perm pl3 ?_)
    refine WPc.conv (fun w h => Sat.ndMk (c := c) (h := ht) (t := tl) (ks := ksl) hkl hll h) ?_
    show WPc _ _ _ _ _ _ (Nd c ht (pl, tl) :: _)
    refine WPc.perm pl1 ?_
    refine WPc.perm pl1 ?_
    refine WPc.conv (fun w h => (by have h9 := Sat.kIn (R := Rk c (ht + 1)) (x := (pl, tl)) (ks := ks) (i := (i - 1)) h; rw [← split_at hxl] at h9; exact h9)) ?_
    show WPc _ _ _ _ _ _ (Kds (Rk c (ht + 1)) ks :: _)
    refine WPc.perm pl1 ?_
    refine WPc.conv (fun w h => Sat.ownMk (e := 171) (k := 1) (b := g3) (m := ks.length) (cap := cg3) (xs := flatOf vcf (kp ks)) (sp := spg3) (by exact h) hng3 hlg3 hsg3 hcg3) ?_
    obtain ⟨tx, htx⟩ : ∃ k, t.ks[i]? = some k := ⟨_, List.getElem?_eq_getElem (by omega)⟩
    obtain ⟨px, hxx⟩ := ks_get hk htx
    have hm_tx := hb3 tx (List.mem_of_getElem? htx)
    have hs_tx := hm_tx.2.le
    refine WPc.region ?_
    refine WP.val rfl rfl rfl (Val.move rfl rfl) ?_
    refine WP.val rfl rfl rfl (Val.move rfl rfl) ?_
    refine WP.perm pl1 ?_
    refine WP.perm pl1 ?_
    refine WP.perm pl2 ?_
    refine WP.eff rfl rfl rfl (Eff.call rfl rfl Try.call127 (mchild_spec c ht p i vi (.slice (some ⟨g3, 0, none⟩) ks.length cg3) ks px tx hxx (by omega))) ?_
    rintro _ _ ⟨_, ⟨rfl, rfl⟩, rfl⟩
    show WP _ _ _ _ _ _ _ (_ :: Own 171 1 (.slice (some ⟨g3, 0, none⟩) ks.length cg3) ks.length (flatOf vcf (kp ks)) :: _)
    refine WP.val rfl rfl rfl (Val.assign rfl rfl) ?_
    refine WP.nx ?_
    refine WPc.sr ?_
    refine WP.val rfl rfl rfl (Val.move rfl rfl) ?_
    refine WP.val rfl rfl rfl (Val.move rfl rfl) ?_
    refine WP.val rfl rfl rfl (Val.sub (z := ((i - 1 : Nat) : Int)) rfl rfl rfl ((w64 (by omega) (by omega)).trans (by omega))) ?_
    iterate 3 (refine WP.perm pl2 ?_)
    refine WP.eff rfl rfl rfl (Eff.call rfl rfl Try.call127 (mchild_spec c ht p ((i - 1)) vi (.slice (some ⟨g3, 0, none⟩) ks.length cg3) ks pl tl hxl (by omega))) ?_
    rintro _ _ ⟨_, ⟨rfl, rfl⟩, rfl⟩
    refine WP.val rfl rfl rfl (Val.assign rfl rfl) ?_
    refine WP.nx ?_
    refine WPc.seq ?_
    obtain ⟨rest, hp1, hp2, hp3⟩ := pair_out (ks := ks) (i := (i - 1)) (j := i) (by omega) hxl hxx
    refine WPc.perm pl2 ?_
    refine WPc.conv (fun w h => (Sat.kPerm hp1 h).kCons) ?_
    refine WPc.perm pl1 ?_
    refine WPc.conv (fun w h => h.kCons) ?_
    show WPc _ _ _ _ _ _ (Nd c ht (px, tx) :: Kds (Rk c (ht + 1)) rest :: Nd c ht (pl, tl) :: _)
    refine WPc.perm pl2 ?_
    refine WPc.open (fun w h => h.ndOpen) ?_
    rintro ⟨vil, vcl, ksl⟩
    refine WPc.pure (fun hkl => ?_)
    obtain ⟨hkl, hll⟩ := hkl
    dsimp only at hkl hll
    have hkll := ks_len hkl
    show WPc _ _ _ _ _ _ (Blk pl [vil, vcl, .pointer (some ⟨c, 0, none⟩)] 213 :: Own 55 2 vil tl.is.length (flatOf El.cells tl.is) :: Own 171 1 vcl ksl.length (flatOf vcf (kp ksl)) :: Kds (Rk c ht) ksl :: _)
    refine WPc.perm pl4 ?_
    refine WPc.open (fun w h => h.ndOpen) ?_
    rintro ⟨vix, vcx, ksx⟩
    refine WPc.pure (fun hkx => ?_)
    obtain ⟨hkx, hlx⟩ := hkx
    dsimp only at hkx hlx
    have hklx := ks_len hkx
    show WPc _ _ _ _ _ _ (Blk px [vix, vcx, .pointer (some ⟨c, 0, none⟩)] 213 :: Own 55 2 vix tx.is.length (flatOf El.cells tx.is) :: Own 171 1 vcx ksx.length (flatOf vcf (kp ksx)) :: Kds (Rk c ht) ksx :: _)
    obtain ⟨z, hz⟩ : ∃ z, tl.is[tl.is.length - 1]? = some z := ⟨_, List.getElem?_eq_getElem (by omega)⟩
    obtain ⟨y, hy⟩ : ∃ y, t.is[i - 1]? = some y := ⟨_, List.getElem?_eq_getElem (by omega)⟩
    refine WPc.region ?_
    refine WP.val rfl rfl rfl (Val.move rfl rfl) ?_
    refine WP.val rfl rfl rfl (Val.nilCheck rfl rfl) ?_
    refine WP.val rfl rfl rfl (Val.fieldAddr (j := 0) rfl Ty.fo213_0 rfl rfl) ?_
    refine WP.perm pl5 ?_
    refine WP.perm pl5 ?_
    refine WP.eff rfl rfl rfl (Eff.call rfl rfl Try.call139 (popE pl vil vcl (.pointer (some ⟨c, 0, none⟩)) z tl.is (by omega) hz (by omega))) ?_
    rintro _ _ ⟨_, ⟨wil, hwil, rfl, rfl⟩, rfl⟩
    show WP _ _ _ _ _ _ _ (Blk pl [wil, vcl, .pointer (some ⟨c, 0, none⟩)] 213 :: Own 55 2 wil ((tl.is).length - 1) (flatOf El.cells ((tl.is).take ((tl.is).length - 1))) :: _)
    refine WP.eff rfl rfl rfl (Eff.alloc rfl Ty.z55) ?_
    rintro _ _ ⟨b4, rfl, rfl⟩
    refine WP.eff0 rfl rfl (Eff.storeAgg (cs := [.int .i64 (z.k), .int .i64 (z.v)]) (C' := [.int .i64 (z.k), .int .i64 (z.v)]) rfl Ty.ag55 rfl rfl rfl rfl (by simp) rfl) ?_
    rintro _ _ rfl
    refine WP.nx ?_
    refine WPc.seq ?_
    refine WPc.perm pl12 ?_
    refine WPc.open (fun w h => h.ownPos (by omega)) ?_
    rintro ⟨g5, cg5, spg5⟩
    refine WPc.pure (fun hvg5 => ?_)
    obtain ⟨rfl, hng5, hlg5, hsg5, hcg5⟩ := hvg5
    dsimp only at hng5 hlg5 hsg5 hcg5
    show WPc _ _ _ _ _ _ (Blk g5 (flatOf El.cells t.is ++ spg5) 55 :: Blk b4 [.int .i64 (z.k), .int .i64 (z.v)] 55 :: _ :: _ :: _ :: _ :: _ :: _ :: _ :: _ :: _ :: Blk p [.slice (some ⟨g5, 0, none⟩) t.is.length cg5, .slice (some ⟨g3, 0, none⟩) ks.length cg3, .pointer (some ⟨c, 0, none⟩)] 213 :: _)
    refine WPD.s0 Ty.mixed ?_
    refine WPD.tM 0 rfl rfl rfl rfl (Val.move rfl rfl) ?_
    refine WPD.tM 1 rfl rfl rfl rfl (Val.nilCheck rfl rfl) ?_
    refine WPD.tM 2 rfl rfl rfl rfl (Val.fieldAddr (j := 0) rfl Ty.fo213_0 rfl rfl) ?_
    refine WPD.tM 3 rfl rfl rfl rfl (Val.move rfl rfl) ?_
    refine WPD.tM 4 rfl rfl rfl rfl (Val.nilCheck rfl rfl) ?_
    refine WPD.tM 5 rfl rfl rfl rfl (Val.fieldAddr (j := 0) rfl Ty.fo213_0 rfl rfl) ?_
    refine WPD.tL 6 rfl rfl rfl rfl (fun _ h => h) (Val.load rfl Ty.sc210 rfl (fun w h => h.cell 11 rfl rfl)) ?_
    refine WPD.tM 7 rfl rfl rfl rfl (Val.move rfl rfl) ?_
    refine WPD.tM 8 rfl rfl rfl rfl (Val.sub (z := ((i - 1 : Nat) : Int)) rfl rfl rfl ((w64 (by omega) (by omega)).trans (by omega))) ?_
    refine WPD.tM 9 rfl rfl rfl rfl (Val.indexAddr (j := i - 1) (q := (i - 1) * 2) rfl Ty.sl210 rfl rfl (by omega) (by omega) (by omega)) ?_
    refine WPD.tL 10 rfl rfl rfl rfl (fun _ h => h) (Val.loadAgg (cs := [.int .i64 (y.k), .int .i64 (y.v)]) rfl Ty.ag55 rfl (by rfl) (fun w h => (h.at 0 rfl).cell_range (flatOf_range El.len hy))) ?_
    refine WPD.perm pl5 ?_
    refine WPD.perm pl5 ?_
    refine WPD.stepC 11 (by kernel_rfl) rfl rfl rfl rfl (by kernel_rfl) (Eff.call rfl rfl Try.call125 (insatE px vix vcx (.pointer (some ⟨c, 0, none⟩)) tx.is y  0 (Nat.zero_le _) (by omega))) ?_
    rintro _ _ ⟨_, ⟨wix, hwix, rfl⟩, rfl⟩
    refine ⟨_, (fun _ h => h), ?_⟩
    show WPD _ _ _ _ _ _ _ _ _ (Blk px [wix, vcx, .pointer (some ⟨c, 0, none⟩)] 213 :: Own 55 2 wix ((tx.is).length + 1) (flatOf El.cells ((tx.is).take 0 ++ y :: (tx.is).drop 0)) :: _)
    refine WPD.done (by kernel_rfl) ?_
    refine Out.next ?_
    refine WPc.seq ?_
    refine WPD.s0 Ty.mixed ?_
    refine WPD.tM 0 rfl rfl rfl rfl (Val.move rfl rfl) ?_
    refine WPD.tM 1 rfl rfl rfl rfl (Val.nilCheck rfl rfl) ?_
    refine WPD.tM 2 rfl rfl rfl rfl (Val.fieldAddr (j := 0) rfl Ty.fo213_0 rfl rfl) ?_
    refine WPD.tL 3 rfl rfl rfl rfl (fun _ h => h) (Val.load rfl Ty.sc210 rfl (fun w h => h.cell 11 rfl rfl)) ?_
    refine WPD.tM 4 rfl rfl rfl rfl (Val.move rfl rfl) ?_
    refine WPD.tM 5 rfl rfl rfl rfl (Val.sub (z := ((i - 1 : Nat) : Int)) rfl rfl rfl ((w64 (by omega) (by omega)).trans (by omega))) ?_
    refine WPD.tL 6 rfl rfl rfl rfl (fun _ h => h) (Val.loadAgg (cs := [.int .i64 (z.k), .int .i64 (z.v)]) rfl Ty.ag55 rfl rfl (fun w h => h.range 3 rfl rfl)) ?_
    refine WPD.tM 7 rfl rfl rfl rfl (Val.indexAddr (j := i - 1) (q := (i - 1) * 2) rfl Ty.sl210 rfl rfl (by omega) (by omega) (by omega)) ?_
    refine WPD.perm pl2 ?_
    refine WPD.stepC0 8 (by kernel_rfl) rfl rfl rfl (by kernel_rfl) (Eff.storeAgg (cs := [.int .i64 (z.k), .int .i64 (z.v)]) (C' := flatOf El.cells (t.is.set (i - 1) z) ++ spg5) rfl Ty.ag55 rfl rfl rfl rfl (by rw [List.length_append, flatOf_length El.len]; omega) (flat_set El.len t.is (i - 1) z spg5 (by omega))) ?_
    rintro _ _ rfl
    refine ⟨_, (fun _ h => h), ?_⟩
    refine WPD.done (by kernel_rfl) ?_
    refine Out.next ?_
    refine WPc.sr ?_
    refine WP.val rfl rfl rfl (Val.move rfl rfl) ?_
    refine WP.val rfl rfl rfl (Val.nilCheck rfl rfl) ?_
    refine WP.val rfl rfl rfl (Val.fieldAddr (j := 1) rfl Ty.fo213_1 rfl rfl) ?_
    refine WP.val rfl rfl rfl (Val.load rfl Ty.sc211 rfl (fun w h => h.cell 4 rfl rfl)) ?_
    refine WP.val rfl rfl rfl (Val.lenOwn rfl Ty.sl211 rfl (fun w h => h.at 8 rfl)) ?_
    refine WP.val rfl rfl rfl (Val.gtr rfl rfl rfl) ?_
    refine WP.nx ?_
    refine WPc.ifP rfl (fun h3 => ?_) (fun h3 => ?_)
    ·
     have h3 : ((0 : Int) < ((ksl.length : Nat) : Int)) := h3
     obtain ⟨⟨pz, tz⟩, hzz⟩ : ∃ q, ksl[ksl.length - 1]? = some q := ⟨_, List.getElem?_eq_getElem (by omega)⟩
     refine WPD.s0 Ty.mixed ?_
     refine WPD.tM 0 rfl rfl rfl rfl (Val.move rfl rfl) ?_
     refine WPD.tM 1 rfl rfl rfl rfl (Val.nilCheck rfl rfl) ?_
     refine WPD.tM 2 rfl rfl rfl rfl (Val.fieldAddr (j := 1) rfl Ty.fo213_1 rfl rfl) ?_
     refine WPD.tM 3 rfl rfl rfl rfl (Val.move rfl rfl) ?_
     refine WPD.tM 4 rfl rfl rfl rfl (Val.nilCheck rfl rfl) ?_
     refine WPD.tM 5 rfl rfl rfl rfl (Val.fieldAddr (j := 1) rfl Ty.fo213_1 rfl rfl) ?_
     refine WPD.perm pl8 ?_
     refine WPD.c1 (B := Own 171 1 vcl ((kp ksl).length) (flatOf vcf (kp ksl))) (fun w h => by rw [kp_len]; exact h) ?_
     refine WPD.perm pl5 ?_
     refine WPD.stepC 6 (by kernel_rfl) rfl rfl rfl rfl (by kernel_rfl) (Eff.call rfl rfl Try.call143 (popP pl wil vcl (.pointer (some ⟨c, 0, none⟩)) (.pointer (some ⟨pz, 0, none⟩)) (kp ksl) (kp_one _) (by rw [kp_len]; omega) (by rw [kp_len]; exact kp_at hzz) (by rw [kp_len]; omega))) ?_
     rintro _ _ ⟨_, ⟨wcl, hwcl, rfl, rfl⟩, rfl⟩
     refine ⟨_, (fun _ h => h), ?_⟩
     show WPD _ _ _ _ _ _ _ _ _ (Blk pl [wil, wcl, .pointer (some ⟨c, 0, none⟩)] 213 :: Own 171 1 wcl ((kp ksl).length - 1) (flatOf vcf ((kp ksl).take ((kp ksl).length - 1))) :: Blk g5 (flatOf El.cells (t.is.set (i - 1) z) ++ spg5) 55 :: _)
     refine WPD.perm pl7 ?_
     refine WPD.c1 (B := Own 171 1 vcx ((kp ksx).length) (flatOf vcf (kp ksx))) (fun w h => by rw [kp_len]; exact h) ?_
     refine WPD.perm pl4 ?_
     refine WPD.stepC 7 (by kernel_rfl) rfl rfl rfl rfl (by kernel_rfl) (Eff.call rfl rfl Try.call138 (insatP px wix vcx (.pointer (some ⟨c, 0, none⟩)) (kp ksx) (kp_one _) (.pointer (some ⟨pz, 0, none⟩)) rfl 0 (Nat.zero_le _) (by rw [kp_len]; omega))) ?_
     rintro _ _ ⟨_, ⟨wcx, hwcx, rfl⟩, rfl⟩
     refine ⟨_, (fun _ h => h), ?_⟩
     show WPD _ _ _ _ _ _ _ _ _ (Blk px [wix, wcx, .pointer (some ⟨c, 0, none⟩)] 213 :: Own 171 1 wcx ((kp ksx).length + 1) (flatOf vcf ((kp ksx).take 0 ++ (.pointer (some ⟨pz, 0, none⟩)) :: (kp ksx).drop 0)) :: _)
     refine WPD.done (by kernel_rfl) ?_
     refine Out.next ?_
     refine WPc.seq ?_
     refine WPc.perm pl4 ?_
     refine WPc.conv (fun w h => Sat.ownMk (e := 55) (k := 2) (b := g5) (m := t.is.length) (cap := cg5) (xs := flatOf El.cells (t.is.set (i - 1) z)) (sp := spg5) (by exact h) hng5 (by rw [flatOf_length El.len, List.length_set]) hsg5 hcg5) ?_
     refine WPc.c1 (B := Own 55 2 (.slice (some ⟨g5, 0, none⟩) t.is.length cg5) ((t.is.set (i - 1) z).length) (flatOf El.cells (t.is.set (i - 1) z))) (fun w h => by rw [List.length_set]; exact h) ?_
     refine WPc.perm pl5 ?_
     refine WPc.c1 (B := Own 55 2 wix ((y :: tx.is).length) (flatOf El.cells (y :: tx.is))) (fun w h => by exact h) ?_
     refine WPc.perm pl7 ?_
     refine WPc.c1 (B := Own 55 2 wil ((tl.is.take (tl.is.length - 1)).length) (flatOf El.cells (tl.is.take (tl.is.length - 1)))) (fun w h => by rw [List.length_take, Nat.min_eq_left (by omega)]; exact h) ?_
     refine WPc.perm pl9 ?_
     refine WPc.conv (fun w h => (Sat.kPerm (last_perm hzz) h).kCons) ?_
     refine WPc.perm pl10 ?_
     refine WPc.perm pl1 ?_
     refine WPc.conv (fun w h => h.kConsMk) ?_
     refine WPc.perm pl6 ?_
     refine WPc.c1 (B := Own 171 1 wcx (((pz, tz) :: ksx).length) (flatOf vcf (kp ((pz, tz) :: ksx)))) (fun w h => by rw [kp_len ksx] at h; rw [List.length_cons, kp_cons]; exact h) ?_
     refine WPc.perm pl8 ?_
     refine WPc.c1 (B := Own 171 1 wcl ((ksl.take (ksl.length - 1)).length) (flatOf vcf (kp (ksl.take (ksl.length - 1))))) (fun w h => by rw [kp_len ksl] at h; rw [List.length_take, Nat.min_eq_left (by omega), ← kp_take]; exact h) ?_
     have hkq0 : 0 < tl.ks.length := by omega
     have hzt := ks_at hkl hzz
     refine WPc.perm pl3 ?_
     refine WPc.perm pl1 ?_
     refine WPc.perm pl4 ?_
     refine WPc.perm pl8 ?_
     refine WPc.conv (fun w h => Sat.ndMk (c := c) (h := ht) (t := (Tr.nd (tl.is.take (tl.is.length - 1)) (tl.ks.take (tl.ks.length - 1)))) (ks := (ksl.take (ksl.length - 1))) (by rw [tr_ks, ← hkl]; simp [List.map_take]) (fun h0 => by have h1 := hlx h0; have h2 := hll h0; simp_all) h) ?_
     show WPc _ _ _ _ _ _ (Nd c ht (pl, (Tr.nd (tl.is.take (tl.is.length - 1)) (tl.ks.take (tl.ks.length - 1)))) :: Own 171 1 wcx (((pz, tz) :: ksx).length) (flatOf vcf (kp ((pz, tz) :: ksx))) :: Kds (Rk c ht) ((pz, tz) :: ksx) :: Own 55 2 wix ((y :: tx.is).length) (flatOf El.cells (y :: tx.is)) :: Own 55 2 (.slice (some ⟨g5, 0, none⟩) t.is.length cg5) ((t.is.set (i - 1) z).length) (flatOf El.cells (t.is.set (i - 1) z)) :: _)
     refine WPc.perm pl2 ?_
     refine WPc.perm pl2 ?_
     refine WPc.perm pl3 ?_
     refine WPc.perm pl5 ?_
     refine WPc.conv (fun w h => Sat.ndMk (c := c) (h := ht) (t := (Tr.nd (y :: tx.is) (tz :: tx.ks))) (ks := ((pz, tz) :: ksx)) (by rw [tr_ks, ← hkx]; simp) (fun h0 => by have h1 := hlx h0; have h2 := hll h0; simp_all) h) ?_
     show WPc _ _ _ _ _ _ (Nd c ht (px, (Tr.nd (y :: tx.is) (tz :: tx.ks))) :: _)
     refine WPc.perm pl4 ?_
     refine WPc.perm pl1 ?_
     refine WPc.conv (fun w h => h.kConsMk) ?_
     refine WPc.perm pl1 ?_
     refine WPc.conv (fun w h => h.kConsMk) ?_
     refine WPc.conv (fun w h => Sat.kPerm (hp2 (pl, (Tr.nd (tl.is.take (tl.is.length - 1)) (tl.ks.take (tl.ks.length - 1)))) (px, (Tr.nd (y :: tx.is) (tz :: tx.ks)))).symm h) ?_
     show WPc _ _ _ _ _ _ (Kds (Rk c (ht + 1)) ((ks.set i (px, (Tr.nd (y :: tx.is) (tz :: tx.ks)))).set (i - 1) (pl, (Tr.nd (tl.is.take (tl.is.length - 1)) (tl.ks.take (tl.ks.length - 1))))) :: _)
     have hkp2 : kp ((ks.set i (px, (Tr.nd (y :: tx.is) (tz :: tx.ks)))).set (i - 1) (pl, (Tr.nd (tl.is.take (tl.is.length - 1)) (tl.ks.take (tl.ks.length - 1))))) = kp ks := by rw [kp_set (t0 := tl) (by rw [List.getElem?_set_ne (by omega)]; exact hxl), kp_set hxx]
     have hln2 : ((ks.set i (px, (Tr.nd (y :: tx.is) (tz :: tx.ks)))).set (i - 1) (pl, (Tr.nd (tl.is.take (tl.is.length - 1)) (tl.ks.take (tl.ks.length - 1))))).length = ks.length := by simp
     refine WPc.perm pl4 ?_
     refine WPc.c1 (B := Own 171 1 (.slice (some ⟨g3, 0, none⟩) ks.length cg3) (((ks.set i (px, (Tr.nd (y :: tx.is) (tz :: tx.ks)))).set (i - 1) (pl, (Tr.nd (tl.is.take (tl.is.length - 1)) (tl.ks.take (tl.ks.length - 1))))).length) (flatOf vcf (kp ((ks.set i (px, (Tr.nd (y :: tx.is) (tz :: tx.ks)))).set (i - 1) (pl, (Tr.nd (tl.is.take (tl.is.length - 1)) (tl.ks.take (tl.ks.length - 1)))))))) (fun w h => by rw [hkp2, hln2]; exact h) ?_
     refine WPc.perm pl1 ?_
     refine WPc.perm pl1 ?_
     refine WPc.perm pl2 ?_
     refine WPc.perm pl4 ?_
     refine WPc.conv (fun w h => Sat.ndMk (c := c) (h := (ht + 1)) (t := (Tr.nd (t.is.set (i - 1) z) ((t.ks.set i (Tr.nd (y :: tx.is) (tz :: tx.ks))).set (i - 1) (Tr.nd (tl.is.take (tl.is.length - 1)) (tl.ks.take (tl.ks.length - 1)))))) (ks := ((ks.set i (px, (Tr.nd (y :: tx.is) (tz :: tx.ks)))).set (i - 1) (pl, (Tr.nd (tl.is.take (tl.is.length - 1)) (tl.ks.take (tl.ks.length - 1)))))) (snd_set (snd_set hk)) (fun h0 => by cases h0) h) ?_
     show WPc _ _ _ _ _ _ (Nd c (ht + 1) (p, (Tr.nd (t.is.set (i - 1) z) ((t.ks.set i (Tr.nd (y :: tx.is) (tz :: tx.ks))).set (i - 1) (Tr.nd (tl.is.take (tl.is.length - 1)) (tl.ks.take (tl.ks.length - 1)))))) :: _)
     have hgr : grow m t i = (Tr.nd (t.is.set (i - 1) z) ((t.ks.set i (Tr.nd (y :: tx.is) (tz :: tx.ks))).set (i - 1) (Tr.nd (tl.is.take (tl.is.length - 1)) (tl.ks.take (tl.ks.length - 1))))) := by unfold grow; rw [if_pos ⟨by omega, by rw [kid_at htl]; omega⟩]; unfold stealL; simp only [kid_at htl, kid_at htx, getD_at hz, getD_at hy]; rw [if_pos hkq0, show tl.ks.getD (tl.ks.length - 1) TE = tz from by rw [List.getD_eq_getElem?_getD, ← hkll, hzt]; rfl]
     rw [hgr] at hrem
     refine WPc.region ?_
     refine WP.val rfl rfl rfl (Val.move rfl rfl) ?_
     refine WP.val rfl rfl rfl (Val.loadAgg (cs := [.int .i64 (x.k), .int .i64 (x.v)]) rfl Ty.ag55 rfl rfl (fun w h => h.range 3 rfl rfl)) ?_
     refine WP.val rfl rfl rfl (Val.move rfl rfl) ?_
     refine WP.val rfl rfl rfl (Val.move rfl rfl) ?_
     refine WP.perm pl5 ?_
     refine WP.perm pl5 ?_
     refine WP.perm pl2 ?_
     refine WP.eff rfl rfl rfl (Eff.call rfl rfl Try.call128 (hrem)) ?_
     rintro _ _ ⟨_, ⟨rfl, rfl⟩, rfl⟩
     show WP _ _ _ _ _ _ _ (Nd c (ht + 1) (p, t2) :: _)
     refine WP.val rfl rfl rfl (Val.extract rfl rfl rfl) ?_
     refine WP.val rfl rfl rfl (Val.extract rfl rfl rfl) ?_
     refine WP.perm pl4 ?_
     refine WP.eff0 rfl rfl (Eff.storeAgg (cs := [.int .i64 ((o.getD El0).k), .int .i64 ((o.getD El0).v)]) (C' := [.int .i64 ((o.getD El0).k), .int .i64 ((o.getD El0).v)]) rfl Ty.ag55 rfl rfl rfl rfl (by simp) rfl) ?_
     rintro _ _ rfl
     refine WP.val rfl rfl rfl (Val.assign rfl rfl) ?_
     refine WP.nx ?_
     refine WPc.ret ?_
     refine Out.perm pl4 ?_
     refine Out.drop ?_
     refine Out.perm pl4 ?_
     refine Out.drop ?_
     exact Out.retRun (L' := _) (results_ct Try.results141 rfl Ty.ag55 rfl rfl (fun w h => h.range 0 rfl rfl)) ⟨rfl, rfl⟩ (fun w h => h.drop)
    ·
     have h3 : ¬ ((0 : Int) < ((ksl.length : Nat) : Int)) := h3
     refine WPc.skip ?_
     refine Out.next ?_
     refine WPc.seq ?_
     refine WPc.conv (fun w h => Sat.ownMk (e := 55) (k := 2) (b := g5) (m := t.is.length) (cap := cg5) (xs := flatOf El.cells (t.is.set (i - 1) z)) (sp := spg5) (by exact h) hng5 (by rw [flatOf_length El.len, List.length_set]) hsg5 hcg5) ?_
     refine WPc.c1 (B := Own 55 2 (.slice (some ⟨g5, 0, none⟩) t.is.length cg5) ((t.is.set (i - 1) z).length) (flatOf El.cells (t.is.set (i - 1) z))) (fun w h => by rw [List.length_set]; exact h) ?_
     refine WPc.perm pl2 ?_
     refine WPc.c1 (B := Own 55 2 wix ((y :: tx.is).length) (flatOf El.cells (y :: tx.is))) (fun w h => by exact h) ?_
     refine WPc.perm pl5 ?_
     refine WPc.c1 (B := Own 55 2 wil ((tl.is.take (tl.is.length - 1)).length) (flatOf El.cells (tl.is.take (tl.is.length - 1)))) (fun w h => by rw [List.length_take, Nat.min_eq_left (by omega)]; exact h) ?_
     have hkq0 : ¬ 0 < tl.ks.length := by omega
     have hkq1 : ksl = [] := List.eq_nil_of_length_eq_zero (by omega)
     have hkq2 : tl.ks = [] := List.eq_nil_of_length_eq_zero (by omega)
     refine WPc.perm pl9 ?_
     refine WPc.perm pl9 ?_
     refine WPc.perm pl2 ?_
     refine WPc.perm pl7 ?_
     refine WPc.conv (fun w h => Sat.ndMk (c := c) (h := ht) (t := (Tr.nd (tl.is.take (tl.is.length - 1)) (tl.ks.take (tl.ks.length - 1)))) (ks := ksl) (by rw [tr_ks, hkl, hkq2]; simp) (fun h0 => by have h1 := hlx h0; have h2 := hll h0; simp_all) h) ?_
     show WPc _ _ _ _ _ _ (Nd c ht (pl, (Tr.nd (tl.is.take (tl.is.length - 1)) (tl.ks.take (tl.ks.length - 1)))) :: Own 55 2 wix ((y :: tx.is).length) (flatOf El.cells (y :: tx.is)) :: Own 55 2 (.slice (some ⟨g5, 0, none⟩) t.is.length cg5) ((t.is.set (i - 1) z).length) (flatOf El.cells (t.is.set (i - 1) z)) :: _)
     refine WPc.perm pl6 ?_
     refine WPc.perm pl6 ?_
     refine WPc.perm pl3 ?_
     refine WPc.perm pl5 ?_
     refine WPc.conv (fun w h => Sat.ndMk (c := c) (h := ht) (t := (Tr.nd (y :: tx.is) tx.ks)) (ks := ksx) hkx (fun h0 => by have h1 := hlx h0; have h2 := hll h0; simp_all) h) ?_
     show WPc _ _ _ _ _ _ (Nd c ht (px, (Tr.nd (y :: tx.is) tx.ks)) :: _)
     refine WPc.perm pl4 ?_
     refine WPc.perm pl1 ?_
     refine WPc.conv (fun w h => h.kConsMk) ?_
     refine WPc.perm pl1 ?_
     refine WPc.conv (fun w h => h.kConsMk) ?_
     refine WPc.conv (fun w h => Sat.kPerm (hp2 (pl, (Tr.nd (tl.is.take (tl.is.length - 1)) (tl.ks.take (tl.ks.length - 1)))) (px, (Tr.nd (y :: tx.is) tx.ks))).symm h) ?_
     show WPc _ _ _ _ _ _ (Kds (Rk c (ht + 1)) ((ks.set i (px, (Tr.nd (y :: tx.is) tx.ks))).set (i - 1) (pl, (Tr.nd (tl.is.take (tl.is.length - 1)) (tl.ks.take (tl.ks.length - 1))))) :: _)
     have hkp2 : kp ((ks.set i (px, (Tr.nd (y :: tx.is) tx.ks))).set (i - 1) (pl, (Tr.nd (tl.is.take (tl.is.length - 1)) (tl.ks.take (tl.ks.length - 1))))) = kp ks := by rw [kp_set (t0 := tl) (by rw [List.getElem?_set_ne (by omega)]; exact hxl), kp_set hxx]
     have hln2 : ((ks.set i (px, (Tr.nd (y :: tx.is) tx.ks))).set (i - 1) (pl, (Tr.nd (tl.is.take (tl.is.length - 1)) (tl.ks.take (tl.ks.length - 1))))).length = ks.length := by simp
     refine WPc.perm pl4 ?_
     refine WPc.c1 (B := Own 171 1 (.slice (some ⟨g3, 0, none⟩) ks.length cg3) (((ks.set i (px, (Tr.nd (y :: tx.is) tx.ks))).set (i - 1) (pl, (Tr.nd (tl.is.take (tl.is.length - 1)) (tl.ks.take (tl.ks.length - 1))))).length) (flatOf vcf (kp ((ks.set i (px, (Tr.nd (y :: tx.is) tx.ks))).set (i - 1) (pl, (Tr.nd (tl.is.take (tl.is.length - 1)) (tl.ks.take (tl.ks.length - 1)))))))) (fun w h => by rw [hkp2, hln2]; exact h) ?_
     refine WPc.perm pl1 ?_
     refine WPc.perm pl1 ?_
     refine WPc.perm pl2 ?_
     refine WPc.perm pl4 ?_
     refine WPc.conv (fun w h => Sat.ndMk (c := c) (h := (ht + 1)) (t := (Tr.nd (t.is.set (i - 1) z) ((t.ks.set i (Tr.nd (y :: tx.is) tx.ks)).set (i - 1) (Tr.nd (tl.is.take (tl.is.length - 1)) (tl.ks.take (tl.ks.length - 1)))))) (ks := ((ks.set i (px, (Tr.nd (y :: tx.is) tx.ks))).set (i - 1) (pl, (Tr.nd (tl.is.take (tl.is.length - 1)) (tl.ks.take (tl.ks.length - 1)))))) (snd_set (snd_set hk)) (fun h0 => by cases h0) h) ?_
     show WPc _ _ _ _ _ _ (Nd c (ht + 1) (p, (Tr.nd (t.is.set (i - 1) z) ((t.ks.set i (Tr.nd (y :: tx.is) tx.ks)).set (i - 1) (Tr.nd (tl.is.take (tl.is.length - 1)) (tl.ks.take (tl.ks.length - 1)))))) :: _)
     have hgr : grow m t i = (Tr.nd (t.is.set (i - 1) z) ((t.ks.set i (Tr.nd (y :: tx.is) tx.ks)).set (i - 1) (Tr.nd (tl.is.take (tl.is.length - 1)) (tl.ks.take (tl.ks.length - 1))))) := by unfold grow; rw [if_pos ⟨by omega, by rw [kid_at htl]; omega⟩]; unfold stealL; simp only [kid_at htl, kid_at htx, getD_at hz, getD_at hy]; rw [if_neg hkq0]
     rw [hgr] at hrem
     refine WPc.region ?_
     refine WP.val rfl rfl rfl (Val.move rfl rfl) ?_
     refine WP.val rfl rfl rfl (Val.loadAgg (cs := [.int .i64 (x.k), .int .i64 (x.v)]) rfl Ty.ag55 rfl rfl (fun w h => h.range 3 rfl rfl)) ?_
     refine WP.val rfl rfl rfl (Val.move rfl rfl) ?_
     refine WP.val rfl rfl rfl (Val.move rfl rfl) ?_
     refine WP.perm pl5 ?_
     refine WP.perm pl5 ?_
     refine WP.perm pl2 ?_
     refine WP.eff rfl rfl rfl (Eff.call rfl rfl Try.call128 (hrem)) ?_
     rintro _ _ ⟨_, ⟨rfl, rfl⟩, rfl⟩
     show WP _ _ _ _ _ _ _ (Nd c (ht + 1) (p, t2) :: _)
     refine WP.val rfl rfl rfl (Val.extract rfl rfl rfl) ?_
     refine WP.val rfl rfl rfl (Val.extract rfl rfl rfl) ?_
     refine WP.perm pl4 ?_
     refine WP.eff0 rfl rfl (Eff.storeAgg (cs := [.int .i64 ((o.getD El0).k), .int .i64 ((o.getD El0).v)]) (C' := [.int .i64 ((o.getD El0).k), .int .i64 ((o.getD El0).v)]) rfl Ty.ag55 rfl rfl rfl rfl (by simp) rfl) ?_
     rintro _ _ rfl
     refine WP.val rfl rfl rfl (Val.assign rfl rfl) ?_
     refine WP.nx ?_
     refine WPc.ret ?_
     refine Out.perm pl4 ?_
     refine Out.drop ?_
     refine Out.perm pl4 ?_
     refine Out.drop ?_
     exact Out.retRun (L' := _) (results_ct Try.results141 rfl Ty.ag55 rfl rfl (fun w h => h.range 0 rfl rfl)) ⟨rfl, rfl⟩ (fun w h => h.drop)
   ·
    have h2 : ¬ (((m : Nat) : Int) < ((tl.is.length : Nat) : Int)) := h2
    refine WPc.seq ?_
    by_cases hin : i < t.is.length
    ·
     iterate 4 (refine WPc.perm pl3 ?_)
     refine WPc.conv (fun w h => Sat.ndMk (c := c) (h := ht) (t := tl) (ks := ksl) hkl hll h) ?_
     show WPc _ _ _ _ _ _ (Nd c ht (pl, tl) :: _)
     refine WPc.perm pl1 ?_
     refine WPc.perm pl1 ?_
     refine WPc.conv (fun w h => (by have h9 := Sat.kIn (R := Rk c (ht + 1)) (x := (pl, tl)) (ks := ks) (i := (i - 1)) h; rw [← split_at hxl] at h9; exact h9)) ?_
     show WPc _ _ _ _ _ _ (Kds (Rk c (ht + 1)) ks :: _)
     obtain ⟨tr, htr⟩ : ∃ k, t.ks[i + 1]? = some k := ⟨_, List.getElem?_eq_getElem (by omega)⟩
     obtain ⟨pr, hxr⟩ := ks_get hk htr
     have hm_tr := hb3 tr (List.mem_of_getElem? htr)
     have hs_tr := hm_tr.2.le
     have hk_r := kp_at hxr
     refine WPc.conv (fun w h => Sat.kOut (R := Rk c (ht + 1)) hxr h) ?_
     show WPc _ _ _ _ _ _ (Nd c ht (pr, tr) :: Kds (Rk c (ht + 1)) (ks.take (i + 1) ++ ks.drop ((i + 1) + 1)) :: _)
     refine WPc.open (fun w h => h.ndOpen) ?_
     rintro ⟨vir, vcr, ksr⟩
     refine WPc.pure (fun hkr => ?_)
     obtain ⟨hkr, hlr⟩ := hkr
     dsimp only at hkr hlr
     have hklr := ks_len hkr
     show WPc _ _ _ _ _ _ (Blk pr [vir, vcr, .pointer (some ⟨c, 0, none⟩)] 213 :: Own 55 2 vir tr.is.length (flatOf El.cells tr.is) :: Own 171 1 vcr ksr.length (flatOf vcf (kp ksr)) :: Kds (Rk c ht) ksr :: _)
     refine WPc.region ?_
     refine WP.val rfl rfl rfl (Val.move rfl rfl) ?_
     refine WP.val rfl rfl rfl (Val.move rfl rfl) ?_
     refine WP.val rfl rfl rfl (Val.nilCheck rfl rfl) ?_
     refine WP.val rfl rfl rfl (Val.fieldAddr (j := 0) rfl Ty.fo213_0 rfl rfl) ?_
     refine WP.val rfl rfl rfl (Val.load rfl Ty.sc210 rfl (fun w h => h.cell 6 rfl rfl)) ?_
     refine WP.val rfl rfl rfl (Val.lenOwn rfl Ty.sl210 rfl (fun w h => h.at 7 rfl)) ?_
     refine WP.val rfl rfl rfl (Val.lss rfl rfl rfl) ?_
     refine WP.val rfl rfl rfl (Val.move rfl rfl) ?_
     refine WP.split 91 rfl (fun h4 => ?_) (fun h4 => ?_)
     ·
      have h4 : (((i : Nat) : Int) < ((t.is.length : Nat) : Int)) := h4
      refine WP.valG rfl rfl rfl rfl rfl rfl rfl (Val.move rfl rfl) ?_
      refine WP.valG rfl rfl rfl rfl rfl rfl rfl (Val.nilCheck rfl rfl) ?_
      refine WP.valG rfl rfl rfl rfl rfl rfl rfl (Val.fieldAddr (j := 1) rfl Ty.fo213_1 rfl rfl) ?_
      refine WP.valG rfl rfl rfl rfl rfl rfl rfl (Val.load rfl Ty.sc211 rfl (fun w h => h.cell 6 rfl rfl)) ?_
      refine WP.valG rfl rfl rfl rfl rfl rfl rfl (Val.move rfl rfl) ?_
      refine WP.valG rfl rfl rfl rfl rfl rfl rfl (Val.add (z := ((i + 1 : Nat) : Int)) rfl rfl rfl ((w64 (by omega) (by omega)).trans (by omega))) ?_
      refine WP.valG rfl rfl rfl rfl rfl rfl rfl (Val.indexAddr (j := i + 1) (q := i + 1) rfl Ty.sl211 rfl rfl (by omega) (by omega) (by omega)) ?_
      refine WP.valG rfl rfl rfl rfl rfl rfl rfl (Val.load (v := .pointer (some ⟨pr, 0, none⟩)) rfl Ty.sc171 rfl (fun w h => ((h.at 5 rfl).cell _).trans (vflat_at hk_r))) ?_
      refine WP.valG rfl rfl rfl rfl rfl rfl rfl (Val.nilCheck rfl rfl) ?_
      refine WP.valG rfl rfl rfl rfl rfl rfl rfl (Val.fieldAddr (j := 0) rfl Ty.fo213_0 rfl rfl) ?_
      refine WP.valG rfl rfl rfl rfl rfl rfl rfl (Val.load rfl Ty.sc210 rfl (fun w h => h.cell 0 rfl rfl)) ?_
      refine WP.valG rfl rfl rfl rfl rfl rfl rfl (Val.lenOwn rfl Ty.sl210 rfl (fun w h => h.at 1 rfl)) ?_
      refine WP.valG rfl rfl rfl rfl rfl rfl rfl (Val.move rfl rfl) ?_
      refine WP.valG rfl rfl rfl rfl rfl rfl rfl (Val.gtr rfl rfl rfl) ?_
      refine WP.val rfl rfl rfl (Val.pickT rfl rfl rfl) ?_
      refine WP.nx ?_
      refine WPc.ifP rfl (fun h5 => ?_) (fun h5 => ?_)
      ·
       have h5 : (((m : Nat) : Int) < ((tr.is.length : Nat) : Int)) := h5
       refine WPc.seq ?_
       iterate 4 (refine WPc.perm pl3 ?_)
       refine WPc.conv (fun w h => Sat.ndMk (c := c) (h := ht) (t := tr) (ks := ksr) hkr hlr h) ?_
       show WPc _ _ _ _ _ _ (Nd c ht (pr, tr) :: _)
       refine WPc.perm pl1 ?_
       refine WPc.perm pl1 ?_
       refine WPc.conv (fun w h => (by have h9 := Sat.kIn (R := Rk c (ht + 1)) (x := (pr, tr)) (ks := ks) (i := (i + 1)) h; rw [← split_at hxr] at h9; exact h9)) ?_
       show WPc _ _ _ _ _ _ (Kds (Rk c (ht + 1)) ks :: _)
       refine WPc.perm pl1 ?_
       refine WPc.conv (fun w h => Sat.ownMk (e := 171) (k := 1) (b := g3) (m := ks.length) (cap := cg3) (xs := flatOf vcf (kp ks)) (sp := spg3) (by exact h) hng3 hlg3 hsg3 hcg3) ?_
       obtain ⟨tx, htx⟩ : ∃ k, t.ks[i]? = some k := ⟨_, List.getElem?_eq_getElem (by omega)⟩
       obtain ⟨px, hxx⟩ := ks_get hk htx
       have hm_tx := hb3 tx (List.mem_of_getElem? htx)
       have hs_tx := hm_tx.2.le
       refine WPc.region ?_
       refine WP.val rfl rfl rfl (Val.move rfl rfl) ?_
       refine WP.val rfl rfl rfl (Val.move rfl rfl) ?_
       refine WP.perm pl1 ?_
       refine WP.perm pl1 ?_
       refine WP.perm pl2 ?_
       refine WP.eff rfl rfl rfl (Eff.call rfl rfl Try.call127 (mchild_spec c ht p i vi (.slice (some ⟨g3, 0, none⟩) ks.length cg3) ks px tx hxx (by omega))) ?_
       rintro _ _ ⟨_, ⟨rfl, rfl⟩, rfl⟩
       show WP _ _ _ _ _ _ _ (_ :: Own 171 1 (.slice (some ⟨g3, 0, none⟩) ks.length cg3) ks.length (flatOf vcf (kp ks)) :: _)
       refine WP.val rfl rfl rfl (Val.assign rfl rfl) ?_
       refine WP.nx ?_
       refine WPc.sr ?_
       refine WP.val rfl rfl rfl (Val.move rfl rfl) ?_
       refine WP.val rfl rfl rfl (Val.move rfl rfl) ?_
       refine WP.val rfl rfl rfl (Val.add (z := ((i + 1 : Nat) : Int)) rfl rfl rfl ((w64 (by omega) (by omega)).trans (by omega))) ?_
       iterate 3 (refine WP.perm pl2 ?_)
       refine WP.eff rfl rfl rfl (Eff.call rfl rfl Try.call127 (mchild_spec c ht p ((i + 1)) vi (.slice (some ⟨g3, 0, none⟩) ks.length cg3) ks pr tr hxr (by omega))) ?_
       rintro _ _ ⟨_, ⟨rfl, rfl⟩, rfl⟩
       refine WP.val rfl rfl rfl (Val.assign rfl rfl) ?_
       refine WP.nx ?_
       refine WPc.seq ?_
       obtain ⟨rest, hp1, hp2, hp3⟩ := pair_out (ks := ks) (i := i) (j := (i + 1)) (by omega) hxx hxr
       refine WPc.perm pl2 ?_
       refine WPc.conv (fun w h => (Sat.kPerm hp1 h).kCons) ?_
       refine WPc.perm pl1 ?_
       refine WPc.conv (fun w h => h.kCons) ?_
       show WPc _ _ _ _ _ _ (Nd c ht (pr, tr) :: Kds (Rk c (ht + 1)) rest :: Nd c ht (px, tx) :: _)
       refine WPc.open (fun w h => h.ndOpen) ?_
       rintro ⟨vir, vcr, ksr⟩
       refine WPc.pure (fun hkr => ?_)
       obtain ⟨hkr, hlr⟩ := hkr
       dsimp only at hkr hlr
       have hklr := ks_len hkr
       show WPc _ _ _ _ _ _ (Blk pr [vir, vcr, .pointer (some ⟨c, 0, none⟩)] 213 :: Own 55 2 vir tr.is.length (flatOf El.cells tr.is) :: Own 171 1 vcr ksr.length (flatOf vcf (kp ksr)) :: Kds (Rk c ht) ksr :: _)
       refine WPc.perm pl5 ?_
       refine WPc.open (fun w h => h.ndOpen) ?_
       rintro ⟨vix, vcx, ksx⟩
       refine WPc.pure (fun hkx => ?_)
       obtain ⟨hkx, hlx⟩ := hkx
       dsimp only at hkx hlx
       have hklx := ks_len hkx
       show WPc _ _ _ _ _ _ (Blk px [vix, vcx, .pointer (some ⟨c, 0, none⟩)] 213 :: Own 55 2 vix tx.is.length (flatOf El.cells tx.is) :: Own 171 1 vcx ksx.length (flatOf vcf (kp ksx)) :: Kds (Rk c ht) ksx :: _)
       obtain ⟨z, hz⟩ : ∃ z, tr.is[0]? = some z := ⟨_, List.getElem?_eq_getElem (by omega)⟩
       obtain ⟨y, hy⟩ : ∃ y, t.is[i]? = some y := ⟨_, List.getElem?_eq_getElem (by omega)⟩
       refine WPc.region ?_
       refine WP.val rfl rfl rfl (Val.move rfl rfl) ?_
       refine WP.val rfl rfl rfl (Val.nilCheck rfl rfl) ?_
       refine WP.val rfl rfl rfl (Val.fieldAddr (j := 0) rfl Ty.fo213_0 rfl rfl) ?_
       refine WP.perm pl5 ?_
       refine WP.perm pl5 ?_
       refine WP.eff rfl rfl rfl (Eff.call rfl rfl Try.call140 (rematE pr vir vcr (.pointer (some ⟨c, 0, none⟩)) 0 z tr.is hz (by omega))) ?_
       rintro _ _ ⟨_, ⟨wir, hwir, rfl, rfl⟩, rfl⟩
       show WP _ _ _ _ _ _ _ (Blk pr [wir, vcr, .pointer (some ⟨c, 0, none⟩)] 213 :: Own 55 2 wir ((tr.is).length - 1) (flatOf El.cells ((tr.is).eraseIdx 0)) :: _)
       refine WP.eff rfl rfl rfl (Eff.alloc rfl Ty.z55) ?_
       rintro _ _ ⟨b6, rfl, rfl⟩
       refine WP.eff0 rfl rfl (Eff.storeAgg (cs := [.int .i64 (z.k), .int .i64 (z.v)]) (C' := [.int .i64 (z.k), .int .i64 (z.v)]) rfl Ty.ag55 rfl rfl rfl rfl (by simp) rfl) ?_
       rintro _ _ rfl
       refine WP.nx ?_
       refine WPc.seq ?_
       refine WPc.perm pl12 ?_
       refine WPc.open (fun w h => h.ownPos (by omega)) ?_
       rintro ⟨g7, cg7, spg7⟩
       refine WPc.pure (fun hvg7 => ?_)
       obtain ⟨rfl, hng7, hlg7, hsg7, hcg7⟩ := hvg7
       dsimp only at hng7 hlg7 hsg7 hcg7
       show WPc _ _ _ _ _ _ (Blk g7 (flatOf El.cells t.is ++ spg7) 55 :: Blk b6 [.int .i64 (z.k), .int .i64 (z.v)] 55 :: _ :: _ :: _ :: _ :: _ :: _ :: _ :: _ :: _ :: Blk p [.slice (some ⟨g7, 0, none⟩) t.is.length cg7, .slice (some ⟨g3, 0, none⟩) ks.length cg3, .pointer (some ⟨c, 0, none⟩)] 213 :: _)
       refine WPD.start (Sat W [Blk px [vix, vcx, .pointer (some ⟨c, 0, none⟩)] 213, Blk p [.slice (some ⟨g7, 0, none⟩) t.is.length cg7, .slice (some ⟨g3, 0, none⟩) ks.length cg3, .pointer (some ⟨c, 0, none⟩)] 213, Blk g7 (flatOf El.cells t.is ++ spg7) 55]) Ty.mixed ?_
       refine WPD.tS 0 rfl rfl rfl rfl (fun w h => (((h.perm pl11).perm pl5)).dropEnd (L := [_, _, _])) (Val.move rfl rfl) ?_
       refine WPD.tS 1 rfl rfl rfl rfl (fun w h => (((h.perm pl11).perm pl5)).dropEnd (L := [_, _, _])) (Val.move rfl rfl) ?_
       refine WPD.tS 2 rfl rfl rfl rfl (fun w h => (((h.perm pl11).perm pl5)).dropEnd (L := [_, _, _])) (Val.nilCheck rfl rfl) ?_
       refine WPD.tS 3 rfl rfl rfl rfl (fun w h => (((h.perm pl11).perm pl5)).dropEnd (L := [_, _, _])) (Val.fieldAddr (j := 0) rfl Ty.fo213_0 rfl rfl) ?_
       refine WPD.tL 4 rfl rfl rfl rfl (fun w h => (((h.perm pl11).perm pl5)).dropEnd (L := [_, _, _])) (Val.load rfl Ty.sc210 rfl (fun w h => h.cell 0 rfl rfl)) ?_
       refine WPD.tS 5 rfl rfl rfl rfl (fun w h => (((h.perm pl11).perm pl5)).dropEnd (L := [_, _, _])) (Val.move rfl rfl) ?_
       refine WPD.tS 6 rfl rfl rfl rfl (fun w h => (((h.perm pl11).perm pl5)).dropEnd (L := [_, _, _])) (Val.nilCheck rfl rfl) ?_
       refine WPD.tS 7 rfl rfl rfl rfl (fun w h => (((h.perm pl11).perm pl5)).dropEnd (L := [_, _, _])) (Val.fieldAddr (j := 0) rfl Ty.fo213_0 rfl rfl) ?_
       refine WPD.tL 8 rfl rfl rfl rfl (fun w h => (((h.perm pl11).perm pl5)).dropEnd (L := [_, _, _])) (Val.load rfl Ty.sc210 rfl (fun w h => h.cell 1 rfl rfl)) ?_
       refine WPD.tS 9 rfl rfl rfl rfl (fun w h => (((h.perm pl11).perm pl5)).dropEnd (L := [_, _, _])) (Val.move rfl rfl) ?_
       refine WPD.tS 10 rfl rfl rfl rfl (fun w h => (((h.perm pl11).perm pl5)).dropEnd (L := [_, _, _])) (Val.indexAddr (j := i) (q := i * 2) rfl Ty.sl210 rfl rfl (by omega) (by omega) (by omega)) ?_
       refine WPD.tL 11 rfl rfl rfl rfl (fun w h => (((h.perm pl11).perm pl5)).dropEnd (L := [_, _, _])) (Val.loadAgg (cs := [.int .i64 (y.k), .int .i64 (y.v)]) rfl Ty.ag55 rfl (by rfl) (fun w h => (h.at 2 rfl).cell_range (flatOf_range El.len hy))) ?_
       refine WPD.step 12 (by kernel_rfl) rfl rfl rfl rfl (Eff.mkSlice (C := [.int .i64 (y.k), .int .i64 (y.v)]) rfl Ty.sl210 rfl (fun _ => by kernel_rfl)) ?_
       rintro _ _ ⟨b8, rfl, rfl⟩
       refine ⟨(fun w h => ((((h.perm pl1).perm pl12).perm pl6)).dropEnd (L := [_, _, _])), ?_⟩
       refine WPD.perm pl6 ?_
       refine WPD.stepC 13 (by kernel_rfl) rfl rfl rfl rfl (by kernel_rfl) (Eff.append (m := 1) (n0 := tx.is.length) (news := [.int .i64 (y.k), .int .i64 (y.v)]) rfl Ty.sl210 Ty.z55 rfl rfl rfl (.slice Ty.sl210 rfl rfl (fun w h => cells_range (h.range 1 rfl rfl))) (by omega) (by omega)) ?_
       rintro v9 _ ⟨onev9, rfl⟩
       refine ⟨_, (fun _ h => h), ?_⟩
       refine WPD.tM 14 rfl rfl rfl rfl (Val.nilCheck rfl rfl) ?_
       refine WPD.tM 15 rfl rfl rfl rfl (Val.fieldAddr (j := 0) rfl Ty.fo213_0 rfl rfl) ?_
       refine WPD.perm pl6 ?_
       refine WPD.stepC0 16 (by kernel_rfl) rfl rfl rfl (by kernel_rfl) (Eff.store rfl Ty.sc210 rfl rfl onev9 (by simp) st0) ?_
       rintro _ _ rfl
       refine ⟨_, (fun _ h => h), ?_⟩
       refine WPD.done (by kernel_rfl) ?_
       refine Out.next ?_
       refine WPc.seq ?_
       refine WPD.s0 Ty.mixed ?_
       refine WPD.tM 0 rfl rfl rfl rfl (Val.move rfl rfl) ?_
       refine WPD.tM 1 rfl rfl rfl rfl (Val.nilCheck rfl rfl) ?_
       refine WPD.tM 2 rfl rfl rfl rfl (Val.fieldAddr (j := 0) rfl Ty.fo213_0 rfl rfl) ?_
       refine WPD.tL 3 rfl rfl rfl rfl (fun _ h => h) (Val.load rfl Ty.sc210 rfl (fun w h => h.cell 12 rfl rfl)) ?_
       refine WPD.tM 4 rfl rfl rfl rfl (Val.move rfl rfl) ?_
       refine WPD.tL 5 rfl rfl rfl rfl (fun _ h => h) (Val.loadAgg (cs := [.int .i64 (z.k), .int .i64 (z.v)]) rfl Ty.ag55 rfl rfl (fun w h => h.range 4 rfl rfl)) ?_
       refine WPD.tM 6 rfl rfl rfl rfl (Val.indexAddr (j := i) (q := i * 2) rfl Ty.sl210 rfl rfl (by omega) (by omega) (by omega)) ?_
       refine WPD.perm pl3 ?_
       refine WPD.stepC0 7 (by kernel_rfl) rfl rfl rfl (by kernel_rfl) (Eff.storeAgg (cs := [.int .i64 (z.k), .int .i64 (z.v)]) (C' := flatOf El.cells (t.is.set i z) ++ spg7) rfl Ty.ag55 rfl rfl rfl rfl (by rw [List.length_append, flatOf_length El.len]; omega) (flat_set El.len t.is i z spg7 (by omega))) ?_
       rintro _ _ rfl
       refine ⟨_, (fun _ h => h), ?_⟩
       refine WPD.done (by kernel_rfl) ?_
       refine Out.next ?_
       refine WPc.sr ?_
       refine WP.val rfl rfl rfl (Val.move rfl rfl) ?_
       refine WP.val rfl rfl rfl (Val.nilCheck rfl rfl) ?_
       refine WP.val rfl rfl rfl (Val.fieldAddr (j := 1) rfl Ty.fo213_1 rfl rfl) ?_
       refine WP.val rfl rfl rfl (Val.load rfl Ty.sc211 rfl (fun w h => h.cell 5 rfl rfl)) ?_
       refine WP.val rfl rfl rfl (Val.lenOwn rfl Ty.sl211 rfl (fun w h => h.at 9 rfl)) ?_
       refine WP.val rfl rfl rfl (Val.gtr rfl rfl rfl) ?_
       refine WP.nx ?_
       refine WPc.ifP rfl (fun h6 => ?_) (fun h6 => ?_)
       ·
        have h6 : ((0 : Int) < ((ksr.length : Nat) : Int)) := h6
        obtain ⟨⟨pz, tz⟩, hzz⟩ : ∃ q, ksr[0]? = some q := ⟨_, List.getElem?_eq_getElem (by omega)⟩
        refine WPD.start (Sat W [Blk px [v9, vcx, .pointer (some ⟨c, 0, none⟩)] 213]) Ty.mixed ?_
        refine WPD.tS 0 rfl rfl rfl rfl (fun w h => ((h.perm pl1)).dropEnd (L := [_])) (Val.move rfl rfl) ?_
        refine WPD.tS 1 rfl rfl rfl rfl (fun w h => ((h.perm pl1)).dropEnd (L := [_])) (Val.move rfl rfl) ?_
        refine WPD.tS 2 rfl rfl rfl rfl (fun w h => ((h.perm pl1)).dropEnd (L := [_])) (Val.nilCheck rfl rfl) ?_
        refine WPD.tS 3 rfl rfl rfl rfl (fun w h => ((h.perm pl1)).dropEnd (L := [_])) (Val.fieldAddr (j := 1) rfl Ty.fo213_1 rfl rfl) ?_
        refine WPD.tL 4 rfl rfl rfl rfl (fun w h => ((h.perm pl1)).dropEnd (L := [_])) (Val.load rfl Ty.sc211 rfl (fun w h => h.cell 0 rfl rfl)) ?_
        refine WPD.tS 5 rfl rfl rfl rfl (fun w h => ((h.perm pl1)).dropEnd (L := [_])) (Val.move rfl rfl) ?_
        refine WPD.tS 6 rfl rfl rfl rfl (fun w h => ((h.perm pl1)).dropEnd (L := [_])) (Val.nilCheck rfl rfl) ?_
        refine WPD.tS 7 rfl rfl rfl rfl (fun w h => ((h.perm pl1)).dropEnd (L := [_])) (Val.fieldAddr (j := 1) rfl Ty.fo213_1 rfl rfl) ?_
        refine WPD.perm pl9 ?_
        refine WPD.c1 (B := Own 171 1 vcr ((kp ksr).length) (flatOf vcf (kp ksr))) (fun w h => by rw [kp_len]; exact h) ?_
        refine WPD.perm pl6 ?_
        refine WPD.step 8 (by kernel_rfl) rfl rfl rfl rfl (Eff.call rfl rfl Try.call144 (rematP pr wir vcr (.pointer (some ⟨c, 0, none⟩)) 0 (.pointer (some ⟨pz, 0, none⟩)) (kp ksr) (kp_one _) (kp_at hzz) (by rw [kp_len]; omega))) ?_
        rintro _ _ ⟨_, ⟨wcr, hwcr, rfl, rfl⟩, rfl⟩
        refine ⟨(fun w h => ((h.perm pl3)).dropEnd (L := [_])), ?_⟩
        show WPD _ _ _ _ _ _ _ _ _ (Blk pr [wir, wcr, .pointer (some ⟨c, 0, none⟩)] 213 :: Own 171 1 wcr ((kp ksr).length - 1) (flatOf vcf ((kp ksr).eraseIdx 0)) :: Blk g7 (flatOf El.cells (t.is.set i z) ++ spg7) 55 :: Blk px [v9, vcx, .pointer (some ⟨c, 0, none⟩)] 213 :: Own 55 2 v9 (tx.is.length + 1) ((flatOf El.cells tx.is) ++ ([.int .i64 (y.k), .int .i64 (y.v)])) :: Blk b8 [.int .i64 (y.k), .int .i64 (y.v)] 55 :: _)
        refine WPD.step 9 (by kernel_rfl) rfl rfl rfl rfl (Eff.mkSlice (C := [.pointer (some ⟨pz, 0, none⟩)]) rfl Ty.sl211 rfl (fun _ => by kernel_rfl)) ?_
        rintro _ _ ⟨b10, rfl, rfl⟩
        refine ⟨(fun w h => ((h.perm pl4)).dropEnd (L := [_])), ?_⟩
        refine WPD.perm pl9 ?_
        refine WPD.stepC 10 (by kernel_rfl) rfl rfl rfl rfl (by kernel_rfl) (Eff.append (m := 1) (n0 := ksx.length) (news := [.pointer (some ⟨pz, 0, none⟩)]) rfl Ty.sl211 Ty.z171 rfl rfl rfl (.slice Ty.sl211 rfl rfl (fun w h => cells_range (h.range 1 rfl rfl))) (by omega) (by omega)) ?_
        rintro v11 _ ⟨onev11, rfl⟩
        refine ⟨_, (fun _ h => h), ?_⟩
        refine WPD.tM 11 rfl rfl rfl rfl (Val.nilCheck rfl rfl) ?_
        refine WPD.tM 12 rfl rfl rfl rfl (Val.fieldAddr (j := 1) rfl Ty.fo213_1 rfl rfl) ?_
        refine WPD.perm pl5 ?_
        refine WPD.stepC0 13 (by kernel_rfl) rfl rfl rfl (by kernel_rfl) (Eff.store rfl Ty.sc211 rfl rfl onev11 (by simp) st1) ?_
        rintro _ _ rfl
        refine ⟨_, (fun _ h => h), ?_⟩
        refine WPD.done (by kernel_rfl) ?_
        refine Out.next ?_
        refine WPc.seq ?_
        refine WPc.perm pl5 ?_
        refine WPc.conv (fun w h => Sat.ownMk (e := 55) (k := 2) (b := g7) (m := t.is.length) (cap := cg7) (xs := flatOf El.cells (t.is.set i z)) (sp := spg7) (by exact h) hng7 (by rw [flatOf_length El.len, List.length_set]) hsg7 hcg7) ?_
        refine WPc.c1 (B := Own 55 2 (.slice (some ⟨g7, 0, none⟩) t.is.length cg7) ((t.is.set i z).length) (flatOf El.cells (t.is.set i z))) (fun w h => by rw [List.length_set]; exact h) ?_
        refine WPc.perm pl6 ?_
        refine WPc.c1 (B := Own 55 2 v9 ((tx.is ++ [y]).length) (flatOf El.cells (tx.is ++ [y]))) (fun w h => by rw [flatOf_append, flatOf_one, List.length_append]; exact h) ?_
        refine WPc.perm pl9 ?_
        refine WPc.c1 (B := Own 55 2 wir ((tr.is.eraseIdx 0).length) (flatOf El.cells (tr.is.eraseIdx 0))) (fun w h => by rw [List.length_eraseIdx_of_lt (by omega)]; exact h) ?_
        refine WPc.perm pl11 ?_
        refine WPc.conv (fun w h => (Sat.kPerm (first_perm hzz) h).kCons) ?_
        refine WPc.perm pl12 ?_
        refine WPc.perm pl1 ?_
        refine WPc.conv (fun w h => h.kConsMk) ?_
        refine WPc.conv (fun w h => Sat.kPerm (List.perm_append_comm (l₁ := [(pz, tz)]) (l₂ := ksx)) h) ?_
        refine WPc.perm pl6 ?_
        refine WPc.c1 (B := Own 171 1 v11 ((ksx ++ [(pz, tz)]).length) (flatOf vcf (kp (ksx ++ [(pz, tz)])))) (fun w h => by rw [List.length_append, kp_app, flatOf_append]; exact h) ?_
        refine WPc.perm pl9 ?_
        refine WPc.c1 (B := Own 171 1 wcr ((ksr.eraseIdx 0).length) (flatOf vcf (kp (ksr.eraseIdx 0)))) (fun w h => by rw [kp_len ksr] at h; rw [List.length_eraseIdx_of_lt (by omega), ← kp_erase]; exact h) ?_
        have hkq0 : 0 < tr.ks.length := by omega
        have hzt := ks_at hkr hzz
        refine WPc.perm pl3 ?_
        refine WPc.perm pl1 ?_
        refine WPc.perm pl4 ?_
        refine WPc.perm pl9 ?_
        refine WPc.conv (fun w h => Sat.ndMk (c := c) (h := ht) (t := (Tr.nd (tr.is.eraseIdx 0) (tr.ks.eraseIdx 0))) (ks := (ksr.eraseIdx 0)) (by rw [tr_ks, ← hkr]; exact (snd_erase rfl)) (fun h0 => by have h1 := hlx h0; have h2 := hlr h0; simp_all) h) ?_
        show WPc _ _ _ _ _ _ (Nd c ht (pr, (Tr.nd (tr.is.eraseIdx 0) (tr.ks.eraseIdx 0))) :: Own 171 1 v11 ((ksx ++ [(pz, tz)]).length) (flatOf vcf (kp (ksx ++ [(pz, tz)]))) :: Kds (Rk c ht) (ksx ++ [(pz, tz)]) :: Own 55 2 v9 ((tx.is ++ [y]).length) (flatOf El.cells (tx.is ++ [y])) :: Own 55 2 (.slice (some ⟨g7, 0, none⟩) t.is.length cg7) ((t.is.set i z).length) (flatOf El.cells (t.is.set i z)) :: Blk px [v9, v11, .pointer (some ⟨c, 0, none⟩)] 213 :: Blk b10 [.pointer (some ⟨pz, 0, none⟩)] 171 :: _)
        refine WPc.perm pl2 ?_
        refine WPc.perm pl2 ?_
        refine WPc.perm pl3 ?_
        refine WPc.perm pl5 ?_
        refine WPc.conv (fun w h => Sat.ndMk (c := c) (h := ht) (t := (Tr.nd (tx.is ++ [y]) (tx.ks ++ [tz]))) (ks := (ksx ++ [(pz, tz)])) (by rw [tr_ks, ← hkx]; simp) (fun h0 => by have h1 := hlx h0; have h2 := hlr h0; simp_all) h) ?_
        show WPc _ _ _ _ _ _ (Nd c ht (px, (Tr.nd (tx.is ++ [y]) (tx.ks ++ [tz]))) :: _)
        refine WPc.perm pl6 ?_
        refine WPc.perm pl2 ?_
        refine WPc.conv (fun w h => h.kConsMk) ?_
        refine WPc.perm pl1 ?_
        refine WPc.conv (fun w h => h.kConsMk) ?_
        refine WPc.conv (fun w h => Sat.kPerm (hp2 (px, (Tr.nd (tx.is ++ [y]) (tx.ks ++ [tz]))) (pr, (Tr.nd (tr.is.eraseIdx 0) (tr.ks.eraseIdx 0)))).symm h) ?_
        show WPc _ _ _ _ _ _ (Kds (Rk c (ht + 1)) ((ks.set (i + 1) (pr, (Tr.nd (tr.is.eraseIdx 0) (tr.ks.eraseIdx 0)))).set i (px, (Tr.nd (tx.is ++ [y]) (tx.ks ++ [tz])))) :: _)
        have hkp2 : kp ((ks.set (i + 1) (pr, (Tr.nd (tr.is.eraseIdx 0) (tr.ks.eraseIdx 0)))).set i (px, (Tr.nd (tx.is ++ [y]) (tx.ks ++ [tz])))) = kp ks := by rw [kp_set (t0 := tx) (by rw [List.getElem?_set_ne (by omega)]; exact hxx), kp_set hxr]
        have hln2 : ((ks.set (i + 1) (pr, (Tr.nd (tr.is.eraseIdx 0) (tr.ks.eraseIdx 0)))).set i (px, (Tr.nd (tx.is ++ [y]) (tx.ks ++ [tz])))).length = ks.length := by simp
        refine WPc.perm pl6 ?_
        refine WPc.c1 (B := Own 171 1 (.slice (some ⟨g3, 0, none⟩) ks.length cg3) (((ks.set (i + 1) (pr, (Tr.nd (tr.is.eraseIdx 0) (tr.ks.eraseIdx 0)))).set i (px, (Tr.nd (tx.is ++ [y]) (tx.ks ++ [tz])))).length) (flatOf vcf (kp ((ks.set (i + 1) (pr, (Tr.nd (tr.is.eraseIdx 0) (tr.ks.eraseIdx 0)))).set i (px, (Tr.nd (tx.is ++ [y]) (tx.ks ++ [tz]))))))) (fun w h => by rw [hkp2, hln2]; exact h) ?_
        refine WPc.perm pl1 ?_
        refine WPc.perm pl1 ?_
        refine WPc.perm pl2 ?_
        refine WPc.perm pl6 ?_
        refine WPc.conv (fun w h => Sat.ndMk (c := c) (h := (ht + 1)) (t := (Tr.nd (t.is.set i z) ((t.ks.set (i + 1) (Tr.nd (tr.is.eraseIdx 0) (tr.ks.eraseIdx 0))).set i (Tr.nd (tx.is ++ [y]) (tx.ks ++ [tz]))))) (ks := ((ks.set (i + 1) (pr, (Tr.nd (tr.is.eraseIdx 0) (tr.ks.eraseIdx 0)))).set i (px, (Tr.nd (tx.is ++ [y]) (tx.ks ++ [tz]))))) (snd_set (snd_set hk)) (fun h0 => by cases h0) h) ?_
        show WPc _ _ _ _ _ _ (Nd c (ht + 1) (p, (Tr.nd (t.is.set i z) ((t.ks.set (i + 1) (Tr.nd (tr.is.eraseIdx 0) (tr.ks.eraseIdx 0))).set i (Tr.nd (tx.is ++ [y]) (tx.ks ++ [tz]))))) :: _)
        have hgr : grow m t i = (Tr.nd (t.is.set i z) ((t.ks.set (i + 1) (Tr.nd (tr.is.eraseIdx 0) (tr.ks.eraseIdx 0))).set i (Tr.nd (tx.is ++ [y]) (tx.ks ++ [tz])))) := by unfold grow; rw [if_neg (by rintro ⟨q1, q2⟩; first | omega | (rw [kid_at htl] at q2; omega)), if_pos ⟨by omega, by rw [kid_at htr]; omega⟩]; unfold stealR; simp only [kid_at htr, kid_at htx, getD_at hz, getD_at hy]; rw [if_pos hkq0, show tr.ks.getD 0 TE = tz from by rw [List.getD_eq_getElem?_getD, hzt]; rfl]
        rw [hgr] at hrem
        refine WPc.region ?_
        refine WP.val rfl rfl rfl (Val.move rfl rfl) ?_
        refine WP.val rfl rfl rfl (Val.loadAgg (cs := [.int .i64 (x.k), .int .i64 (x.v)]) rfl Ty.ag55 rfl rfl (fun w h => h.range 5 rfl rfl)) ?_
        refine WP.val rfl rfl rfl (Val.move rfl rfl) ?_
        refine WP.val rfl rfl rfl (Val.move rfl rfl) ?_
        refine WP.perm pl7 ?_
        refine WP.perm pl7 ?_
        refine WP.perm pl2 ?_
        refine WP.eff rfl rfl rfl (Eff.call rfl rfl Try.call128 (hrem)) ?_
        rintro _ _ ⟨_, ⟨rfl, rfl⟩, rfl⟩
        show WP _ _ _ _ _ _ _ (Nd c (ht + 1) (p, t2) :: _)
        refine WP.val rfl rfl rfl (Val.extract rfl rfl rfl) ?_
        refine WP.val rfl rfl rfl (Val.extract rfl rfl rfl) ?_
        refine WP.perm pl6 ?_
        refine WP.eff0 rfl rfl (Eff.storeAgg (cs := [.int .i64 ((o.getD El0).k), .int .i64 ((o.getD El0).v)]) (C' := [.int .i64 ((o.getD El0).k), .int .i64 ((o.getD El0).v)]) rfl Ty.ag55 rfl rfl rfl rfl (by simp) rfl) ?_
        rintro _ _ rfl
        refine WP.val rfl rfl rfl (Val.assign rfl rfl) ?_
        refine WP.nx ?_
        refine WPc.ret ?_
        iterate 4 (refine Out.perm pl4 ?_; refine Out.drop ?_)
        exact Out.retRun (L' := _) (results_ct Try.results141 rfl Ty.ag55 rfl rfl (fun w h => h.range 0 rfl rfl)) ⟨rfl, rfl⟩ (fun w h => h.drop)
       ·
        have h6 : ¬ ((0 : Int) < ((ksr.length : Nat) : Int)) := h6
        refine WPc.skip ?_
        refine Out.next ?_
        refine WPc.seq ?_
        refine WPc.conv (fun w h => Sat.ownMk (e := 55) (k := 2) (b := g7) (m := t.is.length) (cap := cg7) (xs := flatOf El.cells (t.is.set i z)) (sp := spg7) (by exact h) hng7 (by rw [flatOf_length El.len, List.length_set]) hsg7 hcg7) ?_
        refine WPc.c1 (B := Own 55 2 (.slice (some ⟨g7, 0, none⟩) t.is.length cg7) ((t.is.set i z).length) (flatOf El.cells (t.is.set i z))) (fun w h => by rw [List.length_set]; exact h) ?_
        refine WPc.perm pl2 ?_
        refine WPc.c1 (B := Own 55 2 v9 ((tx.is ++ [y]).length) (flatOf El.cells (tx.is ++ [y]))) (fun w h => by rw [flatOf_append, flatOf_one, List.length_append]; exact h) ?_
        refine WPc.perm pl6 ?_
        refine WPc.c1 (B := Own 55 2 wir ((tr.is.eraseIdx 0).length) (flatOf El.cells (tr.is.eraseIdx 0))) (fun w h => by rw [List.length_eraseIdx_of_lt (by omega)]; exact h) ?_
        have hkq0 : ¬ 0 < tr.ks.length := by omega
        have hkq1 : ksr = [] := List.eq_nil_of_length_eq_zero (by omega)
        have hkq2 : tr.ks = [] := List.eq_nil_of_length_eq_zero (by omega)
        refine WPc.perm pl10 ?_
        refine WPc.perm pl10 ?_
        refine WPc.perm pl2 ?_
        refine WPc.perm pl8 ?_
        refine WPc.conv (fun w h => Sat.ndMk (c := c) (h := ht) (t := (Tr.nd (tr.is.eraseIdx 0) (tr.ks.eraseIdx 0))) (ks := ksr) (by rw [tr_ks, hkr, hkq2]; simp) (fun h0 => by have h1 := hlx h0; have h2 := hlr h0; simp_all) h) ?_
        show WPc _ _ _ _ _ _ (Nd c ht (pr, (Tr.nd (tr.is.eraseIdx 0) (tr.ks.eraseIdx 0))) :: Own 55 2 v9 ((tx.is ++ [y]).length) (flatOf El.cells (tx.is ++ [y])) :: Own 55 2 (.slice (some ⟨g7, 0, none⟩) t.is.length cg7) ((t.is.set i z).length) (flatOf El.cells (t.is.set i z)) :: Blk px [v9, vcx, .pointer (some ⟨c, 0, none⟩)] 213 :: Blk b8 [.int .i64 (y.k), .int .i64 (y.v)] 55 :: _)
        refine WPc.perm pl7 ?_
        refine WPc.perm pl7 ?_
        refine WPc.perm pl3 ?_
        refine WPc.perm pl5 ?_
        refine WPc.conv (fun w h => Sat.ndMk (c := c) (h := ht) (t := (Tr.nd (tx.is ++ [y]) tx.ks)) (ks := ksx) hkx (fun h0 => by have h1 := hlx h0; have h2 := hlr h0; simp_all) h) ?_
        show WPc _ _ _ _ _ _ (Nd c ht (px, (Tr.nd (tx.is ++ [y]) tx.ks)) :: _)
        refine WPc.perm pl5 ?_
        refine WPc.perm pl2 ?_
        refine WPc.conv (fun w h => h.kConsMk) ?_
        refine WPc.perm pl1 ?_
        refine WPc.conv (fun w h => h.kConsMk) ?_
        refine WPc.conv (fun w h => Sat.kPerm (hp2 (px, (Tr.nd (tx.is ++ [y]) tx.ks)) (pr, (Tr.nd (tr.is.eraseIdx 0) (tr.ks.eraseIdx 0)))).symm h) ?_
        show WPc _ _ _ _ _ _ (Kds (Rk c (ht + 1)) ((ks.set (i + 1) (pr, (Tr.nd (tr.is.eraseIdx 0) (tr.ks.eraseIdx 0)))).set i (px, (Tr.nd (tx.is ++ [y]) tx.ks))) :: _)
        have hkp2 : kp ((ks.set (i + 1) (pr, (Tr.nd (tr.is.eraseIdx 0) (tr.ks.eraseIdx 0)))).set i (px, (Tr.nd (tx.is ++ [y]) tx.ks))) = kp ks := by rw [kp_set (t0 := tx) (by rw [List.getElem?_set_ne (by omega)]; exact hxx), kp_set hxr]
        have hln2 : ((ks.set (i + 1) (pr, (Tr.nd (tr.is.eraseIdx 0) (tr.ks.eraseIdx 0)))).set i (px, (Tr.nd (tx.is ++ [y]) tx.ks))).length = ks.length := by simp
        refine WPc.perm pl5 ?_
        refine WPc.c1 (B := Own 171 1 (.slice (some ⟨g3, 0, none⟩) ks.length cg3) (((ks.set (i + 1) (pr, (Tr.nd (tr.is.eraseIdx 0) (tr.ks.eraseIdx 0)))).set i (px, (Tr.nd (tx.is ++ [y]) tx.ks))).length) (flatOf vcf (kp ((ks.set (i + 1) (pr, (Tr.nd (tr.is.eraseIdx 0) (tr.ks.eraseIdx 0)))).set i (px, (Tr.nd (tx.is ++ [y]) tx.ks)))))) (fun w h => by rw [hkp2, hln2]; exact h) ?_
        refine WPc.perm pl1 ?_
        refine WPc.perm pl1 ?_
        refine WPc.perm pl2 ?_
        refine WPc.perm pl5 ?_
        refine WPc.conv (fun w h => Sat.ndMk (c := c) (h := (ht + 1)) (t := (Tr.nd (t.is.set i z) ((t.ks.set (i + 1) (Tr.nd (tr.is.eraseIdx 0) (tr.ks.eraseIdx 0))).set i (Tr.nd (tx.is ++ [y]) tx.ks)))) (ks := ((ks.set (i + 1) (pr, (Tr.nd (tr.is.eraseIdx 0) (tr.ks.eraseIdx 0)))).set i (px, (Tr.nd (tx.is ++ [y]) tx.ks)))) (snd_set (snd_set hk)) (fun h0 => by cases h0) h) ?_
        show WPc _ _ _ _ _ _ (Nd c (ht + 1) (p, (Tr.nd (t.is.set i z) ((t.ks.set (i + 1) (Tr.nd (tr.is.eraseIdx 0) (tr.ks.eraseIdx 0))).set i (Tr.nd (tx.is ++ [y]) tx.ks)))) :: _)
        have hgr : grow m t i = (Tr.nd (t.is.set i z) ((t.ks.set (i + 1) (Tr.nd (tr.is.eraseIdx 0) (tr.ks.eraseIdx 0))).set i (Tr.nd (tx.is ++ [y]) tx.ks))) := by unfold grow; rw [if_neg (by rintro ⟨q1, q2⟩; first | omega | (rw [kid_at htl] at q2; omega)), if_pos ⟨by omega, by rw [kid_at htr]; omega⟩]; unfold stealR; simp only [kid_at htr, kid_at htx, getD_at hz, getD_at hy]; rw [if_neg hkq0]
        rw [hgr] at hrem
        refine WPc.region ?_
        refine WP.val rfl rfl rfl (Val.move rfl rfl) ?_
        refine WP.val rfl rfl rfl (Val.loadAgg (cs := [.int .i64 (x.k), .int .i64 (x.v)]) rfl Ty.ag55 rfl rfl (fun w h => h.range 4 rfl rfl)) ?_
        refine WP.val rfl rfl rfl (Val.move rfl rfl) ?_
        refine WP.val rfl rfl rfl (Val.move rfl rfl) ?_
        refine WP.perm pl6 ?_
        refine WP.perm pl6 ?_
        refine WP.perm pl2 ?_
        refine WP.eff rfl rfl rfl (Eff.call rfl rfl Try.call128 (hrem)) ?_
        rintro _ _ ⟨_, ⟨rfl, rfl⟩, rfl⟩
        show WP _ _ _ _ _ _ _ (Nd c (ht + 1) (p, t2) :: _)
        refine WP.val rfl rfl rfl (Val.extract rfl rfl rfl) ?_
        refine WP.val rfl rfl rfl (Val.extract rfl rfl rfl) ?_
        refine WP.perm pl5 ?_
        refine WP.eff0 rfl rfl (Eff.storeAgg (cs := [.int .i64 ((o.getD El0).k), .int .i64 ((o.getD El0).v)]) (C' := [.int .i64 ((o.getD El0).k), .int .i64 ((o.getD El0).v)]) rfl Ty.ag55 rfl rfl rfl rfl (by simp) rfl) ?_
        rintro _ _ rfl
        refine WP.val rfl rfl rfl (Val.assign rfl rfl) ?_
        refine WP.nx ?_
        refine WPc.ret ?_
        iterate 3 (refine Out.perm pl4 ?_; refine Out.drop ?_)
        exact Out.retRun (L' := _) (results_ct Try.results141 rfl Ty.ag55 rfl rfl (fun w h => h.range 0 rfl rfl)) ⟨rfl, rfl⟩ (fun w h => h.drop)
      ·
       have h5 : ¬ (((m : Nat) : Int) < ((tr.is.length : Nat) : Int)) := h5
       refine WPc.seq ?_
       refine WPc.seq ?_
       iterate 4 (refine WPc.perm pl3 ?_)
       refine WPc.conv (fun w h => Sat.ndMk (c := c) (h := ht) (t := tr) (ks := ksr) hkr hlr h) ?_
       show WPc _ _ _ _ _ _ (Nd c ht (pr, tr) :: _)
       refine WPc.perm pl1 ?_
       refine WPc.perm pl1 ?_
       refine WPc.conv (fun w h => (by have h9 := Sat.kIn (R := Rk c (ht + 1)) (x := (pr, tr)) (ks := ks) (i := (i + 1)) h; rw [← split_at hxr] at h9; exact h9)) ?_
       show WPc _ _ _ _ _ _ (Kds (Rk c (ht + 1)) ks :: _)
       refine WPc.region ?_
       refine WP.val rfl rfl rfl (Val.move rfl rfl) ?_
       refine WP.val rfl rfl rfl (Val.move rfl rfl) ?_
       refine WP.val rfl rfl rfl (Val.nilCheck rfl rfl) ?_
       refine WP.val rfl rfl rfl (Val.fieldAddr (j := 0) rfl Ty.fo213_0 rfl rfl) ?_
       refine WP.val rfl rfl rfl (Val.load rfl Ty.sc210 rfl (fun w h => h.cell 2 rfl rfl)) ?_
       refine WP.val rfl rfl rfl (Val.lenOwn rfl Ty.sl210 rfl (fun w h => h.at 3 rfl)) ?_
       refine WP.val rfl rfl rfl (Val.geq rfl rfl rfl) ?_
       refine WP.nx ?_
       refine WPc.ifP rfl (fun h7 => ?_) (fun h7 => ?_)
       ·
        have h7 : (((t.is.length : Nat) : Int) ≤ ((i : Nat) : Int)) := h7
        refine WPc.region ?_
        refine WP.val rfl rfl rfl (Val.move rfl rfl) ?_
        refine WP.val rfl rfl rfl (Val.sub (z := ((i - 1 : Nat) : Int)) rfl rfl rfl ((w64 (by omega) (by omega)).trans (by omega))) ?_
        refine WP.val rfl rfl rfl (Val.assign rfl rfl) ?_
        refine WP.nx ?_
        refine WPc.seq ?_
        refine WPc.perm pl1 ?_
        refine WPc.conv (fun w h => Sat.ownMk (e := 171) (k := 1) (b := g3) (m := ks.length) (cap := cg3) (xs := flatOf vcf (kp ks)) (sp := spg3) (by exact h) hng3 hlg3 hsg3 hcg3) ?_
        obtain ⟨tx, htx⟩ : ∃ k, t.ks[(i - 1)]? = some k := ⟨_, List.getElem?_eq_getElem (by omega)⟩
        obtain ⟨px, hxx⟩ := ks_get hk htx
        have hm_tx := hb3 tx (List.mem_of_getElem? htx)
        have hs_tx := hm_tx.2.le
        obtain ⟨tm, htm⟩ : ∃ k, t.ks[(i - 1) + 1]? = some k := ⟨_, List.getElem?_eq_getElem (by omega)⟩
        obtain ⟨pm, hxm⟩ := ks_get hk htm
        have hm_tm := hb3 tm (List.mem_of_getElem? htm)
        have hs_tm := hm_tm.2.le
        obtain ⟨y, hy⟩ : ∃ y, t.is[(i - 1)]? = some y := ⟨_, List.getElem?_eq_getElem (by omega)⟩
        have hka := kp_at hxm
        refine WPc.region ?_
        refine WP.val rfl rfl rfl (Val.move rfl rfl) ?_
        refine WP.val rfl rfl rfl (Val.move rfl rfl) ?_
        refine WP.perm pl1 ?_
        refine WP.perm pl1 ?_
        refine WP.perm pl2 ?_
        refine WP.eff rfl rfl rfl (Eff.call rfl rfl Try.call127 (mchild_spec c ht p ((i - 1)) vi (.slice (some ⟨g3, 0, none⟩) ks.length cg3) ks px tx hxx (by omega))) ?_
        rintro _ _ ⟨_, ⟨rfl, rfl⟩, rfl⟩
        show WP _ _ _ _ _ _ _ (_ :: Own 171 1 (.slice (some ⟨g3, 0, none⟩) ks.length cg3) ks.length (flatOf vcf (kp ks)) :: _)
        refine WP.val rfl rfl rfl (Val.assign rfl rfl) ?_
        refine WP.nx ?_
        refine WPc.sr ?_
        refine WP.val rfl rfl rfl (Val.move rfl rfl) ?_
        refine WP.val rfl rfl rfl (Val.nilCheck rfl rfl) ?_
        refine WP.val rfl rfl rfl (Val.fieldAddr (j := 0) rfl Ty.fo213_0 rfl rfl) ?_
        refine WP.val rfl rfl rfl (Val.move rfl rfl) ?_
        refine WP.perm pl3 ?_
        refine WP.perm pl1 ?_
        refine WP.eff rfl rfl rfl (Eff.call rfl rfl Try.call140 (rematE p vi (.slice (some ⟨g3, 0, none⟩) ks.length cg3) (.pointer (some ⟨c, 0, none⟩)) ((i - 1)) y t.is hy (by omega))) ?_
        rintro _ _ ⟨_, ⟨wi, hwi, rfl, rfl⟩, rfl⟩
        show WP _ _ _ _ _ _ _ (Blk p [wi, .slice (some ⟨g3, 0, none⟩) ks.length cg3, .pointer (some ⟨c, 0, none⟩)] 213 :: Own 55 2 wi ((t.is).length - 1) (flatOf El.cells ((t.is).eraseIdx ((i - 1)))) :: _)
        refine WP.eff rfl rfl rfl (Eff.alloc rfl Ty.z55) ?_
        rintro _ _ ⟨b12, rfl, rfl⟩
        refine WP.eff0 rfl rfl (Eff.storeAgg (cs := [.int .i64 (y.k), .int .i64 (y.v)]) (C' := [.int .i64 (y.k), .int .i64 (y.v)]) rfl Ty.ag55 rfl rfl rfl rfl (by simp) rfl) ?_
        rintro _ _ rfl
        refine WP.nx ?_
        refine WPc.sr ?_
        refine WP.val rfl rfl rfl (Val.move rfl rfl) ?_
        refine WP.val rfl rfl rfl (Val.nilCheck rfl rfl) ?_
        refine WP.val rfl rfl rfl (Val.fieldAddr (j := 1) rfl Ty.fo213_1 rfl rfl) ?_
        refine WP.val rfl rfl rfl (Val.move rfl rfl) ?_
        refine WP.val rfl rfl rfl (Val.add (z := (((i - 1) + 1 : Nat) : Int)) rfl rfl rfl ((w64 (by omega) (by omega)).trans (by omega))) ?_
        refine WP.perm pl3 ?_
        refine WP.c1 (B := Own 171 1 (.slice (some ⟨g3, 0, none⟩) ks.length cg3) ((kp ks).length) (flatOf vcf (kp ks))) (fun w h => by rw [kp_len]; exact h) ?_
        refine WP.perm pl2 ?_
        refine WP.eff rfl rfl rfl (Eff.call rfl rfl Try.call144 (rematP p wi (.slice (some ⟨g3, 0, none⟩) ks.length cg3) (.pointer (some ⟨c, 0, none⟩)) ((i - 1) + 1) (.pointer (some ⟨pm, 0, none⟩)) (kp ks) (kp_one _) hka (by rw [kp_len]; omega))) ?_
        rintro _ _ ⟨_, ⟨wc, hwc, rfl, rfl⟩, rfl⟩
        show WP _ _ _ _ _ _ _ (Blk p [wi, wc, .pointer (some ⟨c, 0, none⟩)] 213 :: Own 171 1 wc ((kp ks).length - 1) (flatOf vcf ((kp ks).eraseIdx ((i - 1) + 1))) :: Blk b12 [.int .i64 (y.k), .int .i64 (y.v)] 55 :: _)
        refine WP.val rfl rfl rfl (Val.assign rfl rfl) ?_
        refine WP.nx ?_
        refine WPc.seq ?_
        obtain ⟨rest, hp1, hp2, hp3⟩ := pair_out (ks := ks) (i := (i - 1)) (j := ((i - 1) + 1)) (by omega) hxx hxm
        refine WPc.perm pl4 ?_
        refine WPc.conv (fun w h => (Sat.kPerm hp1 h).kCons) ?_
        refine WPc.perm pl1 ?_
        refine WPc.conv (fun w h => h.kCons) ?_
        show WPc _ _ _ _ _ _ (Nd c ht (pm, tm) :: Kds (Rk c (ht + 1)) rest :: Nd c ht (px, tx) :: _)
        refine WPc.perm pl2 ?_
        refine WPc.open (fun w h => h.ndOpen) ?_
        rintro ⟨vix, vcx, ksx⟩
        refine WPc.pure (fun hkx => ?_)
        obtain ⟨hkx, hlx⟩ := hkx
        dsimp only at hkx hlx
        have hklx := ks_len hkx
        show WPc _ _ _ _ _ _ (Blk px [vix, vcx, .pointer (some ⟨c, 0, none⟩)] 213 :: Own 55 2 vix tx.is.length (flatOf El.cells tx.is) :: Own 171 1 vcx ksx.length (flatOf vcf (kp ksx)) :: Kds (Rk c ht) ksx :: _)
        refine WPc.perm pl4 ?_
        refine WPc.open (fun w h => h.ndOpen) ?_
        rintro ⟨vim, vcm, ksm⟩
        refine WPc.pure (fun hkm => ?_)
        obtain ⟨hkm, hlm⟩ := hkm
        dsimp only at hkm hlm
        have hklm := ks_len hkm
        show WPc _ _ _ _ _ _ (Blk pm [vim, vcm, .pointer (some ⟨c, 0, none⟩)] 213 :: Own 55 2 vim tm.is.length (flatOf El.cells tm.is) :: Own 171 1 vcm ksm.length (flatOf vcf (kp ksm)) :: Kds (Rk c ht) ksm :: _)
        refine WPD.start (Sat W [Blk px [vix, vcx, .pointer (some ⟨c, 0, none⟩)] 213, Blk b12 [.int .i64 (y.k), .int .i64 (y.v)] 55]) Ty.mixed ?_
        refine WPD.tS 0 rfl rfl rfl rfl (fun w h => (((h.perm pl11).perm pl5)).dropEnd (L := [_, _])) (Val.move rfl rfl) ?_
        refine WPD.tS 1 rfl rfl rfl rfl (fun w h => (((h.perm pl11).perm pl5)).dropEnd (L := [_, _])) (Val.move rfl rfl) ?_
        refine WPD.tS 2 rfl rfl rfl rfl (fun w h => (((h.perm pl11).perm pl5)).dropEnd (L := [_, _])) (Val.nilCheck rfl rfl) ?_
        refine WPD.tS 3 rfl rfl rfl rfl (fun w h => (((h.perm pl11).perm pl5)).dropEnd (L := [_, _])) (Val.fieldAddr (j := 0) rfl Ty.fo213_0 rfl rfl) ?_
        refine WPD.tL 4 rfl rfl rfl rfl (fun w h => (((h.perm pl11).perm pl5)).dropEnd (L := [_, _])) (Val.load rfl Ty.sc210 rfl (fun w h => h.cell 0 rfl rfl)) ?_
        refine WPD.tL 5 rfl rfl rfl rfl (fun w h => (((h.perm pl11).perm pl5)).dropEnd (L := [_, _])) (Val.loadAgg (cs := [.int .i64 (y.k), .int .i64 (y.v)]) rfl Ty.ag55 rfl rfl (fun w h => h.range 1 rfl rfl)) ?_
        refine WPD.step 6 (by kernel_rfl) rfl rfl rfl rfl (Eff.mkSlice (C := [.int .i64 (y.k), .int .i64 (y.v)]) rfl Ty.sl210 rfl (fun _ => by kernel_rfl)) ?_
        rintro _ _ ⟨b13, rfl, rfl⟩
        refine ⟨(fun w h => (((h.perm pl12).perm pl6)).dropEnd (L := [_, _])), ?_⟩
        refine WPD.perm pl6 ?_
        refine WPD.stepC 7 (by kernel_rfl) rfl rfl rfl rfl (by kernel_rfl) (Eff.append (m := 1) (n0 := tx.is.length) (news := [.int .i64 (y.k), .int .i64 (y.v)]) rfl Ty.sl210 Ty.z55 rfl rfl rfl (.slice Ty.sl210 rfl rfl (fun w h => cells_range (h.range 1 rfl rfl))) (by omega) (by omega)) ?_
        rintro v14 _ ⟨onev14, rfl⟩
        refine ⟨_, (fun _ h => h), ?_⟩
        refine WPD.tM 8 rfl rfl rfl rfl (Val.nilCheck rfl rfl) ?_
        refine WPD.tM 9 rfl rfl rfl rfl (Val.fieldAddr (j := 0) rfl Ty.fo213_0 rfl rfl) ?_
        refine WPD.perm pl6 ?_
        refine WPD.stepC0 10 (by kernel_rfl) rfl rfl rfl (by kernel_rfl) (Eff.store rfl Ty.sc210 rfl rfl onev14 (by simp) st0) ?_
        rintro _ _ rfl
        refine ⟨_, (fun _ h => h), ?_⟩
        refine WPD.done (by kernel_rfl) ?_
        refine Out.next ?_
        refine WPc.seq ?_
        refine WPD.s0 Ty.mixed ?_
        refine WPD.tM 0 rfl rfl rfl rfl (Val.move rfl rfl) ?_
        refine WPD.tM 1 rfl rfl rfl rfl (Val.move rfl rfl) ?_
        refine WPD.tM 2 rfl rfl rfl rfl (Val.nilCheck rfl rfl) ?_
        refine WPD.tM 3 rfl rfl rfl rfl (Val.fieldAddr (j := 0) rfl Ty.fo213_0 rfl rfl) ?_
        refine WPD.tL 4 rfl rfl rfl rfl (fun _ h => h) (Val.load rfl Ty.sc210 rfl (fun w h => h.cell 0 rfl rfl)) ?_
        refine WPD.tM 5 rfl rfl rfl rfl (Val.move rfl rfl) ?_
        refine WPD.tM 6 rfl rfl rfl rfl (Val.nilCheck rfl rfl) ?_
        refine WPD.tM 7 rfl rfl rfl rfl (Val.fieldAddr (j := 0) rfl Ty.fo213_0 rfl rfl) ?_
        refine WPD.tL 8 rfl rfl rfl rfl (fun _ h => h) (Val.load rfl Ty.sc210 rfl (fun w h => h.cell 3 rfl rfl)) ?_
        refine WPD.perm pl1 ?_
        refine WPD.stepC 9 (by kernel_rfl) rfl rfl rfl rfl (by kernel_rfl) (Eff.append (m := tm.is.length) (n0 := tx.is.length + 1) (news := flatOf El.cells tm.is) rfl Ty.sl210 Ty.z55 rfl rfl rfl (Srcs.ownAt Ty.sl210 (el_one _) 4 rfl) (by omega) (by omega)) ?_
        rintro v15 _ ⟨onev15, rfl⟩
        refine ⟨_, (fun _ h => h), ?_⟩
        refine WPD.tM 10 rfl rfl rfl rfl (Val.nilCheck rfl rfl) ?_
        refine WPD.tM 11 rfl rfl rfl rfl (Val.fieldAddr (j := 0) rfl Ty.fo213_0 rfl rfl) ?_
        refine WPD.perm pl1 ?_
        refine WPD.stepC0 12 (by kernel_rfl) rfl rfl rfl (by kernel_rfl) (Eff.store rfl Ty.sc210 rfl rfl onev15 (by simp) st0) ?_
        rintro _ _ rfl
        refine ⟨_, (fun _ h => h), ?_⟩
        refine WPD.done (by kernel_rfl) ?_
        refine Out.next ?_
        refine WPc.seq ?_
        refine WPD.s0 Ty.mixed ?_
        refine WPD.tM 0 rfl rfl rfl rfl (Val.move rfl rfl) ?_
        refine WPD.tM 1 rfl rfl rfl rfl (Val.move rfl rfl) ?_
        refine WPD.tM 2 rfl rfl rfl rfl (Val.nilCheck rfl rfl) ?_
        refine WPD.tM 3 rfl rfl rfl rfl (Val.fieldAddr (j := 1) rfl Ty.fo213_1 rfl rfl) ?_
        refine WPD.tL 4 rfl rfl rfl rfl (fun _ h => h) (Val.load rfl Ty.sc211 rfl (fun w h => h.cell 0 rfl rfl)) ?_
        refine WPD.tM 5 rfl rfl rfl rfl (Val.move rfl rfl) ?_
        refine WPD.tM 6 rfl rfl rfl rfl (Val.nilCheck rfl rfl) ?_
        refine WPD.tM 7 rfl rfl rfl rfl (Val.fieldAddr (j := 1) rfl Ty.fo213_1 rfl rfl) ?_
        refine WPD.tL 8 rfl rfl rfl rfl (fun _ h => h) (Val.load rfl Ty.sc211 rfl (fun w h => h.cell 3 rfl rfl)) ?_
        refine WPD.perm pl7 ?_
        refine WPD.stepC 9 (by kernel_rfl) rfl rfl rfl rfl (by kernel_rfl) (Eff.append (m := ksm.length) (n0 := ksx.length) (news := flatOf vcf (kp ksm)) rfl Ty.sl211 Ty.z171 rfl rfl rfl (Srcs.ownAt Ty.sl211 (v_one (kp_one _)) 6 rfl) (by omega) (by omega)) ?_
        rintro v16 _ ⟨onev16, rfl⟩
        refine ⟨_, (fun _ h => h), ?_⟩
        refine WPD.tM 10 rfl rfl rfl rfl (Val.nilCheck rfl rfl) ?_
        refine WPD.tM 11 rfl rfl rfl rfl (Val.fieldAddr (j := 1) rfl Ty.fo213_1 rfl rfl) ?_
        refine WPD.perm pl1 ?_
        refine WPD.stepC0 12 (by kernel_rfl) rfl rfl rfl (by kernel_rfl) (Eff.store rfl Ty.sc211 rfl rfl onev16 (by simp) st1) ?_
        rintro _ _ rfl
        refine ⟨_, (fun _ h => h), ?_⟩
        refine WPD.done (by kernel_rfl) ?_
        refine Out.next ?_
        refine WPc.perm pl6 ?_
        refine WPc.c1 (B := Own 171 1 vcm ((kp ksm).length) (flatOf vcf (kp ksm))) (fun w h => by rw [kp_len]; exact h) ?_
        refine WPc.region ?_
        refine WP.val rfl rfl rfl (Val.move rfl rfl) ?_
        refine WP.val rfl rfl rfl (Val.nilCheck rfl rfl) ?_
        refine WP.val rfl rfl rfl (Val.fieldAddr (j := 2) rfl Ty.fo213_2 rfl rfl) ?_
        refine WP.val rfl rfl rfl (Val.load rfl Ty.sc172 rfl (fun w h => h.cell 10 rfl rfl)) ?_
        refine WP.val rfl rfl rfl (Val.move rfl rfl) ?_
        refine WP.perm pl6 ?_
        refine WP.perm pl6 ?_
        refine WP.perm pl17 ?_
        refine WP.perm pl17 ?_
        refine WP.eff rfl rfl rfl (Eff.call rfl rfl Try.call130 (cowfree_spec c f pm vim vcm tm.is (kp ksm) (kp_one _) (by omega) (by rw [kp_len]; omega))) ?_
        rintro vf _ ⟨_, ⟨-, rfl⟩, rfl⟩
        show WP _ _ _ _ _ _ _ (_ :: _ :: Blk px [v15, v16, .pointer (some ⟨c, 0, none⟩)] 213 :: Own 171 1 v16 (ksx.length + ksm.length) ((flatOf vcf (kp ksx)) ++ (flatOf vcf (kp ksm))) :: Own 55 2 v15 ((tx.is.length + 1) + tm.is.length) (((flatOf El.cells tx.is) ++ ([.int .i64 (y.k), .int .i64 (y.v)])) ++ (flatOf El.cells tm.is)) :: Blk b13 [.int .i64 (y.k), .int .i64 (y.v)] 55 :: _)
        refine WP.nx ?_
        refine WPc.seq ?_
        refine WPc.perm pl4 ?_
        refine WPc.c1 (B := Own 55 2 v15 ((tx.is ++ [y] ++ tm.is).length) (flatOf El.cells (tx.is ++ [y] ++ tm.is))) (fun w h => by rw [flatOf_append, flatOf_append, flatOf_one, List.length_append, List.length_append]; exact h) ?_
        refine WPc.perm pl6 ?_
        refine WPc.perm pl7 ?_
        refine WPc.conv (fun w h => h.kAppMk) ?_
        refine WPc.perm pl5 ?_
        refine WPc.c1 (B := Own 171 1 v16 ((ksx ++ ksm).length) (flatOf vcf (kp (ksx ++ ksm)))) (fun w h => by rw [List.length_append, kp_app, flatOf_append]; exact h) ?_
        refine WPc.perm pl1 ?_
        refine WPc.perm pl1 ?_
        refine WPc.perm pl2 ?_
        refine WPc.perm pl5 ?_
        refine WPc.conv (fun w h => Sat.ndMk (c := c) (h := ht) (t := (Tr.nd (tx.is ++ [y] ++ tm.is) (tx.ks ++ tm.ks))) (ks := (ksx ++ ksm)) (by rw [tr_ks, ← hkx, ← hkm, List.map_append]) (fun h0 => by rw [hlx h0, hlm h0]; rfl) h) ?_
        show WPc _ _ _ _ _ _ (Nd c ht (px, (Tr.nd (tx.is ++ [y] ++ tm.is) (tx.ks ++ tm.ks))) :: _)
        refine WPc.perm pl4 ?_
        refine WPc.perm pl1 ?_
        refine WPc.conv (fun w h => h.kConsMk) ?_
        refine WPc.conv (fun w h => Sat.kPerm (hp3 (px, (Tr.nd (tx.is ++ [y] ++ tm.is) (tx.ks ++ tm.ks)))).symm h) ?_
        show WPc _ _ _ _ _ _ (Kds (Rk c (ht + 1)) ((ks.eraseIdx ((i - 1) + 1)).set (i - 1) (px, (Tr.nd (tx.is ++ [y] ++ tm.is) (tx.ks ++ tm.ks)))) :: _)
        have hkp2 : kp ((ks.eraseIdx ((i - 1) + 1)).set (i - 1) (px, (Tr.nd (tx.is ++ [y] ++ tm.is) (tx.ks ++ tm.ks)))) = kp (ks.eraseIdx ((i - 1) + 1)) := by rw [kp_set (t0 := tx) (by rw [List.getElem?_eraseIdx_of_lt (by omega)]; exact hxx)]
        have hln2 : ((ks.eraseIdx ((i - 1) + 1)).set (i - 1) (px, (Tr.nd (tx.is ++ [y] ++ tm.is) (tx.ks ++ tm.ks)))).length = ks.length - 1 := by rw [List.length_set, List.length_eraseIdx_of_lt (by omega)]
        refine WPc.perm pl5 ?_
        refine WPc.c1 (B := Own 171 1 wc (((ks.eraseIdx ((i - 1) + 1)).set (i - 1) (px, (Tr.nd (tx.is ++ [y] ++ tm.is) (tx.ks ++ tm.ks)))).length) (flatOf vcf (kp ((ks.eraseIdx ((i - 1) + 1)).set (i - 1) (px, (Tr.nd (tx.is ++ [y] ++ tm.is) (tx.ks ++ tm.ks))))))) (fun w h => by rw [kp_len ks] at h; rw [hkp2, hln2, ← kp_erase]; exact h) ?_
        refine WPc.perm pl7 ?_
        refine WPc.c1 (B := Own 55 2 wi ((t.is.eraseIdx (i - 1)).length) (flatOf El.cells (t.is.eraseIdx (i - 1)))) (fun w h => by rw [List.length_eraseIdx_of_lt (by omega)]; exact h) ?_
        iterate 3 (refine WPc.perm pl2 ?_)
        refine WPc.perm pl6 ?_
        refine WPc.conv (fun w h => Sat.ndMk (c := c) (h := (ht + 1)) (t := (Tr.nd (t.is.eraseIdx (i - 1)) ((t.ks.eraseIdx ((i - 1) + 1)).set (i - 1) (Tr.nd (tx.is ++ [y] ++ tm.is) (tx.ks ++ tm.ks))))) (ks := ((ks.eraseIdx ((i - 1) + 1)).set (i - 1) (px, (Tr.nd (tx.is ++ [y] ++ tm.is) (tx.ks ++ tm.ks))))) (snd_set (snd_erase hk)) (fun h0 => by cases h0) h) ?_
        show WPc _ _ _ _ _ _ (Nd c (ht + 1) (p, (Tr.nd (t.is.eraseIdx (i - 1)) ((t.ks.eraseIdx ((i - 1) + 1)).set (i - 1) (Tr.nd (tx.is ++ [y] ++ tm.is) (tx.ks ++ tm.ks))))) :: _)
        have hgr : grow m t i = (Tr.nd (t.is.eraseIdx (i - 1)) ((t.ks.eraseIdx ((i - 1) + 1)).set (i - 1) (Tr.nd (tx.is ++ [y] ++ tm.is) (tx.ks ++ tm.ks)))) := by unfold grow; rw [if_neg (by rintro ⟨q1, q2⟩; first | omega | (rw [kid_at htl] at q2; omega)), if_neg (by rintro ⟨q1, q2⟩; first | omega | (rw [kid_at htr] at q2; omega)), if_pos (by omega)]; unfold merge; simp only [kid_at htx, kid_at htm, getD_at hy]
        rw [hgr] at hrem
        refine WPc.region ?_
        refine WP.val rfl rfl rfl (Val.move rfl rfl) ?_
        refine WP.val rfl rfl rfl (Val.loadAgg (cs := [.int .i64 (x.k), .int .i64 (x.v)]) rfl Ty.ag55 rfl rfl (fun w h => h.range 6 rfl rfl)) ?_
        refine WP.val rfl rfl rfl (Val.move rfl rfl) ?_
        refine WP.val rfl rfl rfl (Val.move rfl rfl) ?_
        iterate 3 (refine WP.perm pl2 ?_)
        refine WP.eff rfl rfl rfl (Eff.call rfl rfl Try.call128 (hrem)) ?_
        rintro _ _ ⟨_, ⟨rfl, rfl⟩, rfl⟩
        show WP _ _ _ _ _ _ _ (Nd c (ht + 1) (p, t2) :: _)
        refine WP.val rfl rfl rfl (Val.extract rfl rfl rfl) ?_
        refine WP.val rfl rfl rfl (Val.extract rfl rfl rfl) ?_
        refine WP.perm pl5 ?_
        refine WP.eff0 rfl rfl (Eff.storeAgg (cs := [.int .i64 ((o.getD El0).k), .int .i64 ((o.getD El0).v)]) (C' := [.int .i64 ((o.getD El0).k), .int .i64 ((o.getD El0).v)]) rfl Ty.ag55 rfl rfl rfl rfl (by simp) rfl) ?_
        rintro _ _ rfl
        refine WP.val rfl rfl rfl (Val.assign rfl rfl) ?_
        refine WP.nx ?_
        refine WPc.ret ?_
        iterate 3 (refine Out.perm pl4 ?_; refine Out.drop ?_)
        exact Out.retRun (L' := _) (results_ct Try.results141 rfl Ty.ag55 rfl rfl (fun w h => h.range 0 rfl rfl)) ⟨rfl, rfl⟩ (fun w h => h.drop)
       ·
        have h7 : ¬ (((t.is.length : Nat) : Int) ≤ ((i : Nat) : Int)) := h7
        refine WPc.skip ?_
        refine Out.next ?_
        refine WPc.seq ?_
        refine WPc.perm pl1 ?_
        refine WPc.conv (fun w h => Sat.ownMk (e := 171) (k := 1) (b := g3) (m := ks.length) (cap := cg3) (xs := flatOf vcf (kp ks)) (sp := spg3) (by exact h) hng3 hlg3 hsg3 hcg3) ?_
        obtain ⟨tx, htx⟩ : ∃ k, t.ks[i]? = some k := ⟨_, List.getElem?_eq_getElem (by omega)⟩
        obtain ⟨px, hxx⟩ := ks_get hk htx
        have hm_tx := hb3 tx (List.mem_of_getElem? htx)
        have hs_tx := hm_tx.2.le
        obtain ⟨tm, htm⟩ : ∃ k, t.ks[i + 1]? = some k := ⟨_, List.getElem?_eq_getElem (by omega)⟩
        obtain ⟨pm, hxm⟩ := ks_get hk htm
        have hm_tm := hb3 tm (List.mem_of_getElem? htm)
        have hs_tm := hm_tm.2.le
        obtain ⟨y, hy⟩ : ∃ y, t.is[i]? = some y := ⟨_, List.getElem?_eq_getElem (by omega)⟩
        have hka := kp_at hxm
        refine WPc.region ?_
        refine WP.val rfl rfl rfl (Val.move rfl rfl) ?_
        refine WP.val rfl rfl rfl (Val.move rfl rfl) ?_
        refine WP.perm pl1 ?_
        refine WP.perm pl1 ?_
        refine WP.perm pl2 ?_
        refine WP.eff rfl rfl rfl (Eff.call rfl rfl Try.call127 (mchild_spec c ht p i vi (.slice (some ⟨g3, 0, none⟩) ks.length cg3) ks px tx hxx (by omega))) ?_
        rintro _ _ ⟨_, ⟨rfl, rfl⟩, rfl⟩
        show WP _ _ _ _ _ _ _ (_ :: Own 171 1 (.slice (some ⟨g3, 0, none⟩) ks.length cg3) ks.length (flatOf vcf (kp ks)) :: _)
        refine WP.val rfl rfl rfl (Val.assign rfl rfl) ?_
        refine WP.nx ?_
        refine WPc.sr ?_
        refine WP.val rfl rfl rfl (Val.move rfl rfl) ?_
        refine WP.val rfl rfl rfl (Val.nilCheck rfl rfl) ?_
        refine WP.val rfl rfl rfl (Val.fieldAddr (j := 0) rfl Ty.fo213_0 rfl rfl) ?_
        refine WP.val rfl rfl rfl (Val.move rfl rfl) ?_
        refine WP.perm pl3 ?_
        refine WP.perm pl1 ?_
        refine WP.eff rfl rfl rfl (Eff.call rfl rfl Try.call140 (rematE p vi (.slice (some ⟨g3, 0, none⟩) ks.length cg3) (.pointer (some ⟨c, 0, none⟩)) i y t.is hy (by omega))) ?_
        rintro _ _ ⟨_, ⟨wi, hwi, rfl, rfl⟩, rfl⟩
        show WP _ _ _ _ _ _ _ (Blk p [wi, .slice (some ⟨g3, 0, none⟩) ks.length cg3, .pointer (some ⟨c, 0, none⟩)] 213 :: Own 55 2 wi ((t.is).length - 1) (flatOf El.cells ((t.is).eraseIdx i)) :: _)
        refine WP.eff rfl rfl rfl (Eff.alloc rfl Ty.z55) ?_
        rintro _ _ ⟨b17, rfl, rfl⟩
        refine WP.eff0 rfl rfl (Eff.storeAgg (cs := [.int .i64 (y.k), .int .i64 (y.v)]) (C' := [.int .i64 (y.k), .int .i64 (y.v)]) rfl Ty.ag55 rfl rfl rfl rfl (by simp) rfl) ?_
        rintro _ _ rfl
        refine WP.nx ?_
        refine WPc.sr ?_
        refine WP.val rfl rfl rfl (Val.move rfl rfl) ?_
        refine WP.val rfl rfl rfl (Val.nilCheck rfl rfl) ?_
        refine WP.val rfl rfl rfl (Val.fieldAddr (j := 1) rfl Ty.fo213_1 rfl rfl) ?_
        refine WP.val rfl rfl rfl (Val.move rfl rfl) ?_
        refine WP.val rfl rfl rfl (Val.add (z := ((i + 1 : Nat) : Int)) rfl rfl rfl ((w64 (by omega) (by omega)).trans (by omega))) ?_
        refine WP.perm pl3 ?_
        refine WP.c1 (B := Own 171 1 (.slice (some ⟨g3, 0, none⟩) ks.length cg3) ((kp ks).length) (flatOf vcf (kp ks))) (fun w h => by rw [kp_len]; exact h) ?_
        refine WP.perm pl2 ?_
        refine WP.eff rfl rfl rfl (Eff.call rfl rfl Try.call144 (rematP p wi (.slice (some ⟨g3, 0, none⟩) ks.length cg3) (.pointer (some ⟨c, 0, none⟩)) (i + 1) (.pointer (some ⟨pm, 0, none⟩)) (kp ks) (kp_one _) hka (by rw [kp_len]; omega))) ?_
        rintro _ _ ⟨_, ⟨wc, hwc, rfl, rfl⟩, rfl⟩
        show WP _ _ _ _ _ _ _ (Blk p [wi, wc, .pointer (some ⟨c, 0, none⟩)] 213 :: Own 171 1 wc ((kp ks).length - 1) (flatOf vcf ((kp ks).eraseIdx (i + 1))) :: Blk b17 [.int .i64 (y.k), .int .i64 (y.v)] 55 :: _)
        refine WP.val rfl rfl rfl (Val.assign rfl rfl) ?_
        refine WP.nx ?_
        refine WPc.seq ?_
        obtain ⟨rest, hp1, hp2, hp3⟩ := pair_out (ks := ks) (i := i) (j := (i + 1)) (by omega) hxx hxm
        refine WPc.perm pl4 ?_
        refine WPc.conv (fun w h => (Sat.kPerm hp1 h).kCons) ?_
        refine WPc.perm pl1 ?_
        refine WPc.conv (fun w h => h.kCons) ?_
        show WPc _ _ _ _ _ _ (Nd c ht (pm, tm) :: Kds (Rk c (ht + 1)) rest :: Nd c ht (px, tx) :: _)
        refine WPc.perm pl2 ?_
        refine WPc.open (fun w h => h.ndOpen) ?_
        rintro ⟨vix, vcx, ksx⟩
        refine WPc.pure (fun hkx => ?_)
        obtain ⟨hkx, hlx⟩ := hkx
        dsimp only at hkx hlx
        have hklx := ks_len hkx
        show WPc _ _ _ _ _ _ (Blk px [vix, vcx, .pointer (some ⟨c, 0, none⟩)] 213 :: Own 55 2 vix tx.is.length (flatOf El.cells tx.is) :: Own 171 1 vcx ksx.length (flatOf vcf (kp ksx)) :: Kds (Rk c ht) ksx :: _)
        refine WPc.perm pl4 ?_
        refine WPc.open (fun w h => h.ndOpen) ?_
        rintro ⟨vim, vcm, ksm⟩
        refine WPc.pure (fun hkm => ?_)
        obtain ⟨hkm, hlm⟩ := hkm
        dsimp only at hkm hlm
        have hklm := ks_len hkm
        show WPc _ _ _ _ _ _ (Blk pm [vim, vcm, .pointer (some ⟨c, 0, none⟩)] 213 :: Own 55 2 vim tm.is.length (flatOf El.cells tm.is) :: Own 171 1 vcm ksm.length (flatOf vcf (kp ksm)) :: Kds (Rk c ht) ksm :: _)
        refine WPD.start (Sat W [Blk px [vix, vcx, .pointer (some ⟨c, 0, none⟩)] 213, Blk b17 [.int .i64 (y.k), .int .i64 (y.v)] 55]) Ty.mixed ?_
        refine WPD.tS 0 rfl rfl rfl rfl (fun w h => (((h.perm pl11).perm pl5)).dropEnd (L := [_, _])) (Val.move rfl rfl) ?_
        refine WPD.tS 1 rfl rfl rfl rfl (fun w h => (((h.perm pl11).perm pl5)).dropEnd (L := [_, _])) (Val.move rfl rfl) ?_
        refine WPD.tS 2 rfl rfl rfl rfl (fun w h => (((h.perm pl11).perm pl5)).dropEnd (L := [_, _])) (Val.nilCheck rfl rfl) ?_
        refine WPD.tS 3 rfl rfl rfl rfl (fun w h => (((h.perm pl11).perm pl5)).dropEnd (L := [_, _])) (Val.fieldAddr (j := 0) rfl Ty.fo213_0 rfl rfl) ?_
        refine WPD.tL 4 rfl rfl rfl rfl (fun w h => (((h.perm pl11).perm pl5)).dropEnd (L := [_, _])) (Val.load rfl Ty.sc210 rfl (fun w h => h.cell 0 rfl rfl)) ?_
        refine WPD.tL 5 rfl rfl rfl rfl (fun w h => (((h.perm pl11).perm pl5)).dropEnd (L := [_, _])) (Val.loadAgg (cs := [.int .i64 (y.k), .int .i64 (y.v)]) rfl Ty.ag55 rfl rfl (fun w h => h.range 1 rfl rfl)) ?_
        refine WPD.step 6 (by kernel_rfl) rfl rfl rfl rfl (Eff.mkSlice (C := [.int .i64 (y.k), .int .i64 (y.v)]) rfl Ty.sl210 rfl (fun _ => by kernel_rfl)) ?_
        rintro _ _ ⟨b18, rfl, rfl⟩
        refine ⟨(fun w h => (((h.perm pl12).perm pl6)).dropEnd (L := [_, _])), ?_⟩
        refine WPD.perm pl6 ?_
        refine WPD.stepC 7 (by kernel_rfl) rfl rfl rfl rfl (by kernel_rfl) (Eff.append (m := 1) (n0 := tx.is.length) (news := [.int .i64 (y.k), .int .i64 (y.v)]) rfl Ty.sl210 Ty.z55 rfl rfl rfl (.slice Ty.sl210 rfl rfl (fun w h => cells_range (h.range 1 rfl rfl))) (by omega) (by omega)) ?_
        rintro v19 _ ⟨onev19, rfl⟩
        refine ⟨_, (fun _ h => h), ?_⟩
        refine WPD.tM 8 rfl rfl rfl rfl (Val.nilCheck rfl rfl) ?_
        refine WPD.tM 9 rfl rfl rfl rfl (Val.fieldAddr (j := 0) rfl Ty.fo213_0 rfl rfl) ?_
        refine WPD.perm pl6 ?_
        refine WPD.stepC0 10 (by kernel_rfl) rfl rfl rfl (by kernel_rfl) (Eff.store rfl Ty.sc210 rfl rfl onev19 (by simp) st0) ?_
        rintro _ _ rfl
        refine ⟨_, (fun _ h => h), ?_⟩
        refine WPD.done (by kernel_rfl) ?_
        refine Out.next ?_
        refine WPc.seq ?_
        refine WPD.s0 Ty.mixed ?_
        refine WPD.tM 0 rfl rfl rfl rfl (Val.move rfl rfl) ?_
        refine WPD.tM 1 rfl rfl rfl rfl (Val.move rfl rfl) ?_
        refine WPD.tM 2 rfl rfl rfl rfl (Val.nilCheck rfl rfl) ?_
        refine WPD.tM 3 rfl rfl rfl rfl (Val.fieldAddr (j := 0) rfl Ty.fo213_0 rfl rfl) ?_
        refine WPD.tL 4 rfl rfl rfl rfl (fun _ h => h) (Val.load rfl Ty.sc210 rfl (fun w h => h.cell 0 rfl rfl)) ?_
        refine WPD.tM 5 rfl rfl rfl rfl (Val.move rfl rfl) ?_
        refine WPD.tM 6 rfl rfl rfl rfl (Val.nilCheck rfl rfl) ?_
        refine WPD.tM 7 rfl rfl rfl rfl (Val.fieldAddr (j := 0) rfl Ty.fo213_0 rfl rfl) ?_
        refine WPD.tL 8 rfl rfl rfl rfl (fun _ h => h) (Val.load rfl Ty.sc210 rfl (fun w h => h.cell 3 rfl rfl)) ?_
        refine WPD.perm pl1 ?_
        refine WPD.stepC 9 (by kernel_rfl) rfl rfl rfl rfl (by kernel_rfl) (Eff.append (m := tm.is.length) (n0 := tx.is.length + 1) (news := flatOf El.cells tm.is) rfl Ty.sl210 Ty.z55 rfl rfl rfl (Srcs.ownAt Ty.sl210 (el_one _) 4 rfl) (by omega) (by omega)) ?_
        rintro v20 _ ⟨onev20, rfl⟩
        refine ⟨_, (fun _ h => h), ?_⟩
        refine WPD.tM 10 rfl rfl rfl rfl (Val.nilCheck rfl rfl) ?_
        refine WPD.tM 11 rfl rfl rfl rfl (Val.fieldAddr (j := 0) rfl Ty.fo213_0 rfl rfl) ?_
        refine WPD.perm pl1 ?_
        refine WPD.stepC0 12 (by kernel_rfl) rfl rfl rfl (by kernel_rfl) (Eff.store rfl Ty.sc210 rfl rfl onev20 (by simp) st0) ?_
        rintro _ _ rfl
        refine ⟨_, (fun _ h => h), ?_⟩
        refine WPD.done (by kernel_rfl) ?_
        refine Out.next ?_
        refine WPc.seq ?_
        refine WPD.s0 Ty.mixed ?_
        refine WPD.tM 0 rfl rfl rfl rfl (Val.move rfl rfl) ?_
        refine WPD.tM 1 rfl rfl rfl rfl (Val.move rfl rfl) ?_
        refine WPD.tM 2 rfl rfl rfl rfl (Val.nilCheck rfl rfl) ?_
        refine WPD.tM 3 rfl rfl rfl rfl (Val.fieldAddr (j := 1) rfl Ty.fo213_1 rfl rfl) ?_
        refine WPD.tL 4 rfl rfl rfl rfl (fun _ h => h) (Val.load rfl Ty.sc211 rfl (fun w h => h.cell 0 rfl rfl)) ?_
        refine WPD.tM 5 rfl rfl rfl rfl (Val.move rfl rfl) ?_
        refine WPD.tM 6 rfl rfl rfl rfl (Val.nilCheck rfl rfl) ?_
        refine WPD.tM 7 rfl rfl rfl rfl (Val.fieldAddr (j := 1) rfl Ty.fo213_1 rfl rfl) ?_
        refine WPD.tL 8 rfl rfl rfl rfl (fun _ h => h) (Val.load rfl Ty.sc211 rfl (fun w h => h.cell 3 rfl rfl)) ?_
        refine WPD.perm pl7 ?_
        refine WPD.stepC 9 (by kernel_rfl) rfl rfl rfl rfl (by kernel_rfl) (Eff.append (m := ksm.length) (n0 := ksx.length) (news := flatOf vcf (kp ksm)) rfl Ty.sl211 Ty.z171 rfl rfl rfl (Srcs.ownAt Ty.sl211 (v_one (kp_one _)) 6 rfl) (by omega) (by omega)) ?_
        rintro v21 _ ⟨onev21, rfl⟩
        refine ⟨_, (fun _ h => h), ?_⟩
        refine WPD.tM 10 rfl rfl rfl rfl (Val.nilCheck rfl rfl) ?_
        refine WPD.tM 11 rfl rfl rfl rfl (Val.fieldAddr (j := 1) rfl Ty.fo213_1 rfl rfl) ?_
        refine WPD.perm pl1 ?_
        refine WPD.stepC0 12 (by kernel_rfl) rfl rfl rfl (by kernel_rfl) (Eff.store rfl Ty.sc211 rfl rfl onev21 (by simp) st1) ?_
        rintro _ _ rfl
        refine ⟨_, (fun _ h => h), ?_⟩
        refine WPD.done (by kernel_rfl) ?_
        refine Out.next ?_
        refine WPc.perm pl6 ?_
        refine WPc.c1 (B := Own 171 1 vcm ((kp ksm).length) (flatOf vcf (kp ksm))) (fun w h => by rw [kp_len]; exact h) ?_
        refine WPc.region ?_
        refine WP.val rfl rfl rfl (Val.move rfl rfl) ?_
        refine WP.val rfl rfl rfl (Val.nilCheck rfl rfl) ?_
        refine WP.val rfl rfl rfl (Val.fieldAddr (j := 2) rfl Ty.fo213_2 rfl rfl) ?_
        refine WP.val rfl rfl rfl (Val.load rfl Ty.sc172 rfl (fun w h => h.cell 10 rfl rfl)) ?_
        refine WP.val rfl rfl rfl (Val.move rfl rfl) ?_
        refine WP.perm pl6 ?_
        refine WP.perm pl6 ?_
        refine WP.perm pl17 ?_
        refine WP.perm pl17 ?_
        refine WP.eff rfl rfl rfl (Eff.call rfl rfl Try.call130 (cowfree_spec c f pm vim vcm tm.is (kp ksm) (kp_one _) (by omega) (by rw [kp_len]; omega))) ?_
        rintro vf _ ⟨_, ⟨-, rfl⟩, rfl⟩
        show WP _ _ _ _ _ _ _ (_ :: _ :: Blk px [v20, v21, .pointer (some ⟨c, 0, none⟩)] 213 :: Own 171 1 v21 (ksx.length + ksm.length) ((flatOf vcf (kp ksx)) ++ (flatOf vcf (kp ksm))) :: Own 55 2 v20 ((tx.is.length + 1) + tm.is.length) (((flatOf El.cells tx.is) ++ ([.int .i64 (y.k), .int .i64 (y.v)])) ++ (flatOf El.cells tm.is)) :: Blk b18 [.int .i64 (y.k), .int .i64 (y.v)] 55 :: _)
        refine WP.nx ?_
        refine WPc.seq ?_
        refine WPc.perm pl4 ?_
        refine WPc.c1 (B := Own 55 2 v20 ((tx.is ++ [y] ++ tm.is).length) (flatOf El.cells (tx.is ++ [y] ++ tm.is))) (fun w h => by rw [flatOf_append, flatOf_append, flatOf_one, List.length_append, List.length_append]; exact h) ?_
        refine WPc.perm pl6 ?_
        refine WPc.perm pl7 ?_
        refine WPc.conv (fun w h => h.kAppMk) ?_
        refine WPc.perm pl5 ?_
        refine WPc.c1 (B := Own 171 1 v21 ((ksx ++ ksm).length) (flatOf vcf (kp (ksx ++ ksm)))) (fun w h => by rw [List.length_append, kp_app, flatOf_append]; exact h) ?_
        refine WPc.perm pl1 ?_
        refine WPc.perm pl1 ?_
        refine WPc.perm pl2 ?_
        refine WPc.perm pl5 ?_
        refine WPc.conv (fun w h => Sat.ndMk (c := c) (h := ht) (t := (Tr.nd (tx.is ++ [y] ++ tm.is) (tx.ks ++ tm.ks))) (ks := (ksx ++ ksm)) (by rw [tr_ks, ← hkx, ← hkm, List.map_append]) (fun h0 => by rw [hlx h0, hlm h0]; rfl) h) ?_
        show WPc _ _ _ _ _ _ (Nd c ht (px, (Tr.nd (tx.is ++ [y] ++ tm.is) (tx.ks ++ tm.ks))) :: _)
        refine WPc.perm pl4 ?_
        refine WPc.perm pl1 ?_
        refine WPc.conv (fun w h => h.kConsMk) ?_
        refine WPc.conv (fun w h => Sat.kPerm (hp3 (px, (Tr.nd (tx.is ++ [y] ++ tm.is) (tx.ks ++ tm.ks)))).symm h) ?_
        show WPc _ _ _ _ _ _ (Kds (Rk c (ht + 1)) ((ks.eraseIdx (i + 1)).set i (px, (Tr.nd (tx.is ++ [y] ++ tm.is) (tx.ks ++ tm.ks)))) :: _)
        have hkp2 : kp ((ks.eraseIdx (i + 1)).set i (px, (Tr.nd (tx.is ++ [y] ++ tm.is) (tx.ks ++ tm.ks)))) = kp (ks.eraseIdx (i + 1)) := by rw [kp_set (t0 := tx) (by rw [List.getElem?_eraseIdx_of_lt (by omega)]; exact hxx)]
        have hln2 : ((ks.eraseIdx (i + 1)).set i (px, (Tr.nd (tx.is ++ [y] ++ tm.is) (tx.ks ++ tm.ks)))).length = ks.length - 1 := by rw [List.length_set, List.length_eraseIdx_of_lt (by omega)]
        refine WPc.perm pl5 ?_
        refine WPc.c1 (B := Own 171 1 wc (((ks.eraseIdx (i + 1)).set i (px, (Tr.nd (tx.is ++ [y] ++ tm.is) (tx.ks ++ tm.ks)))).length) (flatOf vcf (kp ((ks.eraseIdx (i + 1)).set i (px, (Tr.nd (tx.is ++ [y] ++ tm.is) (tx.ks ++ tm.ks))))))) (fun w h => by rw [kp_len ks] at h; rw [hkp2, hln2, ← kp_erase]; exact h) ?_
        refine WPc.perm pl7 ?_
        refine WPc.c1 (B := Own 55 2 wi ((t.is.eraseIdx i).length) (flatOf El.cells (t.is.eraseIdx i))) (fun w h => by rw [List.length_eraseIdx_of_lt (by omega)]; exact h) ?_
        iterate 3 (refine WPc.perm pl2 ?_)
        refine WPc.perm pl6 ?_
        refine WPc.conv (fun w h => Sat.ndMk (c := c) (h := (ht + 1)) (t := (Tr.nd (t.is.eraseIdx i) ((t.ks.eraseIdx (i + 1)).set i (Tr.nd (tx.is ++ [y] ++ tm.is) (tx.ks ++ tm.ks))))) (ks := ((ks.eraseIdx (i + 1)).set i (px, (Tr.nd (tx.is ++ [y] ++ tm.is) (tx.ks ++ tm.ks))))) (snd_set (snd_erase hk)) (fun h0 => by cases h0) h) ?_
        show WPc _ _ _ _ _ _ (Nd c (ht + 1) (p, (Tr.nd (t.is.eraseIdx i) ((t.ks.eraseIdx (i + 1)).set i (Tr.nd (tx.is ++ [y] ++ tm.is) (tx.ks ++ tm.ks))))) :: _)
        have hgr : grow m t i = (Tr.nd (t.is.eraseIdx i) ((t.ks.eraseIdx (i + 1)).set i (Tr.nd (tx.is ++ [y] ++ tm.is) (tx.ks ++ tm.ks)))) := by unfold grow; rw [if_neg (by rintro ⟨q1, q2⟩; first | omega | (rw [kid_at htl] at q2; omega)), if_neg (by rintro ⟨q1, q2⟩; first | omega | (rw [kid_at htr] at q2; omega)), if_neg (by omega)]; unfold merge; simp only [kid_at htx, kid_at htm, getD_at hy]
        rw [hgr] at hrem
        refine WPc.region ?_
        refine WP.val rfl rfl rfl (Val.move rfl rfl) ?_
        refine WP.val rfl rfl rfl (Val.loadAgg (cs := [.int .i64 (x.k), .int .i64 (x.v)]) rfl Ty.ag55 rfl rfl (fun w h => h.range 6 rfl rfl)) ?_
        refine WP.val rfl rfl rfl (Val.move rfl rfl) ?_
        refine WP.val rfl rfl rfl (Val.move rfl rfl) ?_
        iterate 3 (refine WP.perm pl2 ?_)
        refine WP.eff rfl rfl rfl (Eff.call rfl rfl Try.call128 (hrem)) ?_
        rintro _ _ ⟨_, ⟨rfl, rfl⟩, rfl⟩
        show WP _ _ _ _ _ _ _ (Nd c (ht + 1) (p, t2) :: _)
        refine WP.val rfl rfl rfl (Val.extract rfl rfl rfl) ?_
        refine WP.val rfl rfl rfl (Val.extract rfl rfl rfl) ?_
        refine WP.perm pl5 ?_
        refine WP.eff0 rfl rfl (Eff.storeAgg (cs := [.int .i64 ((o.getD El0).k), .int .i64 ((o.getD El0).v)]) (C' := [.int .i64 ((o.getD El0).k), .int .i64 ((o.getD El0).v)]) rfl Ty.ag55 rfl rfl rfl rfl (by simp) rfl) ?_
        rintro _ _ rfl
        refine WP.val rfl rfl rfl (Val.assign rfl rfl) ?_
        refine WP.nx ?_
        refine WPc.ret ?_
        iterate 3 (refine Out.perm pl4 ?_; refine Out.drop ?_)
        exact Out.retRun (L' := _) (results_ct Try.results141 rfl Ty.ag55 rfl rfl (fun w h => h.range 0 rfl rfl)) ⟨rfl, rfl⟩ (fun w h => h.drop)
     ·
      have h4 : ¬ (((i : Nat) : Int) < ((t.is.length : Nat) : Int)) := h4
      exfalso; omega
    ·
     iterate 4 (refine WPc.perm pl3 ?_)
     refine WPc.conv (fun w h => Sat.ndMk (c := c) (h := ht) (t := tl) (ks := ksl) hkl hll h) ?_
     show WPc _ _ _ _ _ _ (Nd c ht (pl, tl) :: _)
     refine WPc.perm pl1 ?_
     refine WPc.perm pl1 ?_
     refine WPc.conv (fun w h => (by have h9 := Sat.kIn (R := Rk c (ht + 1)) (x := (pl, tl)) (ks := ks) (i := (i - 1)) h; rw [← split_at hxl] at h9; exact h9)) ?_
     show WPc _ _ _ _ _ _ (Kds (Rk c (ht + 1)) ks :: _)
     refine WPc.region ?_
     refine WP.val rfl rfl rfl (Val.move rfl rfl) ?_
     refine WP.val rfl rfl rfl (Val.move rfl rfl) ?_
     refine WP.val rfl rfl rfl (Val.nilCheck rfl rfl) ?_
     refine WP.val rfl rfl rfl (Val.fieldAddr (j := 0) rfl Ty.fo213_0 rfl rfl) ?_
     refine WP.val rfl rfl rfl (Val.load rfl Ty.sc210 rfl (fun w h => h.cell 2 rfl rfl)) ?_
     refine WP.val rfl rfl rfl (Val.lenOwn rfl Ty.sl210 rfl (fun w h => h.at 3 rfl)) ?_
     refine WP.val rfl rfl rfl (Val.lss rfl rfl rfl) ?_
     refine WP.val rfl rfl rfl (Val.move rfl rfl) ?_
     refine WP.split 91 rfl (fun h8 => ?_) (fun h8 => ?_)
     ·
      have h8 : (((i : Nat) : Int) < ((t.is.length : Nat) : Int)) := h8
      exfalso; omega
     ·
      have h8 : ¬ (((i : Nat) : Int) < ((t.is.length : Nat) : Int)) := h8
      iterate 14 (refine WP.skip rfl rfl rfl rfl rfl rfl rfl ?_)
      refine WP.val rfl rfl rfl (Val.pickF rfl rfl rfl) ?_
      refine WP.nx ?_
      refine WPc.condF rfl rfl ?_
      refine WPc.seq ?_
      refine WPc.sr ?_
      refine WP.val rfl rfl rfl (Val.move rfl rfl) ?_
      refine WP.val rfl rfl rfl (Val.move rfl rfl) ?_
      refine WP.val rfl rfl rfl (Val.nilCheck rfl rfl) ?_
      refine WP.val rfl rfl rfl (Val.fieldAddr (j := 0) rfl Ty.fo213_0 rfl rfl) ?_
      refine WP.val rfl rfl rfl (Val.load rfl Ty.sc210 rfl (fun w h => h.cell 2 rfl rfl)) ?_
      refine WP.val rfl rfl rfl (Val.lenOwn rfl Ty.sl210 rfl (fun w h => h.at 3 rfl)) ?_
      refine WP.val rfl rfl rfl (Val.geq rfl rfl rfl) ?_
      refine WP.nx ?_
      refine WPc.ifP rfl (fun h9 => ?_) (fun h9 => ?_)
      ·
       have h9 : (((t.is.length : Nat) : Int) ≤ ((i : Nat) : Int)) := h9
       refine WPc.region ?_
       refine WP.val rfl rfl rfl (Val.move rfl rfl) ?_
       refine WP.val rfl rfl rfl (Val.sub (z := ((i - 1 : Nat) : Int)) rfl rfl rfl ((w64 (by omega) (by omega)).trans (by omega))) ?_
       refine WP.val rfl rfl rfl (Val.assign rfl rfl) ?_
       refine WP.nx ?_
       refine WPc.seq ?_
       refine WPc.perm pl1 ?_
       refine WPc.conv (fun w h => Sat.ownMk (e := 171) (k := 1) (b := g3) (m := ks.length) (cap := cg3) (xs := flatOf vcf (kp ks)) (sp := spg3) (by exact h) hng3 hlg3 hsg3 hcg3) ?_
       obtain ⟨tx, htx⟩ : ∃ k, t.ks[(i - 1)]? = some k := ⟨_, List.getElem?_eq_getElem (by omega)⟩
       obtain ⟨px, hxx⟩ := ks_get hk htx
       have hm_tx := hb3 tx (List.mem_of_getElem? htx)
       have hs_tx := hm_tx.2.le
       obtain ⟨tm, htm⟩ : ∃ k, t.ks[(i - 1) + 1]? = some k := ⟨_, List.getElem?_eq_getElem (by omega)⟩
       obtain ⟨pm, hxm⟩ := ks_get hk htm
       have hm_tm := hb3 tm (List.mem_of_getElem? htm)
       have hs_tm := hm_tm.2.le
       obtain ⟨y, hy⟩ : ∃ y, t.is[(i - 1)]? = some y := ⟨_, List.getElem?_eq_getElem (by omega)⟩
       have hka := kp_at hxm
       refine WPc.region ?_
       refine WP.val rfl rfl rfl (Val.move rfl rfl) ?_
       refine WP.val rfl rfl rfl (Val.move rfl rfl) ?_
       refine WP.perm pl1 ?_
       refine WP.perm pl1 ?_
       refine WP.perm pl2 ?_
       refine WP.eff rfl rfl rfl (Eff.call rfl rfl Try.call127 (mchild_spec c ht p ((i - 1)) vi (.slice (some ⟨g3, 0, none⟩) ks.length cg3) ks px tx hxx (by omega))) ?_
       rintro _ _ ⟨_, ⟨rfl, rfl⟩, rfl⟩
       show WP _ _ _ _ _ _ _ (_ :: Own 171 1 (.slice (some ⟨g3, 0, none⟩) ks.length cg3) ks.length (flatOf vcf (kp ks)) :: _)
       refine WP.val rfl rfl rfl (Val.assign rfl rfl) ?_
       refine WP.nx ?_
       refine WPc.sr ?_
       refine WP.val rfl rfl rfl (Val.move rfl rfl) ?_
       refine WP.val rfl rfl rfl (Val.nilCheck rfl rfl) ?_
       refine WP.val rfl rfl rfl (Val.fieldAddr (j := 0) rfl Ty.fo213_0 rfl rfl) ?_
       refine WP.val rfl rfl rfl (Val.move rfl rfl) ?_
       refine WP.perm pl3 ?_
       refine WP.perm pl1 ?_
       refine WP.eff rfl rfl rfl (Eff.call rfl rfl Try.call140 (rematE p vi (.slice (some ⟨g3, 0, none⟩) ks.length cg3) (.pointer (some ⟨c, 0, none⟩)) ((i - 1)) y t.is hy (by omega))) ?_
       rintro _ _ ⟨_, ⟨wi, hwi, rfl, rfl⟩, rfl⟩
       show WP _ _ _ _ _ _ _ (Blk p [wi, .slice (some ⟨g3, 0, none⟩) ks.length cg3, .pointer (some ⟨c, 0, none⟩)] 213 :: Own 55 2 wi ((t.is).length - 1) (flatOf El.cells ((t.is).eraseIdx ((i - 1)))) :: _)
       refine WP.eff rfl rfl rfl (Eff.alloc rfl Ty.z55) ?_
       rintro _ _ ⟨b22, rfl, rfl⟩
       refine WP.eff0 rfl rfl (Eff.storeAgg (cs := [.int .i64 (y.k), .int .i64 (y.v)]) (C' := [.int .i64 (y.k), .int .i64 (y.v)]) rfl Ty.ag55 rfl rfl rfl rfl (by simp) rfl) ?_
       rintro _ _ rfl
       refine WP.nx ?_
       refine WPc.sr ?_
       refine WP.val rfl rfl rfl (Val.move rfl rfl) ?_
       refine WP.val rfl rfl rfl (Val.nilCheck rfl rfl) ?_
       refine WP.val rfl rfl rfl (Val.fieldAddr (j := 1) rfl Ty.fo213_1 rfl rfl) ?_
       refine WP.val rfl rfl rfl (Val.move rfl rfl) ?_
       refine WP.val rfl rfl rfl (Val.add (z := (((i - 1) + 1 : Nat) : Int)) rfl rfl rfl ((w64 (by omega) (by omega)).trans (by omega))) ?_
       refine WP.perm pl3 ?_
       refine WP.c1 (B := Own 171 1 (.slice (some ⟨g3, 0, none⟩) ks.length cg3) ((kp ks).length) (flatOf vcf (kp ks))) (fun w h => by rw [kp_len]; exact h) ?_
       refine WP.perm pl2 ?_
       refine WP.eff rfl rfl rfl (Eff.call rfl rfl Try.call144 (rematP p wi (.slice (some ⟨g3, 0, none⟩) ks.length cg3) (.pointer (some ⟨c, 0, none⟩)) ((i - 1) + 1) (.pointer (some ⟨pm, 0, none⟩)) (kp ks) (kp_one _) hka (by rw [kp_len]; omega))) ?_
       rintro _ _ ⟨_, ⟨wc, hwc, rfl, rfl⟩, rfl⟩
       show WP _ _ _ _ _ _ _ (Blk p [wi, wc, .pointer (some ⟨c, 0, none⟩)] 213 :: Own 171 1 wc ((kp ks).length - 1) (flatOf vcf ((kp ks).eraseIdx ((i - 1) + 1))) :: Blk b22 [.int .i64 (y.k), .int .i64 (y.v)] 55 :: _)
       refine WP.val rfl rfl rfl (Val.assign rfl rfl) ?_
       refine WP.nx ?_
       refine WPc.seq ?_
       obtain ⟨rest, hp1, hp2, hp3⟩ := pair_out (ks := ks) (i := (i - 1)) (j := ((i - 1) + 1)) (by omega) hxx hxm
       refine WPc.perm pl4 ?_
       refine WPc.conv (fun w h => (Sat.kPerm hp1 h).kCons) ?_
       refine WPc.perm pl1 ?_
       refine WPc.conv (fun w h => h.kCons) ?_
       show WPc _ _ _ _ _ _ (Nd c ht (pm, tm) :: Kds (Rk c (ht + 1)) rest :: Nd c ht (px, tx) :: _)
       refine WPc.perm pl2 ?_
       refine WPc.open (fun w h => h.ndOpen) ?_
       rintro ⟨vix, vcx, ksx⟩
       refine WPc.pure (fun hkx => ?_)
       obtain ⟨hkx, hlx⟩ := hkx
       dsimp only at hkx hlx
       have hklx := ks_len hkx
       show WPc _ _ _ _ _ _ (Blk px [vix, vcx, .pointer (some ⟨c, 0, none⟩)] 213 :: Own 55 2 vix tx.is.length (flatOf El.cells tx.is) :: Own 171 1 vcx ksx.length (flatOf vcf (kp ksx)) :: Kds (Rk c ht) ksx :: _)
       refine WPc.perm pl4 ?_
       refine WPc.open (fun w h => h.ndOpen) ?_
       rintro ⟨vim, vcm, ksm⟩
       refine WPc.pure (fun hkm => ?_)
       obtain ⟨hkm, hlm⟩ := hkm
       dsimp only at hkm hlm
       have hklm := ks_len hkm
       show WPc _ _ _ _ _ _ (Blk pm [vim, vcm, .pointer (some ⟨c, 0, none⟩)] 213 :: Own 55 2 vim tm.is.length (flatOf El.cells tm.is) :: Own 171 1 vcm ksm.length (flatOf vcf (kp ksm)) :: Kds (Rk c ht) ksm :: _)
       refine WPD.start (Sat W [Blk px [vix, vcx, .pointer (some ⟨c, 0, none⟩)] 213, Blk b22 [.int .i64 (y.k), .int .i64 (y.v)] 55]) Ty.mixed ?_
       refine WPD.tS 0 rfl rfl rfl rfl (fun w h => (((h.perm pl11).perm pl5)).dropEnd (L := [_, _])) (Val.move rfl rfl) ?_
       refine WPD.tS 1 rfl rfl rfl rfl (fun w h => (((h.perm pl11).perm pl5)).dropEnd (L := [_, _])) (Val.move rfl rfl) ?_
       refine WPD.tS 2 rfl rfl rfl rfl (fun w h => (((h.perm pl11).perm pl5)).dropEnd (L := [_, _])) (Val.nilCheck rfl rfl) ?_
       refine WPD.tS 3 rfl rfl rfl rfl (fun w h => (((h.perm pl11).perm pl5)).dropEnd (L := [_, _])) (Val.fieldAddr (j := 0) rfl Ty.fo213_0 rfl rfl) ?_
       refine WPD.tL 4 rfl rfl rfl rfl (fun w h => (((h.perm pl11).perm pl5)).dropEnd (L := [_, _])) (Val.load rfl Ty.sc210 rfl (fun w h => h.cell 0 rfl rfl)) ?_
       refine WPD.tL 5 rfl rfl rfl rfl (fun w h => (((h.perm pl11).perm pl5)).dropEnd (L := [_, _])) (Val.loadAgg (cs := [.int .i64 (y.k), .int .i64 (y.v)]) rfl Ty.ag55 rfl rfl (fun w h => h.range 1 rfl rfl)) ?_
       refine WPD.step 6 (by kernel_rfl) rfl rfl rfl rfl (Eff.mkSlice (C := [.int .i64 (y.k), .int .i64 (y.v)]) rfl Ty.sl210 rfl (fun _ => by kernel_rfl)) ?_
       rintro _ _ ⟨b23, rfl, rfl⟩
       refine ⟨(fun w h => (((h.perm pl12).perm pl6)).dropEnd (L := [_, _])), ?_⟩
       refine WPD.perm pl6 ?_
       refine WPD.stepC 7 (by kernel_rfl) rfl rfl rfl rfl (by kernel_rfl) (Eff.append (m := 1) (n0 := tx.is.length) (news := [.int .i64 (y.k), .int .i64 (y.v)]) rfl Ty.sl210 Ty.z55 rfl rfl rfl (.slice Ty.sl210 rfl rfl (fun w h => cells_range (h.range 1 rfl rfl))) (by omega) (by omega)) ?_
       rintro v24 _ ⟨onev24, rfl⟩
       refine ⟨_, (fun _ h => h), ?_⟩
       refine WPD.tM 8 rfl rfl rfl rfl (Val.nilCheck rfl rfl) ?_
       refine WPD.tM 9 rfl rfl rfl rfl (Val.fieldAddr (j := 0) rfl Ty.fo213_0 rfl rfl) ?_
       refine WPD.perm pl6 ?_
       refine WPD.stepC0 10 (by kernel_rfl) rfl rfl rfl (by kernel_rfl) (Eff.store rfl Ty.sc210 rfl rfl onev24 (by simp) st0) ?_
       rintro _ _ rfl
       refine ⟨_, (fun _ h => h), ?_⟩
       refine WPD.done (by kernel_rfl) ?_
       refine Out.next ?_
       refine WPc.seq ?_
       refine WPD.s0 Ty.mixed ?_
       refine WPD.tM 0 rfl rfl rfl rfl (Val.move rfl rfl) ?_
       refine WPD.tM 1 rfl rfl rfl rfl (Val.move rfl rfl) ?_
       refine WPD.tM 2 rfl rfl rfl rfl (Val.nilCheck rfl rfl) ?_
       refine WPD.tM 3 rfl rfl rfl rfl (Val.fieldAddr (j := 0) rfl Ty.fo213_0 rfl rfl) ?_
       refine WPD.tL 4 rfl rfl rfl rfl (fun _ h => h) (Val.load rfl Ty.sc210 rfl (fun w h => h.cell 0 rfl rfl)) ?_
       refine WPD.tM 5 rfl rfl rfl rfl (Val.move rfl rfl) ?_
       refine WPD.tM 6 rfl rfl rfl rfl (Val.nilCheck rfl rfl) ?_
       refine WPD.tM 7 rfl rfl rfl rfl (Val.fieldAddr (j := 0) rfl Ty.fo213_0 rfl rfl) ?_
       refine WPD.tL 8 rfl rfl rfl rfl (fun _ h => h) (Val.load rfl Ty.sc210 rfl (fun w h => h.cell 3 rfl rfl)) ?_
       refine WPD.perm pl1 ?_
       refine WPD.stepC 9 (by kernel_rfl) rfl rfl rfl rfl (by kernel_rfl) (Eff.append (m := tm.is.length) (n0 := tx.is.length + 1) (news := flatOf El.cells tm.is) rfl Ty.sl210 Ty.z55 rfl rfl rfl (Srcs.ownAt Ty.sl210 (el_one _) 4 rfl) (by omega) (by omega)) ?_
       rintro v25 _ ⟨onev25, rfl⟩
       refine ⟨_, (fun _ h => h), ?_⟩
       refine WPD.tM 10 rfl rfl rfl rfl (Val.nilCheck rfl rfl) ?_
       refine WPD.tM 11 rfl rfl rfl rfl (Val.fieldAddr (j := 0) rfl Ty.fo213_0 rfl rfl) ?_
       refine WPD.perm pl1 ?_
       refine WPD.stepC0 12 (by kernel_rfl) rfl rfl rfl (by kernel_rfl) (Eff.store rfl Ty.sc210 rfl rfl onev25 (by simp) st0) ?_
       rintro _ _ rfl
       refine ⟨_, (fun _ h => h), ?_⟩
       refine WPD.done (by kernel_rfl) ?_
       refine Out.next ?_
       refine WPc.seq ?_
       refine WPD.s0 Ty.mixed ?_
       refine WPD.tM 0 rfl rfl rfl rfl (Val.move rfl rfl) ?_
       refine WPD.tM 1 rfl rfl rfl rfl (Val.move rfl rfl) ?_
       refine WPD.tM 2 rfl rfl rfl rfl (Val.nilCheck rfl rfl) ?_
       refine WPD.tM 3 rfl rfl rfl rfl (Val.fieldAddr (j := 1) rfl Ty.fo213_1 rfl rfl) ?_
       refine WPD.tL 4 rfl rfl rfl rfl (fun _ h => h) (Val.load rfl Ty.sc211 rfl (fun w h => h.cell 0 rfl rfl)) ?_
       refine WPD.tM 5 rfl rfl rfl rfl (Val.move rfl rfl) ?_
       refine WPD.tM 6 rfl rfl rfl rfl (Val.nilCheck rfl rfl) ?_
       refine WPD.tM 7 rfl rfl rfl rfl (Val.fieldAddr (j := 1) rfl Ty.fo213_1 rfl rfl) ?_
       refine WPD.tL 8 rfl rfl rfl rfl (fun _ h => h) (Val.load rfl Ty.sc211 rfl (fun w h => h.cell 3 rfl rfl)) ?_
       refine WPD.perm pl7 ?_
       refine WPD.stepC 9 (by kernel_rfl) rfl rfl rfl rfl (by kernel_rfl) (Eff.append (m := ksm.length) (n0 := ksx.length) (news := flatOf vcf (kp ksm)) rfl Ty.sl211 Ty.z171 rfl rfl rfl (Srcs.ownAt Ty.sl211 (v_one (kp_one _)) 6 rfl) (by omega) (by omega)) ?_
       rintro v26 _ ⟨onev26, rfl⟩
       refine ⟨_, (fun _ h => h), ?_⟩
       refine WPD.tM 10 rfl rfl rfl rfl (Val.nilCheck rfl rfl) ?_
       refine WPD.tM 11 rfl rfl rfl rfl (Val.fieldAddr (j := 1) rfl Ty.fo213_1 rfl rfl) ?_
       refine WPD.perm pl1 ?_
       refine WPD.stepC0 12 (by kernel_rfl) rfl rfl rfl (by kernel_rfl) (Eff.store rfl Ty.sc211 rfl rfl onev26 (by simp) st1) ?_
       rintro _ _ rfl
       refine ⟨_, (fun _ h => h), ?_⟩
       refine WPD.done (by kernel_rfl) ?_
       refine Out.next ?_
       refine WPc.perm pl6 ?_
       refine WPc.c1 (B := Own 171 1 vcm ((kp ksm).length) (flatOf vcf (kp ksm))) (fun w h => by rw [kp_len]; exact h) ?_
       refine WPc.region ?_
       refine WP.val rfl rfl rfl (Val.move rfl rfl) ?_
       refine WP.val rfl rfl rfl (Val.nilCheck rfl rfl) ?_
       refine WP.val rfl rfl rfl (Val.fieldAddr (j := 2) rfl Ty.fo213_2 rfl rfl) ?_
       refine WP.val rfl rfl rfl (Val.load rfl Ty.sc172 rfl (fun w h => h.cell 10 rfl rfl)) ?_
       refine WP.val rfl rfl rfl (Val.move rfl rfl) ?_
       refine WP.perm pl6 ?_
       refine WP.perm pl6 ?_
       refine WP.perm pl17 ?_
       refine WP.perm pl17 ?_
       refine WP.eff rfl rfl rfl (Eff.call rfl rfl Try.call130 (cowfree_spec c f pm vim vcm tm.is (kp ksm) (kp_one _) (by omega) (by rw [kp_len]; omega))) ?_
       rintro vf _ ⟨_, ⟨-, rfl⟩, rfl⟩
       show WP _ _ _ _ _ _ _ (_ :: _ :: Blk px [v25, v26, .pointer (some ⟨c, 0, none⟩)] 213 :: Own 171 1 v26 (ksx.length + ksm.length) ((flatOf vcf (kp ksx)) ++ (flatOf vcf (kp ksm))) :: Own 55 2 v25 ((tx.is.length + 1) + tm.is.length) (((flatOf El.cells tx.is) ++ ([.int .i64 (y.k), .int .i64 (y.v)])) ++ (flatOf El.cells tm.is)) :: Blk b23 [.int .i64 (y.k), .int .i64 (y.v)] 55 :: _)
       refine WP.nx ?_
       refine WPc.seq ?_
       refine WPc.perm pl4 ?_
       refine WPc.c1 (B := Own 55 2 v25 ((tx.is ++ [y] ++ tm.is).length) (flatOf El.cells (tx.is ++ [y] ++ tm.is))) (fun w h => by rw [flatOf_append, flatOf_append, flatOf_one, List.length_append, List.length_append]; exact h) ?_
       refine WPc.perm pl6 ?_
       refine WPc.perm pl7 ?_
       refine WPc.conv (fun w h => h.kAppMk) ?_
       refine WPc.perm pl5 ?_
       refine WPc.c1 (B := Own 171 1 v26 ((ksx ++ ksm).length) (flatOf vcf (kp (ksx ++ ksm)))) (fun w h => by rw [List.length_append, kp_app, flatOf_append]; exact h) ?_
       refine WPc.perm pl1 ?_
       refine WPc.perm pl1 ?_
       refine WPc.perm pl2 ?_
       refine WPc.perm pl5 ?_
       refine WPc.conv (fun w h => Sat.ndMk (c := c) (h := ht) (t := (Tr.nd (tx.is ++ [y] ++ tm.is) (tx.ks ++ tm.ks))) (ks := (ksx ++ ksm)) (by rw [tr_ks, ← hkx, ← hkm, List.map_append]) (fun h0 => by rw [hlx h0, hlm h0]; rfl) h) ?_
       show WPc _ _ _ _ _ _ (Nd c ht (px, (Tr.nd (tx.is ++ [y] ++ tm.is) (tx.ks ++ tm.ks))) :: _)
       refine WPc.perm pl4 ?_
       refine WPc.perm pl1 ?_
       refine WPc.conv (fun w h => h.kConsMk) ?_
       refine WPc.conv (fun w h => Sat.kPerm (hp3 (px, (Tr.nd (tx.is ++ [y] ++ tm.is) (tx.ks ++ tm.ks)))).symm h) ?_
       show WPc _ _ _ _ _ _ (Kds (Rk c (ht + 1)) ((ks.eraseIdx ((i - 1) + 1)).set (i - 1) (px, (Tr.nd (tx.is ++ [y] ++ tm.is) (tx.ks ++ tm.ks)))) :: _)
       have hkp2 : kp ((ks.eraseIdx ((i - 1) + 1)).set (i - 1) (px, (Tr.nd (tx.is ++ [y] ++ tm.is) (tx.ks ++ tm.ks)))) = kp (ks.eraseIdx ((i - 1) + 1)) := by rw [kp_set (t0 := tx) (by rw [List.getElem?_eraseIdx_of_lt (by omega)]; exact hxx)]
       have hln2 : ((ks.eraseIdx ((i - 1) + 1)).set (i - 1) (px, (Tr.nd (tx.is ++ [y] ++ tm.is) (tx.ks ++ tm.ks)))).length = ks.length - 1 := by rw [List.length_set, List.length_eraseIdx_of_lt (by omega)]
       refine WPc.perm pl5 ?_
       refine WPc.c1 (B := Own 171 1 wc (((ks.eraseIdx ((i - 1) + 1)).set (i - 1) (px, (Tr.nd (tx.is ++ [y] ++ tm.is) (tx.ks ++ tm.ks)))).length) (flatOf vcf (kp ((ks.eraseIdx ((i - 1) + 1)).set (i - 1) (px, (Tr.nd (tx.is ++ [y] ++ tm.is) (tx.ks ++ tm.ks))))))) (fun w h => by rw [kp_len ks] at h; rw [hkp2, hln2, ← kp_erase]; exact h) ?_
       refine WPc.perm pl7 ?_
       refine WPc.c1 (B := Own 55 2 wi ((t.is.eraseIdx (i - 1)).length) (flatOf El.cells (t.is.eraseIdx (i - 1)))) (fun w h => by rw [List.length_eraseIdx_of_lt (by omega)]; exact h) ?_
       iterate 3 (refine WPc.perm pl2 ?_)
       refine WPc.perm pl6 ?_
       refine WPc.conv (fun w h => Sat.ndMk (c := c) (h := (ht + 1)) (t := (Tr.nd (t.is.eraseIdx (i - 1)) ((t.ks.eraseIdx ((i - 1) + 1)).set (i - 1) (Tr.nd (tx.is ++ [y] ++ tm.is) (tx.ks ++ tm.ks))))) (ks := ((ks.eraseIdx ((i - 1) + 1)).set (i - 1) (px, (Tr.nd (tx.is ++ [y] ++ tm.is) (tx.ks ++ tm.ks))))) (snd_set (snd_erase hk)) (fun h0 => by cases h0) h) ?_
       show WPc _ _ _ _ _ _ (Nd c (ht + 1) (p, (Tr.nd (t.is.eraseIdx (i - 1)) ((t.ks.eraseIdx ((i - 1) + 1)).set (i - 1) (Tr.nd (tx.is ++ [y] ++ tm.is) (tx.ks ++ tm.ks))))) :: _)
       have hgr : grow m t i = (Tr.nd (t.is.eraseIdx (i - 1)) ((t.ks.eraseIdx ((i - 1) + 1)).set (i - 1) (Tr.nd (tx.is ++ [y] ++ tm.is) (tx.ks ++ tm.ks)))) := by unfold grow; rw [if_neg (by rintro ⟨q1, q2⟩; first | omega | (rw [kid_at htl] at q2; omega)), if_neg (by rintro ⟨q1, q2⟩; first | omega | (rw [kid_at htr] at q2; omega)), if_pos (by omega)]; unfold merge; simp only [kid_at htx, kid_at htm, getD_at hy]
       rw [hgr] at hrem
       refine WPc.region ?_
       refine WP.val rfl rfl rfl (Val.move rfl rfl) ?_
       refine WP.val rfl rfl rfl (Val.loadAgg (cs := [.int .i64 (x.k), .int .i64 (x.v)]) rfl Ty.ag55 rfl rfl (fun w h => h.range 6 rfl rfl)) ?_
       refine WP.val rfl rfl rfl (Val.move rfl rfl) ?_
       refine WP.val rfl rfl rfl (Val.move rfl rfl) ?_
       iterate 3 (refine WP.perm pl2 ?_)
       refine WP.eff rfl rfl rfl (Eff.call rfl rfl Try.call128 (hrem)) ?_
       rintro _ _ ⟨_, ⟨rfl, rfl⟩, rfl⟩
       show WP _ _ _ _ _ _ _ (Nd c (ht + 1) (p, t2) :: _)
       refine WP.val rfl rfl rfl (Val.extract rfl rfl rfl) ?_
       refine WP.val rfl rfl rfl (Val.extract rfl rfl rfl) ?_
       refine WP.perm pl5 ?_
       refine WP.eff0 rfl rfl (Eff.storeAgg (cs := [.int .i64 ((o.getD El0).k), .int .i64 ((o.getD El0).v)]) (C' := [.int .i64 ((o.getD El0).k), .int .i64 ((o.getD El0).v)]) rfl Ty.ag55 rfl rfl rfl rfl (by simp) rfl) ?_
       rintro _ _ rfl
       refine WP.val rfl rfl rfl (Val.assign rfl rfl) ?_
       refine WP.nx ?_
       refine WPc.ret ?_
       iterate 3 (refine Out.perm pl4 ?_; refine Out.drop ?_)
       exact Out.retRun (L' := _) (results_ct Try.results141 rfl Ty.ag55 rfl rfl (fun w h => h.range 0 rfl rfl)) ⟨rfl, rfl⟩ (fun w h => h.drop)
      ·
       have h9 : ¬ (((t.is.length : Nat) : Int) ≤ ((i : Nat) : Int)) := h9
       refine WPc.skip ?_
       refine Out.next ?_
       refine WPc.seq ?_
       refine WPc.perm pl1 ?_
       refine WPc.conv (fun w h => Sat.ownMk (e := 171) (k := 1) (b := g3) (m := ks.length) (cap := cg3) (xs := flatOf vcf (kp ks)) (sp := spg3) (by exact h) hng3 hlg3 hsg3 hcg3) ?_
       obtain ⟨tx, htx⟩ : ∃ k, t.ks[i]? = some k := ⟨_, List.getElem?_eq_getElem (by omega)⟩
       obtain ⟨px, hxx⟩ := ks_get hk htx
       have hm_tx := hb3 tx (List.mem_of_getElem? htx)
       have hs_tx := hm_tx.2.le
       obtain ⟨tm, htm⟩ : ∃ k, t.ks[i + 1]? = some k := ⟨_, List.getElem?_eq_getElem (by omega)⟩
       obtain ⟨pm, hxm⟩ := ks_get hk htm
       have hm_tm := hb3 tm (List.mem_of_getElem? htm)
       have hs_tm := hm_tm.2.le
       obtain ⟨y, hy⟩ : ∃ y, t.is[i]? = some y := ⟨_, List.getElem?_eq_getElem (by omega)⟩
       have hka := kp_at hxm
       refine WPc.region ?_
       refine WP.val rfl rfl rfl (Val.move rfl rfl) ?_
       refine WP.val rfl rfl rfl (Val.move rfl rfl) ?_
       refine WP.perm pl1 ?_
       refine WP.perm pl1 ?_
       refine WP.perm pl2 ?_
       refine WP.eff rfl rfl rfl (Eff.call rfl rfl Try.call127 (mchild_spec c ht p i vi (.slice (some ⟨g3, 0, none⟩) ks.length cg3) ks px tx hxx (by omega))) ?_
       rintro _ _ ⟨_, ⟨rfl, rfl⟩, rfl⟩
       show WP _ _ _ _ _ _ _ (_ :: Own 171 1 (.slice (some ⟨g3, 0, none⟩) ks.length cg3) ks.length (flatOf vcf (kp ks)) :: _)
       refine WP.val rfl rfl rfl (Val.assign rfl rfl) ?_
       refine WP.nx ?_
       refine WPc.sr ?_
       refine WP.val rfl rfl rfl (Val.move rfl rfl) ?_
       refine WP.val rfl rfl rfl (Val.nilCheck rfl rfl) ?_
       refine WP.val rfl rfl rfl (Val.fieldAddr (j := 0) rfl Ty.fo213_0 rfl rfl) ?_
       refine WP.val rfl rfl rfl (Val.move rfl rfl) ?_
       refine WP.perm pl3 ?_
       refine WP.perm pl1 ?_
       refine WP.eff rfl rfl rfl (Eff.call rfl rfl Try.call140 (rematE p vi (.slice (some ⟨g3, 0, none⟩) ks.length cg3) (.pointer (some ⟨c, 0, none⟩)) i y t.is hy (by omega))) ?_
       rintro _ _ ⟨_, ⟨wi, hwi, rfl, rfl⟩, rfl⟩
       show WP _ _ _ _ _ _ _ (Blk p [wi, .slice (some ⟨g3, 0, none⟩) ks.length cg3, .pointer (some ⟨c, 0, none⟩)] 213 :: Own 55 2 wi ((t.is).length - 1) (flatOf El.cells ((t.is).eraseIdx i)) :: _)
       refine WP.eff rfl rfl rfl (Eff.alloc rfl Ty.z55) ?_
       rintro _ _ ⟨b27, rfl, rfl⟩
       refine WP.eff0 rfl rfl (Eff.storeAgg (cs := [.int .i64 (y.k), .int .i64 (y.v)]) (C' := [.int .i64 (y.k), .int .i64 (y.v)]) rfl Ty.ag55 rfl rfl rfl rfl (by simp) rfl) ?_
       rintro _ _ rfl
       refine WP.nx ?_
       refine WPc.sr ?_
       refine WP.val rfl rfl rfl (Val.move rfl rfl) ?_
       refine WP.val rfl rfl rfl (Val.nilCheck rfl rfl) ?_
       refine WP.val rfl rfl rfl (Val.fieldAddr (j := 1) rfl Ty.fo213_1 rfl rfl) ?_
       refine WP.val rfl rfl rfl (Val.move rfl rfl) ?_
       refine WP.val rfl rfl rfl (Val.add (z := ((i + 1 : Nat) : Int)) rfl rfl rfl ((w64 (by omega) (by omega)).trans (by omega))) ?_
       refine WP.perm pl3 ?_
       refine WP.c1 (B := Own 171 1 (.slice (some ⟨g3, 0, none⟩) ks.length cg3) ((kp ks).length) (flatOf vcf (kp ks))) (fun w h => by rw [kp_len]; exact h) ?_
       refine WP.perm pl2 ?_
       refine WP.eff rfl rfl rfl (Eff.call rfl rfl Try.call144 (rematP p wi (.slice (some ⟨g3, 0, none⟩) ks.length cg3) (.pointer (some ⟨c, 0, none⟩)) (i + 1) (.pointer (some ⟨pm, 0, none⟩)) (kp ks) (kp_one _) hka (by rw [kp_len]; omega))) ?_
       rintro _ _ ⟨_, ⟨wc, hwc, rfl, rfl⟩, rfl⟩
       show WP _ _ _ _ _ _ _ (Blk p [wi, wc, .pointer (some ⟨c, 0, none⟩)] 213 :: Own 171 1 wc ((kp ks).length - 1) (flatOf vcf ((kp ks).eraseIdx (i + 1))) :: Blk b27 [.int .i64 (y.k), .int .i64 (y.v)] 55 :: _)
       refine WP.val rfl rfl rfl (Val.assign rfl rfl) ?_
       refine WP.nx ?_
       refine WPc.seq ?_
       obtain ⟨rest, hp1, hp2, hp3⟩ := pair_out (ks := ks) (i := i) (j := (i + 1)) (by omega) hxx hxm
       refine WPc.perm pl4 ?_
       refine WPc.conv (fun w h => (Sat.kPerm hp1 h).kCons) ?_
       refine WPc.perm pl1 ?_
       refine WPc.conv (fun w h => h.kCons) ?_
       show WPc _ _ _ _ _ _ (Nd c ht (pm, tm) :: Kds (Rk c (ht + 1)) rest :: Nd c ht (px, tx) :: _)
       refine WPc.perm pl2 ?_
       refine WPc.open (fun w h => h.ndOpen) ?_
       rintro ⟨vix, vcx, ksx⟩
       refine WPc.pure (fun hkx => ?_)
       obtain ⟨hkx, hlx⟩ := hkx
       dsimp only at hkx hlx
       have hklx := ks_len hkx
       show WPc _ _ _ _ _ _ (Blk px [vix, vcx, .pointer (some ⟨c, 0, none⟩)] 213 :: Own 55 2 vix tx.is.length (flatOf El.cells tx.is) :: Own 171 1 vcx ksx.length (flatOf vcf (kp ksx)) :: Kds (Rk c ht) ksx :: _)
       refine WPc.perm pl4 ?_
       refine WPc.open (fun w h => h.ndOpen) ?_
       rintro ⟨vim, vcm, ksm⟩
       refine WPc.pure (fun hkm => ?_)
       obtain ⟨hkm, hlm⟩ := hkm
       dsimp only at hkm hlm
       have hklm := ks_len hkm
       show WPc _ _ _ _ _ _ (Blk pm [vim, vcm, .pointer (some ⟨c, 0, none⟩)] 213 :: Own 55 2 vim tm.is.length (flatOf El.cells tm.is) :: Own 171 1 vcm ksm.length (flatOf vcf (kp ksm)) :: Kds (Rk c ht) ksm :: _)
       refine WPD.start (Sat W [Blk px [vix, vcx, .pointer (some ⟨c, 0, none⟩)] 213, Blk b27 [.int .i64 (y.k), .int .i64 (y.v)] 55]) Ty.mixed ?_
       refine WPD.tS 0 rfl rfl rfl rfl (fun w h => (((h.perm pl11).perm pl5)).dropEnd (L := [_, _])) (Val.move rfl rfl) ?_
       refine WPD.tS 1 rfl rfl rfl rfl (fun w h => (((h.perm pl11).perm pl5)).dropEnd (L := [_, _])) (Val.move rfl rfl) ?_
       refine WPD.tS 2 rfl rfl rfl rfl (fun w h => (((h.perm pl11).perm pl5)).dropEnd (L := [_, _])) (Val.nilCheck rfl rfl) ?_
       refine WPD.tS 3 rfl rfl rfl rfl (fun w h => (((h.perm pl11).perm pl5)).dropEnd (L := [_, _])) (Val.fieldAddr (j := 0) rfl Ty.fo213_0 rfl rfl) ?_
       refine WPD.tL 4 rfl rfl rfl rfl (fun w h => (((h.perm pl11).perm pl5)).dropEnd (L := [_, _])) (Val.load rfl Ty.sc210 rfl (fun w h => h.cell 0 rfl rfl)) ?_
       refine WPD.tL 5 rfl rfl rfl rfl (fun w h => (((h.perm pl11).perm pl5)).dropEnd (L := [_, _])) (Val.loadAgg (cs := [.int .i64 (y.k), .int .i64 (y.v)]) rfl Ty.ag55 rfl rfl (fun w h => h.range 1 rfl rfl)) ?_
       refine WPD.step 6 (by kernel_rfl) rfl rfl rfl rfl (Eff.mkSlice (C := [.int .i64 (y.k), .int .i64 (y.v)]) rfl Ty.sl210 rfl (fun _ => by kernel_rfl)) ?_
       rintro _ _ ⟨b28, rfl, rfl⟩
       refine ⟨(fun w h => (((h.perm pl12).perm pl6)).dropEnd (L := [_, _])), ?_⟩
       refine WPD.perm pl6 ?_
       refine WPD.stepC 7 (by kernel_rfl) rfl rfl rfl rfl (by kernel_rfl) (Eff.append (m := 1) (n0 := tx.is.length) (news := [.int .i64 (y.k), .int .i64 (y.v)]) rfl Ty.sl210 Ty.z55 rfl rfl rfl (.slice Ty.sl210 rfl rfl (fun w h => cells_range (h.range 1 rfl rfl))) (by omega) (by omega)) ?_
       rintro v29 _ ⟨onev29, rfl⟩
       refine ⟨_, (fun _ h => h), ?_⟩
       refine WPD.tM 8 rfl rfl rfl rfl (Val.nilCheck rfl rfl) ?_
       refine WPD.tM 9 rfl rfl rfl rfl (Val.fieldAddr (j := 0) rfl Ty.fo213_0 rfl rfl) ?_
       refine WPD.perm pl6 ?_
       refine WPD.stepC0 10 (by kernel_rfl) rfl rfl rfl (by kernel_rfl) (Eff.store rfl Ty.sc210 rfl rfl onev29 (by simp) st0) ?_
       rintro _ _ rfl
       refine ⟨_, (fun _ h => h), ?_⟩
       refine WPD.done (by kernel_rfl) ?_
       refine Out.next ?_
       refine WPc.seq ?_
       refine WPD.s0 Ty.mixed ?_
       refine WPD.tM 0 rfl rfl rfl rfl (Val.move rfl rfl) ?_
       refine WPD.tM 1 rfl rfl rfl rfl (Val.move rfl rfl) ?_
       refine WPD.tM 2 rfl rfl rfl rfl (Val.nilCheck rfl rfl) ?_
       refine WPD.tM 3 rfl rfl rfl rfl (Val.fieldAddr (j := 0) rfl Ty.fo213_0 rfl rfl) ?_
       refine WPD.tL 4 rfl rfl rfl rfl (fun _ h => h) (Val.load rfl Ty.sc210 rfl (fun w h => h.cell 0 rfl rfl)) ?_
       refine WPD.tM 5 rfl rfl rfl rfl (Val.move rfl rfl) ?_
       refine WPD.tM 6 rfl rfl rfl rfl (Val.nilCheck rfl rfl) ?_
       refine WPD.tM 7 rfl rfl rfl rfl (Val.fieldAddr (j := 0) rfl Ty.fo213_0 rfl rfl) ?_
       refine WPD.tL 8 rfl rfl rfl rfl (fun _ h => h) (Val.load rfl Ty.sc210 rfl (fun w h => h.cell 3 rfl rfl)) ?_
       refine WPD.perm pl1 ?_
       refine WPD.stepC 9 (by kernel_rfl) rfl rfl rfl rfl (by kernel_rfl) (Eff.append (m := tm.is.length) (n0 := tx.is.length + 1) (news := flatOf El.cells tm.is) rfl Ty.sl210 Ty.z55 rfl rfl rfl (Srcs.ownAt Ty.sl210 (el_one _) 4 rfl) (by omega) (by omega)) ?_
       rintro v30 _ ⟨onev30, rfl⟩
       refine ⟨_, (fun _ h => h), ?_⟩
       refine WPD.tM 10 rfl rfl rfl rfl (Val.nilCheck rfl rfl) ?_
       refine WPD.tM 11 rfl rfl rfl rfl (Val.fieldAddr (j := 0) rfl Ty.fo213_0 rfl rfl) ?_
       refine WPD.perm pl1 ?_
       refine WPD.stepC0 12 (by kernel_rfl) rfl rfl rfl (by kernel_rfl) (Eff.store rfl Ty.sc210 rfl rfl onev30 (by simp) st0) ?_
       rintro _ _ rfl
       refine ⟨_, (fun _ h => h), ?_⟩
       refine WPD.done (by kernel_rfl) ?_
       refine Out.next ?_
       refine WPc.seq ?_
       refine WPD.s0 Ty.mixed ?_
       refine WPD.tM 0 rfl rfl rfl rfl (Val.move rfl rfl) ?_
       refine WPD.tM 1 rfl rfl rfl rfl (Val.move rfl rfl) ?_
       refine WPD.tM 2 rfl rfl rfl rfl (Val.nilCheck rfl rfl) ?_
       refine WPD.tM 3 rfl rfl rfl rfl (Val.fieldAddr (j := 1) rfl Ty.fo213_1 rfl rfl) ?_
       refine WPD.tL 4 rfl rfl rfl rfl (fun _ h => h) (Val.load rfl Ty.sc211 rfl (fun w h => h.cell 0 rfl rfl)) ?_
       refine WPD.tM 5 rfl rfl rfl rfl (Val.move rfl rfl) ?_
       refine WPD.tM 6 rfl rfl rfl rfl (Val.nilCheck rfl rfl) ?_
       refine WPD.tM 7 rfl rfl rfl rfl (Val.fieldAddr (j := 1) rfl Ty.fo213_1 rfl rfl) ?_
       refine WPD.tL 8 rfl rfl rfl rfl (fun _ h => h) (Val.load rfl Ty.sc211 rfl (fun w h => h.cell 3 rfl rfl)) ?_
       refine WPD.perm pl7 ?_
       refine WPD.stepC 9 (by kernel_rfl) rfl rfl rfl rfl (by kernel_rfl) (Eff.append (m := ksm.length) (n0 := ksx.length) (news := flatOf vcf (kp ksm)) rfl Ty.sl211 Ty.z171 rfl rfl rfl (Srcs.ownAt Ty.sl211 (v_one (kp_one _)) 6 rfl) (by omega) (by omega)) ?_
       rintro v31 _ ⟨onev31, rfl⟩
       refine ⟨_, (fun _ h => h), ?_⟩
       refine WPD.tM 10 rfl rfl rfl rfl (Val.nilCheck rfl rfl) ?_
       refine WPD.tM 11 rfl rfl rfl rfl (Val.fieldAddr (j := 1) rfl Ty.fo213_1 rfl rfl) ?_
       refine WPD.perm pl1 ?_
       refine WPD.stepC0 12 (by kernel_rfl) rfl rfl rfl (by kernel_rfl) (Eff.store rfl Ty.sc211 rfl rfl onev31 (by simp) st1) ?_
       rintro _ _ rfl
       refine ⟨_, (fun _ h => h), ?_⟩
       refine WPD.done (by kernel_rfl) ?_
       refine Out.next ?_
       refine WPc.perm pl6 ?_
       refine WPc.c1 (B := Own 171 1 vcm ((kp ksm).length) (flatOf vcf (kp ksm))) (fun w h => by rw [kp_len]; exact h) ?_
       refine WPc.region ?_
       refine WP.val rfl rfl rfl (Val.move rfl rfl) ?_
       refine WP.val rfl rfl rfl (Val.nilCheck rfl rfl) ?_
       refine WP.val rfl rfl rfl (Val.fieldAddr (j := 2) rfl Ty.fo213_2 rfl rfl) ?_
       refine WP.val rfl rfl rfl (Val.load rfl Ty.sc172 rfl (fun w h => h.cell 10 rfl rfl)) ?_
       refine WP.val rfl rfl rfl (Val.move rfl rfl) ?_
       refine WP.perm pl6 ?_
       refine WP.perm pl6 ?_
       refine WP.perm pl17 ?_
       refine WP.perm pl17 ?_
       refine WP.eff rfl rfl rfl (Eff.call rfl rfl Try.call130 (cowfree_spec c f pm vim vcm tm.is (kp ksm) (kp_one _) (by omega) (by rw [kp_len]; omega))) ?_
       rintro vf _ ⟨_, ⟨-, rfl⟩, rfl⟩
       show WP _ _ _ _ _ _ _ (_ :: _ :: Blk px [v30, v31, .pointer (some ⟨c, 0, none⟩)] 213 :: Own 171 1 v31 (ksx.length + ksm.length) ((flatOf vcf (kp ksx)) ++ (flatOf vcf (kp ksm))) :: Own 55 2 v30 ((tx.is.length + 1) + tm.is.length) (((flatOf El.cells tx.is) ++ ([.int .i64 (y.k), .int .i64 (y.v)])) ++ (flatOf El.cells tm.is)) :: Blk b28 [.int .i64 (y.k), .int .i64 (y.v)] 55 :: _)
       refine WP.nx ?_
       refine WPc.seq ?_
       refine WPc.perm pl4 ?_
       refine WPc.c1 (B := Own 55 2 v30 ((tx.is ++ [y] ++ tm.is).length) (flatOf El.cells (tx.is ++ [y] ++ tm.is))) (fun w h => by rw [flatOf_append, flatOf_append, flatOf_one, List.length_append, List.length_append]; exact h) ?_
       refine WPc.perm pl6 ?_
       refine WPc.perm pl7 ?_
       refine WPc.conv (fun w h => h.kAppMk) ?_
       refine WPc.perm pl5 ?_
       refine WPc.c1 (B := Own 171 1 v31 ((ksx ++ ksm).length) (flatOf vcf (kp (ksx ++ ksm)))) (fun w h => by rw [List.length_append, kp_app, flatOf_append]; exact h) ?_
       refine WPc.perm pl1 ?_
       refine WPc.perm pl1 ?_
       refine WPc.perm pl2 ?_
       refine WPc.perm pl5 ?_
       refine WPc.conv (fun w h => Sat.ndMk (c := c) (h := ht) (t := (Tr.nd (tx.is ++ [y] ++ tm.is) (tx.ks ++ tm.ks))) (ks := (ksx ++ ksm)) (by rw [tr_ks, ← hkx, ← hkm, List.map_append]) (fun h0 => by rw [hlx h0, hlm h0]; rfl) h) ?_
       show WPc _ _ _ _ _ _ (Nd c ht (px, (Tr.nd (tx.is ++ [y] ++ tm.is) (tx.ks ++ tm.ks))) :: _)
       refine WPc.perm pl4 ?_
       refine WPc.perm pl1 ?_
       refine WPc.conv (fun w h => h.kConsMk) ?_
       refine WPc.conv (fun w h => Sat.kPerm (hp3 (px, (Tr.nd (tx.is ++ [y] ++ tm.is) (tx.ks ++ tm.ks)))).symm h) ?_
       show WPc _ _ _ _ _ _ (Kds (Rk c (ht + 1)) ((ks.eraseIdx (i + 1)).set i (px, (Tr.nd (tx.is ++ [y] ++ tm.is) (tx.ks ++ tm.ks)))) :: _)
       have hkp2 : kp ((ks.eraseIdx (i + 1)).set i (px, (Tr.nd (tx.is ++ [y] ++ tm.is) (tx.ks ++ tm.ks)))) = kp (ks.eraseIdx (i + 1)) := by rw [kp_set (t0 := tx) (by rw [List.getElem?_eraseIdx_of_lt (by omega)]; exact hxx)]
       have hln2 : ((ks.eraseIdx (i + 1)).set i (px, (Tr.nd (tx.is ++ [y] ++ tm.is) (tx.ks ++ tm.ks)))).length = ks.length - 1 := by rw [List.length_set, List.length_eraseIdx_of_lt (by omega)]
       refine WPc.perm pl5 ?_
       refine WPc.c1 (B := Own 171 1 wc (((ks.eraseIdx (i + 1)).set i (px, (Tr.nd (tx.is ++ [y] ++ tm.is) (tx.ks ++ tm.ks)))).length) (flatOf vcf (kp ((ks.eraseIdx (i + 1)).set i (px, (Tr.nd (tx.is ++ [y] ++ tm.is) (tx.ks ++ tm.ks))))))) (fun w h => by rw [kp_len ks] at h; rw [hkp2, hln2, ← kp_erase]; exact h) ?_
       refine WPc.perm pl7 ?_
       refine WPc.c1 (B := Own 55 2 wi ((t.is.eraseIdx i).length) (flatOf El.cells (t.is.eraseIdx i))) (fun w h => by rw [List.length_eraseIdx_of_lt (by omega)]; exact h) ?_
       iterate 3 (refine WPc.perm pl2 ?_)
       refine WPc.perm pl6 ?_
       refine WPc.conv (fun w h => Sat.ndMk (c := c) (h := (ht + 1)) (t := (Tr.nd (t.is.eraseIdx i) ((t.ks.eraseIdx (i + 1)).set i (Tr.nd (tx.is ++ [y] ++ tm.is) (tx.ks ++ tm.ks))))) (ks := ((ks.eraseIdx (i + 1)).set i (px, (Tr.nd (tx.is ++ [y] ++ tm.is) (tx.ks ++ tm.ks))))) (snd_set (snd_erase hk)) (fun h0 => by cases h0) h) ?_
       show WPc _ _ _ _ _ _ (Nd c (ht + 1) (p, (Tr.nd (t.is.eraseIdx i) ((t.ks.eraseIdx (i + 1)).set i (Tr.nd (tx.is ++ [y] ++ tm.is) (tx.ks ++ tm.ks))))) :: _)
       have hgr : grow m t i = (Tr.nd (t.is.eraseIdx i) ((t.ks.eraseIdx (i + 1)).set i (Tr.nd (tx.is ++ [y] ++ tm.is) (tx.ks ++ tm.ks)))) := by unfold grow; rw [if_neg (by rintro ⟨q1, q2⟩; first | omega | (rw [kid_at htl] at q2; omega)), if_neg (by rintro ⟨q1, q2⟩; first | omega | (rw [kid_at htr] at q2; omega)), if_neg (by omega)]; unfold merge; simp only [kid_at htx, kid_at htm, getD_at hy]
       rw [hgr] at hrem
       refine WPc.region ?_
       refine WP.val rfl rfl rfl (Val.move rfl rfl) ?_
       refine WP.val rfl rfl rfl (Val.loadAgg (cs := [.int .i64 (x.k), .int .i64 (x.v)]) rfl Ty.ag55 rfl rfl (fun w h => h.range 6 rfl rfl)) ?_
       refine WP.val rfl rfl rfl (Val.move rfl rfl) ?_
       refine WP.val rfl rfl rfl (Val.move rfl rfl) ?_
       iterate 3 (refine WP.perm pl2 ?_)
       refine WP.eff rfl rfl rfl (Eff.call rfl rfl Try.call128 (hrem)) ?_
       rintro _ _ ⟨_, ⟨rfl, rfl⟩, rfl⟩
       show WP _ _ _ _ _ _ _ (Nd c (ht + 1) (p, t2) :: _)
       refine WP.val rfl rfl rfl (Val.extract rfl rfl rfl) ?_
       refine WP.val rfl rfl rfl (Val.extract rfl rfl rfl) ?_
       refine WP.perm pl5 ?_
       refine WP.eff0 rfl rfl (Eff.storeAgg (cs := [.int .i64 ((o.getD El0).k), .int .i64 ((o.getD El0).v)]) (C' := [.int .i64 ((o.getD El0).k), .int .i64 ((o.getD El0).v)]) rfl Ty.ag55 rfl rfl rfl rfl (by simp) rfl) ?_
       rintro _ _ rfl
       refine WP.val rfl rfl rfl (Val.assign rfl rfl) ?_
       refine WP.nx ?_
       refine WPc.ret ?_
       iterate 3 (refine Out.perm pl4 ?_; refine Out.drop ?_)
       exact Out.retRun (L' := _) (results_ct Try.results141 rfl Ty.ag55 rfl rfl (fun w h => h.range 0 rfl rfl)) ⟨rfl, rfl⟩ (fun w h => h.drop)
  ·
   have h1 : ¬ ((0 : Int) < ((i : Nat) : Int)) := h1
   exfalso; omega
 ·
  refine WPc.perm pl2 ?_
  refine WPc.open (fun w h => h.ndOpen) ?_
  rintro ⟨vi, vc, ks⟩
  refine WPc.pure (fun hk => ?_)
  obtain ⟨hk, hl⟩ := hk
  dsimp only at hk hl
  have hkl := ks_len hk
  show WPc _ _ _ _ _ _ (Blk p [vi, vc, .pointer (some ⟨c, 0, none⟩)] 213 :: Own 55 2 vi t.is.length (flatOf El.cells t.is) :: Own 171 1 vc ks.length (flatOf vcf (kp ks)) :: Kds (Rk c (ht + 1)) ks :: Blk b2 [.int .i64 0, .int .i64 0] 55 :: Blk b1 [.int .i64 (x.k), .int .i64 (x.v)] 55 :: _)
  have hb1 := hbal.1
  have hb2 := hbal.2.1
  have hb3 := hbal.2.2
  have hkl2 : ks.length = t.is.length + 1 := by omega
  refine WPc.perm pl2 ?_
  refine WPc.open (fun w h => h.ownPos (by omega)) ?_
  rintro ⟨g32, cg32, spg32⟩
  refine WPc.pure (fun hvg32 => ?_)
  obtain ⟨rfl, hng32, hlg32, hsg32, hcg32⟩ := hvg32
  dsimp only at hng32 hlg32 hsg32 hcg32
  show WPc _ _ _ _ _ _ (Blk g32 (flatOf vcf (kp ks) ++ spg32) 171 :: Blk p [vi, .slice (some ⟨g32, 0, none⟩) ks.length cg32, .pointer (some ⟨c, 0, none⟩)] 213 :: _)
  refine WPc.region ?_
  refine WP.val rfl rfl rfl (Val.move rfl rfl) ?_
  refine WP.val rfl rfl rfl (Val.gtr rfl rfl rfl) ?_
  refine WP.val rfl rfl rfl (Val.move rfl rfl) ?_
  refine WP.split 23 rfl (fun h10 => ?_) (fun h10 => ?_)
  ·
   have h10 : ((0 : Int) < ((i : Nat) : Int)) := h10
   exfalso; omega
  ·
   have h10 : ¬ ((0 : Int) < ((i : Nat) : Int)) := h10
   iterate 14 (refine WP.skip rfl rfl rfl rfl rfl rfl rfl ?_)
   refine WP.val rfl rfl rfl (Val.pickF rfl rfl rfl) ?_
   refine WP.nx ?_
   refine WPc.condF rfl rfl ?_
   refine WPc.seq ?_
   by_cases hin : i < t.is.length
   ·
    obtain ⟨tr, htr⟩ : ∃ k, t.ks[i + 1]? = some k := ⟨_, List.getElem?_eq_getElem (by omega)⟩
    obtain ⟨pr, hxr⟩ := ks_get hk htr
    have hm_tr := hb3 tr (List.mem_of_getElem? htr)
    have hs_tr := hm_tr.2.le
    have hk_r := kp_at hxr
    refine WPc.perm pl3 ?_
    refine WPc.conv (fun w h => Sat.kOut (R := Rk c (ht + 1)) hxr h) ?_
    show WPc _ _ _ _ _ _ (Nd c ht (pr, tr) :: Kds (Rk c (ht + 1)) (ks.take (i + 1) ++ ks.drop ((i + 1) + 1)) :: _)
    refine WPc.open (fun w h => h.ndOpen) ?_
    rintro ⟨vir, vcr, ksr⟩
    refine WPc.pure (fun hkr => ?_)
    obtain ⟨hkr, hlr⟩ := hkr
    dsimp only at hkr hlr
    have hklr := ks_len hkr
    show WPc _ _ _ _ _ _ (Blk pr [vir, vcr, .pointer (some ⟨c, 0, none⟩)] 213 :: Own 55 2 vir tr.is.length (flatOf El.cells tr.is) :: Own 171 1 vcr ksr.length (flatOf vcf (kp ksr)) :: Kds (Rk c ht) ksr :: _)
    refine WPc.region ?_
    refine WP.val rfl rfl rfl (Val.move rfl rfl) ?_
    refine WP.val rfl rfl rfl (Val.move rfl rfl) ?_
    refine WP.val rfl rfl rfl (Val.nilCheck rfl rfl) ?_
    refine WP.val rfl rfl rfl (Val.fieldAddr (j := 0) rfl Ty.fo213_0 rfl rfl) ?_
    refine WP.val rfl rfl rfl (Val.load rfl Ty.sc210 rfl (fun w h => h.cell 6 rfl rfl)) ?_
    refine WP.val rfl rfl rfl (Val.lenOwn rfl Ty.sl210 rfl (fun w h => h.at 7 rfl)) ?_
    refine WP.val rfl rfl rfl (Val.lss rfl rfl rfl) ?_
    refine WP.val rfl rfl rfl (Val.move rfl rfl) ?_
    refine WP.split 91 rfl (fun h11 => ?_) (fun h11 => ?_)
    ·
     have h11 : (((i : Nat) : Int) < ((t.is.length : Nat) : Int)) := h11
     refine WP.valG rfl rfl rfl rfl rfl rfl rfl (Val.move rfl rfl) ?_
     refine WP.valG rfl rfl rfl rfl rfl rfl rfl (Val.nilCheck rfl rfl) ?_
     refine WP.valG rfl rfl rfl rfl rfl rfl rfl (Val.fieldAddr (j := 1) rfl Ty.fo213_1 rfl rfl) ?_
     refine WP.valG rfl rfl rfl rfl rfl rfl rfl (Val.load rfl Ty.sc211 rfl (fun w h => h.cell 6 rfl rfl)) ?_
     refine WP.valG rfl rfl rfl rfl rfl rfl rfl (Val.move rfl rfl) ?_
     refine WP.valG rfl rfl rfl rfl rfl rfl rfl (Val.add (z := ((i + 1 : Nat) : Int)) rfl rfl rfl ((w64 (by omega) (by omega)).trans (by omega))) ?_
     refine WP.valG rfl rfl rfl rfl rfl rfl rfl (Val.indexAddr (j := i + 1) (q := i + 1) rfl Ty.sl211 rfl rfl (by omega) (by omega) (by omega)) ?_
     refine WP.valG rfl rfl rfl rfl rfl rfl rfl (Val.load (v := .pointer (some ⟨pr, 0, none⟩)) rfl Ty.sc171 rfl (fun w h => ((h.at 5 rfl).cell _).trans (vflat_at hk_r))) ?_
     refine WP.valG rfl rfl rfl rfl rfl rfl rfl (Val.nilCheck rfl rfl) ?_
     refine WP.valG rfl rfl rfl rfl rfl rfl rfl (Val.fieldAddr (j := 0) rfl Ty.fo213_0 rfl rfl) ?_
     refine WP.valG rfl rfl rfl rfl rfl rfl rfl (Val.load rfl Ty.sc210 rfl (fun w h => h.cell 0 rfl rfl)) ?_
     refine WP.valG rfl rfl rfl rfl rfl rfl rfl (Val.lenOwn rfl Ty.sl210 rfl (fun w h => h.at 1 rfl)) ?_
     refine WP.valG rfl rfl rfl rfl rfl rfl rfl (Val.move rfl rfl) ?_
     refine WP.valG rfl rfl rfl rfl rfl rfl rfl (Val.gtr rfl rfl rfl) ?_
     refine WP.val rfl rfl rfl (Val.pickT rfl rfl rfl) ?_
     refine WP.nx ?_
     refine WPc.ifP rfl (fun h12 => ?_) (fun h12 => ?_)
     ·
      have h12 : (((m : Nat) : Int) < ((tr.is.length : Nat) : Int)) := h12
      refine WPc.seq ?_
      iterate 4 (refine WPc.perm pl3 ?_)
      refine WPc.conv (fun w h => Sat.ndMk (c := c) (h := ht) (t := tr) (ks := ksr) hkr hlr h) ?_
      show WPc _ _ _ _ _ _ (Nd c ht (pr, tr) :: _)
      refine WPc.perm pl1 ?_
      refine WPc.perm pl1 ?_
      refine WPc.conv (fun w h => (by have h9 := Sat.kIn (R := Rk c (ht + 1)) (x := (pr, tr)) (ks := ks) (i := (i + 1)) h; rw [← split_at hxr] at h9; exact h9)) ?_
      show WPc _ _ _ _ _ _ (Kds (Rk c (ht + 1)) ks :: _)
      refine WPc.perm pl1 ?_
      refine WPc.conv (fun w h => Sat.ownMk (e := 171) (k := 1) (b := g32) (m := ks.length) (cap := cg32) (xs := flatOf vcf (kp ks)) (sp := spg32) (by exact h) hng32 hlg32 hsg32 hcg32) ?_
      obtain ⟨tx, htx⟩ : ∃ k, t.ks[i]? = some k := ⟨_, List.getElem?_eq_getElem (by omega)⟩
      obtain ⟨px, hxx⟩ := ks_get hk htx
      have hm_tx := hb3 tx (List.mem_of_getElem? htx)
      have hs_tx := hm_tx.2.le
      refine WPc.region ?_
      refine WP.val rfl rfl rfl (Val.move rfl rfl) ?_
      refine WP.val rfl rfl rfl (Val.move rfl rfl) ?_
      refine WP.perm pl1 ?_
      refine WP.perm pl1 ?_
      refine WP.perm pl2 ?_
      refine WP.eff rfl rfl rfl (Eff.call rfl rfl Try.call127 (mchild_spec c ht p i vi (.slice (some ⟨g32, 0, none⟩) ks.length cg32) ks px tx hxx (by omega))) ?_
      rintro _ _ ⟨_, ⟨rfl, rfl⟩, rfl⟩
      show WP _ _ _ _ _ _ _ (_ :: Own 171 1 (.slice (some ⟨g32, 0, none⟩) ks.length cg32) ks.length (flatOf vcf (kp ks)) :: _)
      refine WP.val rfl rfl rfl (Val.assign rfl rfl) ?_
      refine WP.nx ?_
      refine WPc.sr ?_
      refine WP.val rfl rfl rfl (Val.move rfl rfl) ?_
      refine WP.val rfl rfl rfl (Val.move rfl rfl) ?_
      refine WP.val rfl rfl rfl (Val.add (z := ((i + 1 : Nat) : Int)) rfl rfl rfl ((w64 (by omega) (by omega)).trans (by omega))) ?_
      iterate 3 (refine WP.perm pl2 ?_)
      refine WP.eff rfl rfl rfl (Eff.call rfl rfl Try.call127 (mchild_spec c ht p ((i + 1)) vi (.slice (some ⟨g32, 0, none⟩) ks.length cg32) ks pr tr hxr (by omega))) ?_
      rintro _ _ ⟨_, ⟨rfl, rfl⟩, rfl⟩
      refine WP.val rfl rfl rfl (Val.assign rfl rfl) ?_
      refine WP.nx ?_
      refine WPc.seq ?_
      obtain ⟨rest, hp1, hp2, hp3⟩ := pair_out (ks := ks) (i := i) (j := (i + 1)) (by omega) hxx hxr
      refine WPc.perm pl2 ?_
      refine WPc.conv (fun w h => (Sat.kPerm hp1 h).kCons) ?_
      refine WPc.perm pl1 ?_
      refine WPc.conv (fun w h => h.kCons) ?_
      show WPc _ _ _ _ _ _ (Nd c ht (pr, tr) :: Kds (Rk c (ht + 1)) rest :: Nd c ht (px, tx) :: _)
      refine WPc.open (fun w h => h.ndOpen) ?_
      rintro ⟨vir, vcr, ksr⟩
      refine WPc.pure (fun hkr => ?_)
      obtain ⟨hkr, hlr⟩ := hkr
      dsimp only at hkr hlr
      have hklr := ks_len hkr
      show WPc _ _ _ _ _ _ (Blk pr [vir, vcr, .pointer (some ⟨c, 0, none⟩)] 213 :: Own 55 2 vir tr.is.length (flatOf El.cells tr.is) :: Own 171 1 vcr ksr.length (flatOf vcf (kp ksr)) :: Kds (Rk c ht) ksr :: _)
      refine WPc.perm pl5 ?_
      refine WPc.open (fun w h => h.ndOpen) ?_
      rintro ⟨vix, vcx, ksx⟩
      refine WPc.pure (fun hkx => ?_)
      obtain ⟨hkx, hlx⟩ := hkx
      dsimp only at hkx hlx
      have hklx := ks_len hkx
      show WPc _ _ _ _ _ _ (Blk px [vix, vcx, .pointer (some ⟨c, 0, none⟩)] 213 :: Own 55 2 vix tx.is.length (flatOf El.cells tx.is) :: Own 171 1 vcx ksx.length (flatOf vcf (kp ksx)) :: Kds (Rk c ht) ksx :: _)
      obtain ⟨z, hz⟩ : ∃ z, tr.is[0]? = some z := ⟨_, List.getElem?_eq_getElem (by omega)⟩
      obtain ⟨y, hy⟩ : ∃ y, t.is[i]? = some y := ⟨_, List.getElem?_eq_getElem (by omega)⟩
      refine WPc.region ?_
      refine WP.val rfl rfl rfl (Val.move rfl rfl) ?_
      refine WP.val rfl rfl rfl (Val.nilCheck rfl rfl) ?_
      refine WP.val rfl rfl rfl (Val.fieldAddr (j := 0) rfl Ty.fo213_0 rfl rfl) ?_
      refine WP.perm pl5 ?_
      refine WP.perm pl5 ?_
      refine WP.eff rfl rfl rfl (Eff.call rfl rfl Try.call140 (rematE pr vir vcr (.pointer (some ⟨c, 0, none⟩)) 0 z tr.is hz (by omega))) ?_
      rintro _ _ ⟨_, ⟨wir, hwir, rfl, rfl⟩, rfl⟩
      show WP _ _ _ _ _ _ _ (Blk pr [wir, vcr, .pointer (some ⟨c, 0, none⟩)] 213 :: Own 55 2 wir ((tr.is).length - 1) (flatOf El.cells ((tr.is).eraseIdx 0)) :: _)
      refine WP.eff rfl rfl rfl (Eff.alloc rfl Ty.z55) ?_
      rintro _ _ ⟨b33, rfl, rfl⟩
      refine WP.eff0 rfl rfl (Eff.storeAgg (cs := [.int .i64 (z.k), .int .i64 (z.v)]) (C' := [.int .i64 (z.k), .int .i64 (z.v)]) rfl Ty.ag55 rfl rfl rfl rfl (by simp) rfl) ?_
      rintro _ _ rfl
      refine WP.nx ?_
      refine WPc.seq ?_
      refine WPc.perm pl12 ?_
      refine WPc.open (fun w h => h.ownPos (by omega)) ?_
      rintro ⟨g34, cg34, spg34⟩
      refine WPc.pure (fun hvg34 => ?_)
      obtain ⟨rfl, hng34, hlg34, hsg34, hcg34⟩ := hvg34
      dsimp only at hng34 hlg34 hsg34 hcg34
      show WPc _ _ _ _ _ _ (Blk g34 (flatOf El.cells t.is ++ spg34) 55 :: Blk b33 [.int .i64 (z.k), .int .i64 (z.v)] 55 :: _ :: _ :: _ :: _ :: _ :: _ :: _ :: _ :: _ :: Blk p [.slice (some ⟨g34, 0, none⟩) t.is.length cg34, .slice (some ⟨g32, 0, none⟩) ks.length cg32, .pointer (some ⟨c, 0, none⟩)] 213 :: _)
      refine WPD.start (Sat W [Blk px [vix, vcx, .pointer (some ⟨c, 0, none⟩)] 213, Blk p [.slice (some ⟨g34, 0, none⟩) t.is.length cg34, .slice (some ⟨g32, 0, none⟩) ks.length cg32, .pointer (some ⟨c, 0, none⟩)] 213, Blk g34 (flatOf El.cells t.is ++ spg34) 55]) Ty.mixed ?_
      refine WPD.tS 0 rfl rfl rfl rfl (fun w h => (((h.perm pl11).perm pl5)).dropEnd (L := [_, _, _])) (Val.move rfl rfl) ?_
      refine WPD.tS 1 rfl rfl rfl rfl (fun w h => (((h.perm pl11).perm pl5)).dropEnd (L := [_, _, _])) (Val.move rfl rfl) ?_
      refine WPD.tS 2 rfl rfl rfl rfl (fun w h => (((h.perm pl11).perm pl5)).dropEnd (L := [_, _, _])) (Val.nilCheck rfl rfl) ?_
      refine WPD.tS 3 rfl rfl rfl rfl (fun w h => (((h.perm pl11).perm pl5)).dropEnd (L := [_, _, _])) (Val.fieldAddr (j := 0) rfl Ty.fo213_0 rfl rfl) ?_
      refine WPD.tL 4 rfl rfl rfl rfl (fun w h => (((h.perm pl11).perm pl5)).dropEnd (L := [_, _, _])) (Val.load rfl Ty.sc210 rfl (fun w h => h.cell 0 rfl rfl)) ?_
      refine WPD.tS 5 rfl rfl rfl rfl (fun w h => (((h.perm pl11).perm pl5)).dropEnd (L := [_, _, _])) (Val.move rfl rfl) ?_
      refine WPD.tS 6 rfl rfl rfl rfl (fun w h => (((h.perm pl11).perm pl5)).dropEnd (L := [_, _, _])) (Val.nilCheck rfl rfl) ?_
      refine WPD.tS 7 rfl rfl rfl rfl (fun w h => (((h.perm pl11).perm pl5)).dropEnd (L := [_, _, _])) (Val.fieldAddr (j := 0) rfl Ty.fo213_0 rfl rfl) ?_
      refine WPD.tL 8 rfl rfl rfl rfl (fun w h => (((h.perm pl11).perm pl5)).dropEnd (L := [_, _, _])) (Val.load rfl Ty.sc210 rfl (fun w h => h.cell 1 rfl rfl)) ?_
      refine WPD.tS 9 rfl rfl rfl rfl (fun w h => (((h.perm pl11).perm pl5)).dropEnd (L := [_, _, _])) (Val.move rfl rfl) ?_
      refine WPD.tS 10 rfl rfl rfl rfl (fun w h => (((h.perm pl11).perm pl5)).dropEnd (L := [_, _, _])) (Val.indexAddr (j := i) (q := i * 2) rfl Ty.sl210 rfl rfl (by omega) (by omega) (by omega)) ?_
      refine WPD.tL 11 rfl rfl rfl rfl (fun w h => (((h.perm pl11).perm pl5)).dropEnd (L := [_, _, _])) (Val.loadAgg (cs := [.int .i64 (y.k), .int .i64 (y.v)]) rfl Ty.ag55 rfl (by rfl) (fun w h => (h.at 2 rfl).cell_range (flatOf_range El.len hy))) ?_
      refine WPD.step 12 (by kernel_rfl) rfl rfl rfl rfl (Eff.mkSlice (C := [.int .i64 (y.k), .int .i64 (y.v)]) rfl Ty.sl210 rfl (fun _ => by kernel_rfl)) ?_
      rintro _ _ ⟨b35, rfl, rfl⟩
      refine ⟨(fun w h => ((((h.perm pl1).perm pl12).perm pl6)).dropEnd (L := [_, _, _])), ?_⟩
      refine WPD.perm pl6 ?_
      refine WPD.stepC 13 (by kernel_rfl) rfl rfl rfl rfl (by kernel_rfl) (Eff.append (m := 1) (n0 := tx.is.length) (news := [.int .i64 (y.k), .int .i64 (y.v)]) rfl Ty.sl210 Ty.z55 rfl rfl rfl (.slice Ty.sl210 rfl rfl (fun w h => cells_range (h.range 1 rfl rfl))) (by omega) (by omega)) ?_
      rintro v36 _ ⟨onev36, rfl⟩
      refine ⟨_, (fun _ h => h), ?_⟩
      refine WPD.tM 14 rfl rfl rfl rfl (Val.nilCheck rfl rfl) ?_
      refine WPD.tM 15 rfl rfl rfl rfl (Val.fieldAddr (j := 0) rfl Ty.fo213_0 rfl rfl) ?_
      refine WPD.perm pl6 ?_
      refine WPD.stepC0 16 (by kernel_rfl) rfl rfl rfl (by kernel_rfl) (Eff.store rfl Ty.sc210 rfl rfl onev36 (by simp) st0) ?_
      rintro _ _ rfl
      refine ⟨_, (fun _ h => h), ?_⟩
      refine WPD.done (by kernel_rfl) ?_
      refine Out.next ?_
      refine WPc.seq ?_
      refine WPD.s0 Ty.mixed ?_
      refine WPD.tM 0 rfl rfl rfl rfl (Val.move rfl rfl) ?_
      refine WPD.tM 1 rfl rfl rfl rfl (Val.nilCheck rfl rfl) ?_
      refine WPD.tM 2 rfl rfl rfl rfl (Val.fieldAddr (j := 0) rfl Ty.fo213_0 rfl rfl) ?_
      refine WPD.tL 3 rfl rfl rfl rfl (fun _ h => h) (Val.load rfl Ty.sc210 rfl (fun w h => h.cell 12 rfl rfl)) ?_
      refine WPD.tM 4 rfl rfl rfl rfl (Val.move rfl rfl) ?_
      refine WPD.tL 5 rfl rfl rfl rfl (fun _ h => h) (Val.loadAgg (cs := [.int .i64 (z.k), .int .i64 (z.v)]) rfl Ty.ag55 rfl rfl (fun w h => h.range 4 rfl rfl)) ?_
      refine WPD.tM 6 rfl rfl rfl rfl (Val.indexAddr (j := i) (q := i * 2) rfl Ty.sl210 rfl rfl (by omega) (by omega) (by omega)) ?_
      refine WPD.perm pl3 ?_
      refine WPD.stepC0 7 (by kernel_rfl) rfl rfl rfl (by kernel_rfl) (Eff.storeAgg (cs := [.int .i64 (z.k), .int .i64 (z.v)]) (C' := flatOf El.cells (t.is.set i z) ++ spg34) rfl Ty.ag55 rfl rfl rfl rfl (by rw [List.length_append, flatOf_length El.len]; omega) (flat_set El.len t.is i z spg34 (by omega))) ?_
      rintro _ _ rfl
      refine ⟨_, (fun _ h => h), ?_⟩
      refine WPD.done (by kernel_rfl) ?_
      refine Out.next ?_
      refine WPc.sr ?_
      refine WP.val rfl rfl rfl (Val.move rfl rfl) ?_
      refine WP.val rfl rfl rfl (Val.nilCheck rfl rfl) ?_
      refine WP.val rfl rfl rfl (Val.fieldAddr (j := 1) rfl Ty.fo213_1 rfl rfl) ?_
      refine WP.val rfl rfl rfl (Val.load rfl Ty.sc211 rfl (fun w h => h.cell 5 rfl rfl)) ?_
      refine WP.val rfl rfl rfl (Val.lenOwn rfl Ty.sl211 rfl (fun w h => h.at 9 rfl)) ?_
      refine WP.val rfl rfl rfl (Val.gtr rfl rfl rfl) ?_
      refine WP.nx ?_
      refine WPc.ifP rfl (fun h13 => ?_) (fun h13 => ?_)
      ·
       have h13 : ((0 : Int) < ((ksr.length : Nat) : Int)) := h13
       obtain ⟨⟨pz, tz⟩, hzz⟩ : ∃ q, ksr[0]? = some q := ⟨_, List.getElem?_eq_getElem (by omega)⟩
       refine WPD.start (Sat W [Blk px [v36, vcx, .pointer (some ⟨c, 0, none⟩)] 213]) Ty.mixed ?_
       refine WPD.tS 0 rfl rfl rfl rfl (fun w h => ((h.perm pl1)).dropEnd (L := [_])) (Val.move rfl rfl) ?_
       refine WPD.tS 1 rfl rfl rfl rfl (fun w h => ((h.perm pl1)).dropEnd (L := [_])) (Val.move rfl rfl) ?_
       refine WPD.tS 2 rfl rfl rfl rfl (fun w h => ((h.perm pl1)).dropEnd (L := [_])) (Val.nilCheck rfl rfl) ?_
       refine WPD.tS 3 rfl rfl rfl rfl (fun w h => ((h.perm pl1)).dropEnd (L := [_])) (Val.fieldAddr (j := 1) rfl Ty.fo213_1 rfl rfl) ?_
       refine WPD.tL 4 rfl rfl rfl rfl (fun w h => ((h.perm pl1)).dropEnd (L := [_])) (Val.load rfl Ty.sc211 rfl (fun w h => h.cell 0 rfl rfl)) ?_
       refine WPD.tS 5 rfl rfl rfl rfl (fun w h => ((h.perm pl1)).dropEnd (L := [_])) (Val.move rfl rfl) ?_
       refine WPD.tS 6 rfl rfl rfl rfl (fun w h => ((h.perm pl1)).dropEnd (L := [_])) (Val.nilCheck rfl rfl) ?_
       refine WPD.tS 7 rfl rfl rfl rfl (fun w h => ((h.perm pl1)).dropEnd (L := [_])) (Val.fieldAddr (j := 1) rfl Ty.fo213_1 rfl rfl) ?_
       refine WPD.perm pl9 ?_
       refine WPD.c1 (B := Own 171 1 vcr ((kp ksr).length) (flatOf vcf (kp ksr))) (fun w h => by rw [kp_len]; exact h) ?_
       refine WPD.perm pl6 ?_
       refine WPD.step 8 (by kernel_rfl) rfl rfl rfl rfl (Eff.call rfl rfl Try.call144 (rematP pr wir vcr (.pointer (some ⟨c, 0, none⟩)) 0 (.pointer (some ⟨pz, 0, none⟩)) (kp ksr) (kp_one _) (kp_at hzz) (by rw [kp_len]; omega))) ?_
       rintro _ _ ⟨_, ⟨wcr, hwcr, rfl, rfl⟩, rfl⟩
       refine ⟨(fun w h => ((h.perm pl3)).dropEnd (L := [_])), ?_⟩
       show WPD _ _ _ _ _ _ _ _ _ (Blk pr [wir, wcr, .pointer (some ⟨c, 0, none⟩)] 213 :: Own 171 1 wcr ((kp ksr).length - 1) (flatOf vcf ((kp ksr).eraseIdx 0)) :: Blk g34 (flatOf El.cells (t.is.set i z) ++ spg34) 55 :: Blk px [v36, vcx, .pointer (some ⟨c, 0, none⟩)] 213 :: Own 55 2 v36 (tx.is.length + 1) ((flatOf El.cells tx.is) ++ ([.int .i64 (y.k), .int .i64 (y.v)])) :: Blk b35 [.int .i64 (y.k), .int .i64 (y.v)] 55 :: _)
       refine WPD.step 9 (by kernel_rfl) rfl rfl rfl rfl (Eff.mkSlice (C := [.pointer (some ⟨pz, 0, none⟩)]) rfl Ty.sl211 rfl (fun _ => by kernel_rfl)) ?_
       rintro _ _ ⟨b37, rfl, rfl⟩
       refine ⟨(fun w h => ((h.perm pl4)).dropEnd (L := [_])), ?_⟩
       refine WPD.perm pl9 ?_
       refine WPD.stepC 10 (by kernel_rfl) rfl rfl rfl rfl (by kernel_rfl) (Eff.append (m := 1) (n0 := ksx.length) (news := [.pointer (some ⟨pz, 0, none⟩)]) rfl Ty.sl211 Ty.z171 rfl rfl rfl (.slice Ty.sl211 rfl rfl (fun w h => cells_range (h.range 1 rfl rfl))) (by omega) (by omega)) ?_
       rintro v38 _ ⟨onev38, rfl⟩
       refine ⟨_, (fun _ h => h), ?_⟩
       refine WPD.tM 11 rfl rfl rfl rfl (Val.nilCheck rfl rfl) ?_
       refine WPD.tM 12 rfl rfl rfl rfl (Val.fieldAddr (j := 1) rfl Ty.fo213_1 rfl rfl) ?_
       refine WPD.perm pl5 ?_
       refine WPD.stepC0 13 (by kernel_rfl) rfl rfl rfl (by kernel_rfl) (Eff.store rfl Ty.sc211 rfl rfl onev38 (by simp) st1) ?_
       rintro _ _ rfl
       refine ⟨_, (fun _ h => h), ?_⟩
       refine WPD.done (by kernel_rfl) ?_
       refine Out.next ?_
       refine WPc.seq ?_
       refine WPc.perm pl5 ?_
       refine WPc.conv (fun w h => Sat.ownMk (e := 55) (k := 2) (b := g34) (m := t.is.length) (cap := cg34) (xs := flatOf El.cells (t.is.set i z)) (sp := spg34) (by exact h) hng34 (by rw [flatOf_length El.len, List.length_set]) hsg34 hcg34) ?_
       refine WPc.c1 (B := Own 55 2 (.slice (some ⟨g34, 0, none⟩) t.is.length cg34) ((t.is.set i z).length) (flatOf El.cells (t.is.set i z))) (fun w h => by rw [List.length_set]; exact h) ?_
       refine WPc.perm pl6 ?_
       refine WPc.c1 (B := Own 55 2 v36 ((tx.is ++ [y]).length) (flatOf El.cells (tx.is ++ [y]))) (fun w h => by rw [flatOf_append, flatOf_one, List.length_append]; exact h) ?_
       refine WPc.perm pl9 ?_
       refine WPc.c1 (B := Own 55 2 wir ((tr.is.eraseIdx 0).length) (flatOf El.cells (tr.is.eraseIdx 0))) (fun w h => by rw [List.length_eraseIdx_of_lt (by omega)]; exact h) ?_
       refine WPc.perm pl11 ?_
       refine WPc.conv (fun w h => (Sat.kPerm (first_perm hzz) h).kCons) ?_
       refine WPc.perm pl12 ?_
       refine WPc.perm pl1 ?_
       refine WPc.conv (fun w h => h.kConsMk) ?_
       refine WPc.conv (fun w h => Sat.kPerm (List.perm_append_comm (l₁ := [(pz, tz)]) (l₂ := ksx)) h) ?_
       refine WPc.perm pl6 ?_
       refine WPc.c1 (B := Own 171 1 v38 ((ksx ++ [(pz, tz)]).length) (flatOf vcf (kp (ksx ++ [(pz, tz)])))) (fun w h => by rw [List.length_append, kp_app, flatOf_append]; exact h) ?_
       refine WPc.perm pl9 ?_
       refine WPc.c1 (B := Own 171 1 wcr ((ksr.eraseIdx 0).length) (flatOf vcf (kp (ksr.eraseIdx 0)))) (fun w h => by rw [kp_len ksr] at h; rw [List.length_eraseIdx_of_lt (by omega), ← kp_erase]; exact h) ?_
       have hkq0 : 0 < tr.ks.length := by omega
       have hzt := ks_at hkr hzz
       refine WPc.perm pl3 ?_
       refine WPc.perm pl1 ?_
       refine WPc.perm pl4 ?_
       refine WPc.perm pl9 ?_
       refine WPc.conv (fun w h => Sat.ndMk (c := c) (h := ht) (t := (Tr.nd (tr.is.eraseIdx 0) (tr.ks.eraseIdx 0))) (ks := (ksr.eraseIdx 0)) (by rw [tr_ks, ← hkr]; exact (snd_erase rfl)) (fun h0 => by have h1 := hlx h0; have h2 := hlr h0; simp_all) h) ?_
       show WPc _ _ _ _ _ _ (Nd c ht (pr, (Tr.nd (tr.is.eraseIdx 0) (tr.ks.eraseIdx 0))) :: Own 171 1 v38 ((ksx ++ [(pz, tz)]).length) (flatOf vcf (kp (ksx ++ [(pz, tz)]))) :: Kds (Rk c ht) (ksx ++ [(pz, tz)]) :: Own 55 2 v36 ((tx.is ++ [y]).length) (flatOf El.cells (tx.is ++ [y])) :: Own 55 2 (.slice (some ⟨g34, 0, none⟩) t.is.length cg34) ((t.is.set i z).length) (flatOf El.cells (t.is.set i z)) :: Blk px [v36, v38, .pointer (some ⟨c, 0, none⟩)] 213 :: Blk b37 [.pointer (some ⟨pz, 0, none⟩)] 171 :: _)
       refine WPc.perm pl2 ?_
       refine WPc.perm pl2 ?_
       refine WPc.perm pl3 ?_
       refine WPc.perm pl5 ?_
       refine WPc.conv (fun w h => Sat.ndMk (c := c) (h := ht) (t := (Tr.nd (tx.is ++ [y]) (tx.ks ++ [tz]))) (ks := (ksx ++ [(pz, tz)])) (by rw [tr_ks, ← hkx]; simp) (fun h0 => by have h1 := hlx h0; have h2 := hlr h0; simp_all) h) ?_
       show WPc _ _ _ _ _ _ (Nd c ht (px, (Tr.nd (tx.is ++ [y]) (tx.ks ++ [tz]))) :: _)
       refine WPc.perm pl6 ?_
       refine WPc.perm pl2 ?_
       refine WPc.conv (fun w h => h.kConsMk) ?_
       refine WPc.perm pl1 ?_
       refine WPc.conv (fun w h => h.kConsMk) ?_
       refine WPc.conv (fun w h => Sat.kPerm (hp2 (px, (Tr.nd (tx.is ++ [y]) (tx.ks ++ [tz]))) (pr, (Tr.nd (tr.is.eraseIdx 0) (tr.ks.eraseIdx 0)))).symm h) ?_
       show WPc _ _ _ _ _ _ (Kds (Rk c (ht + 1)) ((ks.set (i + 1) (pr, (Tr.nd (tr.is.eraseIdx 0) (tr.ks.eraseIdx 0)))).set i (px, (Tr.nd (tx.is ++ [y]) (tx.ks ++ [tz])))) :: _)
       have hkp2 : kp ((ks.set (i + 1) (pr, (Tr.nd (tr.is.eraseIdx 0) (tr.ks.eraseIdx 0)))).set i (px, (Tr.nd (tx.is ++ [y]) (tx.ks ++ [tz])))) = kp ks := by rw [kp_set (t0 := tx) (by rw [List.getElem?_set_ne (by omega)]; exact hxx), kp_set hxr]
       have hln2 : ((ks.set (i + 1) (pr, (Tr.nd (tr.is.eraseIdx 0) (tr.ks.eraseIdx 0)))).set i (px, (Tr.nd (tx.is ++ [y]) (tx.ks ++ [tz])))).length = ks.length := by simp
       refine WPc.perm pl6 ?_
       refine WPc.c1 (B := Own 171 1 (.slice (some ⟨g32, 0, none⟩) ks.length cg32) (((ks.set (i + 1) (pr, (Tr.nd (tr.is.eraseIdx 0) (tr.ks.eraseIdx 0)))).set i (px, (Tr.nd (tx.is ++ [y]) (tx.ks ++ [tz])))).length) (flatOf vcf (kp ((ks.set (i + 1) (pr, (Tr.nd (tr.is.eraseIdx 0) (tr.ks.eraseIdx 0)))).set i (px, (Tr.nd (tx.is ++ [y]) (tx.ks ++ [tz]))))))) (fun w h => by rw [hkp2, hln2]; exact h) ?_
       refine WPc.perm pl1 ?_
       refine WPc.perm pl1 ?_
       refine WPc.perm pl2 ?_
       refine WPc.perm pl6 ?_
       refine WPc.conv (fun w h => Sat.ndMk (c := c) (h := (ht + 1)) (t := (Tr.nd (t.is.set i z) ((t.ks.set (i + 1) (Tr.nd (tr.is.eraseIdx 0) (tr.ks.eraseIdx 0))).set i (Tr.nd (tx.is ++ [y]) (tx.ks ++ [tz]))))) (ks := ((ks.set (i + 1) (pr, (Tr.nd (tr.is.eraseIdx 0) (tr.ks.eraseIdx 0)))).set i (px, (Tr.nd (tx.is ++ [y]) (tx.ks ++ [tz]))))) (snd_set (snd_set hk)) (fun h0 => by cases h0) h) ?_
       show WPc _ _ _ _ _ _ (Nd c (ht + 1) (p, (Tr.nd (t.is.set i z) ((t.ks.set (i + 1) (Tr.nd (tr.is.eraseIdx 0) (tr.ks.eraseIdx 0))).set i (Tr.nd (tx.is ++ [y]) (tx.ks ++ [tz]))))) :: _)
       have hgr : grow m t i = (Tr.nd (t.is.set i z) ((t.ks.set (i + 1) (Tr.nd (tr.is.eraseIdx 0) (tr.ks.eraseIdx 0))).set i (Tr.nd (tx.is ++ [y]) (tx.ks ++ [tz])))) := by unfold grow; rw [if_neg (by rintro ⟨q1, q2⟩; first | omega | (rw [kid_at htl] at q2; omega)), if_pos ⟨by omega, by rw [kid_at htr]; omega⟩]; unfold stealR; simp only [kid_at htr, kid_at htx, getD_at hz, getD_at hy]; rw [if_pos hkq0, show tr.ks.getD 0 TE = tz from by rw [List.getD_eq_getElem?_getD, hzt]; rfl]
       rw [hgr] at hrem
       refine WPc.region ?_
       refine WP.val rfl rfl rfl (Val.move rfl rfl) ?_
       refine WP.val rfl rfl rfl (Val.loadAgg (cs := [.int .i64 (x.k), .int .i64 (x.v)]) rfl Ty.ag55 rfl rfl (fun w h => h.range 5 rfl rfl)) ?_
       refine WP.val rfl rfl rfl (Val.move rfl rfl) ?_
       refine WP.val rfl rfl rfl (Val.move rfl rfl) ?_
       refine WP.perm pl7 ?_
       refine WP.perm pl7 ?_
       refine WP.perm pl2 ?_
       refine WP.eff rfl rfl rfl (Eff.call rfl rfl Try.call128 (hrem)) ?_
       rintro _ _ ⟨_, ⟨rfl, rfl⟩, rfl⟩
       show WP _ _ _ _ _ _ _ (Nd c (ht + 1) (p, t2) :: _)
       refine WP.val rfl rfl rfl (Val.extract rfl rfl rfl) ?_
       refine WP.val rfl rfl rfl (Val.extract rfl rfl rfl) ?_
       refine WP.perm pl6 ?_
       refine WP.eff0 rfl rfl (Eff.storeAgg (cs := [.int .i64 ((o.getD El0).k), .int .i64 ((o.getD El0).v)]) (C' := [.int .i64 ((o.getD El0).k), .int .i64 ((o.getD El0).v)]) rfl Ty.ag55 rfl rfl rfl rfl (by simp) rfl) ?_
       rintro _ _ rfl
       refine WP.val rfl rfl rfl (Val.assign rfl rfl) ?_
       refine WP.nx ?_
       refine WPc.ret ?_
       iterate 4 (refine Out.perm pl4 ?_; refine Out.drop ?_)
       exact Out.retRun (L' := _) (results_ct Try.results141 rfl Ty.ag55 rfl rfl (fun w h => h.range 0 rfl rfl)) ⟨rfl, rfl⟩ (fun w h => h.drop)
      ·
       have h13 : ¬ ((0 : Int) < ((ksr.length : Nat) : Int)) := h13
       refine WPc.skip ?_
       refine Out.next ?_
       refine WPc.seq ?_
       refine WPc.conv (fun w h => Sat.ownMk (e := 55) (k := 2) (b := g34) (m := t.is.length) (cap := cg34) (xs := flatOf El.cells (t.is.set i z)) (sp := spg34) (by exact h) hng34 (by rw [flatOf_length El.len, List.length_set]) hsg34 hcg34) ?_
       refine WPc.c1 (B := Own 55 2 (.slice (some ⟨g34, 0, none⟩) t.is.length cg34) ((t.is.set i z).length) (flatOf El.cells (t.is.set i z))) (fun w h => by rw [List.length_set]; exact h) ?_
       refine WPc.perm pl2 ?_
       refine WPc.c1 (B := Own 55 2 v36 ((tx.is ++ [y]).length) (flatOf El.cells (tx.is ++ [y]))) (fun w h => by rw [flatOf_append, flatOf_one, List.length_append]; exact h) ?_
       refine WPc.perm pl6 ?_
       refine WPc.c1 (B := Own 55 2 wir ((tr.is.eraseIdx 0).length) (flatOf El.cells (tr.is.eraseIdx 0))) (fun w h => by rw [List.length_eraseIdx_of_lt (by omega)]; exact h) ?_
       have hkq0 : ¬ 0 < tr.ks.length := by omega
       have hkq1 : ksr = [] := List.eq_nil_of_length_eq_zero (by omega)
       have hkq2 : tr.ks = [] := List.eq_nil_of_length_eq_zero (by omega)
       refine WPc.perm pl10 ?_
       refine WPc.perm pl10 ?_
       refine WPc.perm pl2 ?_
       refine WPc.perm pl8 ?_
       refine WPc.conv (fun w h => Sat.ndMk (c := c) (h := ht) (t := (Tr.nd (tr.is.eraseIdx 0) (tr.ks.eraseIdx 0))) (ks := ksr) (by rw [tr_ks, hkr, hkq2]; simp) (fun h0 => by have h1 := hlx h0; have h2 := hlr h0; simp_all) h) ?_
       show WPc _ _ _ _ _ _ (Nd c ht (pr, (Tr.nd (tr.is.eraseIdx 0) (tr.ks.eraseIdx 0))) :: Own 55 2 v36 ((tx.is ++ [y]).length) (flatOf El.cells (tx.is ++ [y])) :: Own 55 2 (.slice (some ⟨g34, 0, none⟩) t.is.length cg34) ((t.is.set i z).length) (flatOf El.cells (t.is.set i z)) :: Blk px [v36, vcx, .pointer (some ⟨c, 0, none⟩)] 213 :: Blk b35 [.int .i64 (y.k), .int .i64 (y.v)] 55 :: _)
       refine WPc.perm pl7 ?_
       refine WPc.perm pl7 ?_
       refine WPc.perm pl3 ?_
       refine WPc.perm pl5 ?_
       refine WPc.conv (fun w h => Sat.ndMk (c := c) (h := ht) (t := (Tr.nd (tx.is ++ [y]) tx.ks)) (ks := ksx) hkx (fun h0 => by have h1 := hlx h0; have h2 := hlr h0; simp_all) h) ?_
       show WPc _ _ _ _ _ _ (Nd c ht (px, (Tr.nd (tx.is ++ [y]) tx.ks)) :: _)
       refine WPc.perm pl5 ?_
       refine WPc.perm pl2 ?_
       refine WPc.conv (fun w h => h.kConsMk) ?_
       refine WPc.perm pl1 ?_
       refine WPc.conv (fun w h => h.kConsMk) ?_
       refine WPc.conv (fun w h => Sat.kPerm (hp2 (px, (Tr.nd (tx.is ++ [y]) tx.ks)) (pr, (Tr.nd (tr.is.eraseIdx 0) (tr.ks.eraseIdx 0)))).symm h) ?_
       show WPc _ _ _ _ _ _ (Kds (Rk c (ht + 1)) ((ks.set (i + 1) (pr, (Tr.nd (tr.is.eraseIdx 0) (tr.ks.eraseIdx 0)))).set i (px, (Tr.nd (tx.is ++ [y]) tx.ks))) :: _)
       have hkp2 : kp ((ks.set (i + 1) (pr, (Tr.nd (tr.is.eraseIdx 0) (tr.ks.eraseIdx 0)))).set i (px, (Tr.nd (tx.is ++ [y]) tx.ks))) = kp ks := by rw [kp_set (t0 := tx) (by rw [List.getElem?_set_ne (by omega)]; exact hxx), kp_set hxr]
       have hln2 : ((ks.set (i + 1) (pr, (Tr.nd (tr.is.eraseIdx 0) (tr.ks.eraseIdx 0)))).set i (px, (Tr.nd (tx.is ++ [y]) tx.ks))).length = ks.length := by simp
       refine WPc.perm pl5 ?_
       refine WPc.c1 (B := Own 171 1 (.slice (some ⟨g32, 0, none⟩) ks.length cg32) (((ks.set (i + 1) (pr, (Tr.nd (tr.is.eraseIdx 0) (tr.ks.eraseIdx 0)))).set i (px, (Tr.nd (tx.is ++ [y]) tx.ks))).length) (flatOf vcf (kp ((ks.set (i + 1) (pr, (Tr.nd (tr.is.eraseIdx 0) (tr.ks.eraseIdx 0)))).set i (px, (Tr.nd (tx.is ++ [y]) tx.ks)))))) (fun w h => by rw [hkp2, hln2]; exact h) ?_
       refine WPc.perm pl1 ?_
       refine WPc.perm pl1 ?_
       refine WPc.perm pl2 ?_
       refine WPc.perm pl5 ?_
       refine WPc.conv (fun w h => Sat.ndMk (c := c) (h := (ht + 1)) (t := (Tr.nd (t.is.set i z) ((t.ks.set (i + 1) (Tr.nd (tr.is.eraseIdx 0) (tr.ks.eraseIdx 0))).set i (Tr.nd (tx.is ++ [y]) tx.ks)))) (ks := ((ks.set (i + 1) (pr, (Tr.nd (tr.is.eraseIdx 0) (tr.ks.eraseIdx 0)))).set i (px, (Tr.nd (tx.is ++ [y]) tx.ks)))) (snd_set (snd_set hk)) (fun h0 => by cases h0) h) ?_
       show WPc _ _ _ _ _ _ (Nd c (ht + 1) (p, (Tr.nd (t.is.set i z) ((t.ks.set (i + 1) (Tr.nd (tr.is.eraseIdx 0) (tr.ks.eraseIdx 0))).set i (Tr.nd (tx.is ++ [y]) tx.ks)))) :: _)
       have hgr : grow m t i = (Tr.nd (t.is.set i z) ((t.ks.set (i + 1) (Tr.nd (tr.is.eraseIdx 0) (tr.ks.eraseIdx 0))).set i (Tr.nd (tx.is ++ [y]) tx.ks))) := by unfold grow; rw [if_neg (by rintro ⟨q1, q2⟩; first | omega | (rw [kid_at htl] at q2; omega)), if_pos ⟨by omega, by rw [kid_at htr]; omega⟩]; unfold stealR; simp only [kid_at htr, kid_at htx, getD_at hz, getD_at hy]; rw [if_neg hkq0]
       rw [hgr] at hrem
       refine WPc.region ?_
       refine WP.val rfl rfl rfl (Val.move rfl rfl) ?_
       refine WP.val rfl rfl rfl (Val.loadAgg (cs := [.int .i64 (x.k), .int .i64 (x.v)]) rfl Ty.ag55 rfl rfl (fun w h => h.range 4 rfl rfl)) ?_
       refine WP.val rfl rfl rfl (Val.move rfl rfl) ?_
       refine WP.val rfl rfl rfl (Val.move rfl rfl) ?_
       refine WP.perm pl6 ?_
       refine WP.perm pl6 ?_
       refine WP.perm pl2 ?_
       refine WP.eff rfl rfl rfl (Eff.call rfl rfl Try.call128 (hrem)) ?_
       rintro _ _ ⟨_, ⟨rfl, rfl⟩, rfl⟩
       show WP _ _ _ _ _ _ _ (Nd c (ht + 1) (p, t2) :: _)
       refine WP.val rfl rfl rfl (Val.extract rfl rfl rfl) ?_
       refine WP.val rfl rfl rfl (Val.extract rfl rfl rfl) ?_
       refine WP.perm pl5 ?_
       refine WP.eff0 rfl rfl (Eff.storeAgg (cs := [.int .i64 ((o.getD El0).k), .int .i64 ((o.getD El0).v)]) (C' := [.int .i64 ((o.getD El0).k), .int .i64 ((o.getD El0).v)]) rfl Ty.ag55 rfl rfl rfl rfl (by simp) rfl) ?_
       rintro _ _ rfl
       refine WP.val rfl rfl rfl (Val.assign rfl rfl) ?_
       refine WP.nx ?_
       refine WPc.ret ?_
       iterate 3 (refine Out.perm pl4 ?_; refine Out.drop ?_)
       exact Out.retRun (L' := _) (results_ct Try.results141 rfl Ty.ag55 rfl rfl (fun w h => h.range 0 rfl rfl)) ⟨rfl, rfl⟩ (fun w h => h.drop)
     ·
      have h12 : ¬ (((m : Nat) : Int) < ((tr.is.length : Nat) : Int)) := h12
      refine WPc.seq ?_
      refine WPc.seq ?_
      iterate 4 (refine WPc.perm pl3 ?_)
      refine WPc.conv (fun w h => Sat.ndMk (c := c) (h := ht) (t := tr) (ks := ksr) hkr hlr h) ?_
      show WPc _ _ _ _ _ _ (Nd c ht (pr, tr) :: _)
      refine WPc.perm pl1 ?_
      refine WPc.perm pl1 ?_
      refine WPc.conv (fun w h => (by have h9 := Sat.kIn (R := Rk c (ht + 1)) (x := (pr, tr)) (ks := ks) (i := (i + 1)) h; rw [← split_at hxr] at h9; exact h9)) ?_
      show WPc _ _ _ _ _ _ (Kds (Rk c (ht + 1)) ks :: _)
      refine WPc.region ?_
      refine WP.val rfl rfl rfl (Val.move rfl rfl) ?_
      refine WP.val rfl rfl rfl (Val.move rfl rfl) ?_
      refine WP.val rfl rfl rfl (Val.nilCheck rfl rfl) ?_
      refine WP.val rfl rfl rfl (Val.fieldAddr (j := 0) rfl Ty.fo213_0 rfl rfl) ?_
      refine WP.val rfl rfl rfl (Val.load rfl Ty.sc210 rfl (fun w h => h.cell 2 rfl rfl)) ?_
      refine WP.val rfl rfl rfl (Val.lenOwn rfl Ty.sl210 rfl (fun w h => h.at 3 rfl)) ?_
      refine WP.val rfl rfl rfl (Val.geq rfl rfl rfl) ?_
      refine WP.nx ?_
      refine WPc.ifP rfl (fun h14 => ?_) (fun h14 => ?_)
      ·
       have h14 : (((t.is.length : Nat) : Int) ≤ ((i : Nat) : Int)) := h14
       refine WPc.region ?_
       refine WP.val rfl rfl rfl (Val.move rfl rfl) ?_
       refine WP.val rfl rfl rfl (Val.sub (z := ((i - 1 : Nat) : Int)) rfl rfl rfl ((w64 (by omega) (by omega)).trans (by omega))) ?_
       refine WP.val rfl rfl rfl (Val.assign rfl rfl) ?_
       refine WP.nx ?_
       refine WPc.seq ?_
       refine WPc.perm pl1 ?_
       refine WPc.conv (fun w h => Sat.ownMk (e := 171) (k := 1) (b := g32) (m := ks.length) (cap := cg32) (xs := flatOf vcf (kp ks)) (sp := spg32) (by exact h) hng32 hlg32 hsg32 hcg32) ?_
       obtain ⟨tx, htx⟩ : ∃ k, t.ks[(i - 1)]? = some k := ⟨_, List.getElem?_eq_getElem (by omega)⟩
       obtain ⟨px, hxx⟩ := ks_get hk htx
       have hm_tx := hb3 tx (List.mem_of_getElem? htx)
       have hs_tx := hm_tx.2.le
       obtain ⟨tm, htm⟩ : ∃ k, t.ks[(i - 1) + 1]? = some k := ⟨_, List.getElem?_eq_getElem (by omega)⟩
       obtain ⟨pm, hxm⟩ := ks_get hk htm
       have hm_tm := hb3 tm (List.mem_of_getElem? htm)
       have hs_tm := hm_tm.2.le
       obtain ⟨y, hy⟩ : ∃ y, t.is[(i - 1)]? = some y := ⟨_, List.getElem?_eq_getElem (by omega)⟩
       have hka := kp_at hxm
       refine WPc.region ?_
       refine WP.val rfl rfl rfl (Val.move rfl rfl) ?_
       refine WP.val rfl rfl rfl (Val.move rfl rfl) ?_
       refine WP.perm pl1 ?_
       refine WP.perm pl1 ?_
       refine WP.perm pl2 ?_
       refine WP.eff rfl rfl rfl (Eff.call rfl rfl Try.call127 (mchild_spec c ht p ((i - 1)) vi (.slice (some ⟨g32, 0, none⟩) ks.length cg32) ks px tx hxx (by omega))) ?_
       rintro _ _ ⟨_, ⟨rfl, rfl⟩, rfl⟩
       show WP _ _ _ _ _ _ _ (_ :: Own 171 1 (.slice (some ⟨g32, 0, none⟩) ks.length cg32) ks.length (flatOf vcf (kp ks)) :: _)
       refine WP.val rfl rfl rfl (Val.assign rfl rfl) ?_
       refine WP.nx ?_
       refine WPc.sr ?_
       refine WP.val rfl rfl rfl (Val.move rfl rfl) ?_
       refine WP.val rfl rfl rfl (Val.nilCheck rfl rfl) ?_
       refine WP.val rfl rfl rfl (Val.fieldAddr (j := 0) rfl Ty.fo213_0 rfl rfl) ?_
       refine WP.val rfl rfl rfl (Val.move rfl rfl) ?_
       refine WP.perm pl3 ?_
       refine WP.perm pl1 ?_
       refine WP.eff rfl rfl rfl (Eff.call rfl rfl Try.call140 (rematE p vi (.slice (some ⟨g32, 0, none⟩) ks.length cg32) (.pointer (some ⟨c, 0, none⟩)) ((i - 1)) y t.is hy (by omega))) ?_
       rintro _ _ ⟨_, ⟨wi, hwi, rfl, rfl⟩, rfl⟩
       show WP _ _ _ _ _ _ _ (Blk p [wi, .slice (some ⟨g32, 0, none⟩) ks.length cg32, .pointer (some ⟨c, 0, none⟩)] 213 :: Own 55 2 wi ((t.is).length - 1) (flatOf El.cells ((t.is).eraseIdx ((i - 1)))) :: _)
       refine WP.eff rfl rfl rfl (Eff.alloc rfl Ty.z55) ?_
       rintro _ _ ⟨b39, rfl, rfl⟩
       refine WP.eff0 rfl rfl (Eff.storeAgg (cs := [.int .i64 (y.k), .int .i64 (y.v)]) (C' := [.int .i64 (y.k), .int .i64 (y.v)]) rfl Ty.ag55 rfl rfl rfl rfl (by simp) rfl) ?_
       rintro _ _ rfl
       refine WP.nx ?_
       refine WPc.sr ?_
       refine WP.val rfl rfl rfl (Val.move rfl rfl) ?_
       refine WP.val rfl rfl rfl (Val.nilCheck rfl rfl) ?_
       refine WP.val rfl rfl rfl (Val.fieldAddr (j := 1) rfl Ty.fo213_1 rfl rfl) ?_
       refine WP.val rfl rfl rfl (Val.move rfl rfl) ?_
       refine WP.val rfl rfl rfl (Val.add (z := (((i - 1) + 1 : Nat) : Int)) rfl rfl rfl ((w64 (by omega) (by omega)).trans (by omega))) ?_
       refine WP.perm pl3 ?_
       refine WP.c1 (B := Own 171 1 (.slice (some ⟨g32, 0, none⟩) ks.length cg32) ((kp ks).length) (flatOf vcf (kp ks))) (fun w h => by rw [kp_len]; exact h) ?_
       refine WP.perm pl2 ?_
       refine WP.eff rfl rfl rfl (Eff.call rfl rfl Try.call144 (rematP p wi (.slice (some ⟨g32, 0, none⟩) ks.length cg32) (.pointer (some ⟨c, 0, none⟩)) ((i - 1) + 1) (.pointer (some ⟨pm, 0, none⟩)) (kp ks) (kp_one _) hka (by rw [kp_len]; omega))) ?_
       rintro _ _ ⟨_, ⟨wc, hwc, rfl, rfl⟩, rfl⟩
       show WP _ _ _ _ _ _ _ (Blk p [wi, wc, .pointer (some ⟨c, 0, none⟩)] 213 :: Own 171 1 wc ((kp ks).length - 1) (flatOf vcf ((kp ks).eraseIdx ((i - 1) + 1))) :: Blk b39 [.int .i64 (y.k), .int .i64 (y.v)] 55 :: _)
       refine WP.val rfl rfl rfl (Val.assign rfl rfl) ?_
       refine WP.nx ?_
       refine WPc.seq ?_
       obtain ⟨rest, hp1, hp2, hp3⟩ := pair_out (ks := ks) (i := (i - 1)) (j := ((i - 1) + 1)) (by omega) hxx hxm
       refine WPc.perm pl4 ?_
       refine WPc.conv (fun w h => (Sat.kPerm hp1 h).kCons) ?_
       refine WPc.perm pl1 ?_
       refine WPc.conv (fun w h => h.kCons) ?_
       show WPc _ _ _ _ _ _ (Nd c ht (pm, tm) :: Kds (Rk c (ht + 1)) rest :: Nd c ht (px, tx) :: _)
       refine WPc.perm pl2 ?_
       refine WPc.open (fun w h => h.ndOpen) ?_
       rintro ⟨vix, vcx, ksx⟩
       refine WPc.pure (fun hkx => ?_)
       obtain ⟨hkx, hlx⟩ := hkx
       dsimp only at hkx hlx
       have hklx := ks_len hkx
       show WPc _ _ _ _ _ _ (Blk px [vix, vcx, .pointer (some ⟨c, 0, none⟩)] 213 :: Own 55 2 vix tx.is.length (flatOf El.cells tx.is) :: Own 171 1 vcx ksx.length (flatOf vcf (kp ksx)) :: Kds (Rk c ht) ksx :: _)
       refine WPc.perm pl4 ?_
       refine WPc.open (fun w h => h.ndOpen) ?_
       rintro ⟨vim, vcm, ksm⟩
       refine WPc.pure (fun hkm => ?_)
       obtain ⟨hkm, hlm⟩ := hkm
       dsimp only at hkm hlm
       have hklm := ks_len hkm
       show WPc _ _ _ _ _ _ (Blk pm [vim, vcm, .pointer (some ⟨c, 0, none⟩)] 213 :: Own 55 2 vim tm.is.length (flatOf El.cells tm.is) :: Own 171 1 vcm ksm.length (flatOf vcf (kp ksm)) :: Kds (Rk c ht) ksm :: _)
       refine WPD.start (Sat W [Blk px [vix, vcx, .pointer (some ⟨c, 0, none⟩)] 213, Blk b39 [.int .i64 (y.k), .int .i64 (y.v)] 55]) Ty.mixed ?_
       refine WPD.tS 0 rfl rfl rfl rfl (fun w h => (((h.perm pl11).perm pl5)).dropEnd (L := [_, _])) (Val.move rfl rfl) ?_
       refine WPD.tS 1 rfl rfl rfl rfl (fun w h => (((h.perm pl11).perm pl5)).dropEnd (L := [_, _])) (Val.move rfl rfl) ?_
       refine WPD.tS 2 rfl rfl rfl rfl (fun w h => (((h.perm pl11).perm pl5)).dropEnd (L := [_, _])) (Val.nilCheck rfl rfl) ?_
       refine WPD.tS 3 rfl rfl rfl rfl (fun w h => (((h.perm pl11).perm pl5)).dropEnd (L := [_, _])) (Val.fieldAddr (j := 0) rfl Ty.fo213_0 rfl rfl) ?_
       refine WPD.tL 4 rfl rfl rfl rfl (fun w h => (((h.perm pl11).perm pl5)).dropEnd (L := [_, _])) (Val.load rfl Ty.sc210 rfl (fun w h => h.cell 0 rfl rfl)) ?_
       refine WPD.tL 5 rfl rfl rfl rfl (fun w h => (((h.perm pl11).perm pl5)).dropEnd (L := [_, _])) (Val.loadAgg (cs := [.int .i64 (y.k), .int .i64 (y.v)]) rfl Ty.ag55 rfl rfl (fun w h => h.range 1 rfl rfl)) ?_
       refine WPD.step 6 (by kernel_rfl) rfl rfl rfl rfl (Eff.mkSlice (C := [.int .i64 (y.k), .int .i64 (y.v)]) rfl Ty.sl210 rfl (fun _ => by kernel_rfl)) ?_
       rintro _ _ ⟨b40, rfl, rfl⟩
       refine ⟨(fun w h => (((h.perm pl12).perm pl6)).dropEnd (L := [_, _])), ?_⟩
       refine WPD.perm pl6 ?_
       refine WPD.stepC 7 (by kernel_rfl) rfl rfl rfl rfl (by kernel_rfl) (Eff.append (m := 1) (n0 := tx.is.length) (news := [.int .i64 (y.k), .int .i64 (y.v)]) rfl Ty.sl210 Ty.z55 rfl rfl rfl (.slice Ty.sl210 rfl rfl (fun w h => cells_range (h.range 1 rfl rfl))) (by omega) (by omega)) ?_
       rintro v41 _ ⟨onev41, rfl⟩
       refine ⟨_, (fun _ h => h), ?_⟩
       refine WPD.tM 8 rfl rfl rfl rfl (Val.nilCheck rfl rfl) ?_
       refine WPD.tM 9 rfl rfl rfl rfl (Val.fieldAddr (j := 0) rfl Ty.fo213_0 rfl rfl) ?_
       refine WPD.perm pl6 ?_
       refine WPD.stepC0 10 (by kernel_rfl) rfl rfl rfl (by kernel_rfl) (Eff.store rfl Ty.sc210 rfl rfl onev41 (by simp) st0) ?_
       rintro _ _ rfl
       refine ⟨_, (fun _ h => h), ?_⟩
       refine WPD.done (by kernel_rfl) ?_
       refine Out.next ?_
       refine WPc.seq ?_
       refine WPD.s0 Ty.mixed ?_
       refine WPD.tM 0 rfl rfl rfl rfl (Val.move rfl rfl) ?_
       refine WPD.tM 1 rfl rfl rfl rfl (Val.move rfl rfl) ?_
       refine WPD.tM 2 rfl rfl rfl rfl (Val.nilCheck rfl rfl) ?_
       refine WPD.tM 3 rfl rfl rfl rfl (Val.fieldAddr (j := 0) rfl Ty.fo213_0 rfl rfl) ?_
       refine WPD.tL 4 rfl rfl rfl rfl (fun _ h => h) (Val.load rfl Ty.sc210 rfl (fun w h => h.cell 0 rfl rfl)) ?_
       refine WPD.tM 5 rfl rfl rfl rfl (Val.move rfl rfl) ?_
       refine WPD.tM 6 rfl rfl rfl rfl (Val.nilCheck rfl rfl) ?_
       refine WPD.tM 7 rfl rfl rfl rfl (Val.fieldAddr (j := 0) rfl Ty.fo213_0 rfl rfl) ?_
       refine WPD.tL 8 rfl rfl rfl rfl (fun _ h => h) (Val.load rfl Ty.sc210 rfl (fun w h => h.cell 3 rfl rfl)) ?_
       refine WPD.perm pl1 ?_
       refine WPD.stepC 9 (by kernel_rfl) rfl rfl rfl rfl (by kernel_rfl) (Eff.append (m := tm.is.length) (n0 := tx.is.length + 1) (news := flatOf El.cells tm.is) rfl Ty.sl210 Ty.z55 rfl rfl rfl (Srcs.ownAt Ty.sl210 (el_one _) 4 rfl) (by omega) (by omega)) ?_
       rintro v42 _ ⟨onev42, rfl⟩
       refine ⟨_, (fun _ h => h), ?_⟩
       refine WPD.tM 10 rfl rfl rfl rfl (Val.nilCheck rfl rfl) ?_
       refine WPD.tM 11 rfl rfl rfl rfl (Val.fieldAddr (j := 0) rfl Ty.fo213_0 rfl rfl) ?_
       refine WPD.perm pl1 ?_
       refine WPD.stepC0 12 (by kernel_rfl) rfl rfl rfl (by kernel_rfl) (Eff.store rfl Ty.sc210 rfl rfl onev42 (by simp) st0) ?_
       rintro _ _ rfl
       refine ⟨_, (fun _ h => h), ?_⟩
       refine WPD.done (by kernel_rfl) ?_
       refine Out.next ?_
       refine WPc.seq ?_
       refine WPD.s0 Ty.mixed ?_
       refine WPD.tM 0 rfl rfl rfl rfl (Val.move rfl rfl) ?_
       refine WPD.tM 1 rfl rfl rfl rfl (Val.move rfl rfl) ?_
       refine WPD.tM 2 rfl rfl rfl rfl (Val.nilCheck rfl rfl) ?_
       refine WPD.tM 3 rfl rfl rfl rfl (Val.fieldAddr (j := 1) rfl Ty.fo213_1 rfl rfl) ?_
       refine WPD.tL 4 rfl rfl rfl rfl (fun _ h => h) (Val.load rfl Ty.sc211 rfl (fun w h => h.cell 0 rfl rfl)) ?_
       refine WPD.tM 5 rfl rfl rfl rfl (Val.move rfl rfl) ?_
       refine WPD.tM 6 rfl rfl rfl rfl (Val.nilCheck rfl rfl) ?_
       refine WPD.tM 7 rfl rfl rfl rfl (Val.fieldAddr (j := 1) rfl Ty.fo213_1 rfl rfl) ?_
       refine WPD.tL 8 rfl rfl rfl rfl (fun _ h => h) (Val.load rfl Ty.sc211 rfl (fun w h => h.cell 3 rfl rfl)) ?_
       refine WPD.perm pl7 ?_
       refine WPD.stepC 9 (by kernel_rfl) rfl rfl rfl rfl (by kernel_rfl) (Eff.append (m := ksm.length) (n0 := ksx.length) (news := flatOf vcf (kp ksm)) rfl Ty.sl211 Ty.z171 rfl rfl rfl (Srcs.ownAt Ty.sl211 (v_one (kp_one _)) 6 rfl) (by omega) (by omega)) ?_
       rintro v43 _ ⟨onev43, rfl⟩
       refine ⟨_, (fun _ h => h), ?_⟩
       refine WPD.tM 10 rfl rfl rfl rfl (Val.nilCheck rfl rfl) ?_
       refine WPD.tM 11 rfl rfl rfl rfl (Val.fieldAddr (j := 1) rfl Ty.fo213_1 rfl rfl) ?_
       refine WPD.perm pl1 ?_
       refine WPD.stepC0 12 (by kernel_rfl) rfl rfl rfl (by kernel_rfl) (Eff.store rfl Ty.sc211 rfl rfl onev43 (by simp) st1) ?_
       rintro _ _ rfl
       refine ⟨_, (fun _ h => h), ?_⟩
       refine WPD.done (by kernel_rfl) ?_
       refine Out.next ?_
       refine WPc.perm pl6 ?_
       refine WPc.c1 (B := Own 171 1 vcm ((kp ksm).length) (flatOf vcf (kp ksm))) (fun w h => by rw [kp_len]; exact h) ?_
       refine WPc.region ?_
       refine WP.val rfl rfl rfl (Val.move rfl rfl) ?_
       refine WP.val rfl rfl rfl (Val.nilCheck rfl rfl) ?_
       refine WP.val rfl rfl rfl (Val.fieldAddr (j := 2) rfl Ty.fo213_2 rfl rfl) ?_
       refine WP.val rfl rfl rfl (Val.load rfl Ty.sc172 rfl (fun w h => h.cell 10 rfl rfl)) ?_
       refine WP.val rfl rfl rfl (Val.move rfl rfl) ?_
       refine WP.perm pl6 ?_
       refine WP.perm pl6 ?_
       refine WP.perm pl17 ?_
       refine WP.perm pl17 ?_
       refine WP.eff rfl rfl rfl (Eff.call rfl rfl Try.call130 (cowfree_spec c f pm vim vcm tm.is (kp ksm) (kp_one _) (by omega) (by rw [kp_len]; omega))) ?_
       rintro vf _ ⟨_, ⟨-, rfl⟩, rfl⟩
       show WP _ _ _ _ _ _ _ (_ :: _ :: Blk px [v42, v43, .pointer (some ⟨c, 0, none⟩)] 213 :: Own 171 1 v43 (ksx.length + ksm.length) ((flatOf vcf (kp ksx)) ++ (flatOf vcf (kp ksm))) :: Own 55 2 v42 ((tx.is.length + 1) + tm.is.length) (((flatOf El.cells tx.is) ++ ([.int .i64 (y.k), .int .i64 (y.v)])) ++ (flatOf El.cells tm.is)) :: Blk b40 [.int .i64 (y.k), .int .i64 (y.v)] 55 :: _)
       refine WP.nx ?_
       refine WPc.seq ?_
       refine WPc.perm pl4 ?_
       refine WPc.c1 (B := Own 55 2 v42 ((tx.is ++ [y] ++ tm.is).length) (flatOf El.cells (tx.is ++ [y] ++ tm.is))) (fun w h => by rw [flatOf_append, flatOf_append, flatOf_one, List.length_append, List.length_append]; exact h) ?_
       refine WPc.perm pl6 ?_
       refine WPc.perm pl7 ?_
       refine WPc.conv (fun w h => h.kAppMk) ?_
       refine WPc.perm pl5 ?_
       refine WPc.c1 (B := Own 171 1 v43 ((ksx ++ ksm).length) (flatOf vcf (kp (ksx ++ ksm)))) (fun w h => by rw [List.length_append, kp_app, flatOf_append]; exact h) ?_
       refine WPc.perm pl1 ?_
       refine WPc.perm pl1 ?_
       refine WPc.perm pl2 ?_
       refine WPc.perm pl5 ?_
       refine WPc.conv (fun w h => Sat.ndMk (c := c) (h := ht) (t := (Tr.nd (tx.is ++ [y] ++ tm.is) (tx.ks ++ tm.ks))) (ks := (ksx ++ ksm)) (by rw [tr_ks, ← hkx, ← hkm, List.map_append]) (fun h0 => by rw [hlx h0, hlm h0]; rfl) h) ?_
       show WPc _ _ _ _ _ _ (Nd c ht (px, (Tr.nd (tx.is ++ [y] ++ tm.is) (tx.ks ++ tm.ks))) :: _)
       refine WPc.perm pl4 ?_
       refine WPc.perm pl1 ?_
       refine WPc.conv (fun w h => h.kConsMk) ?_
       refine WPc.conv (fun w h => Sat.kPerm (hp3 (px, (Tr.nd (tx.is ++ [y] ++ tm.is) (tx.ks ++ tm.ks)))).symm h) ?_
       show WPc _ _ _ _ _ _ (Kds (Rk c (ht + 1)) ((ks.eraseIdx ((i - 1) + 1)).set (i - 1) (px, (Tr.nd (tx.is ++ [y] ++ tm.is) (tx.ks ++ tm.ks)))) :: _)
       have hkp2 : kp ((ks.eraseIdx ((i - 1) + 1)).set (i - 1) (px, (Tr.nd (tx.is ++ [y] ++ tm.is) (tx.ks ++ tm.ks)))) = kp (ks.eraseIdx ((i - 1) + 1)) := by rw [kp_set (t0 := tx) (by rw [List.getElem?_eraseIdx_of_lt (by omega)]; exact hxx)]
       have hln2 : ((ks.eraseIdx ((i - 1) + 1)).set (i - 1) (px, (Tr.nd (tx.is ++ [y] ++ tm.is) (tx.ks ++ tm.ks)))).length = ks.length - 1 := by rw [List.length_set, List.length_eraseIdx_of_lt (by omega)]
       refine WPc.perm pl5 ?_
       refine WPc.c1 (B := Own 171 1 wc (((ks.eraseIdx ((i - 1) + 1)).set (i - 1) (px, (Tr.nd (tx.is ++ [y] ++ tm.is) (tx.ks ++ tm.ks)))).length) (flatOf vcf (kp ((ks.eraseIdx ((i - 1) + 1)).set (i - 1) (px, (Tr.nd (tx.is ++ [y] ++ tm.is) (tx.ks ++ tm.ks))))))) (fun w h => by rw [kp_len ks] at h; rw [hkp2, hln2, ← kp_erase]; exact h) ?_
       refine WPc.perm pl7 ?_
       refine WPc.c1 (B := Own 55 2 wi ((t.is.eraseIdx (i - 1)).length) (flatOf El.cells (t.is.eraseIdx (i - 1)))) (fun w h => by rw [List.length_eraseIdx_of_lt (by omega)]; exact h) ?_
       iterate 3 (refine WPc.perm pl2 ?_)
       refine WPc.perm pl6 ?_
       refine WPc.conv (fun w h => Sat.ndMk (c := c) (h := (ht + 1)) (t := (Tr.nd (t.is.eraseIdx (i - 1)) ((t.ks.eraseIdx ((i - 1) + 1)).set (i - 1) (Tr.nd (tx.is ++ [y] ++ tm.is) (tx.ks ++ tm.ks))))) (ks := ((ks.eraseIdx ((i - 1) + 1)).set (i - 1) (px, (Tr.nd (tx.is ++ [y] ++ tm.is) (tx.ks ++ tm.ks))))) (snd_set (snd_erase hk)) (fun h0 => by cases h0) h) ?_
       show WPc _ _ _ _ _ _ (Nd c (ht + 1) (p, (Tr.nd (t.is.eraseIdx (i - 1)) ((t.ks.eraseIdx ((i - 1) + 1)).set (i - 1) (Tr.nd (tx.is ++ [y] ++ tm.is) (tx.ks ++ tm.ks))))) :: _)
       have hgr : grow m t i = (Tr.nd (t.is.eraseIdx (i - 1)) ((t.ks.eraseIdx ((i - 1) + 1)).set (i - 1) (Tr.nd (tx.is ++ [y] ++ tm.is) (tx.ks ++ tm.ks)))) := by unfold grow; rw [if_neg (by rintro ⟨q1, q2⟩; first | omega | (rw [kid_at htl] at q2; omega)), if_neg (by rintro ⟨q1, q2⟩; first | omega | (rw [kid_at htr] at q2; omega)), if_pos (by omega)]; unfold merge; simp only [kid_at htx, kid_at htm, getD_at hy]
       rw [hgr] at hrem
       refine WPc.region ?_
       refine WP.val rfl rfl rfl (Val.move rfl rfl) ?_
       refine WP.val rfl rfl rfl (Val.loadAgg (cs := [.int .i64 (x.k), .int .i64 (x.v)]) rfl Ty.ag55 rfl rfl (fun w h => h.range 6 rfl rfl)) ?_
       refine WP.val rfl rfl rfl (Val.move rfl rfl) ?_
       refine WP.val rfl rfl rfl (Val.move rfl rfl) ?_
       iterate 3 (refine WP.perm pl2 ?_)
       refine WP.eff rfl rfl rfl (Eff.call rfl rfl Try.call128 (hrem)) ?_
       rintro _ _ ⟨_, ⟨rfl, rfl⟩, rfl⟩
       show WP _ _ _ _ _ _ _ (Nd c (ht + 1) (p, t2) :: _)
       refine WP.val rfl rfl rfl (Val.extract rfl rfl rfl) ?_
       refine WP.val rfl rfl rfl (Val.extract rfl rfl rfl) ?_
       refine WP.perm pl5 ?_
       refine WP.eff0 rfl rfl (Eff.storeAgg (cs := [.int .i64 ((o.getD El0).k), .int .i64 ((o.getD El0).v)]) (C' := [.int .i64 ((o.getD El0).k), .int .i64 ((o.getD El0).v)]) rfl Ty.ag55 rfl rfl rfl rfl (by simp) rfl) ?_
       rintro _ _ rfl
       refine WP.val rfl rfl rfl (Val.assign rfl rfl) ?_
       refine WP.nx ?_
       refine WPc.ret ?_
       iterate 3 (refine Out.perm pl4 ?_; refine Out.drop ?_)
       exact Out.retRun (L' := _) (results_ct Try.results141 rfl Ty.ag55 rfl rfl (fun w h => h.range 0 rfl rfl)) ⟨rfl, rfl⟩ (fun w h => h.drop)
      ·
       have h14 : ¬ (((t.is.length : Nat) : Int) ≤ ((i : Nat) : Int)) := h14
       refine WPc.skip ?_
       refine Out.next ?_
       refine WPc.seq ?_
       refine WPc.perm pl1 ?_
       refine WPc.conv (fun w h => Sat.ownMk (e := 171) (k := 1) (b := g32) (m := ks.length) (cap := cg32) (xs := flatOf vcf (kp ks)) (sp := spg32) (by exact h) hng32 hlg32 hsg32 hcg32) ?_
       obtain ⟨tx, htx⟩ : ∃ k, t.ks[i]? = some k := ⟨_, List.getElem?_eq_getElem (by omega)⟩
       obtain ⟨px, hxx⟩ := ks_get hk htx
       have hm_tx := hb3 tx (List.mem_of_getElem? htx)
       have hs_tx := hm_tx.2.le
       obtain ⟨tm, htm⟩ : ∃ k, t.ks[i + 1]? = some k := ⟨_, List.getElem?_eq_getElem (by omega)⟩
       obtain ⟨pm, hxm⟩ := ks_get hk htm
       have hm_tm := hb3 tm (List.mem_of_getElem? htm)
       have hs_tm := hm_tm.2.le
       obtain ⟨y, hy⟩ : ∃ y, t.is[i]? = some y := ⟨_, List.getElem?_eq_getElem (by omega)⟩
       have hka := kp_at hxm
       refine WPc.region ?_
       refine WP.val rfl rfl rfl (Val.move rfl rfl) ?_
       refine WP.val rfl rfl rfl (Val.move rfl rfl) ?_
       refine WP.perm pl1 ?_
       refine WP.perm pl1 ?_
       refine WP.perm pl2 ?_
       refine WP.eff rfl rfl rfl (Eff.call rfl rfl Try.call127 (mchild_spec c ht p i vi (.slice (some ⟨g32, 0, none⟩) ks.length cg32) ks px tx hxx (by omega))) ?_
       rintro _ _ ⟨_, ⟨rfl, rfl⟩, rfl⟩
       show WP _ _ _ _ _ _ _ (_ :: Own 171 1 (.slice (some ⟨g32, 0, none⟩) ks.length cg32) ks.length (flatOf vcf (kp ks)) :: _)
       refine WP.val rfl rfl rfl (Val.assign rfl rfl) ?_
       refine WP.nx ?_
       refine WPc.sr ?_
       refine WP.val rfl rfl rfl (Val.move rfl rfl) ?_
       refine WP.val rfl rfl rfl (Val.nilCheck rfl rfl) ?_
       refine WP.val rfl rfl rfl (Val.fieldAddr (j := 0) rfl Ty.fo213_0 rfl rfl) ?_
       refine WP.val rfl rfl rfl (Val.move rfl rfl) ?_
       refine WP.perm pl3 ?_
       refine WP.perm pl1 ?_
       refine WP.eff rfl rfl rfl (Eff.call rfl rfl Try.call140 (rematE p vi (.slice (some ⟨g32, 0, none⟩) ks.length cg32) (.pointer (some ⟨c, 0, none⟩)) i y t.is hy (by omega))) ?_
       rintro _ _ ⟨_, ⟨wi, hwi, rfl, rfl⟩, rfl⟩
       show WP _ _ _ _ _ _ _ (Blk p [wi, .slice (some ⟨g32, 0, none⟩) ks.length cg32, .pointer (some ⟨c, 0, none⟩)] 213 :: Own 55 2 wi ((t.is).length - 1) (flatOf El.cells ((t.is).eraseIdx i)) :: _)
       refine WP.eff rfl rfl rfl (Eff.alloc rfl Ty.z55) ?_
       rintro _ _ ⟨b44, rfl, rfl⟩
       refine WP.eff0 rfl rfl (Eff.storeAgg (cs := [.int .i64 (y.k), .int .i64 (y.v)]) (C' := [.int .i64 (y.k), .int .i64 (y.v)]) rfl Ty.ag55 rfl rfl rfl rfl (by simp) rfl) ?_
       rintro _ _ rfl
       refine WP.nx ?_
       refine WPc.sr ?_
       refine WP.val rfl rfl rfl (Val.move rfl rfl) ?_
       refine WP.val rfl rfl rfl (Val.nilCheck rfl rfl) ?_
       refine WP.val rfl rfl rfl (Val.fieldAddr (j := 1) rfl Ty.fo213_1 rfl rfl) ?_
       refine WP.val rfl rfl rfl (Val.move rfl rfl) ?_
       refine WP.val rfl rfl rfl (Val.add (z := ((i + 1 : Nat) : Int)) rfl rfl rfl ((w64 (by omega) (by omega)).trans (by omega))) ?_
       refine WP.perm pl3 ?_
       refine WP.c1 (B := Own 171 1 (.slice (some ⟨g32, 0, none⟩) ks.length cg32) ((kp ks).length) (flatOf vcf (kp ks))) (fun w h => by rw [kp_len]; exact h) ?_
       refine WP.perm pl2 ?_
       refine WP.eff rfl rfl rfl (Eff.call rfl rfl Try.call144 (rematP p wi (.slice (some ⟨g32, 0, none⟩) ks.length cg32) (.pointer (some ⟨c, 0, none⟩)) (i + 1) (.pointer (some ⟨pm, 0, none⟩)) (kp ks) (kp_one _) hka (by rw [kp_len]; omega))) ?_
       rintro _ _ ⟨_, ⟨wc, hwc, rfl, rfl⟩, rfl⟩
       show WP _ _ _ _ _ _ _ (Blk p [wi, wc, .pointer (some ⟨c, 0, none⟩)] 213 :: Own 171 1 wc ((kp ks).length - 1) (flatOf vcf ((kp ks).eraseIdx (i + 1))) :: Blk b44 [.int .i64 (y.k), .int .i64 (y.v)] 55 :: _)
       refine WP.val rfl rfl rfl (Val.assign rfl rfl) ?_
       refine WP.nx ?_
       refine WPc.seq ?_
       obtain ⟨rest, hp1, hp2, hp3⟩ := pair_out (ks := ks) (i := i) (j := (i + 1)) (by omega) hxx hxm
       refine WPc.perm pl4 ?_
       refine WPc.conv (fun w h => (Sat.kPerm hp1 h).kCons) ?_
       refine WPc.perm pl1 ?_
       refine WPc.conv (fun w h => h.kCons) ?_
       show WPc _ _ _ _ _ _ (Nd c ht (pm, tm) :: Kds (Rk c (ht + 1)) rest :: Nd c ht (px, tx) :: _)
       refine WPc.perm pl2 ?_
       refine WPc.open (fun w h => h.ndOpen) ?_
       rintro ⟨vix, vcx, ksx⟩
       refine WPc.pure (fun hkx => ?_)
       obtain ⟨hkx, hlx⟩ := hkx
       dsimp only at hkx hlx
       have hklx := ks_len hkx
       show WPc _ _ _ _ _ _ (Blk px [vix, vcx, .pointer (some ⟨c, 0, none⟩)] 213 :: Own 55 2 vix tx.is.length (flatOf El.cells tx.is) :: Own 171 1 vcx ksx.length (flatOf vcf (kp ksx)) :: Kds (Rk c ht) ksx :: _)
       refine WPc.perm pl4 ?_
       refine WPc.open (fun w h => h.ndOpen) ?_
       rintro ⟨vim, vcm, ksm⟩
       refine WPc.pure (fun hkm => ?_)
       obtain ⟨hkm, hlm⟩ := hkm
       dsimp only at hkm hlm
       have hklm := ks_len hkm
       show WPc _ _ _ _ _ _ (Blk pm [vim, vcm, .pointer (some ⟨c, 0, none⟩)] 213 :: Own 55 2 vim tm.is.length (flatOf El.cells tm.is) :: Own 171 1 vcm ksm.length (flatOf vcf (kp ksm)) :: Kds (Rk c ht) ksm :: _)
       refine WPD.start (Sat W [Blk px [vix, vcx, .pointer (some ⟨c, 0, none⟩)] 213, Blk b44 [.int .i64 (y.k), .int .i64 (y.v)] 55]) Ty.mixed ?_
       refine WPD.tS 0 rfl rfl rfl rfl (fun w h => (((h.perm pl11).perm pl5)).dropEnd (L := [_, _])) (Val.move rfl rfl) ?_
       refine WPD.tS 1 rfl rfl rfl rfl (fun w h => (((h.perm pl11).perm pl5)).dropEnd (L := [_, _])) (Val.move rfl rfl) ?_
       refine WPD.tS 2 rfl rfl rfl rfl (fun w h => (((h.perm pl11).perm pl5)).dropEnd (L := [_, _])) (Val.nilCheck rfl rfl) ?_
       refine WPD.tS 3 rfl rfl rfl rfl (fun w h => (((h.perm pl11).perm pl5)).dropEnd (L := [_, _])) (Val.fieldAddr (j := 0) rfl Ty.fo213_0 rfl rfl) ?_
       refine WPD.tL 4 rfl rfl rfl rfl (fun w h => (((h.perm pl11).perm pl5)).dropEnd (L := [_, _])) (Val.load rfl Ty.sc210 rfl (fun w h => h.cell 0 rfl rfl)) ?_
       refine WPD.tL 5 rfl rfl rfl rfl (fun w h => (((h.perm pl11).perm pl5)).dropEnd (L := [_, _])) (Val.loadAgg (cs := [.int .i64 (y.k), .int .i64 (y.v)]) rfl Ty.ag55 rfl rfl (fun w h => h.range 1 rfl rfl)) ?_
       refine WPD.step 6 (by kernel_rfl) rfl rfl rfl rfl (Eff.mkSlice (C := [.int .i64 (y.k), .int .i64 (y.v)]) rfl Ty.sl210 rfl (fun _ => by kernel_rfl)) ?_
       rintro _ _ ⟨b45, rfl, rfl⟩
       refine ⟨(fun w h => (((h.perm pl12).perm pl6)).dropEnd (L := [_, _])), ?_⟩
       refine WPD.perm pl6 ?_
       refine WPD.stepC 7 (by kernel_rfl) rfl rfl rfl rfl (by kernel_rfl) (Eff.append (m := 1) (n0 := tx.is.length) (news := [.int .i64 (y.k), .int .i64 (y.v)]) rfl Ty.sl210 Ty.z55 rfl rfl rfl (.slice Ty.sl210 rfl rfl (fun w h => cells_range (h.range 1 rfl rfl))) (by omega) (by omega)) ?_
       rintro v46 _ ⟨onev46, rfl⟩
       refine ⟨_, (fun _ h => h), ?_⟩
       refine WPD.tM 8 rfl rfl rfl rfl (Val.nilCheck rfl rfl) ?_
       refine WPD.tM 9 rfl rfl rfl rfl (Val.fieldAddr (j := 0) rfl Ty.fo213_0 rfl rfl) ?_
       refine WPD.perm pl6 ?_
       refine WPD.stepC0 10 (by kernel_rfl) rfl rfl rfl (by kernel_rfl) (Eff.store rfl Ty.sc210 rfl rfl onev46 (by simp) st0) ?_
       rintro _ _ rfl
       refine ⟨_, (fun _ h => h), ?_⟩
       refine WPD.done (by kernel_rfl) ?_
       refine Out.next ?_
       refine WPc.seq ?_
       refine WPD.s0 Ty.mixed ?_
       refine WPD.tM 0 rfl rfl rfl rfl (Val.move rfl rfl) ?_
       refine WPD.tM 1 rfl rfl rfl rfl (Val.move rfl rfl) ?_
       refine WPD.tM 2 rfl rfl rfl rfl (Val.nilCheck rfl rfl) ?_
       refine WPD.tM 3 rfl rfl rfl rfl (Val.fieldAddr (j := 0) rfl Ty.fo213_0 rfl rfl) ?_
       refine WPD.tL 4 rfl rfl rfl rfl (fun _ h => h) (Val.load rfl Ty.sc210 rfl (fun w h => h.cell 0 rfl rfl)) ?_
       refine WPD.tM 5 rfl rfl rfl rfl (Val.move rfl rfl) ?_
       refine WPD.tM 6 rfl rfl rfl rfl (Val.nilCheck rfl rfl) ?_
       refine WPD.tM 7 rfl rfl rfl rfl (Val.fieldAddr (j := 0) rfl Ty.fo213_0 rfl rfl) ?_
       refine WPD.tL 8 rfl rfl rfl rfl (fun _ h => h) (Val.load rfl Ty.sc210 rfl (fun w h => h.cell 3 rfl rfl)) ?_
       refine WPD.perm pl1 ?_
       refine WPD.stepC 9 (by kernel_rfl) rfl rfl rfl rfl (by kernel_rfl) (Eff.append (m := tm.is.length) (n0 := tx.is.length + 1) (news := flatOf El.cells tm.is) rfl Ty.sl210 Ty.z55 rfl rfl rfl (Srcs.ownAt Ty.sl210 (el_one _) 4 rfl) (by omega) (by omega)) ?_
       rintro v47 _ ⟨onev47, rfl⟩
       refine ⟨_, (fun _ h => h), ?_⟩
       refine WPD.tM 10 rfl rfl rfl rfl (Val.nilCheck rfl rfl) ?_
       refine WPD.tM 11 rfl rfl rfl rfl (Val.fieldAddr (j := 0) rfl Ty.fo213_0 rfl rfl) ?_
       refine WPD.perm pl1 ?_
       refine WPD.stepC0 12 (by kernel_rfl) rfl rfl rfl (by kernel_rfl) (Eff.store rfl Ty.sc210 rfl rfl onev47 (by simp) st0) ?_
       rintro _ _ rfl
       refine ⟨_, (fun _ h => h), ?_⟩
       refine WPD.done (by kernel_rfl) ?_
       refine Out.next ?_
       refine WPc.seq ?_
       refine WPD.s0 Ty.mixed ?_
       refine WPD.tM 0 rfl rfl rfl rfl (Val.move rfl rfl) ?_
       refine WPD.tM 1 rfl rfl rfl rfl (Val.move rfl rfl) ?_
       refine WPD.tM 2 rfl rfl rfl rfl (Val.nilCheck rfl rfl) ?_
       refine WPD.tM 3 rfl rfl rfl rfl (Val.fieldAddr (j := 1) rfl Ty.fo213_1 rfl rfl) ?_
       refine WPD.tL 4 rfl rfl rfl rfl (fun _ h => h) (Val.load rfl Ty.sc211 rfl (fun w h => h.cell 0 rfl rfl)) ?_
       refine WPD.tM 5 rfl rfl rfl rfl (Val.move rfl rfl) ?_
       refine WPD.tM 6 rfl rfl rfl rfl (Val.nilCheck rfl rfl) ?_
       refine WPD.tM 7 rfl rfl rfl rfl (Val.fieldAddr (j := 1) rfl Ty.fo213_1 rfl rfl) ?_
       refine WPD.tL 8 rfl rfl rfl rfl (fun _ h => h) (Val.load rfl Ty.sc211 rfl (fun w h => h.cell 3 rfl rfl)) ?_
       refine WPD.perm pl7 ?_
       refine WPD.stepC 9 (by kernel_rfl) rfl rfl rfl rfl (by kernel_rfl) (Eff.append (m := ksm.length) (n0 := ksx.length) (news := flatOf vcf (kp ksm)) rfl Ty.sl211 Ty.z171 rfl rfl rfl (Srcs.ownAt Ty.sl211 (v_one (kp_one _)) 6 rfl) (by omega) (by omega)) ?_
       rintro v48 _ ⟨onev48, rfl⟩
       refine ⟨_, (fun _ h => h), ?_⟩
       refine WPD.tM 10 rfl rfl rfl rfl (Val.nilCheck rfl rfl) ?_
       refine WPD.tM 11 rfl rfl rfl rfl (Val.fieldAddr (j := 1) rfl Ty.fo213_1 rfl rfl) ?_
       refine WPD.perm pl1 ?_
       refine WPD.stepC0 12 (by kernel_rfl) rfl rfl rfl (by kernel_rfl) (Eff.store rfl Ty.sc211 rfl rfl onev48 (by simp) st1) ?_
       rintro _ _ rfl
       refine ⟨_, (fun _ h => h), ?_⟩
       refine WPD.done (by kernel_rfl) ?_
       refine Out.next ?_
       refine WPc.perm pl6 ?_
       refine WPc.c1 (B := Own 171 1 vcm ((kp ksm).length) (flatOf vcf (kp ksm))) (fun w h => by rw [kp_len]; exact h) ?_
       refine WPc.region ?_
       refine WP.val rfl rfl rfl (Val.move rfl rfl) ?_
       refine WP.val rfl rfl rfl (Val.nilCheck rfl rfl) ?_
       refine WP.val rfl rfl rfl (Val.fieldAddr (j := 2) rfl Ty.fo213_2 rfl rfl) ?_
       refine WP.val rfl rfl rfl (Val.load rfl Ty.sc172 rfl (fun w h => h.cell 10 rfl rfl)) ?_
       refine WP.val rfl rfl rfl (Val.move rfl rfl) ?_
       refine WP.perm pl6 ?_
       refine WP.perm pl6 ?_
       refine WP.perm pl17 ?_
       refine WP.perm pl17 ?_
       refine WP.eff rfl rfl rfl (Eff.call rfl rfl Try.call130 (cowfree_spec c f pm vim vcm tm.is (kp ksm) (kp_one _) (by omega) (by rw [kp_len]; omega))) ?_
       rintro vf _ ⟨_, ⟨-, rfl⟩, rfl⟩
       show WP _ _ _ _ _ _ _ (_ :: _ :: Blk px [v47, v48, .pointer (some ⟨c, 0, none⟩)] 213 :: Own 171 1 v48 (ksx.length + ksm.length) ((flatOf vcf (kp ksx)) ++ (flatOf vcf (kp ksm))) :: Own 55 2 v47 ((tx.is.length + 1) + tm.is.length) (((flatOf El.cells tx.is) ++ ([.int .i64 (y.k), .int .i64 (y.v)])) ++ (flatOf El.cells tm.is)) :: Blk b45 [.int .i64 (y.k), .int .i64 (y.v)] 55 :: _)
       refine WP.nx ?_
       refine WPc.seq ?_
       refine WPc.perm pl4 ?_
       refine WPc.c1 (B := Own 55 2 v47 ((tx.is ++ [y] ++ tm.is).length) (flatOf El.cells (tx.is ++ [y] ++ tm.is))) (fun w h => by rw [flatOf_append, flatOf_append, flatOf_one, List.length_append, List.length_append]; exact h) ?_
       refine WPc.perm pl6 ?_
       refine WPc.perm pl7 ?_
       refine WPc.conv (fun w h => h.kAppMk) ?_
       refine WPc.perm pl5 ?_
       refine WPc.c1 (B := Own 171 1 v48 ((ksx ++ ksm).length) (flatOf vcf (kp (ksx ++ ksm)))) (fun w h => by rw [List.length_append, kp_app, flatOf_append]; exact h) ?_
       refine WPc.perm pl1 ?_
       refine WPc.perm pl1 ?_
       refine WPc.perm pl2 ?_
       refine WPc.perm pl5 ?_
       refine WPc.conv (fun w h => Sat.ndMk (c := c) (h := ht) (t := (Tr.nd (tx.is ++ [y] ++ tm.is) (tx.ks ++ tm.ks))) (ks := (ksx ++ ksm)) (by rw [tr_ks, ← hkx, ← hkm, List.map_append]) (fun h0 => by rw [hlx h0, hlm h0]; rfl) h) ?_
       show WPc _ _ _ _ _ _ (Nd c ht (px, (Tr.nd (tx.is ++ [y] ++ tm.is) (tx.ks ++ tm.ks))) :: _)
       refine WPc.perm pl4 ?_
       refine WPc.perm pl1 ?_
       refine WPc.conv (fun w h => h.kConsMk) ?_
       refine WPc.conv (fun w h => Sat.kPerm (hp3 (px, (Tr.nd (tx.is ++ [y] ++ tm.is) (tx.ks ++ tm.ks)))).symm h) ?_
       show WPc _ _ _ _ _ _ (Kds (Rk c (ht + 1)) ((ks.eraseIdx (i + 1)).set i (px, (Tr.nd (tx.is ++ [y] ++ tm.is) (tx.ks ++ tm.ks)))) :: _)
       have hkp2 : kp ((ks.eraseIdx (i + 1)).set i (px, (Tr.nd (tx.is ++ [y] ++ tm.is) (tx.ks ++ tm.ks)))) = kp (ks.eraseIdx (i + 1)) := by rw [kp_set (t0 := tx) (by rw [List.getElem?_eraseIdx_of_lt (by omega)]; exact hxx)]
       have hln2 : ((ks.eraseIdx (i + 1)).set i (px, (Tr.nd (tx.is ++ [y] ++ tm.is) (tx.ks ++ tm.ks)))).length = ks.length - 1 := by rw [List.length_set, List.length_eraseIdx_of_lt (by omega)]
       refine WPc.perm pl5 ?_
       refine WPc.c1 (B := Own 171 1 wc (((ks.eraseIdx (i + 1)).set i (px, (Tr.nd (tx.is ++ [y] ++ tm.is) (tx.ks ++ tm.ks)))).length) (flatOf vcf (kp ((ks.eraseIdx (i + 1)).set i (px, (Tr.nd (tx.is ++ [y] ++ tm.is) (tx.ks ++ tm.ks))))))) (fun w h => by rw [kp_len ks] at h; rw [hkp2, hln2, ← kp_erase]; exact h) ?_
       refine WPc.perm pl7 ?_
       refine WPc.c1 (B := Own 55 2 wi ((t.is.eraseIdx i).length) (flatOf El.cells (t.is.eraseIdx i))) (fun w h => by rw [List.length_eraseIdx_of_lt (by omega)]; exact h) ?_
       iterate 3 (refine WPc.perm pl2 ?_)
       refine WPc.perm pl6 ?_
       refine WPc.conv (fun w h => Sat.ndMk (c := c) (h := (ht + 1)) (t := (Tr.nd (t.is.eraseIdx i) ((t.ks.eraseIdx (i + 1)).set i (Tr.nd (tx.is ++ [y] ++ tm.is) (tx.ks ++ tm.ks))))) (ks := ((ks.eraseIdx (i + 1)).set i (px, (Tr.nd (tx.is ++ [y] ++ tm.is) (tx.ks ++ tm.ks))))) (snd_set (snd_erase hk)) (fun h0 => by cases h0) h) ?_
       show WPc _ _ _ _ _ _ (Nd c (ht + 1) (p, (Tr.nd (t.is.eraseIdx i) ((t.ks.eraseIdx (i + 1)).set i (Tr.nd (tx.is ++ [y] ++ tm.is) (tx.ks ++ tm.ks))))) :: _)
       have hgr : grow m t i = (Tr.nd (t.is.eraseIdx i) ((t.ks.eraseIdx (i + 1)).set i (Tr.nd (tx.is ++ [y] ++ tm.is) (tx.ks ++ tm.ks)))) := by unfold grow; rw [if_neg (by rintro ⟨q1, q2⟩; first | omega | (rw [kid_at htl] at q2; omega)), if_neg (by rintro ⟨q1, q2⟩; first | omega | (rw [kid_at htr] at q2; omega)), if_neg (by omega)]; unfold merge; simp only [kid_at htx, kid_at htm, getD_at hy]
       rw [hgr] at hrem
       refine WPc.region ?_
       refine WP.val rfl rfl rfl (Val.move rfl rfl) ?_
       refine WP.val rfl rfl rfl (Val.loadAgg (cs := [.int .i64 (x.k), .int .i64 (x.v)]) rfl Ty.ag55 rfl rfl (fun w h => h.range 6 rfl rfl)) ?_
       refine WP.val rfl rfl rfl (Val.move rfl rfl) ?_
       refine WP.val rfl rfl rfl (Val.move rfl rfl) ?_
       iterate 3 (refine WP.perm pl2 ?_)
       refine WP.eff rfl rfl rfl (Eff.call rfl rfl Try.call128 (hrem)) ?_
       rintro _ _ ⟨_, ⟨rfl, rfl⟩, rfl⟩
       show WP _ _ _ _ _ _ _ (Nd c (ht + 1) (p, t2) :: _)
       refine WP.val rfl rfl rfl (Val.extract rfl rfl rfl) ?_
       refine WP.val rfl rfl rfl (Val.extract rfl rfl rfl) ?_
       refine WP.perm pl5 ?_
       refine WP.eff0 rfl rfl (Eff.storeAgg (cs := [.int .i64 ((o.getD El0).k), .int .i64 ((o.getD El0).v)]) (C' := [.int .i64 ((o.getD El0).k), .int .i64 ((o.getD El0).v)]) rfl Ty.ag55 rfl rfl rfl rfl (by simp) rfl) ?_
       rintro _ _ rfl
       refine WP.val rfl rfl rfl (Val.assign rfl rfl) ?_
       refine WP.nx ?_
       refine WPc.ret ?_
       iterate 3 (refine Out.perm pl4 ?_; refine Out.drop ?_)
       exact Out.retRun (L' := _) (results_ct Try.results141 rfl Ty.ag55 rfl rfl (fun w h => h.range 0 rfl rfl)) ⟨rfl, rfl⟩ (fun w h => h.drop)
    ·
     have h11 : ¬ (((i : Nat) : Int) < ((t.is.length : Nat) : Int)) := h11
     exfalso; omega
   ·
    refine WPc.region ?_
    refine WP.val rfl rfl rfl (Val.move rfl rfl) ?_
    refine WP.val rfl rfl rfl (Val.move rfl rfl) ?_
    refine WP.val rfl rfl rfl (Val.nilCheck rfl rfl) ?_
    refine WP.val rfl rfl rfl (Val.fieldAddr (j := 0) rfl Ty.fo213_0 rfl rfl) ?_
    refine WP.val rfl rfl rfl (Val.load rfl Ty.sc210 rfl (fun w h => h.cell 1 rfl rfl)) ?_
    refine WP.val rfl rfl rfl (Val.lenOwn rfl Ty.sl210 rfl (fun w h => h.at 2 rfl)) ?_
    refine WP.val rfl rfl rfl (Val.lss rfl rfl rfl) ?_
    refine WP.val rfl rfl rfl (Val.move rfl rfl) ?_
    refine WP.split 91 rfl (fun h15 => ?_) (fun h15 => ?_)
    ·
     have h15 : (((i : Nat) : Int) < ((t.is.length : Nat) : Int)) := h15
     exfalso; omega
    ·
     have h15 : ¬ (((i : Nat) : Int) < ((t.is.length : Nat) : Int)) := h15
     iterate 14 (refine WP.skip rfl rfl rfl rfl rfl rfl rfl ?_)
     refine WP.val rfl rfl rfl (Val.pickF rfl rfl rfl) ?_
     refine WP.nx ?_
     refine WPc.condF rfl rfl ?_
     refine WPc.seq ?_
     refine WPc.sr ?_
     refine WP.val rfl rfl rfl (Val.move rfl rfl) ?_
     refine WP.val rfl rfl rfl (Val.move rfl rfl) ?_
     refine WP.val rfl rfl rfl (Val.nilCheck rfl rfl) ?_
     refine WP.val rfl rfl rfl (Val.fieldAddr (j := 0) rfl Ty.fo213_0 rfl rfl) ?_
     refine WP.val rfl rfl rfl (Val.load rfl Ty.sc210 rfl (fun w h => h.cell 1 rfl rfl)) ?_
     refine WP.val rfl rfl rfl (Val.lenOwn rfl Ty.sl210 rfl (fun w h => h.at 2 rfl)) ?_
     refine WP.val rfl rfl rfl (Val.geq rfl rfl rfl) ?_
     refine WP.nx ?_
     refine WPc.ifP rfl (fun h16 => ?_) (fun h16 => ?_)
     ·
      have h16 : (((t.is.length : Nat) : Int) ≤ ((i : Nat) : Int)) := h16
      refine WPc.region ?_
      refine WP.val rfl rfl rfl (Val.move rfl rfl) ?_
      refine WP.val rfl rfl rfl (Val.sub (z := ((i - 1 : Nat) : Int)) rfl rfl rfl ((w64 (by omega) (by omega)).trans (by omega))) ?_
      refine WP.val rfl rfl rfl (Val.assign rfl rfl) ?_
      refine WP.nx ?_
      refine WPc.seq ?_
      refine WPc.conv (fun w h => Sat.ownMk (e := 171) (k := 1) (b := g32) (m := ks.length) (cap := cg32) (xs := flatOf vcf (kp ks)) (sp := spg32) (by exact h) hng32 hlg32 hsg32 hcg32) ?_
      obtain ⟨tx, htx⟩ : ∃ k, t.ks[(i - 1)]? = some k := ⟨_, List.getElem?_eq_getElem (by omega)⟩
      obtain ⟨px, hxx⟩ := ks_get hk htx
      have hm_tx := hb3 tx (List.mem_of_getElem? htx)
      have hs_tx := hm_tx.2.le
      obtain ⟨tm, htm⟩ : ∃ k, t.ks[(i - 1) + 1]? = some k := ⟨_, List.getElem?_eq_getElem (by omega)⟩
      obtain ⟨pm, hxm⟩ := ks_get hk htm
      have hm_tm := hb3 tm (List.mem_of_getElem? htm)
      have hs_tm := hm_tm.2.le
      obtain ⟨y, hy⟩ : ∃ y, t.is[(i - 1)]? = some y := ⟨_, List.getElem?_eq_getElem (by omega)⟩
      have hka := kp_at hxm
      refine WPc.region ?_
      refine WP.val rfl rfl rfl (Val.move rfl rfl) ?_
      refine WP.val rfl rfl rfl (Val.move rfl rfl) ?_
      refine WP.perm pl3 ?_
      refine WP.perm pl1 ?_
      refine WP.perm pl2 ?_
      refine WP.eff rfl rfl rfl (Eff.call rfl rfl Try.call127 (mchild_spec c ht p ((i - 1)) vi (.slice (some ⟨g32, 0, none⟩) ks.length cg32) ks px tx hxx (by omega))) ?_
      rintro _ _ ⟨_, ⟨rfl, rfl⟩, rfl⟩
      show WP _ _ _ _ _ _ _ (_ :: Own 171 1 (.slice (some ⟨g32, 0, none⟩) ks.length cg32) ks.length (flatOf vcf (kp ks)) :: _)
      refine WP.val rfl rfl rfl (Val.assign rfl rfl) ?_
      refine WP.nx ?_
      refine WPc.sr ?_
      refine WP.val rfl rfl rfl (Val.move rfl rfl) ?_
      refine WP.val rfl rfl rfl (Val.nilCheck rfl rfl) ?_
      refine WP.val rfl rfl rfl (Val.fieldAddr (j := 0) rfl Ty.fo213_0 rfl rfl) ?_
      refine WP.val rfl rfl rfl (Val.move rfl rfl) ?_
      refine WP.perm pl3 ?_
      refine WP.perm pl1 ?_
      refine WP.eff rfl rfl rfl (Eff.call rfl rfl Try.call140 (rematE p vi (.slice (some ⟨g32, 0, none⟩) ks.length cg32) (.pointer (some ⟨c, 0, none⟩)) ((i - 1)) y t.is hy (by omega))) ?_
      rintro _ _ ⟨_, ⟨wi, hwi, rfl, rfl⟩, rfl⟩
      show WP _ _ _ _ _ _ _ (Blk p [wi, .slice (some ⟨g32, 0, none⟩) ks.length cg32, .pointer (some ⟨c, 0, none⟩)] 213 :: Own 55 2 wi ((t.is).length - 1) (flatOf El.cells ((t.is).eraseIdx ((i - 1)))) :: _)
      refine WP.eff rfl rfl rfl (Eff.alloc rfl Ty.z55) ?_
      rintro _ _ ⟨b49, rfl, rfl⟩
      refine WP.eff0 rfl rfl (Eff.storeAgg (cs := [.int .i64 (y.k), .int .i64 (y.v)]) (C' := [.int .i64 (y.k), .int .i64 (y.v)]) rfl Ty.ag55 rfl rfl rfl rfl (by simp) rfl) ?_
      rintro _ _ rfl
      refine WP.nx ?_
      refine WPc.sr ?_
      refine WP.val rfl rfl rfl (Val.move rfl rfl) ?_
      refine WP.val rfl rfl rfl (Val.nilCheck rfl rfl) ?_
      refine WP.val rfl rfl rfl (Val.fieldAddr (j := 1) rfl Ty.fo213_1 rfl rfl) ?_
      refine WP.val rfl rfl rfl (Val.move rfl rfl) ?_
      refine WP.val rfl rfl rfl (Val.add (z := (((i - 1) + 1 : Nat) : Int)) rfl rfl rfl ((w64 (by omega) (by omega)).trans (by omega))) ?_
      refine WP.perm pl3 ?_
      refine WP.c1 (B := Own 171 1 (.slice (some ⟨g32, 0, none⟩) ks.length cg32) ((kp ks).length) (flatOf vcf (kp ks))) (fun w h => by rw [kp_len]; exact h) ?_
      refine WP.perm pl2 ?_
      refine WP.eff rfl rfl rfl (Eff.call rfl rfl Try.call144 (rematP p wi (.slice (some ⟨g32, 0, none⟩) ks.length cg32) (.pointer (some ⟨c, 0, none⟩)) ((i - 1) + 1) (.pointer (some ⟨pm, 0, none⟩)) (kp ks) (kp_one _) hka (by rw [kp_len]; omega))) ?_
      rintro _ _ ⟨_, ⟨wc, hwc, rfl, rfl⟩, rfl⟩
      show WP _ _ _ _ _ _ _ (Blk p [wi, wc, .pointer (some ⟨c, 0, none⟩)] 213 :: Own 171 1 wc ((kp ks).length - 1) (flatOf vcf ((kp ks).eraseIdx ((i - 1) + 1))) :: Blk b49 [.int .i64 (y.k), .int .i64 (y.v)] 55 :: _)
      refine WP.val rfl rfl rfl (Val.assign rfl rfl) ?_
      refine WP.nx ?_
      refine WPc.seq ?_
      obtain ⟨rest, hp1, hp2, hp3⟩ := pair_out (ks := ks) (i := (i - 1)) (j := ((i - 1) + 1)) (by omega) hxx hxm
      refine WPc.perm pl4 ?_
      refine WPc.conv (fun w h => (Sat.kPerm hp1 h).kCons) ?_
      refine WPc.perm pl1 ?_
      refine WPc.conv (fun w h => h.kCons) ?_
      show WPc _ _ _ _ _ _ (Nd c ht (pm, tm) :: Kds (Rk c (ht + 1)) rest :: Nd c ht (px, tx) :: _)
      refine WPc.perm pl2 ?_
      refine WPc.open (fun w h => h.ndOpen) ?_
      rintro ⟨vix, vcx, ksx⟩
      refine WPc.pure (fun hkx => ?_)
      obtain ⟨hkx, hlx⟩ := hkx
      dsimp only at hkx hlx
      have hklx := ks_len hkx
      show WPc _ _ _ _ _ _ (Blk px [vix, vcx, .pointer (some ⟨c, 0, none⟩)] 213 :: Own 55 2 vix tx.is.length (flatOf El.cells tx.is) :: Own 171 1 vcx ksx.length (flatOf vcf (kp ksx)) :: Kds (Rk c ht) ksx :: _)
      refine WPc.perm pl4 ?_
      refine WPc.open (fun w h => h.ndOpen) ?_
      rintro ⟨vim, vcm, ksm⟩
      refine WPc.pure (fun hkm => ?_)
      obtain ⟨hkm, hlm⟩ := hkm
      dsimp only at hkm hlm
      have hklm := ks_len hkm
      show WPc _ _ _ _ _ _ (Blk pm [vim, vcm, .pointer (some ⟨c, 0, none⟩)] 213 :: Own 55 2 vim tm.is.length (flatOf El.cells tm.is) :: Own 171 1 vcm ksm.length (flatOf vcf (kp ksm)) :: Kds (Rk c ht) ksm :: _)
      refine WPD.start (Sat W [Blk px [vix, vcx, .pointer (some ⟨c, 0, none⟩)] 213, Blk b49 [.int .i64 (y.k), .int .i64 (y.v)] 55]) Ty.mixed ?_
      refine WPD.tS 0 rfl rfl rfl rfl (fun w h => (((h.perm pl11).perm pl5)).dropEnd (L := [_, _])) (Val.move rfl rfl) ?_
      refine WPD.tS 1 rfl rfl rfl rfl (fun w h => (((h.perm pl11).perm pl5)).dropEnd (L := [_, _])) (Val.move rfl rfl) ?_
      refine WPD.tS 2 rfl rfl rfl rfl (fun w h => (((h.perm pl11).perm pl5)).dropEnd (L := [_, _])) (Val.nilCheck rfl rfl) ?_
      refine WPD.tS 3 rfl rfl rfl rfl (fun w h => (((h.perm pl11).perm pl5)).dropEnd (L := [_, _])) (Val.fieldAddr (j := 0) rfl Ty.fo213_0 rfl rfl) ?_
      refine WPD.tL 4 rfl rfl rfl rfl (fun w h => (((h.perm pl11).perm pl5)).dropEnd (L := [_, _])) (Val.load rfl Ty.sc210 rfl (fun w h => h.cell 0 rfl rfl)) ?_
      refine WPD.tL 5 rfl rfl rfl rfl (fun w h => (((h.perm pl11).perm pl5)).dropEnd (L := [_, _])) (Val.loadAgg (cs := [.int .i64 (y.k), .int .i64 (y.v)]) rfl Ty.ag55 rfl rfl (fun w h => h.range 1 rfl rfl)) ?_
      refine WPD.step 6 (by kernel_rfl) rfl rfl rfl rfl (Eff.mkSlice (C := [.int .i64 (y.k), .int .i64 (y.v)]) rfl Ty.sl210 rfl (fun _ => by kernel_rfl)) ?_
      rintro _ _ ⟨b50, rfl, rfl⟩
      refine ⟨(fun w h => (((h.perm pl12).perm pl6)).dropEnd (L := [_, _])), ?_⟩
      refine WPD.perm pl6 ?_
      refine WPD.stepC 7 (by kernel_rfl) rfl rfl rfl rfl (by kernel_rfl) (Eff.append (m := 1) (n0 := tx.is.length) (news := [.int .i64 (y.k), .int .i64 (y.v)]) rfl Ty.sl210 Ty.z55 rfl rfl rfl (.slice Ty.sl210 rfl rfl (fun w h => cells_range (h.range 1 rfl rfl))) (by omega) (by omega)) ?_
      rintro v51 _ ⟨onev51, rfl⟩
      refine ⟨_, (fun _ h => h), ?_⟩
      refine WPD.tM 8 rfl rfl rfl rfl (Val.nilCheck rfl rfl) ?_
      refine WPD.tM 9 rfl rfl rfl rfl (Val.fieldAddr (j := 0) rfl Ty.fo213_0 rfl rfl) ?_
      refine WPD.perm pl6 ?_
      refine WPD.stepC0 10 (by kernel_rfl) rfl rfl rfl (by kernel_rfl) (Eff.store rfl Ty.sc210 rfl rfl onev51 (by simp) st0) ?_
      rintro _ _ rfl
      refine ⟨_, (fun _ h => h), ?_⟩
      refine WPD.done (by kernel_rfl) ?_
      refine Out.next ?_
      refine WPc.seq ?_
      refine WPD.s0 Ty.mixed ?_
      refine WPD.tM 0 rfl rfl rfl rfl (Val.move rfl rfl) ?_
      refine WPD.tM 1 rfl rfl rfl rfl (Val.move rfl rfl) ?_
      refine WPD.tM 2 rfl rfl rfl rfl (Val.nilCheck rfl rfl) ?_
      refine WPD.tM 3 rfl rfl rfl rfl (Val.fieldAddr (j := 0) rfl Ty.fo213_0 rfl rfl) ?_
      refine WPD.tL 4 rfl rfl rfl rfl (fun _ h => h) (Val.load rfl Ty.sc210 rfl (fun w h => h.cell 0 rfl rfl)) ?_
      refine WPD.tM 5 rfl rfl rfl rfl (Val.move rfl rfl) ?_
      refine WPD.tM 6 rfl rfl rfl rfl (Val.nilCheck rfl rfl) ?_
      refine WPD.tM 7 rfl rfl rfl rfl (Val.fieldAddr (j := 0) rfl Ty.fo213_0 rfl rfl) ?_
      refine WPD.tL 8 rfl rfl rfl rfl (fun _ h => h) (Val.load rfl Ty.sc210 rfl (fun w h => h.cell 3 rfl rfl)) ?_
      refine WPD.perm pl1 ?_
      refine WPD.stepC 9 (by kernel_rfl) rfl rfl rfl rfl (by kernel_rfl) (Eff.append (m := tm.is.length) (n0 := tx.is.length + 1) (news := flatOf El.cells tm.is) rfl Ty.sl210 Ty.z55 rfl rfl rfl (Srcs.ownAt Ty.sl210 (el_one _) 4 rfl) (by omega) (by omega)) ?_
      rintro v52 _ ⟨onev52, rfl⟩
      refine ⟨_, (fun _ h => h), ?_⟩
      refine WPD.tM 10 rfl rfl rfl rfl (Val.nilCheck rfl rfl) ?_
      refine WPD.tM 11 rfl rfl rfl rfl (Val.fieldAddr (j := 0) rfl Ty.fo213_0 rfl rfl) ?_
      refine WPD.perm pl1 ?_
      refine WPD.stepC0 12 (by kernel_rfl) rfl rfl rfl (by kernel_rfl) (Eff.store rfl Ty.sc210 rfl rfl onev52 (by simp) st0) ?_
      rintro _ _ rfl
      refine ⟨_, (fun _ h => h), ?_⟩
      refine WPD.done (by kernel_rfl) ?_
      refine Out.next ?_
      refine WPc.seq ?_
      refine WPD.s0 Ty.mixed ?_
      refine WPD.tM 0 rfl rfl rfl rfl (Val.move rfl rfl) ?_
      refine WPD.tM 1 rfl rfl rfl rfl (Val.move rfl rfl) ?_
      refine WPD.tM 2 rfl rfl rfl rfl (Val.nilCheck rfl rfl) ?_
      refine WPD.tM 3 rfl rfl rfl rfl (Val.fieldAddr (j := 1) rfl Ty.fo213_1 rfl rfl) ?_
      refine WPD.tL 4 rfl rfl rfl rfl (fun _ h => h) (Val.load rfl Ty.sc211 rfl (fun w h => h.cell 0 rfl rfl)) ?_
      refine WPD.tM 5 rfl rfl rfl rfl (Val.move rfl rfl) ?_
      refine WPD.tM 6 rfl rfl rfl rfl (Val.nilCheck rfl rfl) ?_
      refine WPD.tM 7 rfl rfl rfl rfl (Val.fieldAddr (j := 1) rfl Ty.fo213_1 rfl rfl) ?_
      refine WPD.tL 8 rfl rfl rfl rfl (fun _ h => h) (Val.load rfl Ty.sc211 rfl (fun w h => h.cell 3 rfl rfl)) ?_
      refine WPD.perm pl7 ?_
      refine WPD.stepC 9 (by kernel_rfl) rfl rfl rfl rfl (by kernel_rfl) (Eff.append (m := ksm.length) (n0 := ksx.length) (news := flatOf vcf (kp ksm)) rfl Ty.sl211 Ty.z171 rfl rfl rfl (Srcs.ownAt Ty.sl211 (v_one (kp_one _)) 6 rfl) (by omega) (by omega)) ?_
      rintro v53 _ ⟨onev53, rfl⟩
      refine ⟨_, (fun _ h => h), ?_⟩
      refine WPD.tM 10 rfl rfl rfl rfl (Val.nilCheck rfl rfl) ?_
      refine WPD.tM 11 rfl rfl rfl rfl (Val.fieldAddr (j := 1) rfl Ty.fo213_1 rfl rfl) ?_
      refine WPD.perm pl1 ?_
      refine WPD.stepC0 12 (by kernel_rfl) rfl rfl rfl (by kernel_rfl) (Eff.store rfl Ty.sc211 rfl rfl onev53 (by simp) st1) ?_
      rintro _ _ rfl
      refine ⟨_, (fun _ h => h), ?_⟩
      refine WPD.done (by kernel_rfl) ?_
      refine Out.next ?_
      refine WPc.perm pl6 ?_
      refine WPc.c1 (B := Own 171 1 vcm ((kp ksm).length) (flatOf vcf (kp ksm))) (fun w h => by rw [kp_len]; exact h) ?_
      refine WPc.region ?_
      refine WP.val rfl rfl rfl (Val.move rfl rfl) ?_
      refine WP.val rfl rfl rfl (Val.nilCheck rfl rfl) ?_
      refine WP.val rfl rfl rfl (Val.fieldAddr (j := 2) rfl Ty.fo213_2 rfl rfl) ?_
      refine WP.val rfl rfl rfl (Val.load rfl Ty.sc172 rfl (fun w h => h.cell 10 rfl rfl)) ?_
      refine WP.val rfl rfl rfl (Val.move rfl rfl) ?_
      refine WP.perm pl6 ?_
      refine WP.perm pl6 ?_
      refine WP.perm pl17 ?_
      refine WP.perm pl17 ?_
      refine WP.eff rfl rfl rfl (Eff.call rfl rfl Try.call130 (cowfree_spec c f pm vim vcm tm.is (kp ksm) (kp_one _) (by omega) (by rw [kp_len]; omega))) ?_
      rintro vf _ ⟨_, ⟨-, rfl⟩, rfl⟩
      show WP _ _ _ _ _ _ _ (_ :: _ :: Blk px [v52, v53, .pointer (some ⟨c, 0, none⟩)] 213 :: Own 171 1 v53 (ksx.length + ksm.length) ((flatOf vcf (kp ksx)) ++ (flatOf vcf (kp ksm))) :: Own 55 2 v52 ((tx.is.length + 1) + tm.is.length) (((flatOf El.cells tx.is) ++ ([.int .i64 (y.k), .int .i64 (y.v)])) ++ (flatOf El.cells tm.is)) :: Blk b50 [.int .i64 (y.k), .int .i64 (y.v)] 55 :: _)
      refine WP.nx ?_
      refine WPc.seq ?_
      refine WPc.perm pl4 ?_
      refine WPc.c1 (B := Own 55 2 v52 ((tx.is ++ [y] ++ tm.is).length) (flatOf El.cells (tx.is ++ [y] ++ tm.is))) (fun w h => by rw [flatOf_append, flatOf_append, flatOf_one, List.length_append, List.length_append]; exact h) ?_
      refine WPc.perm pl6 ?_
      refine WPc.perm pl7 ?_
      refine WPc.conv (fun w h => h.kAppMk) ?_
      refine WPc.perm pl5 ?_
      refine WPc.c1 (B := Own 171 1 v53 ((ksx ++ ksm).length) (flatOf vcf (kp (ksx ++ ksm)))) (fun w h => by rw [List.length_append, kp_app, flatOf_append]; exact h) ?_
      refine WPc.perm pl1 ?_
      refine WPc.perm pl1 ?_
      refine WPc.perm pl2 ?_
      refine WPc.perm pl5 ?_
      refine WPc.conv (fun w h => Sat.ndMk (c := c) (h := ht) (t := (Tr.nd (tx.is ++ [y] ++ tm.is) (tx.ks ++ tm.ks))) (ks := (ksx ++ ksm)) (by rw [tr_ks, ← hkx, ← hkm, List.map_append]) (fun h0 => by rw [hlx h0, hlm h0]; rfl) h) ?_
      show WPc _ _ _ _ _ _ (Nd c ht (px, (Tr.nd (tx.is ++ [y] ++ tm.is) (tx.ks ++ tm.ks))) :: _)
      refine WPc.perm pl4 ?_
      refine WPc.perm pl1 ?_
      refine WPc.conv (fun w h => h.kConsMk) ?_
      refine WPc.conv (fun w h => Sat.kPerm (hp3 (px, (Tr.nd (tx.is ++ [y] ++ tm.is) (tx.ks ++ tm.ks)))).symm h) ?_
      show WPc _ _ _ _ _ _ (Kds (Rk c (ht + 1)) ((ks.eraseIdx ((i - 1) + 1)).set (i - 1) (px, (Tr.nd (tx.is ++ [y] ++ tm.is) (tx.ks ++ tm.ks)))) :: _)
      have hkp2 : kp ((ks.eraseIdx ((i - 1) + 1)).set (i - 1) (px, (Tr.nd (tx.is ++ [y] ++ tm.is) (tx.ks ++ tm.ks)))) = kp (ks.eraseIdx ((i - 1) + 1)) := by rw [kp_set (t0 := tx) (by rw [List.getElem?_eraseIdx_of_lt (by omega)]; exact hxx)]
      have hln2 : ((ks.eraseIdx ((i - 1) + 1)).set (i - 1) (px, (Tr.nd (tx.is ++ [y] ++ tm.is) (tx.ks ++ tm.ks)))).length = ks.length - 1 := by rw [List.length_set, List.length_eraseIdx_of_lt (by omega)]
      refine WPc.perm pl5 ?_
      refine WPc.c1 (B := Own 171 1 wc (((ks.eraseIdx ((i - 1) + 1)).set (i - 1) (px, (Tr.nd (tx.is ++ [y] ++ tm.is) (tx.ks ++ tm.ks)))).length) (flatOf vcf (kp ((ks.eraseIdx ((i - 1) + 1)).set (i - 1) (px, (Tr.nd (tx.is ++ [y] ++ tm.is) (tx.ks ++ tm.ks))))))) (fun w h => by rw [kp_len ks] at h; rw [hkp2, hln2, ← kp_erase]; exact h) ?_
      refine WPc.perm pl7 ?_
      refine WPc.c1 (B := Own 55 2 wi ((t.is.eraseIdx (i - 1)).length) (flatOf El.cells (t.is.eraseIdx (i - 1)))) (fun w h => by rw [List.length_eraseIdx_of_lt (by omega)]; exact h) ?_
      iterate 3 (refine WPc.perm pl2 ?_)
      refine WPc.perm pl6 ?_
      refine WPc.conv (fun w h => Sat.ndMk (c := c) (h := (ht + 1)) (t := (Tr.nd (t.is.eraseIdx (i - 1)) ((t.ks.eraseIdx ((i - 1) + 1)).set (i - 1) (Tr.nd (tx.is ++ [y] ++ tm.is) (tx.ks ++ tm.ks))))) (ks := ((ks.eraseIdx ((i - 1) + 1)).set (i - 1) (px, (Tr.nd (tx.is ++ [y] ++ tm.is) (tx.ks ++ tm.ks))))) (snd_set (snd_erase hk)) (fun h0 => by cases h0) h) ?_
      show WPc _ _ _ _ _ _ (Nd c (ht + 1) (p, (Tr.nd (t.is.eraseIdx (i - 1)) ((t.ks.eraseIdx ((i - 1) + 1)).set (i - 1) (Tr.nd (tx.is ++ [y] ++ tm.is) (tx.ks ++ tm.ks))))) :: _)
      have hgr : grow m t i = (Tr.nd (t.is.eraseIdx (i - 1)) ((t.ks.eraseIdx ((i - 1) + 1)).set (i - 1) (Tr.nd (tx.is ++ [y] ++ tm.is) (tx.ks ++ tm.ks)))) := by unfold grow; rw [if_neg (by rintro ⟨q1, q2⟩; first | omega | (rw [kid_at htl] at q2; omega)), if_neg (by rintro ⟨q1, q2⟩; first | omega | (rw [kid_at htr] at q2; omega)), if_pos (by omega)]; unfold merge; simp only [kid_at htx, kid_at htm, getD_at hy]
      rw [hgr] at hrem
      refine WPc.region ?_
      refine WP.val rfl rfl rfl (Val.move rfl rfl) ?_
      refine WP.val rfl rfl rfl (Val.loadAgg (cs := [.int .i64 (x.k), .int .i64 (x.v)]) rfl Ty.ag55 rfl rfl (fun w h => h.range 6 rfl rfl)) ?_
      refine WP.val rfl rfl rfl (Val.move rfl rfl) ?_
      refine WP.val rfl rfl rfl (Val.move rfl rfl) ?_
      iterate 3 (refine WP.perm pl2 ?_)
      refine WP.eff rfl rfl rfl (Eff.call rfl rfl Try.call128 (hrem)) ?_
      rintro _ _ ⟨_, ⟨rfl, rfl⟩, rfl⟩
      show WP _ _ _ _ _ _ _ (Nd c (ht + 1) (p, t2) :: _)
      refine WP.val rfl rfl rfl (Val.extract rfl rfl rfl) ?_
      refine WP.val rfl rfl rfl (Val.extract rfl rfl rfl) ?_
      refine WP.perm pl5 ?_
      refine WP.eff0 rfl rfl (Eff.storeAgg (cs := [.int .i64 ((o.getD El0).k), .int .i64 ((o.getD El0).v)]) (C' := [.int .i64 ((o.getD El0).k), .int .i64 ((o.getD El0).v)]) rfl Ty.ag55 rfl rfl rfl rfl (by simp) rfl) ?_
      rintro _ _ rfl
      refine WP.val rfl rfl rfl (Val.assign rfl rfl) ?_
      refine WP.nx ?_
      refine WPc.ret ?_
      iterate 3 (refine Out.perm pl4 ?_; refine Out.drop ?_)
      exact Out.retRun (L' := _) (results_ct Try.results141 rfl Ty.ag55 rfl rfl (fun w h => h.range 0 rfl rfl)) ⟨rfl, rfl⟩ (fun w h => h.drop)
     ·
      have h16 : ¬ (((t.is.length : Nat) : Int) ≤ ((i : Nat) : Int)) := h16
      refine WPc.skip ?_
      refine Out.next ?_
      refine WPc.seq ?_
      refine WPc.conv (fun w h => Sat.ownMk (e := 171) (k := 1) (b := g32) (m := ks.length) (cap := cg32) (xs := flatOf vcf (kp ks)) (sp := spg32) (by exact h) hng32 hlg32 hsg32 hcg32) ?_
      obtain ⟨tx, htx⟩ : ∃ k, t.ks[i]? = some k := ⟨_, List.getElem?_eq_getElem (by omega)⟩
      obtain ⟨px, hxx⟩ := ks_get hk htx
      have hm_tx := hb3 tx (List.mem_of_getElem? htx)
      have hs_tx := hm_tx.2.le
      obtain ⟨tm, htm⟩ : ∃ k, t.ks[i + 1]? = some k := ⟨_, List.getElem?_eq_getElem (by omega)⟩
      obtain ⟨pm, hxm⟩ := ks_get hk htm
      have hm_tm := hb3 tm (List.mem_of_getElem? htm)
      have hs_tm := hm_tm.2.le
      obtain ⟨y, hy⟩ : ∃ y, t.is[i]? = some y := ⟨_, List.getElem?_eq_getElem (by omega)⟩
      have hka := kp_at hxm
      refine WPc.region ?_
      refine WP.val rfl rfl rfl (Val.move rfl rfl) ?_
      refine WP.val rfl rfl rfl (Val.move rfl rfl) ?_
      refine WP.perm pl3 ?_
      refine WP.perm pl1 ?_
      refine WP.perm pl2 ?_
      refine WP.eff rfl rfl rfl (Eff.call rfl rfl Try.call127 (mchild_spec c ht p i vi (.slice (some ⟨g32, 0, none⟩) ks.length cg32) ks px tx hxx (by omega))) ?_
      rintro _ _ ⟨_, ⟨rfl, rfl⟩, rfl⟩
      show WP _ _ _ _ _ _ _ (_ :: Own 171 1 (.slice (some ⟨g32, 0, none⟩) ks.length cg32) ks.length (flatOf vcf (kp ks)) :: _)
      refine WP.val rfl rfl rfl (Val.assign rfl rfl) ?_
      refine WP.nx ?_
      refine WPc.sr ?_
      refine WP.val rfl rfl rfl (Val.move rfl rfl) ?_
      refine WP.val rfl rfl rfl (Val.nilCheck rfl rfl) ?_
      refine WP.val rfl rfl rfl (Val.fieldAddr (j := 0) rfl Ty.fo213_0 rfl rfl) ?_
      refine WP.val rfl rfl rfl (Val.move rfl rfl) ?_
      refine WP.perm pl3 ?_
      refine WP.perm pl1 ?_
      refine WP.eff rfl rfl rfl (Eff.call rfl rfl Try.call140 (rematE p vi (.slice (some ⟨g32, 0, none⟩) ks.length cg32) (.pointer (some ⟨c, 0, none⟩)) i y t.is hy (by omega))) ?_
      rintro _ _ ⟨_, ⟨wi, hwi, rfl, rfl⟩, rfl⟩
      show WP _ _ _ _ _ _ _ (Blk p [wi, .slice (some ⟨g32, 0, none⟩) ks.length cg32, .pointer (some ⟨c, 0, none⟩)] 213 :: Own 55 2 wi ((t.is).length - 1) (flatOf El.cells ((t.is).eraseIdx i)) :: _)
      refine WP.eff rfl rfl rfl (Eff.alloc rfl Ty.z55) ?_
      rintro _ _ ⟨b54, rfl, rfl⟩
      refine WP.eff0 rfl rfl (Eff.storeAgg (cs := [.int .i64 (y.k), .int .i64 (y.v)]) (C' := [.int .i64 (y.k), .int .i64 (y.v)]) rfl Ty.ag55 rfl rfl rfl rfl (by simp) rfl) ?_
      rintro _ _ rfl
      refine WP.nx ?_
      refine WPc.sr ?_
      refine WP.val rfl rfl rfl (Val.move rfl rfl) ?_
      refine WP.val rfl rfl rfl (Val.nilCheck rfl rfl) ?_
      refine WP.val rfl rfl rfl (Val.fieldAddr (j := 1) rfl Ty.fo213_1 rfl rfl) ?_
      refine WP.val rfl rfl rfl (Val.move rfl rfl) ?_
      refine WP.val rfl rfl rfl (Val.add (z := ((i + 1 : Nat) : Int)) rfl rfl rfl ((w64 (by omega) (by omega)).trans (by omega))) ?_
      refine WP.perm pl3 ?_
      refine WP.c1 (B := Own 171 1 (.slice (some ⟨g32, 0, none⟩) ks.length cg32) ((kp ks).length) (flatOf vcf (kp ks))) (fun w h => by rw [kp_len]; exact h) ?_
      refine WP.perm pl2 ?_
      refine WP.eff rfl rfl rfl (Eff.call rfl rfl Try.call144 (rematP p wi (.slice (some ⟨g32, 0, none⟩) ks.length cg32) (.pointer (some ⟨c, 0, none⟩)) (i + 1) (.pointer (some ⟨pm, 0, none⟩)) (kp ks) (kp_one _) hka (by rw [kp_len]; omega))) ?_
      rintro _ _ ⟨_, ⟨wc, hwc, rfl, rfl⟩, rfl⟩
      show WP _ _ _ _ _ _ _ (Blk p [wi, wc, .pointer (some ⟨c, 0, none⟩)] 213 :: Own 171 1 wc ((kp ks).length - 1) (flatOf vcf ((kp ks).eraseIdx (i + 1))) :: Blk b54 [.int .i64 (y.k), .int .i64 (y.v)] 55 :: _)
      refine WP.val rfl rfl rfl (Val.assign rfl rfl) ?_
      refine WP.nx ?_
      refine WPc.seq ?_
      obtain ⟨rest, hp1, hp2, hp3⟩ := pair_out (ks := ks) (i := i) (j := (i + 1)) (by omega) hxx hxm
      refine WPc.perm pl4 ?_
      refine WPc.conv (fun w h => (Sat.kPerm hp1 h).kCons) ?_
      refine WPc.perm pl1 ?_
      refine WPc.conv (fun w h => h.kCons) ?_
      show WPc _ _ _ _ _ _ (Nd c ht (pm, tm) :: Kds (Rk c (ht + 1)) rest :: Nd c ht (px, tx) :: _)
      refine WPc.perm pl2 ?_
      refine WPc.open (fun w h => h.ndOpen) ?_
      rintro ⟨vix, vcx, ksx⟩
      refine WPc.pure (fun hkx => ?_)
      obtain ⟨hkx, hlx⟩ := hkx
      dsimp only at hkx hlx
      have hklx := ks_len hkx
      show WPc _ _ _ _ _ _ (Blk px [vix, vcx, .pointer (some ⟨c, 0, none⟩)] 213 :: Own 55 2 vix tx.is.length (flatOf El.cells tx.is) :: Own 171 1 vcx ksx.length (flatOf vcf (kp ksx)) :: Kds (Rk c ht) ksx :: _)
      refine WPc.perm pl4 ?_
      refine WPc.open (fun w h => h.ndOpen) ?_
      rintro ⟨vim, vcm, ksm⟩
      refine WPc.pure (fun hkm => ?_)
      obtain ⟨hkm, hlm⟩ := hkm
      dsimp only at hkm hlm
      have hklm := ks_len hkm
      show WPc _ _ _ _ _ _ (Blk pm [vim, vcm, .pointer (some ⟨c, 0, none⟩)] 213 :: Own 55 2 vim tm.is.length (flatOf El.cells tm.is) :: Own 171 1 vcm ksm.length (flatOf vcf (kp ksm)) :: Kds (Rk c ht) ksm :: _)
      refine WPD.start (Sat W [Blk px [vix, vcx, .pointer (some ⟨c, 0, none⟩)] 213, Blk b54 [.int .i64 (y.k), .int .i64 (y.v)] 55]) Ty.mixed ?_
      refine WPD.tS 0 rfl rfl rfl rfl (fun w h => (((h.perm pl11).perm pl5)).dropEnd (L := [_, _])) (Val.move rfl rfl) ?_
      refine WPD.tS 1 rfl rfl rfl rfl (fun w h => (((h.perm pl11).perm pl5)).dropEnd (L := [_, _])) (Val.move rfl rfl) ?_
      refine WPD.tS 2 rfl rfl rfl rfl (fun w h => (((h.perm pl11).perm pl5)).dropEnd (L := [_, _])) (Val.nilCheck rfl rfl) ?_
      refine WPD.tS 3 rfl rfl rfl rfl (fun w h => (((h.perm pl11).perm pl5)).dropEnd (L := [_, _])) (Val.fieldAddr (j := 0) rfl Ty.fo213_0 rfl rfl) ?_
      refine WPD.tL 4 rfl rfl rfl rfl (fun w h => (((h.perm pl11).perm pl5)).dropEnd (L := [_, _])) (Val.load rfl Ty.sc210 rfl (fun w h => h.cell 0 rfl rfl)) ?_
      refine WPD.tL 5 rfl rfl rfl rfl (fun w h => (((h.perm pl11).perm pl5)).dropEnd (L := [_, _])) (Val.loadAgg (cs := [.int .i64 (y.k), .int .i64 (y.v)]) rfl Ty.ag55 rfl rfl (fun w h => h.range 1 rfl rfl)) ?_
      refine WPD.step 6 (by kernel_rfl) rfl rfl rfl rfl (Eff.mkSlice (C := [.int .i64 (y.k), .int .i64 (y.v)]) rfl Ty.sl210 rfl (fun _ => by kernel_rfl)) ?_
      rintro _ _ ⟨b55, rfl, rfl⟩
      refine ⟨(fun w h => (((h.perm pl12).perm pl6)).dropEnd (L := [_, _])), ?_⟩
      refine WPD.perm pl6 ?_
      refine WPD.stepC 7 (by kernel_rfl) rfl rfl rfl rfl (by kernel_rfl) (Eff.append (m := 1) (n0 := tx.is.length) (news := [.int .i64 (y.k), .int .i64 (y.v)]) rfl Ty.sl210 Ty.z55 rfl rfl rfl (.slice Ty.sl210 rfl rfl (fun w h => cells_range (h.range 1 rfl rfl))) (by omega) (by omega)) ?_
      rintro v56 _ ⟨onev56, rfl⟩
      refine ⟨_, (fun _ h => h), ?_⟩
      refine WPD.tM 8 rfl rfl rfl rfl (Val.nilCheck rfl rfl) ?_
      refine WPD.tM 9 rfl rfl rfl rfl (Val.fieldAddr (j := 0) rfl Ty.fo213_0 rfl rfl) ?_
      refine WPD.perm pl6 ?_
      refine WPD.stepC0 10 (by kernel_rfl) rfl rfl rfl (by kernel_rfl) (Eff.store rfl Ty.sc210 rfl rfl onev56 (by simp) st0) ?_
      rintro _ _ rfl
      refine ⟨_, (fun _ h => h), ?_⟩
      refine WPD.done (by kernel_rfl) ?_
      refine Out.next ?_
      refine WPc.seq ?_
      refine WPD.s0 Ty.mixed ?_
      refine WPD.tM 0 rfl rfl rfl rfl (Val.move rfl rfl) ?_
      refine WPD.tM 1 rfl rfl rfl rfl (Val.move rfl rfl) ?_
      refine WPD.tM 2 rfl rfl rfl rfl (Val.nilCheck rfl rfl) ?_
      refine WPD.tM 3 rfl rfl rfl rfl (Val.fieldAddr (j := 0) rfl Ty.fo213_0 rfl rfl) ?_
      refine WPD.tL 4 rfl rfl rfl rfl (fun _ h => h) (Val.load rfl Ty.sc210 rfl (fun w h => h.cell 0 rfl rfl)) ?_
      refine WPD.tM 5 rfl rfl rfl rfl (Val.move rfl rfl) ?_
      refine WPD.tM 6 rfl rfl rfl rfl (Val.nilCheck rfl rfl) ?_
      refine WPD.tM 7 rfl rfl rfl rfl (Val.fieldAddr (j := 0) rfl Ty.fo213_0 rfl rfl) ?_
      refine WPD.tL 8 rfl rfl rfl rfl (fun _ h => h) (Val.load rfl Ty.sc210 rfl (fun w h => h.cell 3 rfl rfl)) ?_
      refine WPD.perm pl1 ?_
      refine WPD.stepC 9 (by kernel_rfl) rfl rfl rfl rfl (by kernel_rfl) (Eff.append (m := tm.is.length) (n0 := tx.is.length + 1) (news := flatOf El.cells tm.is) rfl Ty.sl210 Ty.z55 rfl rfl rfl (Srcs.ownAt Ty.sl210 (el_one _) 4 rfl) (by omega) (by omega)) ?_
      rintro v57 _ ⟨onev57, rfl⟩
      refine ⟨_, (fun _ h => h), ?_⟩
      refine WPD.tM 10 rfl rfl rfl rfl (Val.nilCheck rfl rfl) ?_
      refine WPD.tM 11 rfl rfl rfl rfl (Val.fieldAddr (j := 0) rfl Ty.fo213_0 rfl rfl) ?_
      refine WPD.perm pl1 ?_
      refine WPD.stepC0 12 (by kernel_rfl) rfl rfl rfl (by kernel_rfl) (Eff.store rfl Ty.sc210 rfl rfl onev57 (by simp) st0) ?_
      rintro _ _ rfl
      refine ⟨_, (fun _ h => h), ?_⟩
      refine WPD.done (by kernel_rfl) ?_
      refine Out.next ?_
      refine WPc.seq ?_
      refine WPD.s0 Ty.mixed ?_
      refine WPD.tM 0 rfl rfl rfl rfl (Val.move rfl rfl) ?_
      refine WPD.tM 1 rfl rfl rfl rfl (Val.move rfl rfl) ?_
      refine WPD.tM 2 rfl rfl rfl rfl (Val.nilCheck rfl rfl) ?_
      refine WPD.tM 3 rfl rfl rfl rfl (Val.fieldAddr (j := 1) rfl Ty.fo213_1 rfl rfl) ?_
      refine WPD.tL 4 rfl rfl rfl rfl (fun _ h => h) (Val.load rfl Ty.sc211 rfl (fun w h => h.cell 0 rfl rfl)) ?_
      refine WPD.tM 5 rfl rfl rfl rfl (Val.move rfl rfl) ?_
      refine WPD.tM 6 rfl rfl rfl rfl (Val.nilCheck rfl rfl) ?_
      refine WPD.tM 7 rfl rfl rfl rfl (Val.fieldAddr (j := 1) rfl Ty.fo213_1 rfl rfl) ?_
      refine WPD.tL 8 rfl rfl rfl rfl (fun _ h => h) (Val.load rfl Ty.sc211 rfl (fun w h => h.cell 3 rfl rfl)) ?_
      refine WPD.perm pl7 ?_
      refine WPD.stepC 9 (by kernel_rfl) rfl rfl rfl rfl (by kernel_rfl) (Eff.append (m := ksm.length) (n0 := ksx.length) (news := flatOf vcf (kp ksm)) rfl Ty.sl211 Ty.z171 rfl rfl rfl (Srcs.ownAt Ty.sl211 (v_one (kp_one _)) 6 rfl) (by omega) (by omega)) ?_
      rintro v58 _ ⟨onev58, rfl⟩
      refine ⟨_, (fun _ h => h), ?_⟩
      refine WPD.tM 10 rfl rfl rfl rfl (Val.nilCheck rfl rfl) ?_
      refine WPD.tM 11 rfl rfl rfl rfl (Val.fieldAddr (j := 1) rfl Ty.fo213_1 rfl rfl) ?_
      refine WPD.perm pl1 ?_
      refine WPD.stepC0 12 (by kernel_rfl) rfl rfl rfl (by kernel_rfl) (Eff.store rfl Ty.sc211 rfl rfl onev58 (by simp) st1) ?_
      rintro _ _ rfl
      refine ⟨_, (fun _ h => h), ?_⟩
      refine WPD.done (by kernel_rfl) ?_
      refine Out.next ?_
      refine WPc.perm pl6 ?_
      refine WPc.c1 (B := Own 171 1 vcm ((kp ksm).length) (flatOf vcf (kp ksm))) (fun w h => by rw [kp_len]; exact h) ?_
      refine WPc.region ?_
      refine WP.val rfl rfl rfl (Val.move rfl rfl) ?_
      refine WP.val rfl rfl rfl (Val.nilCheck rfl rfl) ?_
      refine WP.val rfl rfl rfl (Val.fieldAddr (j := 2) rfl Ty.fo213_2 rfl rfl) ?_
      refine WP.val rfl rfl rfl (Val.load rfl Ty.sc172 rfl (fun w h => h.cell 10 rfl rfl)) ?_
      refine WP.val rfl rfl rfl (Val.move rfl rfl) ?_
      refine WP.perm pl6 ?_
      refine WP.perm pl6 ?_
      refine WP.perm pl17 ?_
      refine WP.perm pl17 ?_
      refine WP.eff rfl rfl rfl (Eff.call rfl rfl Try.call130 (cowfree_spec c f pm vim vcm tm.is (kp ksm) (kp_one _) (by omega) (by rw [kp_len]; omega))) ?_
      rintro vf _ ⟨_, ⟨-, rfl⟩, rfl⟩
      show WP _ _ _ _ _ _ _ (_ :: _ :: Blk px [v57, v58, .pointer (some ⟨c, 0, none⟩)] 213 :: Own 171 1 v58 (ksx.length + ksm.length) ((flatOf vcf (kp ksx)) ++ (flatOf vcf (kp ksm))) :: Own 55 2 v57 ((tx.is.length + 1) + tm.is.length) (((flatOf El.cells tx.is) ++ ([.int .i64 (y.k), .int .i64 (y.v)])) ++ (flatOf El.cells tm.is)) :: Blk b55 [.int .i64 (y.k), .int .i64 (y.v)] 55 :: _)
      refine WP.nx ?_
      refine WPc.seq ?_
      refine WPc.perm pl4 ?_
      refine WPc.c1 (B := Own 55 2 v57 ((tx.is ++ [y] ++ tm.is).length) (flatOf El.cells (tx.is ++ [y] ++ tm.is))) (fun w h => by rw [flatOf_append, flatOf_append, flatOf_one, List.length_append, List.length_append]; exact h) ?_
      refine WPc.perm pl6 ?_
      refine WPc.perm pl7 ?_
      refine WPc.conv (fun w h => h.kAppMk) ?_
      refine WPc.perm pl5 ?_
      refine WPc.c1 (B := Own 171 1 v58 ((ksx ++ ksm).length) (flatOf vcf (kp (ksx ++ ksm)))) (fun w h => by rw [List.length_append, kp_app, flatOf_append]; exact h) ?_
      refine WPc.perm pl1 ?_
      refine WPc.perm pl1 ?_
      refine WPc.perm pl2 ?_
      refine WPc.perm pl5 ?_
      refine WPc.conv (fun w h => Sat.ndMk (c := c) (h := ht) (t := (Tr.nd (tx.is ++ [y] ++ tm.is) (tx.ks ++ tm.ks))) (ks := (ksx ++ ksm)) (by rw [tr_ks, ← hkx, ← hkm, List.map_append]) (fun h0 => by rw [hlx h0, hlm h0]; rfl) h) ?_
      show WPc _ _ _ _ _ _ (Nd c ht (px, (Tr.nd (tx.is ++ [y] ++ tm.is) (tx.ks ++ tm.ks))) :: _)
      refine WPc.perm pl4 ?_
      refine WPc.perm pl1 ?_
      refine WPc.conv (fun w h => h.kConsMk) ?_
      refine WPc.conv (fun w h => Sat.kPerm (hp3 (px, (Tr.nd (tx.is ++ [y] ++ tm.is) (tx.ks ++ tm.ks)))).symm h) ?_
      show WPc _ _ _ _ _ _ (Kds (Rk c (ht + 1)) ((ks.eraseIdx (i + 1)).set i (px, (Tr.nd (tx.is ++ [y] ++ tm.is) (tx.ks ++ tm.ks)))) :: _)
      have hkp2 : kp ((ks.eraseIdx (i + 1)).set i (px, (Tr.nd (tx.is ++ [y] ++ tm.is) (tx.ks ++ tm.ks)))) = kp (ks.eraseIdx (i + 1)) := by rw [kp_set (t0 := tx) (by rw [List.getElem?_eraseIdx_of_lt (by omega)]; exact hxx)]
      have hln2 : ((ks.eraseIdx (i + 1)).set i (px, (Tr.nd (tx.is ++ [y] ++ tm.is) (tx.ks ++ tm.ks)))).length = ks.length - 1 := by rw [List.length_set, List.length_eraseIdx_of_lt (by omega)]
      refine WPc.perm pl5 ?_
      refine WPc.c1 (B := Own 171 1 wc (((ks.eraseIdx (i + 1)).set i (px, (Tr.nd (tx.is ++ [y] ++ tm.is) (tx.ks ++ tm.ks)))).length) (flatOf vcf (kp ((ks.eraseIdx (i + 1)).set i (px, (Tr.nd (tx.is ++ [y] ++ tm.is) (tx.ks ++ tm.ks))))))) (fun w h => by rw [kp_len ks] at h; rw [hkp2, hln2, ← kp_erase]; exact h) ?_
      refine WPc.perm pl7 ?_
      refine WPc.c1 (B := Own 55 2 wi ((t.is.eraseIdx i).length) (flatOf El.cells (t.is.eraseIdx i))) (fun w h => by rw [List.length_eraseIdx_of_lt (by omega)]; exact h) ?_
      iterate 3 (refine WPc.perm pl2 ?_)
      refine WPc.perm pl6 ?_
      refine WPc.conv (fun w h => Sat.ndMk (c := c) (h := (ht + 1)) (t := (Tr.nd (t.is.eraseIdx i) ((t.ks.eraseIdx (i + 1)).set i (Tr.nd (tx.is ++ [y] ++ tm.is) (tx.ks ++ tm.ks))))) (ks := ((ks.eraseIdx (i + 1)).set i (px, (Tr.nd (tx.is ++ [y] ++ tm.is) (tx.ks ++ tm.ks))))) (snd_set (snd_erase hk)) (fun h0 => by cases h0) h) ?_
      show WPc _ _ _ _ _ _ (Nd c (ht + 1) (p, (Tr.nd (t.is.eraseIdx i) ((t.ks.eraseIdx (i + 1)).set i (Tr.nd (tx.is ++ [y] ++ tm.is) (tx.ks ++ tm.ks))))) :: _)
      have hgr : grow m t i = (Tr.nd (t.is.eraseIdx i) ((t.ks.eraseIdx (i + 1)).set i (Tr.nd (tx.is ++ [y] ++ tm.is) (tx.ks ++ tm.ks)))) := by unfold grow; rw [if_neg (by rintro ⟨q1, q2⟩; first | omega | (rw [kid_at htl] at q2; omega)), if_neg (by rintro ⟨q1, q2⟩; first | omega | (rw [kid_at htr] at q2; omega)), if_neg (by omega)]; unfold merge; simp only [kid_at htx, kid_at htm, getD_at hy]
      rw [hgr] at hrem
      refine WPc.region ?_
      refine WP.val rfl rfl rfl (Val.move rfl rfl) ?_
      refine WP.val rfl rfl rfl (Val.loadAgg (cs := [.int .i64 (x.k), .int .i64 (x.v)]) rfl Ty.ag55 rfl rfl (fun w h => h.range 6 rfl rfl)) ?_
      refine WP.val rfl rfl rfl (Val.move rfl rfl) ?_
      refine WP.val rfl rfl rfl (Val.move rfl rfl) ?_
      iterate 3 (refine WP.perm pl2 ?_)
      refine WP.eff rfl rfl rfl (Eff.call rfl rfl Try.call128 (hrem)) ?_
      rintro _ _ ⟨_, ⟨rfl, rfl⟩, rfl⟩
      show WP _ _ _ _ _ _ _ (Nd c (ht + 1) (p, t2) :: _)
      refine WP.val rfl rfl rfl (Val.extract rfl rfl rfl) ?_
      refine WP.val rfl rfl rfl (Val.extract rfl rfl rfl) ?_
      refine WP.perm pl5 ?_
      refine WP.eff0 rfl rfl (Eff.storeAgg (cs := [.int .i64 ((o.getD El0).k), .int .i64 ((o.getD El0).v)]) (C' := [.int .i64 ((o.getD El0).k), .int .i64 ((o.getD El0).v)]) rfl Ty.ag55 rfl rfl rfl rfl (by simp) rfl) ?_
      rintro _ _ rfl
      refine WP.val rfl rfl rfl (Val.assign rfl rfl) ?_
      refine WP.nx ?_
      refine WPc.ret ?_
      iterate 3 (refine Out.perm pl4 ?_; refine Out.drop ?_)
      exact Out.retRun (L' := _) (results_ct Try.results141 rfl Ty.ag55 rfl rfl (fun w h => h.range 0 rfl rfl)) ⟨rfl, rfl⟩ (fun w h => h.drop)

end Go.Proofs.Ythmkdioafjmclaa.Bt9
