import Derived.Test.YthmkdioafjmclaaSlTerse
import Derived.Test.YthmkdioafjmclaaBt9
namespace Go.Proofs.Ythmkdioafjmclaa.Bt10
open Go.RowKit Go.Proofs.Ythmkdioafjmclaa Go.Proofs.Ythmkdioafjmclaa.Sl Go.Proofs.Ythmkdioafjmclaa.Bt Go.Proofs.Ythmkdioafjmclaa.Bt2 Go.Proofs.Ythmkdioafjmclaa.Bt3 Go.Proofs.Ythmkdioafjmclaa.Bt4 Go.Proofs.Ythmkdioafjmclaa.Bt5 Go.Proofs.Ythmkdioafjmclaa.Bt6 Go.Proofs.Ythmkdioafjmclaa.Bt7 Go.Proofs.Ythmkdioafjmclaa.Bt8 Go.Proofs.Ythmkdioafjmclaa.Bt9
set_option linter.unusedVariables false
set_option linter.unusedSimpArgs false
set_option linter.unusedSectionVars false


theorem Val.eqlK {P : Program} {n : Nat} {l : List (Nat × Value)} {G : World → Prop} {o : Oper} {t u : TypeId} {x y : Operand} {k : IntKind} {p q : Int} {b : Bool} (ho : o.op = .binOp .eql t x y u) (hx : ev l x = some (.int k p)) (hy : ev l y = some (.int k q)) (hb : decide (p = q) = b) : Val P n l G o (.bool b) := hb ▸ Val.eql ho hx hy
theorem bal_kid {m M h : Nat} {t k : Tr} (hb : Bal m M (h + 1) t) {i : Nat} (hk : t.ks[i]? = some k) : m ≤ k.is.length ∧ Bal m M h k := hb.2.2 k (List.mem_of_getElem? hk)
theorem getD_mem {l : List Tr} {i : Nat} (h : i < l.length) : l.getD i TE ∈ l := by
 rw [List.getD_eq_getElem?_getD, List.getElem?_eq_getElem h]; exact List.getElem_mem h
theorem bal_fromL {m M h : Nat} {l k : Tr} {y : El} (hl : Bal m M h l) (hk : Bal m M h k) (h1 : 1 ≤ l.is.length) (h2 : k.is.length < M) :
  Bal m M h (.nd (y :: k.is) (if 0 < l.ks.length then l.ks.getD (l.ks.length - 1) TE :: k.ks else k.ks)) ∧ Bal m M h (.nd (l.is.take (l.is.length - 1)) (l.ks.take (l.ks.length - 1))) := by
 cases h with
 | zero =>
  obtain ⟨a1, a2⟩ := hl; obtain ⟨b1, b2⟩ := hk
  refine ⟨⟨?_, ?_⟩, ?_, ?_⟩
  ·
   show (if 0 < l.ks.length then _ else k.ks) = []; rw [a1, if_neg (by simp)]; exact b1
  ·
   show (y :: k.is).length ≤ M; rw [List.length_cons]; omega
  ·
   show l.ks.take _ = []; rw [a1]; simp
  ·
   show (l.is.take _).length ≤ M; rw [List.length_take]; omega
 | succ h =>
  obtain ⟨a1, a2, a3⟩ := hl; obtain ⟨b1, b2, b3⟩ := hk
  have h0 : 0 < l.ks.length := by omega
  refine ⟨⟨?_, ?_, ?_⟩, ?_, ?_, ?_⟩
  ·
   show (if 0 < l.ks.length then _ else k.ks).length = (y :: k.is).length + 1; rw [if_pos h0, List.length_cons, List.length_cons]; omega
  ·
   show (y :: k.is).length ≤ M; rw [List.length_cons]; omega
  ·
   intro q hq
   have hq : q ∈ (if 0 < l.ks.length then l.ks.getD (l.ks.length - 1) TE :: k.ks else k.ks) := hq
   rw [if_pos h0, List.mem_cons] at hq
   rcases hq with rfl | hq
   ·
    exact a3 _ (getD_mem (by omega))
   ·
    exact b3 q hq
  ·
   show (l.ks.take (l.ks.length - 1)).length = (l.is.take (l.is.length - 1)).length + 1; rw [List.length_take, List.length_take]; omega
  ·
   show (l.is.take _).length ≤ M; rw [List.length_take]; omega
  ·
   exact fun q hq => a3 q (List.mem_of_mem_take hq)
theorem bal_fromR {m M h : Nat} {r k : Tr} {y : El} (hr : Bal m M h r) (hk : Bal m M h k) (h1 : 1 ≤ r.is.length) (h2 : k.is.length < M) :
  Bal m M h (.nd (k.is ++ [y]) (if 0 < r.ks.length then k.ks ++ [r.ks.getD 0 TE] else k.ks)) ∧ Bal m M h (.nd (r.is.eraseIdx 0) (r.ks.eraseIdx 0)) := by
 cases h with
 | zero =>
  obtain ⟨a1, a2⟩ := hr; obtain ⟨b1, b2⟩ := hk
  refine ⟨⟨?_, ?_⟩, ?_, ?_⟩
  ·
   show (if 0 < r.ks.length then _ else k.ks) = []; rw [a1, if_neg (by simp)]; exact b1
  ·
   show (k.is ++ [y]).length ≤ M; rw [List.length_append, List.length_singleton]; omega
  ·
   show r.ks.eraseIdx 0 = []; rw [a1]; rfl
  ·
   show (r.is.eraseIdx 0).length ≤ M; rw [List.length_eraseIdx_of_lt (by omega)]; omega
 | succ h =>
  obtain ⟨a1, a2, a3⟩ := hr; obtain ⟨b1, b2, b3⟩ := hk
  have h0 : 0 < r.ks.length := by omega
  refine ⟨⟨?_, ?_, ?_⟩, ?_, ?_, ?_⟩
  ·
   show (if 0 < r.ks.length then _ else k.ks).length = (k.is ++ [y]).length + 1; rw [if_pos h0, List.length_append, List.length_append, List.length_singleton, List.length_singleton]; omega
  ·
   show (k.is ++ [y]).length ≤ M; rw [List.length_append, List.length_singleton]; omega
  ·
   intro q hq
   have hq : q ∈ (if 0 < r.ks.length then k.ks ++ [r.ks.getD 0 TE] else k.ks) := hq
   rw [if_pos h0, List.mem_append, List.mem_singleton] at hq
   rcases hq with hq | rfl
   ·
    exact b3 q hq
   ·
    exact a3 _ (getD_mem (by omega))
  ·
   show (r.ks.eraseIdx 0).length = (r.is.eraseIdx 0).length + 1; rw [List.length_eraseIdx_of_lt (by omega), List.length_eraseIdx_of_lt (by omega)]; omega
  ·
   show (r.is.eraseIdx 0).length ≤ M; rw [List.length_eraseIdx_of_lt (by omega)]; omega
  ·
   exact fun q hq => a3 q (List.mem_of_mem_eraseIdx hq)
theorem bal_both {m M h : Nat} {a b : Tr} {y : El} (ha : Bal m M h a) (hb : Bal m M h b) (h2 : a.is.length + 1 + b.is.length ≤ M) : Bal m M h (.nd (a.is ++ [y] ++ b.is) (a.ks ++ b.ks)) := by
 have hl : (a.is ++ [y] ++ b.is).length = a.is.length + 1 + b.is.length := by rw [List.length_append, List.length_append, List.length_singleton]
 cases h with
 | zero =>
  obtain ⟨a1, a2⟩ := ha; obtain ⟨b1, b2⟩ := hb
  exact ⟨by show a.ks ++ b.ks = []; rw [a1, b1]; rfl, by show (a.is ++ [y] ++ b.is).length ≤ M; omega⟩
 | succ h =>
  obtain ⟨a1, a2, a3⟩ := ha; obtain ⟨b1, b2, b3⟩ := hb
  refine ⟨by show (a.ks ++ b.ks).length = (a.is ++ [y] ++ b.is).length + 1; rw [List.length_append]; omega, by show (a.is ++ [y] ++ b.is).length ≤ M; omega, fun q hq => ?_⟩
  rcases List.mem_append.1 (show q ∈ a.ks ++ b.ks from hq) with hq | hq
  ·
   exact a3 q hq
  ·
   exact b3 q hq
theorem mem_set2 {l : List Tr} {i j : Nat} {a b q : Tr} (h : q ∈ (l.set i a).set j b) : q ∈ l ∨ q = a ∨ q = b := by
 rcases List.mem_or_eq_of_mem_set h with h | h
 ·
  rcases List.mem_or_eq_of_mem_set h with h | h
  ·
   exact .inl h
  ·
   exact .inr (.inl h)
 ·
  exact .inr (.inr h)
structure Grown (m M h : Nat) (t t1 : Tr) : Prop where
 bal : Bal m M (h + 1) t1
 lo : t.is.length ≤ t1.is.length + 1
theorem kid_get {t : Tr} {i : Nat} (h : i < t.ks.length) : t.ks[i]? = some (kid t i) := by
 unfold kid; rw [List.getD_eq_getElem?_getD, List.getElem?_eq_getElem h]; rfl
/-- what growing leaves: the node is in balance; the child at i (or the last one) has more than m items -/
theorem grow_bal {m M h i : Nat} {t : Tr} (hM : M = 2 * m + 1) (hm : 1 ≤ m) (hb : Bal m M (h + 1) t) (hi : i ≤ t.is.length) (h1 : 1 ≤ t.is.length) (hk : (kid t i).is.length ≤ m) :
  Grown m M h t (grow m t i) ∧ (i = 0 → m < (kid (grow m t i) 0).is.length) ∧ (i = t.is.length → m < (kid (grow m t i) (grow m t i).is.length).is.length) := by
 have hkl := hb.1
 have hik : t.ks[i]? = some (kid t i) := kid_get (by omega)
 obtain ⟨k1, k2⟩ := bal_kid hb hik
 unfold grow
 split
 ·
  rename_i hc
  obtain ⟨c1, c2⟩ := hc
  have hpk : t.ks[i - 1]? = some (kid t (i - 1)) := kid_get (by omega)
  obtain ⟨l1, l2⟩ := bal_kid hb hpk
  obtain ⟨b1, b2⟩ := bal_fromL (y := t.is.getD (i - 1) El0) l2 k2 (by omega) (by omega)
  have hln : (stealL t i).is.length = t.is.length := by show (t.is.set _ _).length = _; rw [List.length_set]
  have hkn : (stealL t i).ks.length = t.ks.length := by show ((t.ks.set _ _).set _ _).length = _; rw [List.length_set, List.length_set]
  have hat : (stealL t i).ks[i]? = some (.nd (t.is.getD (i - 1) El0 :: (kid t i).is) (if 0 < (kid t (i - 1)).ks.length then (kid t (i - 1)).ks.getD ((kid t (i - 1)).ks.length - 1) TE :: (kid t i).ks else (kid t i).ks)) := by
   show ((t.ks.set _ _).set _ _)[i]? = _
   rw [List.getElem?_set_ne (by omega), List.getElem?_set_self (by omega)]
  refine ⟨⟨⟨by rw [hkn, hln]; omega, by rw [hln]; exact hb.2.1, fun q hq => ?_⟩, by omega⟩, fun h => by omega, fun h => ?_⟩
  ·
   rcases mem_set2 (show q ∈ (t.ks.set i _).set (i - 1) _ from hq) with hq | rfl | rfl
   ·
    exact hb.2.2 q hq
   ·
    exact ⟨by show m ≤ (_ :: (kid t i).is).length; rw [List.length_cons]; omega, b1⟩
   ·
    exact ⟨by show m ≤ ((kid t (i - 1)).is.take _).length; rw [List.length_take]; omega, b2⟩
  ·
   rw [hln, ← h, kid_at hat]
   show m < (_ :: (kid t i).is).length; rw [List.length_cons]; omega
 ·
  rename_i hc
  split
  ·
   rename_i hc2
   obtain ⟨c1, c2⟩ := hc2
   have hpk : t.ks[i + 1]? = some (kid t (i + 1)) := kid_get (by omega)
   obtain ⟨l1, l2⟩ := bal_kid hb hpk
   obtain ⟨b1, b2⟩ := bal_fromR (y := t.is.getD i El0) l2 k2 (by omega) (by omega)
   have hln : (stealR t i).is.length = t.is.length := by show (t.is.set _ _).length = _; rw [List.length_set]
   have hkn : (stealR t i).ks.length = t.ks.length := by show ((t.ks.set _ _).set _ _).length = _; rw [List.length_set, List.length_set]
   have hat : (stealR t i).ks[i]? = some (.nd ((kid t i).is ++ [t.is.getD i El0]) (if 0 < (kid t (i + 1)).ks.length then (kid t i).ks ++ [(kid t (i + 1)).ks.getD 0 TE] else (kid t i).ks)) := by
    show ((t.ks.set _ _).set _ _)[i]? = _
    rw [List.getElem?_set_self (by rw [List.length_set]; omega)]
   refine ⟨⟨⟨by rw [hkn, hln]; omega, by rw [hln]; exact hb.2.1, fun q hq => ?_⟩, by omega⟩, fun h => ?_, fun h => by omega⟩
   ·
    rcases mem_set2 (show q ∈ (t.ks.set (i + 1) _).set i _ from hq) with hq | rfl | rfl
    ·
     exact hb.2.2 q hq
    ·
     exact ⟨by show m ≤ ((kid t (i + 1)).is.eraseIdx 0).length; rw [List.length_eraseIdx_of_lt (by omega)]; omega, b2⟩
    ·
     exact ⟨by show m ≤ ((kid t i).is ++ [_]).length; rw [List.length_append, List.length_singleton]; omega, b1⟩
   ·
    subst h
    rw [kid_at hat]
    show m < ((kid t 0).is ++ [_]).length; rw [List.length_append, List.length_singleton]; omega
  ·
   rename_i hc2
   generalize hj : (if t.is.length ≤ i then i - 1 else i) = j
   have hj1 : j < t.is.length := by rw [← hj]; split <;> omega
   have hj2 : (t.is.length ≤ i → j + 1 = i) ∧ (i < t.is.length → j = i) := ⟨fun h => by rw [← hj, if_pos h]; omega, fun h => by rw [← hj, if_neg (by omega)]⟩
   have hpa : t.ks[j]? = some (kid t j) := kid_get (by omega)
   have hpb : t.ks[j + 1]? = some (kid t (j + 1)) := kid_get (by omega)
   obtain ⟨a1, a2⟩ := bal_kid hb hpa
   obtain ⟨e1, e2⟩ := bal_kid hb hpb
   have ha : (kid t j).is.length ≤ m := by
    rcases Nat.lt_or_ge i t.is.length with h | h
    ·
     rw [hj2.2 h]; exact hk
    ·
     have := hj2.1 h
     have e : j = i - 1 := by omega
     rw [e]; exact Nat.not_lt.1 fun h' => hc ⟨by omega, h'⟩
   have hbl : (kid t (j + 1)).is.length ≤ m := by
    rcases Nat.lt_or_ge i t.is.length with h | h
    ·
     rw [hj2.2 h]; exact Nat.not_lt.1 fun h' => hc2 ⟨h, h'⟩
    ·
     rw [hj2.1 h]; exact hk
   have hbb := bal_both (y := t.is.getD j El0) a2 e2 (by omega)
   have hln : (merge t j).is.length = t.is.length - 1 := by show (t.is.eraseIdx j).length = _; rw [List.length_eraseIdx_of_lt hj1]
   have hkn : (merge t j).ks.length = t.ks.length - 1 := by show ((t.ks.eraseIdx (j + 1)).set j _).length = _; rw [List.length_set, List.length_eraseIdx_of_lt (by omega)]
   have hat : (merge t j).ks[j]? = some (.nd ((kid t j).is ++ [t.is.getD j El0] ++ (kid t (j + 1)).is) ((kid t j).ks ++ (kid t (j + 1)).ks)) := by
    show ((t.ks.eraseIdx (j + 1)).set j _)[j]? = _
    rw [List.getElem?_set_self (by rw [List.length_eraseIdx_of_lt (by omega)]; omega)]
   have hbig : m < (kid (merge t j) j).is.length := by
    rw [kid_at hat]
    show m < ((kid t j).is ++ [_] ++ _).length; rw [List.length_append, List.length_append, List.length_singleton]; omega
   refine ⟨⟨⟨by rw [hkn, hln]; omega, by rw [hln]; have := hb.2.1; omega, fun q hq => ?_⟩, by omega⟩, fun h => ?_, fun h => ?_⟩
   ·
    rcases List.mem_or_eq_of_mem_set (show q ∈ (t.ks.eraseIdx (j + 1)).set j _ from hq) with hq | rfl
    ·
     exact hb.2.2 q (List.mem_of_mem_eraseIdx hq)
    ·
     exact ⟨by show m ≤ ((kid t j).is ++ [_] ++ _).length; rw [List.length_append, List.length_append, List.length_singleton]; omega, hbb⟩
   ·
    have : j = 0 := by have := hj2.2 (by omega); omega
    rw [← this]; exact hbig
   ·
    have : j + 1 = i := hj2.1 (by omega)
    rw [hln, ← h, show i - 1 = j by omega]; exact hbig
/-- taking out the least element -/
def dmin (m : Nat) : Nat → Tr → Tr × Option El
 | 0, t => (.nd (t.is.eraseIdx 0) t.ks, some (t.is.getD 0 El0))
 | h + 1, t =>
  let t1 := if (kid t 0).is.length ≤ m then grow m t 0 else t
  (.nd t1.is (t1.ks.set 0 (dmin m h (kid t1 0)).1), (dmin m h (kid t1 0)).2)
/-- taking out the greatest one -/
def dmax (m : Nat) : Nat → Tr → Tr × Option El
 | 0, t => (.nd (t.is.take (t.is.length - 1)) t.ks, some (t.is.getD (t.is.length - 1) El0))
 | h + 1, t =>
  let t1 := if (kid t t.is.length).is.length ≤ m then grow m t t.is.length else t
  (.nd t1.is (t1.ks.set t1.is.length (dmax m h (kid t1 t1.is.length)).1), (dmax m h (kid t1 t1.is.length)).2)
theorem dmin_big {m h : Nat} {t : Tr} (hk : m < (kid t 0).is.length) : dmin m (h + 1) t = (.nd t.is (t.ks.set 0 (dmin m h (kid t 0)).1), (dmin m h (kid t 0)).2) := by
 simp only [dmin]; rw [if_neg (by omega)]
theorem dmin_small {m h : Nat} {t : Tr} (hk : (kid t 0).is.length ≤ m) (h2 : m < (kid (grow m t 0) 0).is.length) : dmin m (h + 1) t = dmin m (h + 1) (grow m t 0) := by
 rw [dmin_big h2]; simp only [dmin]; rw [if_pos hk]
theorem dmax_big {m h : Nat} {t : Tr} (hk : m < (kid t t.is.length).is.length) : dmax m (h + 1) t = (.nd t.is (t.ks.set t.is.length (dmax m h (kid t t.is.length)).1), (dmax m h (kid t t.is.length)).2) := by
 simp only [dmax]; rw [if_neg (by omega)]
theorem dmax_small {m h : Nat} {t : Tr} (hk : (kid t t.is.length).is.length ≤ m) (h2 : m < (kid (grow m t t.is.length) (grow m t t.is.length).is.length).is.length) : dmax m (h + 1) t = dmax m (h + 1) (grow m t t.is.length) := by
 rw [dmax_big h2]; simp only [dmax]; rw [if_pos hk]
set_option maxRecDepth 100000 in
set_option maxHeartbeats 2000000 in
theorem rem1_leaf (c f m M : Nat) (hM : M = 2 * m + 1) (hM2 : M ≤ 1000) (hm1 : 1 ≤ m) (x : El) (p : Nat) (t : Tr) (hbal : Bal m M 0 t) (hi1 : 1 ≤ t.is.length) : Does Try.prog 128 [.pointer (some ⟨p, 0, none⟩), .agg #[.int .i64 (x.k), .int .i64 (x.v)], .int .i64 (((m : Nat) : Int)), .int .i64 1] [Nd c 0 (p, t), Blk c [.pointer (some ⟨f, 0, none⟩), .func (.func 53) #[] #[]] 170, FL f] (fun v L => v = opv (dmin m 0 t).2 ∧ L = [Nd c 0 (p, (dmin m 0 t).1), Blk c [.pointer (some ⟨f, 0, none⟩), .func (.func 53) #[] #[]] 170, FL f]) := by
 refine Does.enter 129 Try.func128 rfl rfl rfl fun W F => ?_
 show WPc _ _ _ _ _ [(0, .pointer (some ⟨p, 0, none⟩)), (1, .agg #[.int .i64 (x.k), .int .i64 (x.v)]), (2, .int .i64 (((m : Nat) : Int))), (3, .int .i64 1)] (Nd c 0 (p, t) :: Blk c [.pointer (some ⟨f, 0, none⟩), .func (.func 53) #[] #[]] 170 :: FL f :: F)
 refine WPc.sr ?_
 refine WP.eff rfl rfl rfl (Eff.box (C := [.int .i64 (x.k), .int .i64 (x.v)]) rfl rfl rfl) ?_
 rintro _ _ ⟨b1, rfl, rfl⟩
 refine WP.eff rfl rfl rfl (Eff.alloc rfl Ty.z55) ?_
 rintro _ _ ⟨b2, rfl, rfl⟩
 refine WP.val rfl rfl rfl (Val.assign rfl rfl) ?_
 refine WP.nx ?_
 refine WPc.sr ?_
 refine WP.val rfl rfl rfl (Val.assign rfl rfl) ?_
 refine WP.nx ?_
 refine WPc.sr ?_
 refine WP.val rfl rfl rfl (Val.assign rfl rfl) ?_
 refine WP.nx ?_
 refine WPc.seq ?_
 refine WPc.sr ?_
 refine WP.val rfl rfl rfl (Val.move rfl rfl) ?_
 refine WP.nx ?_
 refine WPc.block ?_
 refine WPc.sr ?_
 refine WP.val rfl rfl rfl (Val.eqlK rfl rfl rfl rfl) ?_
 refine WP.val rfl rfl rfl (Val.assign rfl rfl) ?_
 refine WP.nx ?_
 refine WPc.condF rfl rfl ?_
 refine WPc.sr ?_
 refine WP.val rfl rfl rfl (Val.eqlK rfl rfl rfl rfl) ?_
 refine WP.val rfl rfl rfl (Val.assign rfl rfl) ?_
 refine WP.nx ?_
 refine WPc.condT rfl rfl ?_
 refine WPc.seq ?_
 refine WPc.seq ?_
 refine WPc.perm pl2 ?_
 refine WPc.open (fun w h => h.ndOpen) ?_
 rintro ⟨vi, vc, ks⟩
 refine WPc.pure (fun hk => ?_)
 obtain ⟨hk, hl⟩ := hk
 dsimp only at hk hl
 have hkl := ks_len hk
 show WPc _ _ _ _ _ _ (Blk p [vi, vc, .pointer (some ⟨c, 0, none⟩)] 213 :: Own 55 2 vi t.is.length (flatOf El.cells t.is) :: Own 171 1 vc ks.length (flatOf vcf (kp ks)) :: Kds (Rk c 0) ks :: Blk b2 [.int .i64 0, .int .i64 0] 55 :: Blk b1 [.int .i64 (x.k), .int .i64 (x.v)] 55 :: _)
 have hle := hbal.le
 have hks0 : ks.length = 0 := by rw [hl rfl]; rfl
 obtain ⟨y, hy⟩ : ∃ y, t.is[0]? = some y := ⟨_, List.getElem?_eq_getElem (by omega)⟩
 refine WPc.region ?_
 refine WP.val rfl rfl rfl (Val.move rfl rfl) ?_
 refine WP.val rfl rfl rfl (Val.nilCheck rfl rfl) ?_
 refine WP.val rfl rfl rfl (Val.fieldAddr (j := 1) rfl Ty.fo213_1 rfl rfl) ?_
 refine WP.val rfl rfl rfl (Val.load rfl Ty.sc211 rfl (fun w h => h.cell 0 rfl rfl)) ?_
 refine WP.val rfl rfl rfl (Val.lenOwn rfl Ty.sl211 rfl (fun w h => h.at 2 rfl)) ?_
 refine WP.val rfl rfl rfl (Val.eql rfl rfl rfl) ?_
 refine WP.nx ?_
 refine WPc.ifP rfl (fun h1 => ?_) (fun h1 => ?_)
 ·
  have h1 : (((ks.length : Nat) : Int) = (0 : Int)) := h1
  refine WPc.sr ?_
  refine WP.val rfl rfl rfl (Val.move rfl rfl) ?_
  refine WP.val rfl rfl rfl (Val.nilCheck rfl rfl) ?_
  refine WP.val rfl rfl rfl (Val.fieldAddr (j := 0) rfl Ty.fo213_0 rfl rfl) ?_
  refine WP.perm pl1 ?_
  refine WP.perm pl1 ?_
  refine WP.eff rfl rfl rfl (Eff.call rfl rfl Try.call140 (rematE p vi vc (.pointer (some ⟨c, 0, none⟩)) 0 y t.is hy (by omega))) ?_
  rintro _ _ ⟨_, ⟨wi, hwi, rfl, rfl⟩, rfl⟩
  show WP _ _ _ _ _ _ _ (Blk p [wi, vc, .pointer (some ⟨c, 0, none⟩)] 213 :: Own 55 2 wi ((t.is).length - 1) (flatOf El.cells ((t.is).eraseIdx 0)) :: _)
  refine WP.perm pl4 ?_
  refine WP.eff0 rfl rfl (Eff.storeAgg (cs := [.int .i64 (y.k), .int .i64 (y.v)]) (C' := [.int .i64 (y.k), .int .i64 (y.v)]) rfl Ty.ag55 rfl rfl rfl rfl (by simp) rfl) ?_
  rintro _ _ rfl
  refine WP.val rfl rfl rfl (Val.assign rfl rfl) ?_
  refine WP.nx ?_
  refine WPc.ret ?_
  refine Out.then_ret ?_
  refine Out.block_ret ?_
  refine Out.then_ret ?_
  refine Out.perm pl2 ?_
  refine Out.c1 (B := Own 55 2 wi ((t.is.eraseIdx 0).length) (flatOf El.cells (t.is.eraseIdx 0))) (fun w h => by rw [List.length_eraseIdx_of_lt (by omega)]; exact h) ?_
  refine Out.perm pl4 ?_
  refine Out.perm pl4 ?_
  refine Out.perm pl2 ?_
  refine Out.perm pl4 ?_
  refine Out.conv (fun w h => Sat.ndMk (c := c) (h := 0) (t := (Tr.nd (t.is.eraseIdx 0) t.ks)) (ks := ks) hk hl h) ?_
  show Out _ _ _ _ _ (Nd c 0 (p, (Tr.nd (t.is.eraseIdx 0) t.ks)) :: Blk b2 [.int .i64 (y.k), .int .i64 (y.v)] 55 :: _)
  have hd : dmin m 0 t = (Tr.nd (t.is.eraseIdx 0) t.ks, some y) := by unfold dmin; rw [getD_at hy]
  refine Out.perm pl2 ?_
  refine Out.drop ?_
  refine Out.perm pl3 ?_
  refine Out.perm pl3 ?_
  refine Out.perm pl2 ?_
  refine Out.perm pl3 ?_
  exact Out.retRun (L' := _) (results_ct Try.results128 rfl Ty.ag55 rfl rfl (fun w h => h.range 0 rfl rfl)) ⟨by rw [hd]; rfl, by rw [hd]⟩ (fun w h => h.drop)
 ·
  have h1 : ¬ (((ks.length : Nat) : Int) = (0 : Int)) := h1
  exfalso; omega
set_option maxRecDepth 100000 in
set_option maxHeartbeats 2000000 in
theorem rem1_big (c f m M : Nat) (hM : M = 2 * m + 1) (hM2 : M ≤ 1000) (hm1 : 1 ≤ m) (x : El) (ht : Nat) (ih : ∀ (p : Nat) (t : Tr), Bal m M ht t → 1 ≤ t.is.length → Does Try.prog 128 [.pointer (some ⟨p, 0, none⟩), .agg #[.int .i64 x.k, .int .i64 x.v], .int .i64 ((m : Nat) : Int), .int .i64 1] [Nd c ht (p, t), Blk c [.pointer (some ⟨f, 0, none⟩), .func (.func 53) #[] #[]] 170, FL f] (fun v L => v = opv (dmin m ht t).2 ∧ L = [Nd c ht (p, (dmin m ht t).1), Blk c [.pointer (some ⟨f, 0, none⟩), .func (.func 53) #[] #[]] 170, FL f])) (p : Nat) (t : Tr) (hbal : Bal m M (ht + 1) t) (hkid : m < (kid t 0).is.length) : Does Try.prog 128 [.pointer (some ⟨p, 0, none⟩), .agg #[.int .i64 (x.k), .int .i64 (x.v)], .int .i64 (((m : Nat) : Int)), .int .i64 1] [Nd c (ht + 1) (p, t), Blk c [.pointer (some ⟨f, 0, none⟩), .func (.func 53) #[] #[]] 170, FL f] (fun v L => v = opv (dmin m (ht + 1) t).2 ∧ L = [Nd c (ht + 1) (p, (dmin m (ht + 1) t).1), Blk c [.pointer (some ⟨f, 0, none⟩), .func (.func 53) #[] #[]] 170, FL f]) := by
 refine Does.enter 129 Try.func128 rfl rfl rfl fun W F => ?_
 show WPc _ _ _ _ _ [(0, .pointer (some ⟨p, 0, none⟩)), (1, .agg #[.int .i64 (x.k), .int .i64 (x.v)]), (2, .int .i64 (((m : Nat) : Int))), (3, .int .i64 1)] (Nd c (ht + 1) (p, t) :: Blk c [.pointer (some ⟨f, 0, none⟩), .func (.func 53) #[] #[]] 170 :: FL f :: F)
 refine WPc.sr ?_
 refine WP.eff rfl rfl rfl (Eff.box (C := [.int .i64 (x.k), .int .i64 (x.v)]) rfl rfl rfl) ?_
 rintro _ _ ⟨b1, rfl, rfl⟩
 refine WP.eff rfl rfl rfl (Eff.alloc rfl Ty.z55) ?_
 rintro _ _ ⟨b2, rfl, rfl⟩
 refine WP.val rfl rfl rfl (Val.assign rfl rfl) ?_
 refine WP.nx ?_
 refine WPc.sr ?_
 refine WP.val rfl rfl rfl (Val.assign rfl rfl) ?_
 refine WP.nx ?_
 refine WPc.sr ?_
 refine WP.val rfl rfl rfl (Val.assign rfl rfl) ?_
 refine WP.nx ?_
 refine WPc.seq ?_
 refine WPc.sr ?_
 refine WP.val rfl rfl rfl (Val.move rfl rfl) ?_
 refine WP.nx ?_
 refine WPc.block ?_
 refine WPc.sr ?_
 refine WP.val rfl rfl rfl (Val.eqlK rfl rfl rfl rfl) ?_
 refine WP.val rfl rfl rfl (Val.assign rfl rfl) ?_
 refine WP.nx ?_
 refine WPc.condF rfl rfl ?_
 refine WPc.sr ?_
 refine WP.val rfl rfl rfl (Val.eqlK rfl rfl rfl rfl) ?_
 refine WP.val rfl rfl rfl (Val.assign rfl rfl) ?_
 refine WP.nx ?_
 refine WPc.condT rfl rfl ?_
 refine WPc.seq ?_
 refine WPc.seq ?_
 refine WPc.perm pl2 ?_
 refine WPc.open (fun w h => h.ndOpen) ?_
 rintro ⟨vi, vc, ks⟩
 refine WPc.pure (fun hk => ?_)
 obtain ⟨hk, hl⟩ := hk
 dsimp only at hk hl
 have hkl := ks_len hk
 show WPc _ _ _ _ _ _ (Blk p [vi, vc, .pointer (some ⟨c, 0, none⟩)] 213 :: Own 55 2 vi t.is.length (flatOf El.cells t.is) :: Own 171 1 vc ks.length (flatOf vcf (kp ks)) :: Kds (Rk c (ht + 1)) ks :: Blk b2 [.int .i64 0, .int .i64 0] 55 :: Blk b1 [.int .i64 (x.k), .int .i64 (x.v)] 55 :: _)
 have hle := hbal.le
 have hb1 := hbal.1
 refine WPc.region ?_
 refine WP.val rfl rfl rfl (Val.move rfl rfl) ?_
 refine WP.val rfl rfl rfl (Val.nilCheck rfl rfl) ?_
 refine WP.val rfl rfl rfl (Val.fieldAddr (j := 1) rfl Ty.fo213_1 rfl rfl) ?_
 refine WP.val rfl rfl rfl (Val.load rfl Ty.sc211 rfl (fun w h => h.cell 0 rfl rfl)) ?_
 refine WP.val rfl rfl rfl (Val.lenOwn rfl Ty.sl211 rfl (fun w h => h.at 2 rfl)) ?_
 refine WP.val rfl rfl rfl (Val.eql rfl rfl rfl) ?_
 refine WP.nx ?_
 refine WPc.ifP rfl (fun h1 => ?_) (fun h1 => ?_)
 ·
  have h1 : (((ks.length : Nat) : Int) = (0 : Int)) := h1
  exfalso; omega
 ·
  have h1 : ¬ (((ks.length : Nat) : Int) = (0 : Int)) := h1
  refine WPc.skip ?_
  refine Out.next ?_
  refine WPc.region ?_
  refine WP.val rfl rfl rfl (Val.assign rfl rfl) ?_
  refine WP.nil ?_
  refine Out.block ?_
  refine Out.next ?_
  refine WPc.seq ?_
  refine WPc.seq ?_
  obtain ⟨tk, htk⟩ : ∃ k, t.ks[0]? = some k := ⟨_, List.getElem?_eq_getElem (by omega)⟩
  obtain ⟨pk, hx⟩ := ks_get hk htk
  rw [kid_at htk] at hkid
  have hbk := bal_kid hbal htk
  have hka := kp_at hx
  refine WPc.perm pl2 ?_
  refine WPc.open (fun w h => h.ownPos (by omega)) ?_
  rintro ⟨g3, cg3, spg3⟩
  refine WPc.pure (fun hvg3 => ?_)
  obtain ⟨rfl, hng3, hlg3, hsg3, hcg3⟩ := hvg3
  dsimp only at hng3 hlg3 hsg3 hcg3
  show WPc _ _ _ _ _ _ (Blk g3 (flatOf vcf (kp ks) ++ spg3) 171 :: Blk p [vi, .slice (some ⟨g3, 0, none⟩) ks.length cg3, .pointer (some ⟨c, 0, none⟩)] 213 :: _)
  refine WPc.perm pl3 ?_
  refine WPc.conv (fun w h => Sat.kOut (R := Rk c (ht + 1)) hx h) ?_
  show WPc _ _ _ _ _ _ (Nd c ht (pk, tk) :: Kds (Rk c (ht + 1)) (ks.take 0 ++ ks.drop (0 + 1)) :: _)
  refine WPc.open (fun w h => h.ndOpen) ?_
  rintro ⟨vix, vcx, ksx⟩
  refine WPc.pure (fun hkx => ?_)
  obtain ⟨hkx, hlx⟩ := hkx
  dsimp only at hkx hlx
  have hklx := ks_len hkx
  show WPc _ _ _ _ _ _ (Blk pk [vix, vcx, .pointer (some ⟨c, 0, none⟩)] 213 :: Own 55 2 vix tk.is.length (flatOf El.cells tk.is) :: Own 171 1 vcx ksx.length (flatOf vcf (kp ksx)) :: Kds (Rk c ht) ksx :: _)
  refine WPc.region ?_
  refine WP.val rfl rfl rfl (Val.move rfl rfl) ?_
  refine WP.val rfl rfl rfl (Val.nilCheck rfl rfl) ?_
  refine WP.val rfl rfl rfl (Val.fieldAddr (j := 1) rfl Ty.fo213_1 rfl rfl) ?_
  refine WP.val rfl rfl rfl (Val.load rfl Ty.sc211 rfl (fun w h => h.cell 6 rfl rfl)) ?_
  refine WP.val rfl rfl rfl (Val.move rfl rfl) ?_
  refine WP.val rfl rfl rfl (Val.indexAddr (j := 0) (q := 0) rfl Ty.sl211 rfl rfl (by omega) (by omega) (by omega)) ?_
  refine WP.val rfl rfl rfl (Val.load (v := .pointer (some ⟨pk, 0, none⟩)) rfl Ty.sc171 rfl (fun w h => ((h.at 5 rfl).cell _).trans (vflat_at hka))) ?_
  refine WP.val rfl rfl rfl (Val.nilCheck rfl rfl) ?_
  refine WP.val rfl rfl rfl (Val.fieldAddr (j := 0) rfl Ty.fo213_0 rfl rfl) ?_
  refine WP.val rfl rfl rfl (Val.load rfl Ty.sc210 rfl (fun w h => h.cell 0 rfl rfl)) ?_
  refine WP.val rfl rfl rfl (Val.lenOwn rfl Ty.sl210 rfl (fun w h => h.at 1 rfl)) ?_
  refine WP.val rfl rfl rfl (Val.move rfl rfl) ?_
  refine WP.val rfl rfl rfl (Val.leq rfl rfl rfl) ?_
  refine WP.nx ?_
  refine WPc.ifP rfl (fun h2 => ?_) (fun h2 => ?_)
  ·
   have h2 : (((tk.is.length : Nat) : Int) ≤ ((m : Nat) : Int)) := h2
   exfalso; omega
  ·
   have h2 : ¬ (((tk.is.length : Nat) : Int) ≤ ((m : Nat) : Int)) := h2
   refine WPc.skip ?_
   refine Out.next ?_
   refine WPc.seq ?_
   iterate 4 (refine WPc.perm pl3 ?_)
   refine WPc.conv (fun w h => Sat.ndMk (c := c) (h := ht) (t := tk) (ks := ksx) hkx hlx h) ?_
   show WPc _ _ _ _ _ _ (Nd c ht (pk, tk) :: _)
   refine WPc.perm pl1 ?_
   refine WPc.perm pl1 ?_
   refine WPc.conv (fun w h => (by have h9 := Sat.kIn (R := Rk c (ht + 1)) (x := (pk, tk)) (ks := ks) (i := 0) h; rw [← split_at hx] at h9; exact h9)) ?_
   show WPc _ _ _ _ _ _ (Kds (Rk c (ht + 1)) ks :: _)
   refine WPc.perm pl1 ?_
   refine WPc.conv (fun w h => Sat.ownMk (e := 171) (k := 1) (b := g3) (m := ks.length) (cap := cg3) (xs := flatOf vcf (kp ks)) (sp := spg3) (by exact h) hng3 hlg3 hsg3 hcg3) ?_
   refine WPc.region ?_
   refine WP.val rfl rfl rfl (Val.move rfl rfl) ?_
   refine WP.val rfl rfl rfl (Val.move rfl rfl) ?_
   refine WP.perm pl1 ?_
   refine WP.perm pl1 ?_
   refine WP.perm pl2 ?_
   refine WP.eff rfl rfl rfl (Eff.call rfl rfl Try.call127 (mchild_spec c ht p 0 vi (.slice (some ⟨g3, 0, none⟩) ks.length cg3) ks pk tk hx (by omega))) ?_
   rintro _ _ ⟨_, ⟨rfl, rfl⟩, rfl⟩
   show WP _ _ _ _ _ _ _ (_ :: Own 171 1 (.slice (some ⟨g3, 0, none⟩) ks.length cg3) ks.length (flatOf vcf (kp ks)) :: _)
   refine WP.val rfl rfl rfl (Val.assign rfl rfl) ?_
   refine WP.nx ?_
   refine WPc.seq ?_
   refine WPc.sr ?_
   refine WP.val rfl rfl rfl (Val.move rfl rfl) ?_
   refine WP.nx ?_
   refine WPc.condF rfl rfl ?_
   refine WPc.skip ?_
   refine Out.next ?_
   refine WPc.seq ?_
   refine WPc.perm pl2 ?_
   refine WPc.conv (fun w h => Sat.kOut (R := Rk c (ht + 1)) hx h) ?_
   show WPc _ _ _ _ _ _ (Nd c ht (pk, tk) :: Kds (Rk c (ht + 1)) (ks.take 0 ++ ks.drop (0 + 1)) :: _)
   refine WPc.region ?_
   refine WP.val rfl rfl rfl (Val.move rfl rfl) ?_
   refine WP.val rfl rfl rfl (Val.loadAgg (cs := [.int .i64 (x.k), .int .i64 (x.v)]) rfl Ty.ag55 rfl rfl (fun w h => h.range 6 rfl rfl)) ?_
   refine WP.val rfl rfl rfl (Val.move rfl rfl) ?_
   refine WP.val rfl rfl rfl (Val.move rfl rfl) ?_
   refine WP.perm pl8 ?_
   refine WP.perm pl8 ?_
   refine WP.perm pl2 ?_
   refine WP.eff rfl rfl rfl (Eff.call rfl rfl Try.call128 (ih pk tk hbk.2 (by omega))) ?_
   rintro _ _ ⟨_, ⟨rfl, rfl⟩, rfl⟩
   show WP _ _ _ _ _ _ _ (Nd c ht (pk, (dmin m ht tk).1) :: _)
   refine WP.val rfl rfl rfl (Val.extract rfl rfl rfl) ?_
   refine WP.val rfl rfl rfl (Val.extract rfl rfl rfl) ?_
   refine WP.perm pl7 ?_
   refine WP.eff0 rfl rfl (Eff.storeAgg (cs := [.int .i64 (((dmin m ht tk).2.getD El0).k), .int .i64 (((dmin m ht tk).2.getD El0).v)]) (C' := [.int .i64 (((dmin m ht tk).2.getD El0).k), .int .i64 (((dmin m ht tk).2.getD El0).v)]) rfl Ty.ag55 rfl rfl rfl rfl (by simp) rfl) ?_
   rintro _ _ rfl
   refine WP.val rfl rfl rfl (Val.assign rfl rfl) ?_
   refine WP.nx ?_
   refine WPc.ret ?_
   refine Out.perm pl4 ?_
   refine Out.perm pl2 ?_
   refine Out.conv (fun w h => Sat.kIn (R := Rk c (ht + 1)) (x := (pk, (dmin m ht tk).1)) (ks := ks) (i := 0) h) ?_
   show Out _ _ _ _ _ (Kds (Rk c (ht + 1)) (ks.take 0 ++ (pk, (dmin m ht tk).1) :: ks.drop (0 + 1)) :: Blk b2 [.int .i64 (((dmin m ht tk).2.getD El0).k), .int .i64 (((dmin m ht tk).2.getD El0).v)] 55 :: _)
   refine Out.perm pl5 ?_
   refine Out.c1 (B := Own 171 1 (.slice (some ⟨g3, 0, none⟩) ks.length cg3) ((ks.take 0 ++ (pk, (dmin m ht tk).1) :: ks.drop (0 + 1)).length) (flatOf vcf (kp (ks.take 0 ++ (pk, (dmin m ht tk).1) :: ks.drop (0 + 1))))) (fun w h => by rw [len_one_set hx, kp_one_set hx]; exact h) ?_
   refine Out.perm pl1 ?_
   refine Out.perm pl1 ?_
   refine Out.perm pl6 ?_
   refine Out.perm pl6 ?_
   refine Out.conv (fun w h => Sat.ndMk (c := c) (h := (ht + 1)) (t := (Tr.nd t.is (t.ks.set 0 (dmin m ht tk).1))) (ks := (ks.take 0 ++ (pk, (dmin m ht tk).1) :: ks.drop (0 + 1))) (snd_one hk hx) (fun h0 => by cases h0) h) ?_
   show Out _ _ _ _ _ (Nd c (ht + 1) (p, (Tr.nd t.is (t.ks.set 0 (dmin m ht tk).1))) :: _)
   have hd : dmin m (ht + 1) t = (Tr.nd t.is (t.ks.set 0 (dmin m ht tk).1), (dmin m ht tk).2) := by rw [dmin_big (by rw [kid_at htk]; exact hkid), kid_at htk]
   refine Out.perm pl4 ?_
   refine Out.drop ?_
   refine Out.perm pl3 ?_
   refine Out.perm pl3 ?_
   refine Out.perm pl2 ?_
   refine Out.perm pl3 ?_
   exact Out.retRun (L' := _) (results_ct Try.results128 rfl Ty.ag55 rfl rfl (fun w h => h.range 0 rfl rfl)) ⟨by rw [hd]; rfl, by rw [hd]⟩ (fun w h => h.drop)
set_option maxRecDepth 100000 in
set_option maxHeartbeats 2000000 in
theorem rem1_small (c f m M : Nat) (hM : M = 2 * m + 1) (hM2 : M ≤ 1000) (hm1 : 1 ≤ m) (x : El) (ht p : Nat) (t : Tr) (hbal : Bal m M (ht + 1) t) (hi1 : 1 ≤ t.is.length) (hkid : (kid t 0).is.length ≤ m) (hgk : m < (kid (grow m t 0) 0).is.length) (hrem : Does Try.prog 128 [.pointer (some ⟨p, 0, none⟩), .agg #[.int .i64 x.k, .int .i64 x.v], .int .i64 ((m : Nat) : Int), .int .i64 1] [Nd c (ht + 1) (p, grow m t 0), Blk c [.pointer (some ⟨f, 0, none⟩), .func (.func 53) #[] #[]] 170, FL f] (fun v L => v = opv (dmin m (ht + 1) (grow m t 0)).2 ∧ L = [Nd c (ht + 1) (p, (dmin m (ht + 1) (grow m t 0)).1), Blk c [.pointer (some ⟨f, 0, none⟩), .func (.func 53) #[] #[]] 170, FL f])) : Does Try.prog 128 [.pointer (some ⟨p, 0, none⟩), .agg #[.int .i64 (x.k), .int .i64 (x.v)], .int .i64 (((m : Nat) : Int)), .int .i64 1] [Nd c (ht + 1) (p, t), Blk c [.pointer (some ⟨f, 0, none⟩), .func (.func 53) #[] #[]] 170, FL f] (fun v L => v = opv (dmin m (ht + 1) t).2 ∧ L = [Nd c (ht + 1) (p, (dmin m (ht + 1) t).1), Blk c [.pointer (some ⟨f, 0, none⟩), .func (.func 53) #[] #[]] 170, FL f]) := by
 refine Does.enter 129 Try.func128 rfl rfl rfl fun W F => ?_
 show WPc _ _ _ _ _ [(0, .pointer (some ⟨p, 0, none⟩)), (1, .agg #[.int .i64 (x.k), .int .i64 (x.v)]), (2, .int .i64 (((m : Nat) : Int))), (3, .int .i64 1)] (Nd c (ht + 1) (p, t) :: Blk c [.pointer (some ⟨f, 0, none⟩), .func (.func 53) #[] #[]] 170 :: FL f :: F)
 refine WPc.sr ?_
 refine WP.eff rfl rfl rfl (Eff.box (C := [.int .i64 (x.k), .int .i64 (x.v)]) rfl rfl rfl) ?_
 rintro _ _ ⟨b1, rfl, rfl⟩
 refine WP.eff rfl rfl rfl (Eff.alloc rfl Ty.z55) ?_
 rintro _ _ ⟨b2, rfl, rfl⟩
 refine WP.val rfl rfl rfl (Val.assign rfl rfl) ?_
 refine WP.nx ?_
 refine WPc.sr ?_
 refine WP.val rfl rfl rfl (Val.assign rfl rfl) ?_
 refine WP.nx ?_
 refine WPc.sr ?_
 refine WP.val rfl rfl rfl (Val.assign rfl rfl) ?_
 refine WP.nx ?_
 refine WPc.seq ?_
 refine WPc.sr ?_
 refine WP.val rfl rfl rfl (Val.move rfl rfl) ?_
 refine WP.nx ?_
 refine WPc.block ?_
 refine WPc.sr ?_
 refine WP.val rfl rfl rfl (Val.eqlK rfl rfl rfl rfl) ?_
 refine WP.val rfl rfl rfl (Val.assign rfl rfl) ?_
 refine WP.nx ?_
 refine WPc.condF rfl rfl ?_
 refine WPc.sr ?_
 refine WP.val rfl rfl rfl (Val.eqlK rfl rfl rfl rfl) ?_
 refine WP.val rfl rfl rfl (Val.assign rfl rfl) ?_
 refine WP.nx ?_
 refine WPc.condT rfl rfl ?_
 refine WPc.seq ?_
 refine WPc.seq ?_
 refine WPc.perm pl2 ?_
 refine WPc.open (fun w h => h.ndOpen) ?_
 rintro ⟨vi, vc, ks⟩
 refine WPc.pure (fun hk => ?_)
 obtain ⟨hk, hl⟩ := hk
 dsimp only at hk hl
 have hkl := ks_len hk
 show WPc _ _ _ _ _ _ (Blk p [vi, vc, .pointer (some ⟨c, 0, none⟩)] 213 :: Own 55 2 vi t.is.length (flatOf El.cells t.is) :: Own 171 1 vc ks.length (flatOf vcf (kp ks)) :: Kds (Rk c (ht + 1)) ks :: Blk b2 [.int .i64 0, .int .i64 0] 55 :: Blk b1 [.int .i64 (x.k), .int .i64 (x.v)] 55 :: _)
 have hle := hbal.le
 have hb1 := hbal.1
 refine WPc.region ?_
 refine WP.val rfl rfl rfl (Val.move rfl rfl) ?_
 refine WP.val rfl rfl rfl (Val.nilCheck rfl rfl) ?_
 refine WP.val rfl rfl rfl (Val.fieldAddr (j := 1) rfl Ty.fo213_1 rfl rfl) ?_
 refine WP.val rfl rfl rfl (Val.load rfl Ty.sc211 rfl (fun w h => h.cell 0 rfl rfl)) ?_
 refine WP.val rfl rfl rfl (Val.lenOwn rfl Ty.sl211 rfl (fun w h => h.at 2 rfl)) ?_
 refine WP.val rfl rfl rfl (Val.eql rfl rfl rfl) ?_
 refine WP.nx ?_
 refine WPc.ifP rfl (fun h1 => ?_) (fun h1 => ?_)
 ·
  have h1 : (((ks.length : Nat) : Int) = (0 : Int)) := h1
  exfalso; omega
 ·
  have h1 : ¬ (((ks.length : Nat) : Int) = (0 : Int)) := h1
  refine WPc.skip ?_
  refine Out.next ?_
  refine WPc.region ?_
  refine WP.val rfl rfl rfl (Val.assign rfl rfl) ?_
  refine WP.nil ?_
  refine Out.block ?_
  refine Out.next ?_
  refine WPc.seq ?_
  refine WPc.seq ?_
  obtain ⟨tk, htk⟩ : ∃ k, t.ks[0]? = some k := ⟨_, List.getElem?_eq_getElem (by omega)⟩
  obtain ⟨pk, hx⟩ := ks_get hk htk
  rw [kid_at htk] at hkid
  have hbk := bal_kid hbal htk
  have hka := kp_at hx
  refine WPc.perm pl2 ?_
  refine WPc.open (fun w h => h.ownPos (by omega)) ?_
  rintro ⟨g3, cg3, spg3⟩
  refine WPc.pure (fun hvg3 => ?_)
  obtain ⟨rfl, hng3, hlg3, hsg3, hcg3⟩ := hvg3
  dsimp only at hng3 hlg3 hsg3 hcg3
  show WPc _ _ _ _ _ _ (Blk g3 (flatOf vcf (kp ks) ++ spg3) 171 :: Blk p [vi, .slice (some ⟨g3, 0, none⟩) ks.length cg3, .pointer (some ⟨c, 0, none⟩)] 213 :: _)
  refine WPc.perm pl3 ?_
  refine WPc.conv (fun w h => Sat.kOut (R := Rk c (ht + 1)) hx h) ?_
  show WPc _ _ _ _ _ _ (Nd c ht (pk, tk) :: Kds (Rk c (ht + 1)) (ks.take 0 ++ ks.drop (0 + 1)) :: _)
  refine WPc.open (fun w h => h.ndOpen) ?_
  rintro ⟨vix, vcx, ksx⟩
  refine WPc.pure (fun hkx => ?_)
  obtain ⟨hkx, hlx⟩ := hkx
  dsimp only at hkx hlx
  have hklx := ks_len hkx
  show WPc _ _ _ _ _ _ (Blk pk [vix, vcx, .pointer (some ⟨c, 0, none⟩)] 213 :: Own 55 2 vix tk.is.length (flatOf El.cells tk.is) :: Own 171 1 vcx ksx.length (flatOf vcf (kp ksx)) :: Kds (Rk c ht) ksx :: _)
  refine WPc.region ?_
  refine WP.val rfl rfl rfl (Val.move rfl rfl) ?_
  refine WP.val rfl rfl rfl (Val.nilCheck rfl rfl) ?_
  refine WP.val rfl rfl rfl (Val.fieldAddr (j := 1) rfl Ty.fo213_1 rfl rfl) ?_
  refine WP.val rfl rfl rfl (Val.load rfl Ty.sc211 rfl (fun w h => h.cell 6 rfl rfl)) ?_
  refine WP.val rfl rfl rfl (Val.move rfl rfl) ?_
  refine WP.val rfl rfl rfl (Val.indexAddr (j := 0) (q := 0) rfl Ty.sl211 rfl rfl (by omega) (by omega) (by omega)) ?_
  refine WP.val rfl rfl rfl (Val.load (v := .pointer (some ⟨pk, 0, none⟩)) rfl Ty.sc171 rfl (fun w h => ((h.at 5 rfl).cell _).trans (vflat_at hka))) ?_
  refine WP.val rfl rfl rfl (Val.nilCheck rfl rfl) ?_
  refine WP.val rfl rfl rfl (Val.fieldAddr (j := 0) rfl Ty.fo213_0 rfl rfl) ?_
  refine WP.val rfl rfl rfl (Val.load rfl Ty.sc210 rfl (fun w h => h.cell 0 rfl rfl)) ?_
  refine WP.val rfl rfl rfl (Val.lenOwn rfl Ty.sl210 rfl (fun w h => h.at 1 rfl)) ?_
  refine WP.val rfl rfl rfl (Val.move rfl rfl) ?_
  refine WP.val rfl rfl rfl (Val.leq rfl rfl rfl) ?_
  refine WP.nx ?_
  refine WPc.ifP rfl (fun h2 => ?_) (fun h2 => ?_)
  ·
   have h2 : (((tk.is.length : Nat) : Int) ≤ ((m : Nat) : Int)) := h2
   refine WPc.seq ?_
   iterate 4 (refine WPc.perm pl3 ?_)
   refine WPc.conv (fun w h => Sat.ndMk (c := c) (h := ht) (t := tk) (ks := ksx) hkx hlx h) ?_
   show WPc _ _ _ _ _ _ (Nd c ht (pk, tk) :: _)
   refine WPc.perm pl1 ?_
   refine WPc.perm pl1 ?_
   refine WPc.conv (fun w h => (by have h9 := Sat.kIn (R := Rk c (ht + 1)) (x := (pk, tk)) (ks := ks) (i := 0) h; rw [← split_at hx] at h9; exact h9)) ?_
   show WPc _ _ _ _ _ _ (Kds (Rk c (ht + 1)) ks :: _)
   refine WPc.perm pl1 ?_
   refine WPc.conv (fun w h => Sat.ownMk (e := 171) (k := 1) (b := g3) (m := ks.length) (cap := cg3) (xs := flatOf vcf (kp ks)) (sp := spg3) (by exact h) hng3 hlg3 hsg3 hcg3) ?_
   refine WPc.perm pl1 ?_
   refine WPc.perm pl1 ?_
   refine WPc.perm pl3 ?_
   refine WPc.perm pl3 ?_
   refine WPc.conv (fun w h => Sat.ndMk (c := c) (h := (ht + 1)) (t := t) (ks := ks) hk hl h) ?_
   show WPc _ _ _ _ _ _ (Nd c (ht + 1) (p, t) :: _)
   refine WPc.region ?_
   refine WP.val rfl rfl rfl (Val.move rfl rfl) ?_
   refine WP.val rfl rfl rfl (Val.move rfl rfl) ?_
   refine WP.val rfl rfl rfl (Val.loadAgg (cs := [.int .i64 (x.k), .int .i64 (x.v)]) rfl Ty.ag55 rfl rfl (fun w h => h.range 2 rfl rfl)) ?_
   refine WP.val rfl rfl rfl (Val.move rfl rfl) ?_
   refine WP.val rfl rfl rfl (Val.move rfl rfl) ?_
   refine WP.perm pl4 ?_
   refine WP.perm pl4 ?_
   refine WP.perm pl2 ?_
   refine WP.eff rfl rfl rfl (Eff.call rfl rfl Try.call141 (grow_spec c f m M ht p (0) t (dmin m (ht + 1) (grow m t 0)).1 x 1 (dmin m (ht + 1) (grow m t 0)).2 hM hM2 hm1 hbal (by omega) hi1 hrem)) ?_
   rintro _ _ ⟨_, ⟨rfl, rfl⟩, rfl⟩
   show WP _ _ _ _ _ _ _ (Nd c (ht + 1) (p, (dmin m (ht + 1) (grow m t 0)).1) :: _)
   refine WP.val rfl rfl rfl (Val.extract rfl rfl rfl) ?_
   refine WP.val rfl rfl rfl (Val.extract rfl rfl rfl) ?_
   refine WP.perm pl3 ?_
   refine WP.eff0 rfl rfl (Eff.storeAgg (cs := [.int .i64 (((dmin m (ht + 1) (grow m t 0)).2.getD El0).k), .int .i64 (((dmin m (ht + 1) (grow m t 0)).2.getD El0).v)]) (C' := [.int .i64 (((dmin m (ht + 1) (grow m t 0)).2.getD El0).k), .int .i64 (((dmin m (ht + 1) (grow m t 0)).2.getD El0).v)]) rfl Ty.ag55 rfl rfl rfl rfl (by simp) rfl) ?_
   rintro _ _ rfl
   refine WP.val rfl rfl rfl (Val.assign rfl rfl) ?_
   refine WP.nx ?_
   refine WPc.ret ?_
   refine Out.then_ret ?_
   have hd : dmin m (ht + 1) t = dmin m (ht + 1) (grow m t 0) := dmin_small (by rw [kid_at htk]; exact hkid) hgk
   refine Out.perm pl4 ?_
   refine Out.drop ?_
   exact Out.retRun (L' := _) (results_ct Try.results128 rfl Ty.ag55 rfl rfl (fun w h => h.range 0 rfl rfl)) ⟨by rw [hd]; rfl, by rw [hd]⟩ (fun w h => h.drop)
  ·
   have h2 : ¬ (((tk.is.length : Nat) : Int) ≤ ((m : Nat) : Int)) := h2
   exfalso; omega

theorem rem1_spec (c f m M : Nat) (hM : M = 2 * m + 1) (hM2 : M ≤ 1000) (hm1 : 1 ≤ m) (x : El) : ∀ (ht p : Nat) (t : Tr), Bal m M ht t → 1 ≤ t.is.length → Does Try.prog 128 [.pointer (some ⟨p, 0, none⟩), .agg #[.int .i64 x.k, .int .i64 x.v], .int .i64 ((m : Nat) : Int), .int .i64 1] [Nd c ht (p, t), Blk c [.pointer (some ⟨f, 0, none⟩), .func (.func 53) #[] #[]] 170, FL f] (fun v L => v = opv (dmin m ht t).2 ∧ L = [Nd c ht (p, (dmin m ht t).1), Blk c [.pointer (some ⟨f, 0, none⟩), .func (.func 53) #[] #[]] 170, FL f])
 | 0, p, t, hb, hl => rem1_leaf c f m M hM hM2 hm1 x p t hb hl
 | ht + 1, p, t, hb, hl => by
  by_cases hk : (kid t 0).is.length ≤ m
  ·
   obtain ⟨h1, h2, h3⟩ := grow_bal (i := 0) hM hm1 hb (by omega) hl hk
   exact rem1_small c f m M hM hM2 hm1 x ht p t hb hl hk (h2 rfl) (rem1_big c f m M hM hM2 hm1 x ht (rem1_spec c f m M hM hM2 hm1 x ht) p _ h1.bal (h2 rfl))
  ·
   exact rem1_big c f m M hM hM2 hm1 x ht (rem1_spec c f m M hM hM2 hm1 x ht) p t hb (by omega)
set_option maxRecDepth 100000 in
set_option maxHeartbeats 2000000 in
theorem rem2_leaf (c f m M : Nat) (hM : M = 2 * m + 1) (hM2 : M ≤ 1000) (hm1 : 1 ≤ m) (x : El) (p : Nat) (t : Tr) (hbal : Bal m M 0 t) (hi1 : 1 ≤ t.is.length) : Does Try.prog 128 [.pointer (some ⟨p, 0, none⟩), .agg #[.int .i64 (x.k), .int .i64 (x.v)], .int .i64 (((m : Nat) : Int)), .int .i64 2] [Nd c 0 (p, t), Blk c [.pointer (some ⟨f, 0, none⟩), .func (.func 53) #[] #[]] 170, FL f] (fun v L => v = opv (dmax m 0 t).2 ∧ L = [Nd c 0 (p, (dmax m 0 t).1), Blk c [.pointer (some ⟨f, 0, none⟩), .func (.func 53) #[] #[]] 170, FL f]) := by
 refine Does.enter 129 Try.func128 rfl rfl rfl fun W F => ?_
 show WPc _ _ _ _ _ [(0, .pointer (some ⟨p, 0, none⟩)), (1, .agg #[.int .i64 (x.k), .int .i64 (x.v)]), (2, .int .i64 (((m : Nat) : Int))), (3, .int .i64 2)] (Nd c 0 (p, t) :: Blk c [.pointer (some ⟨f, 0, none⟩), .func (.func 53) #[] #[]] 170 :: FL f :: F)
 refine WPc.sr ?_
 refine WP.eff rfl rfl rfl (Eff.box (C := [.int .i64 (x.k), .int .i64 (x.v)]) rfl rfl rfl) ?_
 rintro _ _ ⟨b1, rfl, rfl⟩
 refine WP.eff rfl rfl rfl (Eff.alloc rfl Ty.z55) ?_
 rintro _ _ ⟨b2, rfl, rfl⟩
 refine WP.val rfl rfl rfl (Val.assign rfl rfl) ?_
 refine WP.nx ?_
 refine WPc.sr ?_
 refine WP.val rfl rfl rfl (Val.assign rfl rfl) ?_
 refine WP.nx ?_
 refine WPc.sr ?_
 refine WP.val rfl rfl rfl (Val.assign rfl rfl) ?_
 refine WP.nx ?_
 refine WPc.seq ?_
 refine WPc.sr ?_
 refine WP.val rfl rfl rfl (Val.move rfl rfl) ?_
 refine WP.nx ?_
 refine WPc.block ?_
 refine WPc.sr ?_
 refine WP.val rfl rfl rfl (Val.eqlK rfl rfl rfl rfl) ?_
 refine WP.val rfl rfl rfl (Val.assign rfl rfl) ?_
 refine WP.nx ?_
 refine WPc.condT rfl rfl ?_
 refine WPc.seq ?_
 refine WPc.seq ?_
 refine WPc.perm pl2 ?_
 refine WPc.open (fun w h => h.ndOpen) ?_
 rintro ⟨vi, vc, ks⟩
 refine WPc.pure (fun hk => ?_)
 obtain ⟨hk, hl⟩ := hk
 dsimp only at hk hl
 have hkl := ks_len hk
 show WPc _ _ _ _ _ _ (Blk p [vi, vc, .pointer (some ⟨c, 0, none⟩)] 213 :: Own 55 2 vi t.is.length (flatOf El.cells t.is) :: Own 171 1 vc ks.length (flatOf vcf (kp ks)) :: Kds (Rk c 0) ks :: Blk b2 [.int .i64 0, .int .i64 0] 55 :: Blk b1 [.int .i64 (x.k), .int .i64 (x.v)] 55 :: _)
 have hle := hbal.le
 have hks0 : ks.length = 0 := by rw [hl rfl]; rfl
 obtain ⟨y, hy⟩ : ∃ y, t.is[t.is.length - 1]? = some y := ⟨_, List.getElem?_eq_getElem (by omega)⟩
 refine WPc.region ?_
 refine WP.val rfl rfl rfl (Val.move rfl rfl) ?_
 refine WP.val rfl rfl rfl (Val.nilCheck rfl rfl) ?_
 refine WP.val rfl rfl rfl (Val.fieldAddr (j := 1) rfl Ty.fo213_1 rfl rfl) ?_
 refine WP.val rfl rfl rfl (Val.load rfl Ty.sc211 rfl (fun w h => h.cell 0 rfl rfl)) ?_
 refine WP.val rfl rfl rfl (Val.lenOwn rfl Ty.sl211 rfl (fun w h => h.at 2 rfl)) ?_
 refine WP.val rfl rfl rfl (Val.eql rfl rfl rfl) ?_
 refine WP.nx ?_
 refine WPc.ifP rfl (fun h1 => ?_) (fun h1 => ?_)
 ·
  have h1 : (((ks.length : Nat) : Int) = (0 : Int)) := h1
  refine WPc.sr ?_
  refine WP.val rfl rfl rfl (Val.move rfl rfl) ?_
  refine WP.val rfl rfl rfl (Val.nilCheck rfl rfl) ?_
  refine WP.val rfl rfl rfl (Val.fieldAddr (j := 0) rfl Ty.fo213_0 rfl rfl) ?_
  refine WP.perm pl1 ?_
  refine WP.perm pl1 ?_
  refine WP.eff rfl rfl rfl (Eff.call rfl rfl Try.call139 (popE p vi vc (.pointer (some ⟨c, 0, none⟩)) y t.is (by omega) hy (by omega))) ?_
  rintro _ _ ⟨_, ⟨wi, hwi, rfl, rfl⟩, rfl⟩
  show WP _ _ _ _ _ _ _ (Blk p [wi, vc, .pointer (some ⟨c, 0, none⟩)] 213 :: Own 55 2 wi ((t.is).length - 1) (flatOf El.cells ((t.is).take ((t.is).length - 1))) :: _)
  refine WP.perm pl4 ?_
  refine WP.eff0 rfl rfl (Eff.storeAgg (cs := [.int .i64 (y.k), .int .i64 (y.v)]) (C' := [.int .i64 (y.k), .int .i64 (y.v)]) rfl Ty.ag55 rfl rfl rfl rfl (by simp) rfl) ?_
  rintro _ _ rfl
  refine WP.val rfl rfl rfl (Val.assign rfl rfl) ?_
  refine WP.nx ?_
  refine WPc.ret ?_
  refine Out.then_ret ?_
  refine Out.block_ret ?_
  refine Out.then_ret ?_
  refine Out.perm pl2 ?_
  refine Out.c1 (B := Own 55 2 wi ((t.is.take (t.is.length - 1)).length) (flatOf El.cells (t.is.take (t.is.length - 1)))) (fun w h => by rw [List.length_take, Nat.min_eq_left (by omega)]; exact h) ?_
  refine Out.perm pl4 ?_
  refine Out.perm pl4 ?_
  refine Out.perm pl2 ?_
  refine Out.perm pl4 ?_
  refine Out.conv (fun w h => Sat.ndMk (c := c) (h := 0) (t := (Tr.nd (t.is.take (t.is.length - 1)) t.ks)) (ks := ks) hk hl h) ?_
  show Out _ _ _ _ _ (Nd c 0 (p, (Tr.nd (t.is.take (t.is.length - 1)) t.ks)) :: Blk b2 [.int .i64 (y.k), .int .i64 (y.v)] 55 :: _)
  have hd : dmax m 0 t = (Tr.nd (t.is.take (t.is.length - 1)) t.ks, some y) := by unfold dmax; rw [getD_at hy]
  refine Out.perm pl2 ?_
  refine Out.drop ?_
  refine Out.perm pl3 ?_
  refine Out.perm pl3 ?_
  refine Out.perm pl2 ?_
  refine Out.perm pl3 ?_
  exact Out.retRun (L' := _) (results_ct Try.results128 rfl Ty.ag55 rfl rfl (fun w h => h.range 0 rfl rfl)) ⟨by rw [hd]; rfl, by rw [hd]⟩ (fun w h => h.drop)
 ·
  have h1 : ¬ (((ks.length : Nat) : Int) = (0 : Int)) := h1
  exfalso; omega
set_option maxRecDepth 100000 in
set_option maxHeartbeats 2000000 in
theorem rem2_big (c f m M : Nat) (hM : M = 2 * m + 1) (hM2 : M ≤ 1000) (hm1 : 1 ≤ m) (x : El) (ht : Nat) (ih : ∀ (p : Nat) (t : Tr), Bal m M ht t → 1 ≤ t.is.length → Does Try.prog 128 [.pointer (some ⟨p, 0, none⟩), .agg #[.int .i64 x.k, .int .i64 x.v], .int .i64 ((m : Nat) : Int), .int .i64 2] [Nd c ht (p, t), Blk c [.pointer (some ⟨f, 0, none⟩), .func (.func 53) #[] #[]] 170, FL f] (fun v L => v = opv (dmax m ht t).2 ∧ L = [Nd c ht (p, (dmax m ht t).1), Blk c [.pointer (some ⟨f, 0, none⟩), .func (.func 53) #[] #[]] 170, FL f])) (p : Nat) (t : Tr) (hbal : Bal m M (ht + 1) t) (hkid : m < (kid t t.is.length).is.length) : Does Try.prog 128 [.pointer (some ⟨p, 0, none⟩), .agg #[.int .i64 (x.k), .int .i64 (x.v)], .int .i64 (((m : Nat) : Int)), .int .i64 2] [Nd c (ht + 1) (p, t), Blk c [.pointer (some ⟨f, 0, none⟩), .func (.func 53) #[] #[]] 170, FL f] (fun v L => v = opv (dmax m (ht + 1) t).2 ∧ L = [Nd c (ht + 1) (p, (dmax m (ht + 1) t).1), Blk c [.pointer (some ⟨f, 0, none⟩), .func (.func 53) #[] #[]] 170, FL f]) := by
 refine Does.enter 129 Try.func128 rfl rfl rfl fun W F => ?_
 show WPc _ _ _ _ _ [(0, .pointer (some ⟨p, 0, none⟩)), (1, .agg #[.int .i64 (x.k), .int .i64 (x.v)]), (2, .int .i64 (((m : Nat) : Int))), (3, .int .i64 2)] (Nd c (ht + 1) (p, t) :: Blk c [.pointer (some ⟨f, 0, none⟩), .func (.func 53) #[] #[]] 170 :: FL f :: F)
 refine WPc.sr ?_
 refine WP.eff rfl rfl rfl (Eff.box (C := [.int .i64 (x.k), .int .i64 (x.v)]) rfl rfl rfl) ?_
 rintro _ _ ⟨b1, rfl, rfl⟩
 refine WP.eff rfl rfl rfl (Eff.alloc rfl Ty.z55) ?_
 rintro _ _ ⟨b2, rfl, rfl⟩
 refine WP.val rfl rfl rfl (Val.assign rfl rfl) ?_
 refine WP.nx ?_
 refine WPc.sr ?_
 refine WP.val rfl rfl rfl (Val.assign rfl rfl) ?_
 refine WP.nx ?_
 refine WPc.sr ?_
 refine WP.val rfl rfl rfl (Val.assign rfl rfl) ?_
 refine WP.nx ?_
 refine WPc.seq ?_
 refine WPc.sr ?_
 refine WP.val rfl rfl rfl (Val.move rfl rfl) ?_
 refine WP.nx ?_
 refine WPc.block ?_
 refine WPc.sr ?_
 refine WP.val rfl rfl rfl (Val.eqlK rfl rfl rfl rfl) ?_
 refine WP.val rfl rfl rfl (Val.assign rfl rfl) ?_
 refine WP.nx ?_
 refine WPc.condT rfl rfl ?_
 refine WPc.seq ?_
 refine WPc.seq ?_
 refine WPc.perm pl2 ?_
 refine WPc.open (fun w h => h.ndOpen) ?_
 rintro ⟨vi, vc, ks⟩
 refine WPc.pure (fun hk => ?_)
 obtain ⟨hk, hl⟩ := hk
 dsimp only at hk hl
 have hkl := ks_len hk
 show WPc _ _ _ _ _ _ (Blk p [vi, vc, .pointer (some ⟨c, 0, none⟩)] 213 :: Own 55 2 vi t.is.length (flatOf El.cells t.is) :: Own 171 1 vc ks.length (flatOf vcf (kp ks)) :: Kds (Rk c (ht + 1)) ks :: Blk b2 [.int .i64 0, .int .i64 0] 55 :: Blk b1 [.int .i64 (x.k), .int .i64 (x.v)] 55 :: _)
 have hle := hbal.le
 have hb1 := hbal.1
 refine WPc.region ?_
 refine WP.val rfl rfl rfl (Val.move rfl rfl) ?_
 refine WP.val rfl rfl rfl (Val.nilCheck rfl rfl) ?_
 refine WP.val rfl rfl rfl (Val.fieldAddr (j := 1) rfl Ty.fo213_1 rfl rfl) ?_
 refine WP.val rfl rfl rfl (Val.load rfl Ty.sc211 rfl (fun w h => h.cell 0 rfl rfl)) ?_
 refine WP.val rfl rfl rfl (Val.lenOwn rfl Ty.sl211 rfl (fun w h => h.at 2 rfl)) ?_
 refine WP.val rfl rfl rfl (Val.eql rfl rfl rfl) ?_
 refine WP.nx ?_
 refine WPc.ifP rfl (fun h1 => ?_) (fun h1 => ?_)
 ·
  have h1 : (((ks.length : Nat) : Int) = (0 : Int)) := h1
  exfalso; omega
 ·
  have h1 : ¬ (((ks.length : Nat) : Int) = (0 : Int)) := h1
  refine WPc.skip ?_
  refine Out.next ?_
  refine WPc.region ?_
  refine WP.val rfl rfl rfl (Val.move rfl rfl) ?_
  refine WP.val rfl rfl rfl (Val.nilCheck rfl rfl) ?_
  refine WP.val rfl rfl rfl (Val.fieldAddr (j := 0) rfl Ty.fo213_0 rfl rfl) ?_
  refine WP.val rfl rfl rfl (Val.load rfl Ty.sc210 rfl (fun w h => h.cell 0 rfl rfl)) ?_
  refine WP.val rfl rfl rfl (Val.lenOwn rfl Ty.sl210 rfl (fun w h => h.at 1 rfl)) ?_
  refine WP.val rfl rfl rfl (Val.assign rfl rfl) ?_
  refine WP.nil ?_
  refine Out.block ?_
  refine Out.next ?_
  refine WPc.seq ?_
  refine WPc.seq ?_
  obtain ⟨tk, htk⟩ : ∃ k, t.ks[t.is.length]? = some k := ⟨_, List.getElem?_eq_getElem (by omega)⟩
  obtain ⟨pk, hx⟩ := ks_get hk htk
  rw [kid_at htk] at hkid
  have hbk := bal_kid hbal htk
  have hka := kp_at hx
  refine WPc.perm pl2 ?_
  refine WPc.open (fun w h => h.ownPos (by omega)) ?_
  rintro ⟨g3, cg3, spg3⟩
  refine WPc.pure (fun hvg3 => ?_)
  obtain ⟨rfl, hng3, hlg3, hsg3, hcg3⟩ := hvg3
  dsimp only at hng3 hlg3 hsg3 hcg3
  show WPc _ _ _ _ _ _ (Blk g3 (flatOf vcf (kp ks) ++ spg3) 171 :: Blk p [vi, .slice (some ⟨g3, 0, none⟩) ks.length cg3, .pointer (some ⟨c, 0, none⟩)] 213 :: _)
  refine WPc.perm pl3 ?_
  refine WPc.conv (fun w h => Sat.kOut (R := Rk c (ht + 1)) hx h) ?_
  show WPc _ _ _ _ _ _ (Nd c ht (pk, tk) :: Kds (Rk c (ht + 1)) (ks.take t.is.length ++ ks.drop (t.is.length + 1)) :: _)
  refine WPc.open (fun w h => h.ndOpen) ?_
  rintro ⟨vix, vcx, ksx⟩
  refine WPc.pure (fun hkx => ?_)
  obtain ⟨hkx, hlx⟩ := hkx
  dsimp only at hkx hlx
  have hklx := ks_len hkx
  show WPc _ _ _ _ _ _ (Blk pk [vix, vcx, .pointer (some ⟨c, 0, none⟩)] 213 :: Own 55 2 vix tk.is.length (flatOf El.cells tk.is) :: Own 171 1 vcx ksx.length (flatOf vcf (kp ksx)) :: Kds (Rk c ht) ksx :: _)
  refine WPc.region ?_
  refine WP.val rfl rfl rfl (Val.move rfl rfl) ?_
  refine WP.val rfl rfl rfl (Val.nilCheck rfl rfl) ?_
  refine WP.val rfl rfl rfl (Val.fieldAddr (j := 1) rfl Ty.fo213_1 rfl rfl) ?_
  refine WP.val rfl rfl rfl (Val.load rfl Ty.sc211 rfl (fun w h => h.cell 6 rfl rfl)) ?_
  refine WP.val rfl rfl rfl (Val.move rfl rfl) ?_
  refine WP.val rfl rfl rfl (Val.indexAddr (j := t.is.length) (q := t.is.length) rfl Ty.sl211 rfl rfl (by omega) (by omega) (by omega)) ?_
  refine WP.val rfl rfl rfl (Val.load (v := .pointer (some ⟨pk, 0, none⟩)) rfl Ty.sc171 rfl (fun w h => ((h.at 5 rfl).cell _).trans (vflat_at hka))) ?_
  refine WP.val rfl rfl rfl (Val.nilCheck rfl rfl) ?_
  refine WP.val rfl rfl rfl (Val.fieldAddr (j := 0) rfl Ty.fo213_0 rfl rfl) ?_
  refine WP.val rfl rfl rfl (Val.load rfl Ty.sc210 rfl (fun w h => h.cell 0 rfl rfl)) ?_
  refine WP.val rfl rfl rfl (Val.lenOwn rfl Ty.sl210 rfl (fun w h => h.at 1 rfl)) ?_
  refine WP.val rfl rfl rfl (Val.move rfl rfl) ?_
  refine WP.val rfl rfl rfl (Val.leq rfl rfl rfl) ?_
  refine WP.nx ?_
  refine WPc.ifP rfl (fun h2 => ?_) (fun h2 => ?_)
  ·
   have h2 : (((tk.is.length : Nat) : Int) ≤ ((m : Nat) : Int)) := h2
   exfalso; omega
  ·
   have h2 : ¬ (((tk.is.length : Nat) : Int) ≤ ((m : Nat) : Int)) := h2
   refine WPc.skip ?_
   refine Out.next ?_
   refine WPc.seq ?_
   iterate 4 (refine WPc.perm pl3 ?_)
   refine WPc.conv (fun w h => Sat.ndMk (c := c) (h := ht) (t := tk) (ks := ksx) hkx hlx h) ?_
   show WPc _ _ _ _ _ _ (Nd c ht (pk, tk) :: _)
   refine WPc.perm pl1 ?_
   refine WPc.perm pl1 ?_
   refine WPc.conv (fun w h => (by have h9 := Sat.kIn (R := Rk c (ht + 1)) (x := (pk, tk)) (ks := ks) (i := t.is.length) h; rw [← split_at hx] at h9; exact h9)) ?_
   show WPc _ _ _ _ _ _ (Kds (Rk c (ht + 1)) ks :: _)
   refine WPc.perm pl1 ?_
   refine WPc.conv (fun w h => Sat.ownMk (e := 171) (k := 1) (b := g3) (m := ks.length) (cap := cg3) (xs := flatOf vcf (kp ks)) (sp := spg3) (by exact h) hng3 hlg3 hsg3 hcg3) ?_
   refine WPc.region ?_
   refine WP.val rfl rfl rfl (Val.move rfl rfl) ?_
   refine WP.val rfl rfl rfl (Val.move rfl rfl) ?_
   refine WP.perm pl1 ?_
   refine WP.perm pl1 ?_
   refine WP.perm pl2 ?_
   refine WP.eff rfl rfl rfl (Eff.call rfl rfl Try.call127 (mchild_spec c ht p t.is.length vi (.slice (some ⟨g3, 0, none⟩) ks.length cg3) ks pk tk hx (by omega))) ?_
   rintro _ _ ⟨_, ⟨rfl, rfl⟩, rfl⟩
   show WP _ _ _ _ _ _ _ (_ :: Own 171 1 (.slice (some ⟨g3, 0, none⟩) ks.length cg3) ks.length (flatOf vcf (kp ks)) :: _)
   refine WP.val rfl rfl rfl (Val.assign rfl rfl) ?_
   refine WP.nx ?_
   refine WPc.seq ?_
   refine WPc.sr ?_
   refine WP.val rfl rfl rfl (Val.move rfl rfl) ?_
   refine WP.nx ?_
   refine WPc.condF rfl rfl ?_
   refine WPc.skip ?_
   refine Out.next ?_
   refine WPc.seq ?_
   refine WPc.perm pl2 ?_
   refine WPc.conv (fun w h => Sat.kOut (R := Rk c (ht + 1)) hx h) ?_
   show WPc _ _ _ _ _ _ (Nd c ht (pk, tk) :: Kds (Rk c (ht + 1)) (ks.take t.is.length ++ ks.drop (t.is.length + 1)) :: _)
   refine WPc.region ?_
   refine WP.val rfl rfl rfl (Val.move rfl rfl) ?_
   refine WP.val rfl rfl rfl (Val.loadAgg (cs := [.int .i64 (x.k), .int .i64 (x.v)]) rfl Ty.ag55 rfl rfl (fun w h => h.range 6 rfl rfl)) ?_
   refine WP.val rfl rfl rfl (Val.move rfl rfl) ?_
   refine WP.val rfl rfl rfl (Val.move rfl rfl) ?_
   refine WP.perm pl8 ?_
   refine WP.perm pl8 ?_
   refine WP.perm pl2 ?_
   refine WP.eff rfl rfl rfl (Eff.call rfl rfl Try.call128 (ih pk tk hbk.2 (by omega))) ?_
   rintro _ _ ⟨_, ⟨rfl, rfl⟩, rfl⟩
   show WP _ _ _ _ _ _ _ (Nd c ht (pk, (dmax m ht tk).1) :: _)
   refine WP.val rfl rfl rfl (Val.extract rfl rfl rfl) ?_
   refine WP.val rfl rfl rfl (Val.extract rfl rfl rfl) ?_
   refine WP.perm pl7 ?_
   refine WP.eff0 rfl rfl (Eff.storeAgg (cs := [.int .i64 (((dmax m ht tk).2.getD El0).k), .int .i64 (((dmax m ht tk).2.getD El0).v)]) (C' := [.int .i64 (((dmax m ht tk).2.getD El0).k), .int .i64 (((dmax m ht tk).2.getD El0).v)]) rfl Ty.ag55 rfl rfl rfl rfl (by simp) rfl) ?_
   rintro _ _ rfl
   refine WP.val rfl rfl rfl (Val.assign rfl rfl) ?_
   refine WP.nx ?_
   refine WPc.ret ?_
   refine Out.perm pl4 ?_
   refine Out.perm pl2 ?_
   refine Out.conv (fun w h => Sat.kIn (R := Rk c (ht + 1)) (x := (pk, (dmax m ht tk).1)) (ks := ks) (i := t.is.length) h) ?_
   show Out _ _ _ _ _ (Kds (Rk c (ht + 1)) (ks.take t.is.length ++ (pk, (dmax m ht tk).1) :: ks.drop (t.is.length + 1)) :: Blk b2 [.int .i64 (((dmax m ht tk).2.getD El0).k), .int .i64 (((dmax m ht tk).2.getD El0).v)] 55 :: _)
   refine Out.perm pl5 ?_
   refine Out.c1 (B := Own 171 1 (.slice (some ⟨g3, 0, none⟩) ks.length cg3) ((ks.take t.is.length ++ (pk, (dmax m ht tk).1) :: ks.drop (t.is.length + 1)).length) (flatOf vcf (kp (ks.take t.is.length ++ (pk, (dmax m ht tk).1) :: ks.drop (t.is.length + 1))))) (fun w h => by rw [len_one_set hx, kp_one_set hx]; exact h) ?_
   refine Out.perm pl1 ?_
   refine Out.perm pl1 ?_
   refine Out.perm pl6 ?_
   refine Out.perm pl6 ?_
   refine Out.conv (fun w h => Sat.ndMk (c := c) (h := (ht + 1)) (t := (Tr.nd t.is (t.ks.set t.is.length (dmax m ht tk).1))) (ks := (ks.take t.is.length ++ (pk, (dmax m ht tk).1) :: ks.drop (t.is.length + 1))) (snd_one hk hx) (fun h0 => by cases h0) h) ?_
   show Out _ _ _ _ _ (Nd c (ht + 1) (p, (Tr.nd t.is (t.ks.set t.is.length (dmax m ht tk).1))) :: _)
   have hd : dmax m (ht + 1) t = (Tr.nd t.is (t.ks.set t.is.length (dmax m ht tk).1), (dmax m ht tk).2) := by rw [dmax_big (by rw [kid_at htk]; exact hkid), kid_at htk]
   refine Out.perm pl4 ?_
   refine Out.drop ?_
   refine Out.perm pl3 ?_
   refine Out.perm pl3 ?_
   refine Out.perm pl2 ?_
   refine Out.perm pl3 ?_
   exact Out.retRun (L' := _) (results_ct Try.results128 rfl Ty.ag55 rfl rfl (fun w h => h.range 0 rfl rfl)) ⟨by rw [hd]; rfl, by rw [hd]⟩ (fun w h => h.drop)
set_option maxRecDepth 100000 in
set_option maxHeartbeats 2000000 in
theorem rem2_small (c f m M : Nat) (hM : M = 2 * m + 1) (hM2 : M ≤ 1000) (hm1 : 1 ≤ m) (x : El) (ht p : Nat) (t : Tr) (hbal : Bal m M (ht + 1) t) (hi1 : 1 ≤ t.is.length) (hkid : (kid t t.is.length).is.length ≤ m) (hgk : m < (kid (grow m t t.is.length) (grow m t t.is.length).is.length).is.length) (hrem : Does Try.prog 128 [.pointer (some ⟨p, 0, none⟩), .agg #[.int .i64 x.k, .int .i64 x.v], .int .i64 ((m : Nat) : Int), .int .i64 2] [Nd c (ht + 1) (p, grow m t t.is.length), Blk c [.pointer (some ⟨f, 0, none⟩), .func (.func 53) #[] #[]] 170, FL f] (fun v L => v = opv (dmax m (ht + 1) (grow m t t.is.length)).2 ∧ L = [Nd c (ht + 1) (p, (dmax m (ht + 1) (grow m t t.is.length)).1), Blk c [.pointer (some ⟨f, 0, none⟩), .func (.func 53) #[] #[]] 170, FL f])) : Does Try.prog 128 [.pointer (some ⟨p, 0, none⟩), .agg #[.int .i64 (x.k), .int .i64 (x.v)], .int .i64 (((m : Nat) : Int)), .int .i64 2] [Nd c (ht + 1) (p, t), Blk c [.pointer (some ⟨f, 0, none⟩), .func (.func 53) #[] #[]] 170, FL f] (fun v L => v = opv (dmax m (ht + 1) t).2 ∧ L = [Nd c (ht + 1) (p, (dmax m (ht + 1) t).1), Blk c [.pointer (some ⟨f, 0, none⟩), .func (.func 53) #[] #[]] 170, FL f]) := by
 refine Does.enter 129 Try.func128 rfl rfl rfl fun W F => ?_
 show WPc _ _ _ _ _ [(0, .pointer (some ⟨p, 0, none⟩)), (1, .agg #[.int .i64 (x.k), .int .i64 (x.v)]), (2, .int .i64 (((m : Nat) : Int))), (3, .int .i64 2)] (Nd c (ht + 1) (p, t) :: Blk c [.pointer (some ⟨f, 0, none⟩), .func (.func 53) #[] #[]] 170 :: FL f :: F)
 refine WPc.sr ?_
 refine WP.eff rfl rfl rfl (Eff.box (C := [.int .i64 (x.k), .int .i64 (x.v)]) rfl rfl rfl) ?_
 rintro _ _ ⟨b1, rfl, rfl⟩
 refine WP.eff rfl rfl rfl (Eff.alloc rfl Ty.z55) ?_
 rintro _ _ ⟨b2, rfl, rfl⟩
 refine WP.val rfl rfl rfl (Val.assign rfl rfl) ?_
 refine WP.nx ?_
 refine WPc.sr ?_
 refine WP.val rfl rfl rfl (Val.assign rfl rfl) ?_
 refine WP.nx ?_
 refine WPc.sr ?_
 refine WP.val rfl rfl rfl (Val.assign rfl rfl) ?_
 refine WP.nx ?_
 refine WPc.seq ?_
 refine WPc.sr ?_
 refine WP.val rfl rfl rfl (Val.move rfl rfl) ?_
 refine WP.nx ?_
 refine WPc.block ?_
 refine WPc.sr ?_
 refine WP.val rfl rfl rfl (Val.eqlK rfl rfl rfl rfl) ?_
 refine WP.val rfl rfl rfl (Val.assign rfl rfl) ?_
 refine WP.nx ?_
 refine WPc.condT rfl rfl ?_
 refine WPc.seq ?_
 refine WPc.seq ?_
 refine WPc.perm pl2 ?_
 refine WPc.open (fun w h => h.ndOpen) ?_
 rintro ⟨vi, vc, ks⟩
 refine WPc.pure (fun hk => ?_)
 obtain ⟨hk, hl⟩ := hk
 dsimp only at hk hl
 have hkl := ks_len hk
 show WPc _ _ _ _ _ _ (Blk p [vi, vc, .pointer (some ⟨c, 0, none⟩)] 213 :: Own 55 2 vi t.is.length (flatOf El.cells t.is) :: Own 171 1 vc ks.length (flatOf vcf (kp ks)) :: Kds (Rk c (ht + 1)) ks :: Blk b2 [.int .i64 0, .int .i64 0] 55 :: Blk b1 [.int .i64 (x.k), .int .i64 (x.v)] 55 :: _)
 have hle := hbal.le
 have hb1 := hbal.1
 refine WPc.region ?_
 refine WP.val rfl rfl rfl (Val.move rfl rfl) ?_
 refine WP.val rfl rfl rfl (Val.nilCheck rfl rfl) ?_
 refine WP.val rfl rfl rfl (Val.fieldAddr (j := 1) rfl Ty.fo213_1 rfl rfl) ?_
 refine WP.val rfl rfl rfl (Val.load rfl Ty.sc211 rfl (fun w h => h.cell 0 rfl rfl)) ?_
 refine WP.val rfl rfl rfl (Val.lenOwn rfl Ty.sl211 rfl (fun w h => h.at 2 rfl)) ?_
 refine WP.val rfl rfl rfl (Val.eql rfl rfl rfl) ?_
 refine WP.nx ?_
 refine WPc.ifP rfl (fun h1 => ?_) (fun h1 => ?_)
 ·
  have h1 : (((ks.length : Nat) : Int) = (0 : Int)) := h1
  exfalso; omega
 ·
  have h1 : ¬ (((ks.length : Nat) : Int) = (0 : Int)) := h1
  refine WPc.skip ?_
  refine Out.next ?_
  refine WPc.region ?_
  refine WP.val rfl rfl rfl (Val.move rfl rfl) ?_
  refine WP.val rfl rfl rfl (Val.nilCheck rfl rfl) ?_
  refine WP.val rfl rfl rfl (Val.fieldAddr (j := 0) rfl Ty.fo213_0 rfl rfl) ?_
  refine WP.val rfl rfl rfl (Val.load rfl Ty.sc210 rfl (fun w h => h.cell 0 rfl rfl)) ?_
  refine WP.val rfl rfl rfl (Val.lenOwn rfl Ty.sl210 rfl (fun w h => h.at 1 rfl)) ?_
  refine WP.val rfl rfl rfl (Val.assign rfl rfl) ?_
  refine WP.nil ?_
  refine Out.block ?_
  refine Out.next ?_
  refine WPc.seq ?_
  refine WPc.seq ?_
  obtain ⟨tk, htk⟩ : ∃ k, t.ks[t.is.length]? = some k := ⟨_, List.getElem?_eq_getElem (by omega)⟩
  obtain ⟨pk, hx⟩ := ks_get hk htk
  rw [kid_at htk] at hkid
  have hbk := bal_kid hbal htk
  have hka := kp_at hx
  refine WPc.perm pl2 ?_
  refine WPc.open (fun w h => h.ownPos (by omega)) ?_
  rintro ⟨g3, cg3, spg3⟩
  refine WPc.pure (fun hvg3 => ?_)
  obtain ⟨rfl, hng3, hlg3, hsg3, hcg3⟩ := hvg3
  dsimp only at hng3 hlg3 hsg3 hcg3
  show WPc _ _ _ _ _ _ (Blk g3 (flatOf vcf (kp ks) ++ spg3) 171 :: Blk p [vi, .slice (some ⟨g3, 0, none⟩) ks.length cg3, .pointer (some ⟨c, 0, none⟩)] 213 :: _)
  refine WPc.perm pl3 ?_
  refine WPc.conv (fun w h => Sat.kOut (R := Rk c (ht + 1)) hx h) ?_
  show WPc _ _ _ _ _ _ (Nd c ht (pk, tk) :: Kds (Rk c (ht + 1)) (ks.take t.is.length ++ ks.drop (t.is.length + 1)) :: _)
  refine WPc.open (fun w h => h.ndOpen) ?_
  rintro ⟨vix, vcx, ksx⟩
  refine WPc.pure (fun hkx => ?_)
  obtain ⟨hkx, hlx⟩ := hkx
  dsimp only at hkx hlx
  have hklx := ks_len hkx
  show WPc _ _ _ _ _ _ (Blk pk [vix, vcx, .pointer (some ⟨c, 0, none⟩)] 213 :: Own 55 2 vix tk.is.length (flatOf El.cells tk.is) :: Own 171 1 vcx ksx.length (flatOf vcf (kp ksx)) :: Kds (Rk c ht) ksx :: _)
  refine WPc.region ?_
  refine WP.val rfl rfl rfl (Val.move rfl rfl) ?_
  refine WP.val rfl rfl rfl (Val.nilCheck rfl rfl) ?_
  refine WP.val rfl rfl rfl (Val.fieldAddr (j := 1) rfl Ty.fo213_1 rfl rfl) ?_
  refine WP.val rfl rfl rfl (Val.load rfl Ty.sc211 rfl (fun w h => h.cell 6 rfl rfl)) ?_
  refine WP.val rfl rfl rfl (Val.move rfl rfl) ?_
  refine WP.val rfl rfl rfl (Val.indexAddr (j := t.is.length) (q := t.is.length) rfl Ty.sl211 rfl rfl (by omega) (by omega) (by omega)) ?_
  refine WP.val rfl rfl rfl (Val.load (v := .pointer (some ⟨pk, 0, none⟩)) rfl Ty.sc171 rfl (fun w h => ((h.at 5 rfl).cell _).trans (vflat_at hka))) ?_
  refine WP.val rfl rfl rfl (Val.nilCheck rfl rfl) ?_
  refine WP.val rfl rfl rfl (Val.fieldAddr (j := 0) rfl Ty.fo213_0 rfl rfl) ?_
  refine WP.val rfl rfl rfl (Val.load rfl Ty.sc210 rfl (fun w h => h.cell 0 rfl rfl)) ?_
  refine WP.val rfl rfl rfl (Val.lenOwn rfl Ty.sl210 rfl (fun w h => h.at 1 rfl)) ?_
  refine WP.val rfl rfl rfl (Val.move rfl rfl) ?_
  refine WP.val rfl rfl rfl (Val.leq rfl rfl rfl) ?_
  refine WP.nx ?_
  refine WPc.ifP rfl (fun h2 => ?_) (fun h2 => ?_)
  ·
   have h2 : (((tk.is.length : Nat) : Int) ≤ ((m : Nat) : Int)) := h2
   refine WPc.seq ?_
   iterate 4 (refine WPc.perm pl3 ?_)
   refine WPc.conv (fun w h => Sat.ndMk (c := c) (h := ht) (t := tk) (ks := ksx) hkx hlx h) ?_
   show WPc _ _ _ _ _ _ (Nd c ht (pk, tk) :: _)
   refine WPc.perm pl1 ?_
   refine WPc.perm pl1 ?_
   refine WPc.conv (fun w h => (by have h9 := Sat.kIn (R := Rk c (ht + 1)) (x := (pk, tk)) (ks := ks) (i := t.is.length) h; rw [← split_at hx] at h9; exact h9)) ?_
   show WPc _ _ _ _ _ _ (Kds (Rk c (ht + 1)) ks :: _)
   refine WPc.perm pl1 ?_
   refine WPc.conv (fun w h => Sat.ownMk (e := 171) (k := 1) (b := g3) (m := ks.length) (cap := cg3) (xs := flatOf vcf (kp ks)) (sp := spg3) (by exact h) hng3 hlg3 hsg3 hcg3) ?_
   refine WPc.perm pl1 ?_
   refine WPc.perm pl1 ?_
   refine WPc.perm pl3 ?_
   refine WPc.perm pl3 ?_
   refine WPc.conv (fun w h => Sat.ndMk (c := c) (h := (ht + 1)) (t := t) (ks := ks) hk hl h) ?_
   show WPc _ _ _ _ _ _ (Nd c (ht + 1) (p, t) :: _)
   refine WPc.region ?_
   refine WP.val rfl rfl rfl (Val.move rfl rfl) ?_
   refine WP.val rfl rfl rfl (Val.move rfl rfl) ?_
   refine WP.val rfl rfl rfl (Val.loadAgg (cs := [.int .i64 (x.k), .int .i64 (x.v)]) rfl Ty.ag55 rfl rfl (fun w h => h.range 2 rfl rfl)) ?_
   refine WP.val rfl rfl rfl (Val.move rfl rfl) ?_
   refine WP.val rfl rfl rfl (Val.move rfl rfl) ?_
   refine WP.perm pl4 ?_
   refine WP.perm pl4 ?_
   refine WP.perm pl2 ?_
   refine WP.eff rfl rfl rfl (Eff.call rfl rfl Try.call141 (grow_spec c f m M ht p (t.is.length) t (dmax m (ht + 1) (grow m t t.is.length)).1 x 2 (dmax m (ht + 1) (grow m t t.is.length)).2 hM hM2 hm1 hbal (by omega) hi1 hrem)) ?_
   rintro _ _ ⟨_, ⟨rfl, rfl⟩, rfl⟩
   show WP _ _ _ _ _ _ _ (Nd c (ht + 1) (p, (dmax m (ht + 1) (grow m t t.is.length)).1) :: _)
   refine WP.val rfl rfl rfl (Val.extract rfl rfl rfl) ?_
   refine WP.val rfl rfl rfl (Val.extract rfl rfl rfl) ?_
   refine WP.perm pl3 ?_
   refine WP.eff0 rfl rfl (Eff.storeAgg (cs := [.int .i64 (((dmax m (ht + 1) (grow m t t.is.length)).2.getD El0).k), .int .i64 (((dmax m (ht + 1) (grow m t t.is.length)).2.getD El0).v)]) (C' := [.int .i64 (((dmax m (ht + 1) (grow m t t.is.length)).2.getD El0).k), .int .i64 (((dmax m (ht + 1) (grow m t t.is.length)).2.getD El0).v)]) rfl Ty.ag55 rfl rfl rfl rfl (by simp) rfl) ?_
   rintro _ _ rfl
   refine WP.val rfl rfl rfl (Val.assign rfl rfl) ?_
   refine WP.nx ?_
   refine WPc.ret ?_
   refine Out.then_ret ?_
   have hd : dmax m (ht + 1) t = dmax m (ht + 1) (grow m t t.is.length) := dmax_small (by rw [kid_at htk]; exact hkid) hgk
   refine Out.perm pl4 ?_
   refine Out.drop ?_
   exact Out.retRun (L' := _) (results_ct Try.results128 rfl Ty.ag55 rfl rfl (fun w h => h.range 0 rfl rfl)) ⟨by rw [hd]; rfl, by rw [hd]⟩ (fun w h => h.drop)
  ·
   have h2 : ¬ (((tk.is.length : Nat) : Int) ≤ ((m : Nat) : Int)) := h2
   exfalso; omega

theorem rem2_spec (c f m M : Nat) (hM : M = 2 * m + 1) (hM2 : M ≤ 1000) (hm1 : 1 ≤ m) (x : El) : ∀ (ht p : Nat) (t : Tr), Bal m M ht t → 1 ≤ t.is.length → Does Try.prog 128 [.pointer (some ⟨p, 0, none⟩), .agg #[.int .i64 x.k, .int .i64 x.v], .int .i64 ((m : Nat) : Int), .int .i64 2] [Nd c ht (p, t), Blk c [.pointer (some ⟨f, 0, none⟩), .func (.func 53) #[] #[]] 170, FL f] (fun v L => v = opv (dmax m ht t).2 ∧ L = [Nd c ht (p, (dmax m ht t).1), Blk c [.pointer (some ⟨f, 0, none⟩), .func (.func 53) #[] #[]] 170, FL f])
 | 0, p, t, hb, hl => rem2_leaf c f m M hM hM2 hm1 x p t hb hl
 | ht + 1, p, t, hb, hl => by
  by_cases hk : (kid t t.is.length).is.length ≤ m
  ·
   obtain ⟨h1, h2, h3⟩ := grow_bal (i := t.is.length) hM hm1 hb (by omega) hl hk
   exact rem2_small c f m M hM hM2 hm1 x ht p t hb hl hk (h3 rfl) (rem2_big c f m M hM hM2 hm1 x ht (rem2_spec c f m M hM hM2 hm1 x ht) p _ h1.bal (h3 rfl))
  ·
   exact rem2_big c f m M hM hM2 hm1 x ht (rem2_spec c f m M hM hM2 hm1 x ht) p t hb (by omega)

end Go.Proofs.Ythmkdioafjmclaa.Bt10
