import Derived.Test.YtbomnihiapjmpaaMpf
namespace Go.Proofs.Ytbomnihiapjmpaa.Ak
open Go.RowKit Go.Proofs.Ytbomnihiapjmpaa Go.Proofs.Ytbomnihiapjmpaa.Sl Go.Proofs.Ytbomnihiapjmpaa.TrP Go.Proofs.Ytbomnihiapjmpaa.Tb Go.Proofs.Ytbomnihiapjmpaa.Tc Go.Proofs.Ytbomnihiapjmpaa.Td Go.Proofs.Ytbomnihiapjmpaa.Te Go.Proofs.Ytbomnihiapjmpaa.Tk Go.Proofs.Ytbomnihiapjmpaa.Tl Go.Proofs.Ytbomnihiapjmpaa.Tm Go.Proofs.Ytbomnihiapjmpaa.Tj Go.Proofs.Ytbomnihiapjmpaa.Tn Go.Proofs.Ytbomnihiapjmpaa.Tp Go.Proofs.Ytbomnihiapjmpaa.Tq Go.Proofs.Ytbomnihiapjmpaa.Tr Go.Proofs.Ytbomnihiapjmpaa.Tx Go.Proofs.Ytbomnihiapjmpaa.TC Go.Proofs.Ytbomnihiapjmpaa.TD Go.Proofs.Ytbomnihiapjmpaa.TP Go.Proofs.Ytbomnihiapjmpaa.Aa Go.Proofs.Ytbomnihiapjmpaa.Ab Go.Proofs.Ytbomnihiapjmpaa.Ac Go.Proofs.Ytbomnihiapjmpaa.Ad Go.Proofs.Ytbomnihiapjmpaa.Ae Go.Proofs.Ytbomnihiapjmpaa.Af Go.Proofs.Ytbomnihiapjmpaa.Ag Go.Proofs.Ytbomnihiapjmpaa.Ah Go.Proofs.Ytbomnihiapjmpaa.Ai Go.Proofs.Ytbomnihiapjmpaa.Aj
set_option linter.unusedVariables false
set_option linter.unusedSimpArgs false
set_option linter.unusedSectionVars false


section
variable {P : Program} {n : Nat} {l : List (Nat × Value)} {G : World → Prop} {o : Oper}
theorem Val.geqS {t u : TypeId} {x y : Operand} {p q : ByteArray} (ho : o.op = .binOp .geq t x y u) (hx : ev l x = some (.string p)) (hy : ev l y = some (.string q)) : Val P n l G o (.bool (!Op.bytesLess p.toList q.toList)) := fun a w hf hs => by
  simp [execOp, ho, hf.ev hx, hf.ev hy, eqGuard, binOp, Op.stringOp]
theorem leq_less (x y : List UInt8) : (Op.bytesLess x y || x == y) = !Op.bytesLess y x := by
  have := gtr_less x y
  rw [← this]; cases Op.bytesLess x y <;> cases h : (x == y) <;> simp_all
theorem Val.leqS {t u : TypeId} {x y : Operand} {p q : ByteArray} (ho : o.op = .binOp .leq t x y u) (hx : ev l x = some (.string p)) (hy : ev l y = some (.string q)) : Val P n l G o (.bool (!Op.bytesLess q.toList p.toList)) := fun a w hf hs => by
  simp only [execOp, ho, hf.ev hx, hf.ev hy, eqGuard, binOp, Op.stringOp, leq_less]
  rfl
end

theorem filt_lt {α : Type} {p q : α → Bool} {x : α} : ∀ {l : List α}, x ∈ l → (∀ y, p y = true → q y = true) → p x = false → q x = true → (l.filter p).length < (l.filter q).length
  | a :: l, hx, hpq, h1, h2 => by
    have hle : ∀ l : List α, (l.filter p).length ≤ (l.filter q).length := fun l => by
      induction l with
      | nil => exact Nat.le_refl _
      | cons b l ih =>
        cases hp : p b
        · rw [List.filter_cons_of_neg (by simp [hp])]
          exact Nat.le_trans ih (by
            cases hq : q b
            · rw [List.filter_cons_of_neg (by simp [hq])]; exact Nat.le_refl _
            · rw [List.filter_cons_of_pos hq]; exact Nat.le_succ _)
        · rw [List.filter_cons_of_pos hp, List.filter_cons_of_pos (hpq b hp)]
          exact Nat.succ_le_succ ih
    rcases List.mem_cons.1 hx with rfl | hx
    · rw [List.filter_cons_of_neg (by simp [h1]), List.filter_cons_of_pos h2]
      exact Nat.lt_succ_of_le (hle l)
    · have ih := filt_lt hx hpq h1 h2
      cases hp : p a
      · rw [List.filter_cons_of_neg (by simp [hp])]
        exact Nat.lt_of_lt_of_le ih (by
          cases hq : q a
          · rw [List.filter_cons_of_neg (by simp [hq])]; exact Nat.le_refl _
          · rw [List.filter_cons_of_pos hq]; exact Nat.le_succ _)
      · rw [List.filter_cons_of_pos hp, List.filter_cons_of_pos (hpq a hp)]
        exact Nat.succ_lt_succ ih
/-- a span of the reference -/
structure Spn where
  lo : ByteArray
  hi : ByteArray
  open_ : Bool
def Spn.cells (x : Spn) : List Value := [.string x.lo, .string x.hi, .bool x.open_]
theorem Spn.len (x : Spn) : (Spn.cells x).length = 3 := rfl
def sE (x : Spn) : Ky := if x.open_ = true then top else ka x.hi
def VS (x : Spn) : Prop := x.lo.size ≠ 0 ∧ (x.open_ = false → x.hi.size ≠ 0)
def CovS (l : List Spn) (s : Spn) : Prop := ∀ p, Pt p → inI p (ka s.lo) (sE s) → ∃ x ∈ l, inI p (ka x.lo) (sE x)
theorem klt_ka {x y : ByteArray} (hx : x.size ≠ 0) (hy : y.size ≠ 0) : klt (ka x) (ka y) ↔ Op.bytesLess x.toList y.toList = true := by
  rw [ka_ne hx, ka_ne hy]; unfold klt; simp
/-- does a span have the key? -/
def covB (x : Spn) (c : ByteArray) : Bool := !Op.bytesLess c.toList x.lo.toList && (x.open_ || Op.bytesLess c.toList x.hi.toList)
theorem covB_iff {x : Spn} {c : ByteArray} (hv : VS x) (hc : c.size ≠ 0) : covB x c = true ↔ inI (ka c) (ka x.lo) (sE x) := by
  unfold covB inI sE
  rw [klt_ka hc hv.1]
  cases ho : x.open_ with
  | true =>
    rw [if_pos rfl]
    simp only [Bool.true_or, Bool.and_true, Bool.not_eq_true']
    constructor
    · intro h; exact ⟨by simp [h], by rw [ka_ne hc]; exact .inr ⟨rfl, .inl (by show (0 : Int) < 1; decide)⟩⟩
    · rintro ⟨h, -⟩; simpa using h
  | false =>
    rw [if_neg (by simp), klt_ka hc (hv.2 ho)]
    simp
theorem skip_empty {x : Spn} {c : ByteArray} (h : (!x.open_ && !Op.bytesLess x.lo.toList x.hi.toList) = true) : covB x c = false := by
  rw [Bool.and_eq_true, Bool.not_eq_true', Bool.not_eq_true'] at h
  obtain ⟨h1, h2⟩ := h
  unfold covB
  rw [h1, Bool.false_or]
  cases h3 : Op.bytesLess c.toList x.lo.toList
  · cases h4 : Op.bytesLess c.toList x.hi.toList
    · rfl
    · exfalso
      rcases bl_tri c.toList x.lo.toList with h5 | h5 | h5
      · rw [h3] at h5; cases h5
      · rw [h5] at h4; rw [h4] at h2; cases h2
      · rw [bl_trans h5 h4] at h2; cases h2
  · rfl
/-- the outer loop: all is covered up to c -/
structure CvI (l : List Spn) (s : Spn) (c : ByteArray) : Prop where
  ne : c.size ≠ 0
  ge : ¬ klt (ka c) (ka s.lo)
  cov : ∀ p, Pt p → inI p (ka s.lo) (ka c) → ∃ x ∈ l, inI p (ka x.lo) (sE x)
/-- the inner loop: the farthest end so far -/
structure BsI (l : List Spn) (c : ByteArray) (i : Nat) (b : ByteArray) : Prop where
  is : b = c ∨ ∃ x ∈ l, covB x c = true ∧ x.open_ = false ∧ b = x.hi ∧ Op.bytesLess c.toList b.toList = true
  all : ∀ (j : Nat) (x : Spn), j < i → l[j]? = some x → covB x c = true → x.open_ = false ∧ Op.bytesLess b.toList x.hi.toList = false
theorem cvI_zero {l : List Spn} {s : Spn} (h : VS s) : CvI l s s.lo := ⟨h.1, klt_irrefl _, fun p _ hin => absurd hin.2 hin.1⟩
theorem bsI_zero (l : List Spn) (c : ByteArray) : BsI l c 0 c := ⟨.inl rfl, fun j x h => absurd h (Nat.not_lt_zero _)⟩
theorem bs_skip {l : List Spn} {c b : ByteArray} {i : Nat} {x : Spn} (h : BsI l c i b) (hx : l[i]? = some x) (hs : covB x c = false) : BsI l c (i + 1) b := ⟨h.is, fun j y hj hy hc => by
  rcases Nat.lt_succ_iff_lt_or_eq.1 hj with h' | h'
  · exact h.all j y h' hy hc
  · subst h'; rw [hx] at hy; injection hy with hy; subst hy; rw [hs] at hc; cases hc⟩
theorem bs_less {l : List Spn} {c b : ByteArray} {i : Nat} {x : Spn} (h : BsI l c i b) (hx : l[i]? = some x) (ho : x.open_ = false) (hb : ¬ Op.bytesLess b.toList x.hi.toList = true) : BsI l c (i + 1) b := ⟨h.is, fun j y hj hy hc => by
  rcases Nat.lt_succ_iff_lt_or_eq.1 hj with h' | h'
  · exact h.all j y h' hy hc
  · subst h'; rw [hx] at hy; injection hy with hy; subst hy; exact ⟨ho, by simpa using hb⟩⟩
theorem bs_more {l : List Spn} {c b : ByteArray} {i : Nat} {x : Spn} (h : BsI l c i b) (hx : l[i]? = some x) (hc : covB x c = true) (ho : x.open_ = false) (hb : Op.bytesLess b.toList x.hi.toList = true) : BsI l c (i + 1) x.hi := by
  have hcx : Op.bytesLess c.toList x.hi.toList = true := by
    unfold covB at hc; rw [ho] at hc; simpa using (Bool.and_eq_true _ _ ▸ hc).2
  refine ⟨.inr ⟨x, List.mem_of_getElem? hx, hc, ho, rfl, hcx⟩, fun j y hj hy hc' => ?_⟩
  rcases Nat.lt_succ_iff_lt_or_eq.1 hj with h' | h'
  · obtain ⟨h1, h2⟩ := h.all j y h' hy hc'
    refine ⟨h1, ?_⟩
    cases h3 : Op.bytesLess x.hi.toList y.hi.toList
    · rfl
    · rw [bl_trans hb h3] at h2; cases h2
  · subst h'; rw [hx] at hy; injection hy with hy; subst hy; exact ⟨ho, bl_irrefl _⟩
theorem cv_done {l : List Spn} {s : Spn} {c : ByteArray} (hv : VS s) (h : CvI l s c) (ho : s.open_ = false) (hc : Op.bytesLess c.toList s.hi.toList = false) : CovS l s := fun p hp hin => by
  unfold sE at hin
  rw [ho, if_neg (by simp)] at hin
  refine h.cov p hp ⟨hin.1, klt_of_lt_of_le hin.2 ?_⟩
  rw [klt_ka h.ne (hv.2 ho), hc]; simp
theorem cv_open {l : List Spn} {s x : Spn} {c : ByteArray} (hv : ∀ y ∈ l, VS y) (h : CvI l s c) (hs : Vk (sE s)) (hx : x ∈ l) (hc : covB x c = true) (ho : x.open_ = true) : CovS l s := fun p hp hin => by
  by_cases h1 : klt p (ka c)
  · exact h.cov p hp ⟨hin.1, h1⟩
  · have h2 := (covB_iff (hv x hx) h.ne).1 hc
    refine ⟨x, hx, kle_trans h2.1 h1, ?_⟩
    unfold sE; rw [if_pos ho]
    obtain ⟨pn, pt, pl⟩ := p
    obtain ⟨e1, e2⟩ := hp
    dsimp only at e1 e2
    subst e1 e2
    exact .inr ⟨rfl, .inl (by show (0 : Int) < 1; decide)⟩
theorem cv_none {l : List Spn} {s : Spn} {c : ByteArray} (hv : ∀ y ∈ l, VS y) (hvs : VS s) (h : CvI l s c) (hb : BsI l c l.length c) (hin : s.open_ = true ∨ Op.bytesLess c.toList s.hi.toList = true) : ¬ CovS l s := fun hcov => by
  have hin2 : inI (ka c) (ka s.lo) (sE s) := by
    refine ⟨h.ge, ?_⟩
    unfold sE
    split
    · rw [ka_ne h.ne]; exact .inr ⟨rfl, .inl (by show (0 : Int) < 1; decide)⟩
    · rename_i ho
      have ho' : s.open_ = false := by simpa using ho
      rw [klt_ka h.ne (hvs.2 ho')]
      rcases hin with h1 | h1
      · rw [ho'] at h1; cases h1
      · exact h1
  obtain ⟨x, hx, hx2⟩ := hcov _ (pt_ka h.ne) hin2
  have hc := (covB_iff (hv x hx) h.ne).2 hx2
  obtain ⟨j, hj⟩ := List.getElem?_of_mem hx
  obtain ⟨h1, h2⟩ := hb.all j x (List.getElem?_eq_some_iff.1 hj).1 hj hc
  unfold covB at hc
  rw [h1, h2] at hc
  simp at hc
theorem cv_next {l : List Spn} {s : Spn} {c b : ByteArray} (hv : ∀ y ∈ l, VS y) (h : CvI l s c) (hb : BsI l c l.length b) (hne : ¬ b = c) : CvI l s b ∧ (l.filter (fun x => Op.bytesLess b.toList x.hi.toList)).length < (l.filter (fun x => Op.bytesLess c.toList x.hi.toList)).length := by
  obtain ⟨x, hx, hc, ho, rfl, hlt⟩ := hb.is.resolve_left hne
  have hbn := (hv x hx).2 ho
  have hin := (covB_iff (hv x hx) h.ne).1 hc
  have hcb : klt (ka c) (ka x.hi) := (klt_ka h.ne hbn).2 hlt
  refine ⟨⟨hbn, fun h2 => h.ge (klt_trans hcb h2), fun p hp hp2 => ?_⟩, ?_⟩
  · by_cases h1 : klt p (ka c)
    · exact h.cov p hp ⟨hp2.1, h1⟩
    · refine ⟨x, hx, kle_trans hin.1 h1, ?_⟩
      unfold sE; rw [ho, if_neg (by simp)]; exact hp2.2
  · have hsub : ∀ y : Spn, Op.bytesLess x.hi.toList y.hi.toList = true → Op.bytesLess c.toList y.hi.toList = true := fun y hy => bl_trans hlt hy
    exact filt_lt hx (p := fun y : Spn => Op.bytesLess x.hi.toList y.hi.toList) (q := fun y : Spn => Op.bytesLess c.toList y.hi.toList) (fun y => hsub y) (bl_irrefl _) hlt
set_option maxRecDepth 100000 in
set_option maxHeartbeats 2000000 in
theorem empty_does (x : Spn) : Does Try.prog 93 [.agg #[.string x.lo, .string x.hi, .bool (x.open_)]] [] (fun v L => v = .bool (!x.open_ && !Op.bytesLess x.lo.toList x.hi.toList) ∧ L = []) := by
  refine Does.enter 13 Try.func93 rfl rfl rfl fun W F => ?_
  show WPc _ _ _ _ _ [(0, .agg #[.string x.lo, .string x.hi, .bool (x.open_)])] (F)
  refine WPc.seq ?_
  refine WPc.region ?_
  refine WP.eff rfl rfl rfl (Eff.box (C := [.string x.lo, .string x.hi, .bool (x.open_)]) rfl rfl rfl) ?_
  rintro _ F ⟨b1, rfl, rfl⟩
  refine WP.val rfl rfl rfl (Val.assign rfl rfl) ?_
  refine WP.nil ?_
  refine Out.next ?_
  refine WPc.seq ?_
  refine WPc.region ?_
  refine WP.val rfl rfl rfl (Val.fieldAddr (j := 2) rfl Ty.fo115_2 rfl rfl) ?_
  refine WP.val rfl rfl rfl (Val.load rfl Ty.sc4 rfl (fun w h => h.cell 0 rfl rfl)) ?_
  refine WP.val rfl rfl rfl (Val.not rfl rfl) ?_
  refine WP.val rfl rfl rfl (Val.move rfl rfl) ?_
  refine WP.splitB 6 rfl (fun h1 => ?_) (fun h1 => ?_)
  · skip
    refine WP.valG rfl rfl rfl rfl rfl rfl rfl (Val.fieldAddr (j := 1) rfl Ty.fo115_1 rfl rfl) ?_
    refine WP.valG rfl rfl rfl rfl rfl rfl rfl (Val.load rfl Ty.sc9 rfl (fun w h => h.cell 0 rfl rfl)) ?_
    refine WP.valG rfl rfl rfl rfl rfl rfl rfl (Val.fieldAddr (j := 0) rfl Ty.fo115_0 rfl rfl) ?_
    refine WP.valG rfl rfl rfl rfl rfl rfl rfl (Val.load rfl Ty.sc9 rfl (fun w h => h.cell 0 rfl rfl)) ?_
    refine WP.valG rfl rfl rfl rfl rfl rfl rfl (Val.leqS rfl rfl rfl) ?_
    refine WP.val rfl rfl rfl (Val.pickT rfl rfl rfl) ?_
    refine WP.val rfl rfl rfl (Val.assign rfl rfl) ?_
    refine WP.nil ?_
    refine Out.next ?_
    refine WPc.ret ?_
    refine Out.drop ?_
    exact Out.ret1 (L' := []) Try.results93 rfl ⟨congrArg Value.bool (by simp_all), rfl⟩ (fun w h => h)
  · skip
    refine WP.skip rfl rfl rfl rfl rfl rfl rfl ?_
    refine WP.skip rfl rfl rfl rfl rfl rfl rfl ?_
    refine WP.skip rfl rfl rfl rfl rfl rfl rfl ?_
    refine WP.skip rfl rfl rfl rfl rfl rfl rfl ?_
    refine WP.skip rfl rfl rfl rfl rfl rfl rfl ?_
    refine WP.val rfl rfl rfl (Val.pickF rfl rfl rfl) ?_
    refine WP.val rfl rfl rfl (Val.assign rfl rfl) ?_
    refine WP.nil ?_
    refine Out.next ?_
    refine WPc.ret ?_
    refine Out.drop ?_
    exact Out.ret1 (L' := []) Try.results93 rfl ⟨congrArg Value.bool (by simp_all), rfl⟩ (fun w h => h)

theorem ba_ext {x y : ByteArray} (h : x.toList = y.toList) : x = y := by
  rw [ByteArray.toList_eq, ByteArray.toList_eq] at h
  obtain ⟨x⟩ := x
  obtain ⟨y⟩ := y
  have : x = y := Array.toList_inj.1 h
  rw [this]
set_option maxRecDepth 100000 in
set_option maxHeartbeats 2000000 in
theorem covered_nil (A : HProp) (s : Spn) (hvs : VS s) (hsv : Vk (sE s)) (a : Option Addr) (c : Nat) : Does Try.prog 62 [.slice a 0 c, .agg #[.string s.lo, .string s.hi, .bool (s.open_)]] [A] (fun v L => ∃ b, v = .bool b ∧ (b = true ↔ CovS ([] : List Spn) s) ∧ L = [A]) := by
  refine Does.enter 78 Try.func62 rfl rfl rfl fun W F => ?_
  show WPc _ _ _ _ _ [(0, .slice a 0 c), (1, .agg #[.string s.lo, .string s.hi, .bool (s.open_)])] (A :: F)
  refine WPc.seq ?_
  refine WPc.region ?_
  refine WP.eff rfl rfl rfl (Eff.box (C := [.string s.lo, .string s.hi, .bool (s.open_)]) rfl rfl rfl) ?_
  rintro _ _ ⟨b1, rfl, rfl⟩
  refine WP.val rfl rfl rfl (Val.assign rfl rfl) ?_
  refine WP.nil ?_
  refine Out.next ?_
  refine WPc.seq ?_
  refine WPc.region ?_
  refine WP.val rfl rfl rfl (Val.fieldAddr (j := 0) rfl Ty.fo115_0 rfl rfl) ?_
  refine WP.val rfl rfl rfl (Val.load rfl Ty.sc9 rfl (fun w h => h.cell 0 rfl rfl)) ?_
  refine WP.val rfl rfl rfl (Val.assign rfl rfl) ?_
  refine WP.nil ?_
  refine Out.next ?_
  refine WPc.block ?_
  refine WPc.loop (ι := ByteArray) (fun cur => CvI ([] : List Spn) s cur) (fun cur => [(0, .slice a 0 c), (3, .pointer (some ⟨b1, 0, none⟩)), (4, .bool false), (5, .string cur)]) (fun cur => Blk b1 [.string s.lo, .string s.hi, .bool (s.open_)] 115 :: A :: F) (fun cur => (([] : List Spn).filter (fun x => Op.bytesLess cur.toList x.hi.toList)).length) s.lo (cvI_zero hvs) ((Sub.cons rfl (Sub.cons rfl (Sub.cons rfl (Sub.cons rfl Sub.nil))))) (fun _ h => h) ?_
  rintro cur hcv
  show WPc _ _ _ _ _ [(0, .slice a 0 c), (3, .pointer (some ⟨b1, 0, none⟩)), (4, .bool false), (5, .string cur)] (Blk b1 [.string s.lo, .string s.hi, .bool (s.open_)] 115 :: A :: F)
  replace hcv : CvI ([] : List Spn) s cur := hcv
  refine WPc.block ?_
  refine WPc.seq ?_
  refine WPc.seq ?_
  refine WPc.region ?_
  refine WP.val rfl rfl rfl (Val.fieldAddr (j := 2) rfl Ty.fo115_2 rfl rfl) ?_
  refine WP.val rfl rfl rfl (Val.load rfl Ty.sc4 rfl (fun w h => h.cell 0 rfl rfl)) ?_
  refine WP.val rfl rfl rfl (Val.not rfl rfl) ?_
  refine WP.val rfl rfl rfl (Val.move rfl rfl) ?_
  refine WP.splitB 13 rfl (fun h1 => ?_) (fun h1 => ?_)
  · skip
    refine WP.valG rfl rfl rfl rfl rfl rfl rfl (Val.move rfl rfl) ?_
    refine WP.valG rfl rfl rfl rfl rfl rfl rfl (Val.fieldAddr (j := 1) rfl Ty.fo115_1 rfl rfl) ?_
    refine WP.valG rfl rfl rfl rfl rfl rfl rfl (Val.load rfl Ty.sc9 rfl (fun w h => h.cell 0 rfl rfl)) ?_
    refine WP.valG rfl rfl rfl rfl rfl rfl rfl (Val.geqS rfl rfl rfl) ?_
    refine WP.val rfl rfl rfl (Val.pickT rfl rfl rfl) ?_
    refine WP.nil ?_
    refine Out.next ?_
    refine WPc.cond rfl (fun h2 => ?_) (fun h2 => ?_)
    · skip
      have h2 : (!Op.bytesLess (cur).toList (s.hi).toList) = true := h2
      refine WPc.seq ?_
      refine WPc.region ?_
      refine WP.val rfl rfl rfl (Val.assign rfl rfl) ?_
      refine WP.nil ?_
      refine Out.next ?_
      refine WPc.ret ?_
      refine Out.then_ret ?_
      refine Out.block_ret ?_
      refine Out.then_ret ?_
      refine Out.block_ret ?_
      refine Out.drop ?_
      exact Out.ret1 (L' := [A]) Try.results62 rfl ⟨_, rfl, ⟨fun _ => cv_done hvs hcv (by simp_all) (by simp_all), fun _ => rfl⟩, rfl⟩ (fun w h => h)
    · skip
      have h2 : (!Op.bytesLess (cur).toList (s.hi).toList) = false := h2
      refine WPc.skip ?_
      refine Out.next ?_
      refine WPc.seq ?_
      refine WPc.region ?_
      refine WP.val rfl rfl rfl (Val.move rfl rfl) ?_
      refine WP.val rfl rfl rfl (Val.assign rfl rfl) ?_
      refine WP.nil ?_
      refine Out.next ?_
      refine WPc.seq ?_
      refine WPc.seq ?_
      refine WPc.region ?_
      refine WP.val rfl rfl rfl (Val.assign rfl rfl) ?_
      refine WP.nil ?_
      refine Out.next ?_
      refine WPc.block ?_
      refine WPc.loop (ι := Nat × ByteArray) (fun ⟨i, best⟩ => i ≤ 0 ∧ BsI ([] : List Spn) cur i best) (fun ⟨i, best⟩ => [(0, .slice a 0 c), (3, .pointer (some ⟨b1, 0, none⟩)), (4, .bool false), (5, .string cur), (6, .string best), (7, .int .i64 (((i : Nat) : Int)))]) (fun ⟨i, best⟩ => Blk b1 [.string s.lo, .string s.hi, .bool (s.open_)] 115 :: A :: F) (fun ⟨i, best⟩ => 0 - i) (0, cur) ⟨Nat.zero_le _, bsI_zero _ _⟩ ((Sub.cons rfl (Sub.cons rfl (Sub.cons rfl (Sub.cons rfl (Sub.cons rfl (Sub.cons rfl Sub.nil))))))) (fun _ h => h) ?_
      rintro ⟨i, best⟩ ⟨hi, hbs⟩
      show WPc _ _ _ _ _ [(0, .slice a 0 c), (3, .pointer (some ⟨b1, 0, none⟩)), (4, .bool false), (5, .string cur), (6, .string best), (7, .int .i64 (((i : Nat) : Int)))] (Blk b1 [.string s.lo, .string s.hi, .bool (s.open_)] 115 :: A :: F)
      replace hi : i ≤ 0 := hi
      replace hbs : BsI ([] : List Spn) cur i best := hbs
      refine WPc.seq ?_
      refine WPc.seq ?_
      refine WPc.region ?_
      refine WP.val rfl rfl rfl (Val.move rfl rfl) ?_
      refine WP.val rfl rfl rfl (Val.move rfl rfl) ?_
      refine WP.val rfl rfl rfl (Val.len rfl Ty.sl112 rfl) ?_
      refine WP.val rfl rfl rfl (Val.lss rfl rfl rfl) ?_
      refine WP.nil ?_
      refine Out.next ?_
      refine WPc.ifP rfl (fun h3 => ?_) (fun h3 => ?_)
      · skip
        have h3 : (((i : Nat) : Int) < (0 : Int)) := h3
        exfalso; omega
      · skip
        have h3 : ¬ (((i : Nat) : Int) < (0 : Int)) := h3
        refine WPc.exit ?_
        refine Out.then_exit ?_
        refine Out.then_exit ?_
        refine Out.block_exit ?_
        refine Out.next ?_
        refine WPc.seq ?_
        refine WPc.seq ?_
        refine WPc.region ?_
        refine WP.val rfl rfl rfl (Val.move rfl rfl) ?_
        refine WP.val rfl rfl rfl (Val.move rfl rfl) ?_
        refine WP.val rfl rfl rfl (Val.eqlS rfl rfl rfl) ?_
        refine WP.nil ?_
        refine Out.next ?_
        refine WPc.cond rfl (fun h4 => ?_) (fun h4 => ?_)
        · skip
          have h4 : (seq best cur) = true := h4
          refine WPc.seq ?_
          refine WPc.region ?_
          refine WP.val rfl rfl rfl (Val.assign rfl rfl) ?_
          refine WP.nil ?_
          refine Out.next ?_
          refine WPc.ret ?_
          refine Out.then_ret ?_
          refine Out.block_ret ?_
          refine Out.then_ret ?_
          refine Out.block_ret ?_
          have hin : i = 0 := by omega
          have heq : best = cur := by have h9 : (seq best cur) = true := by assumption
                                      unfold seq at h9; exact ba_ext (by simpa using h9)
          subst heq
          rw [hin] at hbs
          refine Out.drop ?_
          exact Out.ret1 (L' := [A]) Try.results62 rfl ⟨_, rfl, ⟨(fun h => by cases h), fun h => absurd h (cv_none (l := ([] : List Spn)) (fun y h => (List.not_mem_nil h).elim) hvs hcv hbs (by simp_all))⟩, rfl⟩ (fun w h => h)
        · skip
          have h4 : (seq best cur) = false := h4
          refine WPc.skip ?_
          refine Out.next ?_
          refine WPc.region ?_
          refine WP.val rfl rfl rfl (Val.move rfl rfl) ?_
          refine WP.val rfl rfl rfl (Val.assign rfl rfl) ?_
          refine WP.nil ?_
          refine Out.block ?_
          have hne : ¬ best = cur := fun e => by subst e; simp_all [seq]
          have hin : i = 0 := by omega
          rw [hin] at hbs
          have hnx := cv_next (l := ([] : List Spn)) (fun y h => (List.not_mem_nil h).elim) hcv hbs hne
          refine Out.again best ?_ ?_ ?_ ?_
          · exact hnx.1
          · (exact hnx.2)
          · exact (Sub.cons rfl (Sub.cons rfl (Sub.cons rfl (Sub.cons rfl Sub.nil))))
          · exact (fun _ h => h)
  · skip
    refine WP.skip rfl rfl rfl rfl rfl rfl rfl ?_
    refine WP.skip rfl rfl rfl rfl rfl rfl rfl ?_
    refine WP.skip rfl rfl rfl rfl rfl rfl rfl ?_
    refine WP.skip rfl rfl rfl rfl rfl rfl rfl ?_
    refine WP.val rfl rfl rfl (Val.pickF rfl rfl rfl) ?_
    refine WP.nil ?_
    refine Out.next ?_
    refine WPc.condF rfl rfl ?_
    refine WPc.skip ?_
    refine Out.next ?_
    refine WPc.seq ?_
    refine WPc.region ?_
    refine WP.val rfl rfl rfl (Val.move rfl rfl) ?_
    refine WP.val rfl rfl rfl (Val.assign rfl rfl) ?_
    refine WP.nil ?_
    refine Out.next ?_
    refine WPc.seq ?_
    refine WPc.seq ?_
    refine WPc.region ?_
    refine WP.val rfl rfl rfl (Val.assign rfl rfl) ?_
    refine WP.nil ?_
    refine Out.next ?_
    refine WPc.block ?_
    refine WPc.loop (ι := Nat × ByteArray) (fun ⟨i, best⟩ => i ≤ 0 ∧ BsI ([] : List Spn) cur i best) (fun ⟨i, best⟩ => [(0, .slice a 0 c), (3, .pointer (some ⟨b1, 0, none⟩)), (4, .bool false), (5, .string cur), (6, .string best), (7, .int .i64 (((i : Nat) : Int)))]) (fun ⟨i, best⟩ => Blk b1 [.string s.lo, .string s.hi, .bool (s.open_)] 115 :: A :: F) (fun ⟨i, best⟩ => 0 - i) (0, cur) ⟨Nat.zero_le _, bsI_zero _ _⟩ ((Sub.cons rfl (Sub.cons rfl (Sub.cons rfl (Sub.cons rfl (Sub.cons rfl (Sub.cons rfl Sub.nil))))))) (fun _ h => h) ?_
    rintro ⟨i, best⟩ ⟨hi, hbs⟩
    show WPc _ _ _ _ _ [(0, .slice a 0 c), (3, .pointer (some ⟨b1, 0, none⟩)), (4, .bool false), (5, .string cur), (6, .string best), (7, .int .i64 (((i : Nat) : Int)))] (Blk b1 [.string s.lo, .string s.hi, .bool (s.open_)] 115 :: A :: F)
    replace hi : i ≤ 0 := hi
    replace hbs : BsI ([] : List Spn) cur i best := hbs
    refine WPc.seq ?_
    refine WPc.seq ?_
    refine WPc.region ?_
    refine WP.val rfl rfl rfl (Val.move rfl rfl) ?_
    refine WP.val rfl rfl rfl (Val.move rfl rfl) ?_
    refine WP.val rfl rfl rfl (Val.len rfl Ty.sl112 rfl) ?_
    refine WP.val rfl rfl rfl (Val.lss rfl rfl rfl) ?_
    refine WP.nil ?_
    refine Out.next ?_
    refine WPc.ifP rfl (fun h5 => ?_) (fun h5 => ?_)
    · skip
      have h5 : (((i : Nat) : Int) < (0 : Int)) := h5
      exfalso; omega
    · skip
      have h5 : ¬ (((i : Nat) : Int) < (0 : Int)) := h5
      refine WPc.exit ?_
      refine Out.then_exit ?_
      refine Out.then_exit ?_
      refine Out.block_exit ?_
      refine Out.next ?_
      refine WPc.seq ?_
      refine WPc.seq ?_
      refine WPc.region ?_
      refine WP.val rfl rfl rfl (Val.move rfl rfl) ?_
      refine WP.val rfl rfl rfl (Val.move rfl rfl) ?_
      refine WP.val rfl rfl rfl (Val.eqlS rfl rfl rfl) ?_
      refine WP.nil ?_
      refine Out.next ?_
      refine WPc.cond rfl (fun h6 => ?_) (fun h6 => ?_)
      · skip
        have h6 : (seq best cur) = true := h6
        refine WPc.seq ?_
        refine WPc.region ?_
        refine WP.val rfl rfl rfl (Val.assign rfl rfl) ?_
        refine WP.nil ?_
        refine Out.next ?_
        refine WPc.ret ?_
        refine Out.then_ret ?_
        refine Out.block_ret ?_
        refine Out.then_ret ?_
        refine Out.block_ret ?_
        have hin : i = 0 := by omega
        have heq : best = cur := by have h9 : (seq best cur) = true := by assumption
                                    unfold seq at h9; exact ba_ext (by simpa using h9)
        subst heq
        rw [hin] at hbs
        refine Out.drop ?_
        exact Out.ret1 (L' := [A]) Try.results62 rfl ⟨_, rfl, ⟨(fun h => by cases h), fun h => absurd h (cv_none (l := ([] : List Spn)) (fun y h => (List.not_mem_nil h).elim) hvs hcv hbs (by simp_all))⟩, rfl⟩ (fun w h => h)
      · skip
        have h6 : (seq best cur) = false := h6
        refine WPc.skip ?_
        refine Out.next ?_
        refine WPc.region ?_
        refine WP.val rfl rfl rfl (Val.move rfl rfl) ?_
        refine WP.val rfl rfl rfl (Val.assign rfl rfl) ?_
        refine WP.nil ?_
        refine Out.block ?_
        have hne : ¬ best = cur := fun e => by subst e; simp_all [seq]
        have hin : i = 0 := by omega
        rw [hin] at hbs
        have hnx := cv_next (l := ([] : List Spn)) (fun y h => (List.not_mem_nil h).elim) hcv hbs hne
        refine Out.again best ?_ ?_ ?_ ?_
        · exact hnx.1
        · (exact hnx.2)
        · exact (Sub.cons rfl (Sub.cons rfl (Sub.cons rfl (Sub.cons rfl Sub.nil))))
        · exact (fun _ h => h)

set_option maxRecDepth 100000 in
set_option maxHeartbeats 2000000 in
theorem covered_row (A : HProp) (s : Spn) (hvs : VS s) (hsv : Vk (sE s)) (l : List Spn) (hl : l.length ≤ 1000000) (hv : ∀ y ∈ l, VS y) (b0 o0 c0 : Nat) (hr : ∀ w, Holds A w → ∀ i x, l[i]? = some x → w.rangeAt b0 (o0 + i * 3) (Spn.cells x)) : Does Try.prog 62 [.slice (some ⟨b0, o0, none⟩) l.length c0, .agg #[.string s.lo, .string s.hi, .bool (s.open_)]] [A] (fun v L => ∃ b, v = .bool b ∧ (b = true ↔ CovS l s) ∧ L = [A]) := by
  refine Does.enter 78 Try.func62 rfl rfl rfl fun W F => ?_
  show WPc _ _ _ _ _ [(0, .slice (some ⟨b0, o0, none⟩) l.length c0), (1, .agg #[.string s.lo, .string s.hi, .bool (s.open_)])] (A :: F)
  refine WPc.seq ?_
  refine WPc.region ?_
  refine WP.eff rfl rfl rfl (Eff.box (C := [.string s.lo, .string s.hi, .bool (s.open_)]) rfl rfl rfl) ?_
  rintro _ _ ⟨b1, rfl, rfl⟩
  refine WP.val rfl rfl rfl (Val.assign rfl rfl) ?_
  refine WP.nil ?_
  refine Out.next ?_
  refine WPc.seq ?_
  refine WPc.region ?_
  refine WP.val rfl rfl rfl (Val.fieldAddr (j := 0) rfl Ty.fo115_0 rfl rfl) ?_
  refine WP.val rfl rfl rfl (Val.load rfl Ty.sc9 rfl (fun w h => h.cell 0 rfl rfl)) ?_
  refine WP.val rfl rfl rfl (Val.assign rfl rfl) ?_
  refine WP.nil ?_
  refine Out.next ?_
  refine WPc.block ?_
  refine WPc.loop (ι := ByteArray) (fun cur => CvI l s cur) (fun cur => [(0, .slice (some ⟨b0, o0, none⟩) l.length c0), (3, .pointer (some ⟨b1, 0, none⟩)), (4, .bool false), (5, .string cur)]) (fun cur => Blk b1 [.string s.lo, .string s.hi, .bool (s.open_)] 115 :: A :: F) (fun cur => (l.filter (fun x => Op.bytesLess cur.toList x.hi.toList)).length) s.lo (cvI_zero hvs) ((Sub.cons rfl (Sub.cons rfl (Sub.cons rfl (Sub.cons rfl Sub.nil))))) (fun _ h => h) ?_
  rintro cur hcv
  show WPc _ _ _ _ _ [(0, .slice (some ⟨b0, o0, none⟩) l.length c0), (3, .pointer (some ⟨b1, 0, none⟩)), (4, .bool false), (5, .string cur)] (Blk b1 [.string s.lo, .string s.hi, .bool (s.open_)] 115 :: A :: F)
  replace hcv : CvI l s cur := hcv
  refine WPc.block ?_
  refine WPc.seq ?_
  refine WPc.seq ?_
  refine WPc.region ?_
  refine WP.val rfl rfl rfl (Val.fieldAddr (j := 2) rfl Ty.fo115_2 rfl rfl) ?_
  refine WP.val rfl rfl rfl (Val.load rfl Ty.sc4 rfl (fun w h => h.cell 0 rfl rfl)) ?_
  refine WP.val rfl rfl rfl (Val.not rfl rfl) ?_
  refine WP.val rfl rfl rfl (Val.move rfl rfl) ?_
  refine WP.splitB 13 rfl (fun h1 => ?_) (fun h1 => ?_)
  · skip
    refine WP.valG rfl rfl rfl rfl rfl rfl rfl (Val.move rfl rfl) ?_
    refine WP.valG rfl rfl rfl rfl rfl rfl rfl (Val.fieldAddr (j := 1) rfl Ty.fo115_1 rfl rfl) ?_
    refine WP.valG rfl rfl rfl rfl rfl rfl rfl (Val.load rfl Ty.sc9 rfl (fun w h => h.cell 0 rfl rfl)) ?_
    refine WP.valG rfl rfl rfl rfl rfl rfl rfl (Val.geqS rfl rfl rfl) ?_
    refine WP.val rfl rfl rfl (Val.pickT rfl rfl rfl) ?_
    refine WP.nil ?_
    refine Out.next ?_
    refine WPc.cond rfl (fun h2 => ?_) (fun h2 => ?_)
    · skip
      have h2 : (!Op.bytesLess (cur).toList (s.hi).toList) = true := h2
      refine WPc.seq ?_
      refine WPc.region ?_
      refine WP.val rfl rfl rfl (Val.assign rfl rfl) ?_
      refine WP.nil ?_
      refine Out.next ?_
      refine WPc.ret ?_
      refine Out.then_ret ?_
      refine Out.block_ret ?_
      refine Out.then_ret ?_
      refine Out.block_ret ?_
      refine Out.drop ?_
      exact Out.ret1 (L' := [A]) Try.results62 rfl ⟨_, rfl, ⟨fun _ => cv_done hvs hcv (by simp_all) (by simp_all), fun _ => rfl⟩, rfl⟩ (fun w h => h)
    · skip
      have h2 : (!Op.bytesLess (cur).toList (s.hi).toList) = false := h2
      refine WPc.skip ?_
      refine Out.next ?_
      refine WPc.seq ?_
      refine WPc.region ?_
      refine WP.val rfl rfl rfl (Val.move rfl rfl) ?_
      refine WP.val rfl rfl rfl (Val.assign rfl rfl) ?_
      refine WP.nil ?_
      refine Out.next ?_
      refine WPc.seq ?_
      refine WPc.seq ?_
      refine WPc.region ?_
      refine WP.val rfl rfl rfl (Val.assign rfl rfl) ?_
      refine WP.nil ?_
      refine Out.next ?_
      refine WPc.block ?_
      refine WPc.loop (ι := Nat × ByteArray) (fun ⟨i, best⟩ => i ≤ l.length ∧ BsI l cur i best) (fun ⟨i, best⟩ => [(0, .slice (some ⟨b0, o0, none⟩) l.length c0), (3, .pointer (some ⟨b1, 0, none⟩)), (4, .bool false), (5, .string cur), (6, .string best), (7, .int .i64 (((i : Nat) : Int)))]) (fun ⟨i, best⟩ => Blk b1 [.string s.lo, .string s.hi, .bool (s.open_)] 115 :: A :: F) (fun ⟨i, best⟩ => l.length - i) (0, cur) ⟨Nat.zero_le _, bsI_zero _ _⟩ ((Sub.cons rfl (Sub.cons rfl (Sub.cons rfl (Sub.cons rfl (Sub.cons rfl (Sub.cons rfl Sub.nil))))))) (fun _ h => h) ?_
      rintro ⟨i, best⟩ ⟨hi, hbs⟩
      show WPc _ _ _ _ _ [(0, .slice (some ⟨b0, o0, none⟩) l.length c0), (3, .pointer (some ⟨b1, 0, none⟩)), (4, .bool false), (5, .string cur), (6, .string best), (7, .int .i64 (((i : Nat) : Int)))] (Blk b1 [.string s.lo, .string s.hi, .bool (s.open_)] 115 :: A :: F)
      replace hi : i ≤ l.length := hi
      replace hbs : BsI l cur i best := hbs
      refine WPc.seq ?_
      refine WPc.seq ?_
      refine WPc.region ?_
      refine WP.val rfl rfl rfl (Val.move rfl rfl) ?_
      refine WP.val rfl rfl rfl (Val.move rfl rfl) ?_
      refine WP.val rfl rfl rfl (Val.len rfl Ty.sl112 rfl) ?_
      refine WP.val rfl rfl rfl (Val.lss rfl rfl rfl) ?_
      refine WP.nil ?_
      refine Out.next ?_
      refine WPc.ifP rfl (fun h3 => ?_) (fun h3 => ?_)
      · skip
        have h3 : (((i : Nat) : Int) < ((l.length : Nat) : Int)) := h3
        refine WPc.skip ?_
        refine Out.next ?_
        refine WPc.seq ?_
        refine WPc.block ?_
        refine WPc.seq ?_
        refine WPc.seq ?_
        have hlt : i < l.length := by omega
        obtain ⟨x, hx⟩ : ∃ x, l[i]? = some x := ⟨_, List.getElem?_eq_getElem hlt⟩
        refine WPc.region ?_
        refine WP.val rfl rfl rfl (Val.move rfl rfl) ?_
        refine WP.val rfl rfl rfl (Val.move rfl rfl) ?_
        refine WP.val rfl rfl rfl (Val.indexAddr (j := i) (q := o0 + i * 3) rfl Ty.sl112 rfl rfl (by omega) (by omega) (by omega)) ?_
        refine WP.val rfl rfl rfl (Val.loadAgg (cs := (Spn.cells x)) rfl Ty.ag115 rfl (by rfl) (fun w h => hr w (h.at 1 rfl) i x hx)) ?_
        refine WP.eff rfl rfl rfl (Eff.call rfl rfl Try.call93 (empty_does x)) ?_
        rintro _ _ ⟨_, ⟨rfl, rfl⟩, rfl⟩
        show WP _ _ _ _ _ _ _ (Blk b1 [.string s.lo, .string s.hi, .bool (s.open_)] 115 :: A :: F)
        refine WP.val rfl rfl rfl (Val.move rfl rfl) ?_
        refine WP.splitB 31 rfl (fun h4 => ?_) (fun h4 => ?_)
        · skip
          refine WP.skip rfl rfl rfl rfl rfl rfl rfl ?_
          refine WP.skip rfl rfl rfl rfl rfl rfl rfl ?_
          refine WP.skip rfl rfl rfl rfl rfl rfl rfl ?_
          refine WP.skip rfl rfl rfl rfl rfl rfl rfl ?_
          refine WP.skip rfl rfl rfl rfl rfl rfl rfl ?_
          refine WP.skip rfl rfl rfl rfl rfl rfl rfl ?_
          refine WP.skip rfl rfl rfl rfl rfl rfl rfl ?_
          refine WP.val rfl rfl rfl (Val.pickT rfl rfl rfl) ?_
          refine WP.val rfl rfl rfl (Val.move rfl rfl) ?_
          refine WP.skip rfl rfl rfl rfl rfl rfl rfl ?_
          refine WP.skip rfl rfl rfl rfl rfl rfl rfl ?_
          refine WP.skip rfl rfl rfl rfl rfl rfl rfl ?_
          refine WP.skip rfl rfl rfl rfl rfl rfl rfl ?_
          refine WP.skip rfl rfl rfl rfl rfl rfl rfl ?_
          refine WP.skip rfl rfl rfl rfl rfl rfl rfl ?_
          refine WP.skip rfl rfl rfl rfl rfl rfl rfl ?_
          refine WP.skipU rfl rfl rfl rfl rfl rfl ?_
          refine WP.skipU rfl rfl rfl rfl rfl rfl ?_
          refine WP.skipU rfl rfl rfl rfl rfl rfl ?_
          refine WP.skipU rfl rfl rfl rfl rfl rfl ?_
          refine WP.skipU rfl rfl rfl rfl rfl rfl ?_
          refine WP.skipU rfl rfl rfl rfl rfl rfl ?_
          refine WP.skipU rfl rfl rfl rfl rfl rfl ?_
          refine WP.skip rfl rfl rfl rfl rfl rfl rfl ?_
          refine WP.val rfl rfl rfl (Val.pickT rfl rfl rfl) ?_
          refine WP.nil ?_
          refine Out.next ?_
          refine WPc.condT rfl rfl ?_
          refine WPc.exit ?_
          refine Out.then_exit ?_
          refine Out.block_exit ?_
          refine Out.next ?_
          refine WPc.region ?_
          refine WP.val rfl rfl rfl (Val.move rfl rfl) ?_
          refine WP.val rfl rfl rfl (Val.add (z := ((i + 1 : Nat) : Int)) rfl rfl rfl ((w64 (by omega) (by omega)).trans (by omega))) ?_
          refine WP.val rfl rfl rfl (Val.assign rfl rfl) ?_
          refine WP.nil ?_
          refine Out.again (i + 1, best) ?_ ?_ ?_ ?_
          · exact ⟨by show i + 1 ≤ l.length; omega, (by first | exact bs_less hbs hx (by simpa using ‹x.open_ = false›) (by simp_all) | exact bs_skip hbs hx (by first | (exact skip_empty (by assumption)) | (unfold covB; simp_all)))⟩
          · (first | omega | (dsimp only; omega))
          · exact (Sub.cons rfl (Sub.cons rfl (Sub.cons rfl (Sub.cons rfl (Sub.cons rfl (Sub.cons rfl Sub.nil))))))
          · exact (fun _ h => h)
        · skip
          refine WP.valG rfl rfl rfl rfl rfl rfl rfl (Val.move rfl rfl) ?_
          refine WP.valG rfl rfl rfl rfl rfl rfl rfl (Val.move rfl rfl) ?_
          refine WP.valG rfl rfl rfl rfl rfl rfl rfl (Val.indexAddr (j := i) (q := o0 + i * 3) rfl Ty.sl112 rfl rfl (by omega) (by omega) (by omega)) ?_
          refine WP.valG rfl rfl rfl rfl rfl rfl rfl (Val.fieldAddr (j := o0 + i * 3) rfl Ty.fo115_0 rfl rfl) ?_
          refine WP.valG rfl rfl rfl rfl rfl rfl rfl (Val.load (v := .string x.lo) rfl Ty.sc9 rfl (fun w h => hr w (h.at 1 rfl) i x hx 0 _ rfl)) ?_
          refine WP.valG rfl rfl rfl rfl rfl rfl rfl (Val.move rfl rfl) ?_
          refine WP.valG rfl rfl rfl rfl rfl rfl rfl (Val.gtrS rfl rfl rfl) ?_
          refine WP.val rfl rfl rfl (Val.pickF rfl rfl rfl) ?_
          refine WP.val rfl rfl rfl (Val.move rfl rfl) ?_
          refine WP.splitB 40 rfl (fun h5 => ?_) (fun h5 => ?_)
          · skip
            refine WP.skip rfl rfl rfl rfl rfl rfl rfl ?_
            refine WP.skip rfl rfl rfl rfl rfl rfl rfl ?_
            refine WP.skip rfl rfl rfl rfl rfl rfl rfl ?_
            refine WP.skip rfl rfl rfl rfl rfl rfl rfl ?_
            refine WP.skip rfl rfl rfl rfl rfl rfl rfl ?_
            refine WP.skip rfl rfl rfl rfl rfl rfl rfl ?_
            refine WP.skip rfl rfl rfl rfl rfl rfl rfl ?_
            refine WP.skipU rfl rfl rfl rfl rfl rfl ?_
            refine WP.skipU rfl rfl rfl rfl rfl rfl ?_
            refine WP.skipU rfl rfl rfl rfl rfl rfl ?_
            refine WP.skipU rfl rfl rfl rfl rfl rfl ?_
            refine WP.skipU rfl rfl rfl rfl rfl rfl ?_
            refine WP.skipU rfl rfl rfl rfl rfl rfl ?_
            refine WP.skipU rfl rfl rfl rfl rfl rfl ?_
            refine WP.skip rfl rfl rfl rfl rfl rfl rfl ?_
            refine WP.val rfl rfl rfl (Val.pickT rfl rfl rfl) ?_
            refine WP.nil ?_
            refine Out.next ?_
            refine WPc.condT rfl rfl ?_
            refine WPc.exit ?_
            refine Out.then_exit ?_
            refine Out.block_exit ?_
            refine Out.next ?_
            refine WPc.region ?_
            refine WP.val rfl rfl rfl (Val.move rfl rfl) ?_
            refine WP.val rfl rfl rfl (Val.add (z := ((i + 1 : Nat) : Int)) rfl rfl rfl ((w64 (by omega) (by omega)).trans (by omega))) ?_
            refine WP.val rfl rfl rfl (Val.assign rfl rfl) ?_
            refine WP.nil ?_
            refine Out.again (i + 1, best) ?_ ?_ ?_ ?_
            · exact ⟨by show i + 1 ≤ l.length; omega, (by first | exact bs_less hbs hx (by simpa using ‹x.open_ = false›) (by simp_all) | exact bs_skip hbs hx (by first | (exact skip_empty (by assumption)) | (unfold covB; simp_all)))⟩
            · (first | omega | (dsimp only; omega))
            · exact (Sub.cons rfl (Sub.cons rfl (Sub.cons rfl (Sub.cons rfl (Sub.cons rfl (Sub.cons rfl Sub.nil))))))
            · exact (fun _ h => h)
          · skip
            refine WP.valG rfl rfl rfl rfl rfl rfl rfl (Val.move rfl rfl) ?_
            refine WP.valG rfl rfl rfl rfl rfl rfl rfl (Val.move rfl rfl) ?_
            refine WP.valG rfl rfl rfl rfl rfl rfl rfl (Val.indexAddr (j := i) (q := o0 + i * 3) rfl Ty.sl112 rfl rfl (by omega) (by omega) (by omega)) ?_
            refine WP.valG rfl rfl rfl rfl rfl rfl rfl (Val.fieldAddr (j := o0 + i * 3 + 2) rfl Ty.fo115_2 rfl rfl) ?_
            refine WP.valG rfl rfl rfl rfl rfl rfl rfl (Val.load (v := .bool (x.open_)) rfl Ty.sc4 rfl (fun w h => hr w (h.at 1 rfl) i x hx 2 _ rfl)) ?_
            refine WP.valG rfl rfl rfl rfl rfl rfl rfl (Val.not rfl rfl) ?_
            refine WP.valG rfl rfl rfl rfl rfl rfl rfl (Val.move rfl rfl) ?_
            refine WP.splitB 47 rfl (fun h6 => ?_) (fun h6 => ?_)
            · skip
              refine WP.valG rfl rfl rfl rfl rfl rfl rfl (Val.move rfl rfl) ?_
              refine WP.valG rfl rfl rfl rfl rfl rfl rfl (Val.move rfl rfl) ?_
              refine WP.valG rfl rfl rfl rfl rfl rfl rfl (Val.indexAddr (j := i) (q := o0 + i * 3) rfl Ty.sl112 rfl rfl (by omega) (by omega) (by omega)) ?_
              refine WP.valG rfl rfl rfl rfl rfl rfl rfl (Val.fieldAddr (j := o0 + i * 3 + 1) rfl Ty.fo115_1 rfl rfl) ?_
              refine WP.valG rfl rfl rfl rfl rfl rfl rfl (Val.load (v := .string x.hi) rfl Ty.sc9 rfl (fun w h => hr w (h.at 1 rfl) i x hx 1 _ rfl)) ?_
              refine WP.valG rfl rfl rfl rfl rfl rfl rfl (Val.move rfl rfl) ?_
              refine WP.valG rfl rfl rfl rfl rfl rfl rfl (Val.leqS rfl rfl rfl) ?_
              refine WP.valG rfl rfl rfl rfl rfl rfl rfl (Val.pickT rfl rfl rfl) ?_
              refine WP.val rfl rfl rfl (Val.pickF rfl rfl rfl) ?_
              refine WP.nil ?_
              refine Out.next ?_
              refine WPc.cond rfl (fun h7 => ?_) (fun h7 => ?_)
              · skip
                have h7 : (!Op.bytesLess (cur).toList (x.hi).toList) = true := h7
                refine WPc.exit ?_
                refine Out.then_exit ?_
                refine Out.block_exit ?_
                refine Out.next ?_
                refine WPc.region ?_
                refine WP.val rfl rfl rfl (Val.move rfl rfl) ?_
                refine WP.val rfl rfl rfl (Val.add (z := ((i + 1 : Nat) : Int)) rfl rfl rfl ((w64 (by omega) (by omega)).trans (by omega))) ?_
                refine WP.val rfl rfl rfl (Val.assign rfl rfl) ?_
                refine WP.nil ?_
                refine Out.again (i + 1, best) ?_ ?_ ?_ ?_
                · exact ⟨by show i + 1 ≤ l.length; omega, (by first | exact bs_less hbs hx (by simpa using ‹x.open_ = false›) (by simp_all) | exact bs_skip hbs hx (by first | (exact skip_empty (by assumption)) | (unfold covB; simp_all)))⟩
                · (first | omega | (dsimp only; omega))
                · exact (Sub.cons rfl (Sub.cons rfl (Sub.cons rfl (Sub.cons rfl (Sub.cons rfl (Sub.cons rfl Sub.nil))))))
                · exact (fun _ h => h)
              · skip
                have h7 : (!Op.bytesLess (cur).toList (x.hi).toList) = false := h7
                refine WPc.skip ?_
                refine Out.next ?_
                refine WPc.seq ?_
                refine WPc.seq ?_
                have hcov : covB x cur = true := by unfold covB; simp_all
                refine WPc.region ?_
                refine WP.val rfl rfl rfl (Val.move rfl rfl) ?_
                refine WP.val rfl rfl rfl (Val.move rfl rfl) ?_
                refine WP.val rfl rfl rfl (Val.indexAddr (j := i) (q := o0 + i * 3) rfl Ty.sl112 rfl rfl (by omega) (by omega) (by omega)) ?_
                refine WP.val rfl rfl rfl (Val.fieldAddr (j := o0 + i * 3 + 2) rfl Ty.fo115_2 rfl rfl) ?_
                refine WP.val rfl rfl rfl (Val.load (v := .bool (x.open_)) rfl Ty.sc4 rfl (fun w h => hr w (h.at 1 rfl) i x hx 2 _ rfl)) ?_
                refine WP.nil ?_
                refine Out.next ?_
                refine WPc.cond rfl (fun h8 => ?_) (fun h8 => ?_)
                · skip
                  have h8 : (x.open_) = true := h8
                  refine WPc.seq ?_
                  refine WPc.region ?_
                  refine WP.val rfl rfl rfl (Val.assign rfl rfl) ?_
                  refine WP.nil ?_
                  refine Out.next ?_
                  refine WPc.ret ?_
                  refine Out.then_ret ?_
                  refine Out.block_ret ?_
                  refine Out.then_ret ?_
                  refine Out.then_ret ?_
                  refine Out.block_ret ?_
                  refine Out.then_ret ?_
                  refine Out.block_ret ?_
                  refine Out.then_ret ?_
                  refine Out.block_ret ?_
                  refine Out.drop ?_
                  exact Out.ret1 (L' := [A]) Try.results62 rfl ⟨_, rfl, ⟨fun _ => cv_open (l := l) hv hcv hsv (List.mem_of_getElem? hx) hcov (by assumption), fun _ => rfl⟩, rfl⟩ (fun w h => h)
                · skip
                  have h8 : (x.open_) = false := h8
                  refine WPc.skip ?_
                  refine Out.next ?_
                  refine WPc.seq ?_
                  refine WPc.region ?_
                  refine WP.val rfl rfl rfl (Val.move rfl rfl) ?_
                  refine WP.val rfl rfl rfl (Val.move rfl rfl) ?_
                  refine WP.val rfl rfl rfl (Val.indexAddr (j := i) (q := o0 + i * 3) rfl Ty.sl112 rfl rfl (by omega) (by omega) (by omega)) ?_
                  refine WP.val rfl rfl rfl (Val.fieldAddr (j := o0 + i * 3 + 1) rfl Ty.fo115_1 rfl rfl) ?_
                  refine WP.val rfl rfl rfl (Val.load (v := .string x.hi) rfl Ty.sc9 rfl (fun w h => hr w (h.at 1 rfl) i x hx 1 _ rfl)) ?_
                  refine WP.val rfl rfl rfl (Val.move rfl rfl) ?_
                  refine WP.val rfl rfl rfl (Val.gtrS rfl rfl rfl) ?_
                  refine WP.nil ?_
                  refine Out.next ?_
                  refine WPc.cond rfl (fun h9 => ?_) (fun h9 => ?_)
                  · skip
                    have h9 : (Op.bytesLess (best).toList (x.hi).toList) = true := h9
                    refine WPc.region ?_
                    refine WP.val rfl rfl rfl (Val.move rfl rfl) ?_
                    refine WP.val rfl rfl rfl (Val.move rfl rfl) ?_
                    refine WP.val rfl rfl rfl (Val.indexAddr (j := i) (q := o0 + i * 3) rfl Ty.sl112 rfl rfl (by omega) (by omega) (by omega)) ?_
                    refine WP.val rfl rfl rfl (Val.fieldAddr (j := o0 + i * 3 + 1) rfl Ty.fo115_1 rfl rfl) ?_
                    refine WP.val rfl rfl rfl (Val.load (v := .string x.hi) rfl Ty.sc9 rfl (fun w h => hr w (h.at 1 rfl) i x hx 1 _ rfl)) ?_
                    refine WP.val rfl rfl rfl (Val.assign rfl rfl) ?_
                    refine WP.nil ?_
                    refine Out.block ?_
                    refine Out.next ?_
                    refine WPc.region ?_
                    refine WP.val rfl rfl rfl (Val.move rfl rfl) ?_
                    refine WP.val rfl rfl rfl (Val.add (z := ((i + 1 : Nat) : Int)) rfl rfl rfl ((w64 (by omega) (by omega)).trans (by omega))) ?_
                    refine WP.val rfl rfl rfl (Val.assign rfl rfl) ?_
                    refine WP.nil ?_
                    refine Out.again (i + 1, x.hi) ?_ ?_ ?_ ?_
                    · exact ⟨by show i + 1 ≤ l.length; omega, (by first | exact bs_more hbs hx hcov (by simpa using ‹x.open_ = false›) (by assumption) | exact bs_skip hbs hx (by first | (exact skip_empty (by assumption)) | (unfold covB; simp_all)))⟩
                    · (first | omega | (dsimp only; omega))
                    · exact (Sub.cons rfl (Sub.cons rfl (Sub.cons rfl (Sub.cons rfl (Sub.cons rfl (Sub.cons rfl Sub.nil))))))
                    · exact (fun _ h => h)
                  · skip
                    have h9 : (Op.bytesLess (best).toList (x.hi).toList) = false := h9
                    refine WPc.skip ?_
                    refine Out.block ?_
                    refine Out.next ?_
                    refine WPc.region ?_
                    refine WP.val rfl rfl rfl (Val.move rfl rfl) ?_
                    refine WP.val rfl rfl rfl (Val.add (z := ((i + 1 : Nat) : Int)) rfl rfl rfl ((w64 (by omega) (by omega)).trans (by omega))) ?_
                    refine WP.val rfl rfl rfl (Val.assign rfl rfl) ?_
                    refine WP.nil ?_
                    refine Out.again (i + 1, best) ?_ ?_ ?_ ?_
                    · exact ⟨by show i + 1 ≤ l.length; omega, (by first | exact bs_less hbs hx (by simpa using ‹x.open_ = false›) (by simp_all) | exact bs_skip hbs hx (by first | (exact skip_empty (by assumption)) | (unfold covB; simp_all)))⟩
                    · (first | omega | (dsimp only; omega))
                    · exact (Sub.cons rfl (Sub.cons rfl (Sub.cons rfl (Sub.cons rfl (Sub.cons rfl (Sub.cons rfl Sub.nil))))))
                    · exact (fun _ h => h)
            · skip
              refine WP.skip rfl rfl rfl rfl rfl rfl rfl ?_
              refine WP.skip rfl rfl rfl rfl rfl rfl rfl ?_
              refine WP.skip rfl rfl rfl rfl rfl rfl rfl ?_
              refine WP.skip rfl rfl rfl rfl rfl rfl rfl ?_
              refine WP.skip rfl rfl rfl rfl rfl rfl rfl ?_
              refine WP.skip rfl rfl rfl rfl rfl rfl rfl ?_
              refine WP.skip rfl rfl rfl rfl rfl rfl rfl ?_
              refine WP.valG rfl rfl rfl rfl rfl rfl rfl (Val.pickF rfl rfl rfl) ?_
              refine WP.val rfl rfl rfl (Val.pickF rfl rfl rfl) ?_
              refine WP.nil ?_
              refine Out.next ?_
              refine WPc.condF rfl rfl ?_
              refine WPc.skip ?_
              refine Out.next ?_
              refine WPc.seq ?_
              refine WPc.seq ?_
              have hcov : covB x cur = true := by unfold covB; simp_all
              refine WPc.region ?_
              refine WP.val rfl rfl rfl (Val.move rfl rfl) ?_
              refine WP.val rfl rfl rfl (Val.move rfl rfl) ?_
              refine WP.val rfl rfl rfl (Val.indexAddr (j := i) (q := o0 + i * 3) rfl Ty.sl112 rfl rfl (by omega) (by omega) (by omega)) ?_
              refine WP.val rfl rfl rfl (Val.fieldAddr (j := o0 + i * 3 + 2) rfl Ty.fo115_2 rfl rfl) ?_
              refine WP.val rfl rfl rfl (Val.load (v := .bool (x.open_)) rfl Ty.sc4 rfl (fun w h => hr w (h.at 1 rfl) i x hx 2 _ rfl)) ?_
              refine WP.nil ?_
              refine Out.next ?_
              refine WPc.cond rfl (fun h10 => ?_) (fun h10 => ?_)
              · skip
                have h10 : (x.open_) = true := h10
                refine WPc.seq ?_
                refine WPc.region ?_
                refine WP.val rfl rfl rfl (Val.assign rfl rfl) ?_
                refine WP.nil ?_
                refine Out.next ?_
                refine WPc.ret ?_
                refine Out.then_ret ?_
                refine Out.block_ret ?_
                refine Out.then_ret ?_
                refine Out.then_ret ?_
                refine Out.block_ret ?_
                refine Out.then_ret ?_
                refine Out.block_ret ?_
                refine Out.then_ret ?_
                refine Out.block_ret ?_
                refine Out.drop ?_
                exact Out.ret1 (L' := [A]) Try.results62 rfl ⟨_, rfl, ⟨fun _ => cv_open (l := l) hv hcv hsv (List.mem_of_getElem? hx) hcov (by assumption), fun _ => rfl⟩, rfl⟩ (fun w h => h)
              · skip
                have h10 : (x.open_) = false := h10
                refine WPc.skip ?_
                refine Out.next ?_
                refine WPc.seq ?_
                refine WPc.region ?_
                refine WP.val rfl rfl rfl (Val.move rfl rfl) ?_
                refine WP.val rfl rfl rfl (Val.move rfl rfl) ?_
                refine WP.val rfl rfl rfl (Val.indexAddr (j := i) (q := o0 + i * 3) rfl Ty.sl112 rfl rfl (by omega) (by omega) (by omega)) ?_
                refine WP.val rfl rfl rfl (Val.fieldAddr (j := o0 + i * 3 + 1) rfl Ty.fo115_1 rfl rfl) ?_
                refine WP.val rfl rfl rfl (Val.load (v := .string x.hi) rfl Ty.sc9 rfl (fun w h => hr w (h.at 1 rfl) i x hx 1 _ rfl)) ?_
                refine WP.val rfl rfl rfl (Val.move rfl rfl) ?_
                refine WP.val rfl rfl rfl (Val.gtrS rfl rfl rfl) ?_
                refine WP.nil ?_
                refine Out.next ?_
                refine WPc.cond rfl (fun h11 => ?_) (fun h11 => ?_)
                · skip
                  have h11 : (Op.bytesLess (best).toList (x.hi).toList) = true := h11
                  refine WPc.region ?_
                  refine WP.val rfl rfl rfl (Val.move rfl rfl) ?_
                  refine WP.val rfl rfl rfl (Val.move rfl rfl) ?_
                  refine WP.val rfl rfl rfl (Val.indexAddr (j := i) (q := o0 + i * 3) rfl Ty.sl112 rfl rfl (by omega) (by omega) (by omega)) ?_
                  refine WP.val rfl rfl rfl (Val.fieldAddr (j := o0 + i * 3 + 1) rfl Ty.fo115_1 rfl rfl) ?_
                  refine WP.val rfl rfl rfl (Val.load (v := .string x.hi) rfl Ty.sc9 rfl (fun w h => hr w (h.at 1 rfl) i x hx 1 _ rfl)) ?_
                  refine WP.val rfl rfl rfl (Val.assign rfl rfl) ?_
                  refine WP.nil ?_
                  refine Out.block ?_
                  refine Out.next ?_
                  refine WPc.region ?_
                  refine WP.val rfl rfl rfl (Val.move rfl rfl) ?_
                  refine WP.val rfl rfl rfl (Val.add (z := ((i + 1 : Nat) : Int)) rfl rfl rfl ((w64 (by omega) (by omega)).trans (by omega))) ?_
                  refine WP.val rfl rfl rfl (Val.assign rfl rfl) ?_
                  refine WP.nil ?_
                  refine Out.again (i + 1, x.hi) ?_ ?_ ?_ ?_
                  · exact ⟨by show i + 1 ≤ l.length; omega, (by first | exact bs_more hbs hx hcov (by simpa using ‹x.open_ = false›) (by assumption) | exact bs_skip hbs hx (by first | (exact skip_empty (by assumption)) | (unfold covB; simp_all)))⟩
                  · (first | omega | (dsimp only; omega))
                  · exact (Sub.cons rfl (Sub.cons rfl (Sub.cons rfl (Sub.cons rfl (Sub.cons rfl (Sub.cons rfl Sub.nil))))))
                  · exact (fun _ h => h)
                · skip
                  have h11 : (Op.bytesLess (best).toList (x.hi).toList) = false := h11
                  refine WPc.skip ?_
                  refine Out.block ?_
                  refine Out.next ?_
                  refine WPc.region ?_
                  refine WP.val rfl rfl rfl (Val.move rfl rfl) ?_
                  refine WP.val rfl rfl rfl (Val.add (z := ((i + 1 : Nat) : Int)) rfl rfl rfl ((w64 (by omega) (by omega)).trans (by omega))) ?_
                  refine WP.val rfl rfl rfl (Val.assign rfl rfl) ?_
                  refine WP.nil ?_
                  refine Out.again (i + 1, best) ?_ ?_ ?_ ?_
                  · exact ⟨by show i + 1 ≤ l.length; omega, (by first | exact bs_less hbs hx (by simpa using ‹x.open_ = false›) (by simp_all) | exact bs_skip hbs hx (by first | (exact skip_empty (by assumption)) | (unfold covB; simp_all)))⟩
                  · (first | omega | (dsimp only; omega))
                  · exact (Sub.cons rfl (Sub.cons rfl (Sub.cons rfl (Sub.cons rfl (Sub.cons rfl (Sub.cons rfl Sub.nil))))))
                  · exact (fun _ h => h)
      · skip
        have h3 : ¬ (((i : Nat) : Int) < ((l.length : Nat) : Int)) := h3
        refine WPc.exit ?_
        refine Out.then_exit ?_
        refine Out.then_exit ?_
        refine Out.block_exit ?_
        refine Out.next ?_
        refine WPc.seq ?_
        refine WPc.seq ?_
        refine WPc.region ?_
        refine WP.val rfl rfl rfl (Val.move rfl rfl) ?_
        refine WP.val rfl rfl rfl (Val.move rfl rfl) ?_
        refine WP.val rfl rfl rfl (Val.eqlS rfl rfl rfl) ?_
        refine WP.nil ?_
        refine Out.next ?_
        refine WPc.cond rfl (fun h12 => ?_) (fun h12 => ?_)
        · skip
          have h12 : (seq best cur) = true := h12
          refine WPc.seq ?_
          refine WPc.region ?_
          refine WP.val rfl rfl rfl (Val.assign rfl rfl) ?_
          refine WP.nil ?_
          refine Out.next ?_
          refine WPc.ret ?_
          refine Out.then_ret ?_
          refine Out.block_ret ?_
          refine Out.then_ret ?_
          refine Out.block_ret ?_
          have hin : i = l.length := by omega
          have heq : best = cur := by have h9 : (seq best cur) = true := by assumption
                                      unfold seq at h9; exact ba_ext (by simpa using h9)
          subst heq
          rw [hin] at hbs
          refine Out.drop ?_
          exact Out.ret1 (L' := [A]) Try.results62 rfl ⟨_, rfl, ⟨(fun h => by cases h), fun h => absurd h (cv_none (l := l) hv hvs hcv hbs (by simp_all))⟩, rfl⟩ (fun w h => h)
        · skip
          have h12 : (seq best cur) = false := h12
          refine WPc.skip ?_
          refine Out.next ?_
          refine WPc.region ?_
          refine WP.val rfl rfl rfl (Val.move rfl rfl) ?_
          refine WP.val rfl rfl rfl (Val.assign rfl rfl) ?_
          refine WP.nil ?_
          refine Out.block ?_
          have hne : ¬ best = cur := fun e => by subst e; simp_all [seq]
          have hin : i = l.length := by omega
          rw [hin] at hbs
          have hnx := cv_next (l := l) hv hcv hbs hne
          refine Out.again best ?_ ?_ ?_ ?_
          · exact hnx.1
          · (exact hnx.2)
          · exact (Sub.cons rfl (Sub.cons rfl (Sub.cons rfl (Sub.cons rfl Sub.nil))))
          · exact (fun _ h => h)
  · skip
    refine WP.skip rfl rfl rfl rfl rfl rfl rfl ?_
    refine WP.skip rfl rfl rfl rfl rfl rfl rfl ?_
    refine WP.skip rfl rfl rfl rfl rfl rfl rfl ?_
    refine WP.skip rfl rfl rfl rfl rfl rfl rfl ?_
    refine WP.val rfl rfl rfl (Val.pickF rfl rfl rfl) ?_
    refine WP.nil ?_
    refine Out.next ?_
    refine WPc.condF rfl rfl ?_
    refine WPc.skip ?_
    refine Out.next ?_
    refine WPc.seq ?_
    refine WPc.region ?_
    refine WP.val rfl rfl rfl (Val.move rfl rfl) ?_
    refine WP.val rfl rfl rfl (Val.assign rfl rfl) ?_
    refine WP.nil ?_
    refine Out.next ?_
    refine WPc.seq ?_
    refine WPc.seq ?_
    refine WPc.region ?_
    refine WP.val rfl rfl rfl (Val.assign rfl rfl) ?_
    refine WP.nil ?_
    refine Out.next ?_
    refine WPc.block ?_
    refine WPc.loop (ι := Nat × ByteArray) (fun ⟨i, best⟩ => i ≤ l.length ∧ BsI l cur i best) (fun ⟨i, best⟩ => [(0, .slice (some ⟨b0, o0, none⟩) l.length c0), (3, .pointer (some ⟨b1, 0, none⟩)), (4, .bool false), (5, .string cur), (6, .string best), (7, .int .i64 (((i : Nat) : Int)))]) (fun ⟨i, best⟩ => Blk b1 [.string s.lo, .string s.hi, .bool (s.open_)] 115 :: A :: F) (fun ⟨i, best⟩ => l.length - i) (0, cur) ⟨Nat.zero_le _, bsI_zero _ _⟩ ((Sub.cons rfl (Sub.cons rfl (Sub.cons rfl (Sub.cons rfl (Sub.cons rfl (Sub.cons rfl Sub.nil))))))) (fun _ h => h) ?_
    rintro ⟨i, best⟩ ⟨hi, hbs⟩
    show WPc _ _ _ _ _ [(0, .slice (some ⟨b0, o0, none⟩) l.length c0), (3, .pointer (some ⟨b1, 0, none⟩)), (4, .bool false), (5, .string cur), (6, .string best), (7, .int .i64 (((i : Nat) : Int)))] (Blk b1 [.string s.lo, .string s.hi, .bool (s.open_)] 115 :: A :: F)
    replace hi : i ≤ l.length := hi
    replace hbs : BsI l cur i best := hbs
    refine WPc.seq ?_
    refine WPc.seq ?_
    refine WPc.region ?_
    refine WP.val rfl rfl rfl (Val.move rfl rfl) ?_
    refine WP.val rfl rfl rfl (Val.move rfl rfl) ?_
    refine WP.val rfl rfl rfl (Val.len rfl Ty.sl112 rfl) ?_
    refine WP.val rfl rfl rfl (Val.lss rfl rfl rfl) ?_
    refine WP.nil ?_
    refine Out.next ?_
    refine WPc.ifP rfl (fun h13 => ?_) (fun h13 => ?_)
    · skip
      have h13 : (((i : Nat) : Int) < ((l.length : Nat) : Int)) := h13
      refine WPc.skip ?_
      refine Out.next ?_
      refine WPc.seq ?_
      refine WPc.block ?_
      refine WPc.seq ?_
      refine WPc.seq ?_
      have hlt : i < l.length := by omega
      obtain ⟨x, hx⟩ : ∃ x, l[i]? = some x := ⟨_, List.getElem?_eq_getElem hlt⟩
      refine WPc.region ?_
      refine WP.val rfl rfl rfl (Val.move rfl rfl) ?_
      refine WP.val rfl rfl rfl (Val.move rfl rfl) ?_
      refine WP.val rfl rfl rfl (Val.indexAddr (j := i) (q := o0 + i * 3) rfl Ty.sl112 rfl rfl (by omega) (by omega) (by omega)) ?_
      refine WP.val rfl rfl rfl (Val.loadAgg (cs := (Spn.cells x)) rfl Ty.ag115 rfl (by rfl) (fun w h => hr w (h.at 1 rfl) i x hx)) ?_
      refine WP.eff rfl rfl rfl (Eff.call rfl rfl Try.call93 (empty_does x)) ?_
      rintro _ _ ⟨_, ⟨rfl, rfl⟩, rfl⟩
      show WP _ _ _ _ _ _ _ (Blk b1 [.string s.lo, .string s.hi, .bool (s.open_)] 115 :: A :: F)
      refine WP.val rfl rfl rfl (Val.move rfl rfl) ?_
      refine WP.splitB 31 rfl (fun h14 => ?_) (fun h14 => ?_)
      · skip
        refine WP.skip rfl rfl rfl rfl rfl rfl rfl ?_
        refine WP.skip rfl rfl rfl rfl rfl rfl rfl ?_
        refine WP.skip rfl rfl rfl rfl rfl rfl rfl ?_
        refine WP.skip rfl rfl rfl rfl rfl rfl rfl ?_
        refine WP.skip rfl rfl rfl rfl rfl rfl rfl ?_
        refine WP.skip rfl rfl rfl rfl rfl rfl rfl ?_
        refine WP.skip rfl rfl rfl rfl rfl rfl rfl ?_
        refine WP.val rfl rfl rfl (Val.pickT rfl rfl rfl) ?_
        refine WP.val rfl rfl rfl (Val.move rfl rfl) ?_
        refine WP.skip rfl rfl rfl rfl rfl rfl rfl ?_
        refine WP.skip rfl rfl rfl rfl rfl rfl rfl ?_
        refine WP.skip rfl rfl rfl rfl rfl rfl rfl ?_
        refine WP.skip rfl rfl rfl rfl rfl rfl rfl ?_
        refine WP.skip rfl rfl rfl rfl rfl rfl rfl ?_
        refine WP.skip rfl rfl rfl rfl rfl rfl rfl ?_
        refine WP.skip rfl rfl rfl rfl rfl rfl rfl ?_
        refine WP.skipU rfl rfl rfl rfl rfl rfl ?_
        refine WP.skipU rfl rfl rfl rfl rfl rfl ?_
        refine WP.skipU rfl rfl rfl rfl rfl rfl ?_
        refine WP.skipU rfl rfl rfl rfl rfl rfl ?_
        refine WP.skipU rfl rfl rfl rfl rfl rfl ?_
        refine WP.skipU rfl rfl rfl rfl rfl rfl ?_
        refine WP.skipU rfl rfl rfl rfl rfl rfl ?_
        refine WP.skip rfl rfl rfl rfl rfl rfl rfl ?_
        refine WP.val rfl rfl rfl (Val.pickT rfl rfl rfl) ?_
        refine WP.nil ?_
        refine Out.next ?_
        refine WPc.condT rfl rfl ?_
        refine WPc.exit ?_
        refine Out.then_exit ?_
        refine Out.block_exit ?_
        refine Out.next ?_
        refine WPc.region ?_
        refine WP.val rfl rfl rfl (Val.move rfl rfl) ?_
        refine WP.val rfl rfl rfl (Val.add (z := ((i + 1 : Nat) : Int)) rfl rfl rfl ((w64 (by omega) (by omega)).trans (by omega))) ?_
        refine WP.val rfl rfl rfl (Val.assign rfl rfl) ?_
        refine WP.nil ?_
        refine Out.again (i + 1, best) ?_ ?_ ?_ ?_
        · exact ⟨by show i + 1 ≤ l.length; omega, (by first | exact bs_less hbs hx (by simpa using ‹x.open_ = false›) (by simp_all) | exact bs_skip hbs hx (by first | (exact skip_empty (by assumption)) | (unfold covB; simp_all)))⟩
        · (first | omega | (dsimp only; omega))
        · exact (Sub.cons rfl (Sub.cons rfl (Sub.cons rfl (Sub.cons rfl (Sub.cons rfl (Sub.cons rfl Sub.nil))))))
        · exact (fun _ h => h)
      · skip
        refine WP.valG rfl rfl rfl rfl rfl rfl rfl (Val.move rfl rfl) ?_
        refine WP.valG rfl rfl rfl rfl rfl rfl rfl (Val.move rfl rfl) ?_
        refine WP.valG rfl rfl rfl rfl rfl rfl rfl (Val.indexAddr (j := i) (q := o0 + i * 3) rfl Ty.sl112 rfl rfl (by omega) (by omega) (by omega)) ?_
        refine WP.valG rfl rfl rfl rfl rfl rfl rfl (Val.fieldAddr (j := o0 + i * 3) rfl Ty.fo115_0 rfl rfl) ?_
        refine WP.valG rfl rfl rfl rfl rfl rfl rfl (Val.load (v := .string x.lo) rfl Ty.sc9 rfl (fun w h => hr w (h.at 1 rfl) i x hx 0 _ rfl)) ?_
        refine WP.valG rfl rfl rfl rfl rfl rfl rfl (Val.move rfl rfl) ?_
        refine WP.valG rfl rfl rfl rfl rfl rfl rfl (Val.gtrS rfl rfl rfl) ?_
        refine WP.val rfl rfl rfl (Val.pickF rfl rfl rfl) ?_
        refine WP.val rfl rfl rfl (Val.move rfl rfl) ?_
        refine WP.splitB 40 rfl (fun h15 => ?_) (fun h15 => ?_)
        · skip
          refine WP.skip rfl rfl rfl rfl rfl rfl rfl ?_
          refine WP.skip rfl rfl rfl rfl rfl rfl rfl ?_
          refine WP.skip rfl rfl rfl rfl rfl rfl rfl ?_
          refine WP.skip rfl rfl rfl rfl rfl rfl rfl ?_
          refine WP.skip rfl rfl rfl rfl rfl rfl rfl ?_
          refine WP.skip rfl rfl rfl rfl rfl rfl rfl ?_
          refine WP.skip rfl rfl rfl rfl rfl rfl rfl ?_
          refine WP.skipU rfl rfl rfl rfl rfl rfl ?_
          refine WP.skipU rfl rfl rfl rfl rfl rfl ?_
          refine WP.skipU rfl rfl rfl rfl rfl rfl ?_
          refine WP.skipU rfl rfl rfl rfl rfl rfl ?_
          refine WP.skipU rfl rfl rfl rfl rfl rfl ?_
          refine WP.skipU rfl rfl rfl rfl rfl rfl ?_
          refine WP.skipU rfl rfl rfl rfl rfl rfl ?_
          refine WP.skip rfl rfl rfl rfl rfl rfl rfl ?_
          refine WP.val rfl rfl rfl (Val.pickT rfl rfl rfl) ?_
          refine WP.nil ?_
          refine Out.next ?_
          refine WPc.condT rfl rfl ?_
          refine WPc.exit ?_
          refine Out.then_exit ?_
          refine Out.block_exit ?_
          refine Out.next ?_
          refine WPc.region ?_
          refine WP.val rfl rfl rfl (Val.move rfl rfl) ?_
          refine WP.val rfl rfl rfl (Val.add (z := ((i + 1 : Nat) : Int)) rfl rfl rfl ((w64 (by omega) (by omega)).trans (by omega))) ?_
          refine WP.val rfl rfl rfl (Val.assign rfl rfl) ?_
          refine WP.nil ?_
          refine Out.again (i + 1, best) ?_ ?_ ?_ ?_
          · exact ⟨by show i + 1 ≤ l.length; omega, (by first | exact bs_less hbs hx (by simpa using ‹x.open_ = false›) (by simp_all) | exact bs_skip hbs hx (by first | (exact skip_empty (by assumption)) | (unfold covB; simp_all)))⟩
          · (first | omega | (dsimp only; omega))
          · exact (Sub.cons rfl (Sub.cons rfl (Sub.cons rfl (Sub.cons rfl (Sub.cons rfl (Sub.cons rfl Sub.nil))))))
          · exact (fun _ h => h)
        · skip
          refine WP.valG rfl rfl rfl rfl rfl rfl rfl (Val.move rfl rfl) ?_
          refine WP.valG rfl rfl rfl rfl rfl rfl rfl (Val.move rfl rfl) ?_
          refine WP.valG rfl rfl rfl rfl rfl rfl rfl (Val.indexAddr (j := i) (q := o0 + i * 3) rfl Ty.sl112 rfl rfl (by omega) (by omega) (by omega)) ?_
          refine WP.valG rfl rfl rfl rfl rfl rfl rfl (Val.fieldAddr (j := o0 + i * 3 + 2) rfl Ty.fo115_2 rfl rfl) ?_
          refine WP.valG rfl rfl rfl rfl rfl rfl rfl (Val.load (v := .bool (x.open_)) rfl Ty.sc4 rfl (fun w h => hr w (h.at 1 rfl) i x hx 2 _ rfl)) ?_
          refine WP.valG rfl rfl rfl rfl rfl rfl rfl (Val.not rfl rfl) ?_
          refine WP.valG rfl rfl rfl rfl rfl rfl rfl (Val.move rfl rfl) ?_
          refine WP.splitB 47 rfl (fun h16 => ?_) (fun h16 => ?_)
          · skip
            refine WP.valG rfl rfl rfl rfl rfl rfl rfl (Val.move rfl rfl) ?_
            refine WP.valG rfl rfl rfl rfl rfl rfl rfl (Val.move rfl rfl) ?_
            refine WP.valG rfl rfl rfl rfl rfl rfl rfl (Val.indexAddr (j := i) (q := o0 + i * 3) rfl Ty.sl112 rfl rfl (by omega) (by omega) (by omega)) ?_
            refine WP.valG rfl rfl rfl rfl rfl rfl rfl (Val.fieldAddr (j := o0 + i * 3 + 1) rfl Ty.fo115_1 rfl rfl) ?_
            refine WP.valG rfl rfl rfl rfl rfl rfl rfl (Val.load (v := .string x.hi) rfl Ty.sc9 rfl (fun w h => hr w (h.at 1 rfl) i x hx 1 _ rfl)) ?_
            refine WP.valG rfl rfl rfl rfl rfl rfl rfl (Val.move rfl rfl) ?_
            refine WP.valG rfl rfl rfl rfl rfl rfl rfl (Val.leqS rfl rfl rfl) ?_
            refine WP.valG rfl rfl rfl rfl rfl rfl rfl (Val.pickT rfl rfl rfl) ?_
            refine WP.val rfl rfl rfl (Val.pickF rfl rfl rfl) ?_
            refine WP.nil ?_
            refine Out.next ?_
            refine WPc.cond rfl (fun h17 => ?_) (fun h17 => ?_)
            · skip
              have h17 : (!Op.bytesLess (cur).toList (x.hi).toList) = true := h17
              refine WPc.exit ?_
              refine Out.then_exit ?_
              refine Out.block_exit ?_
              refine Out.next ?_
              refine WPc.region ?_
              refine WP.val rfl rfl rfl (Val.move rfl rfl) ?_
              refine WP.val rfl rfl rfl (Val.add (z := ((i + 1 : Nat) : Int)) rfl rfl rfl ((w64 (by omega) (by omega)).trans (by omega))) ?_
              refine WP.val rfl rfl rfl (Val.assign rfl rfl) ?_
              refine WP.nil ?_
              refine Out.again (i + 1, best) ?_ ?_ ?_ ?_
              · exact ⟨by show i + 1 ≤ l.length; omega, (by first | exact bs_less hbs hx (by simpa using ‹x.open_ = false›) (by simp_all) | exact bs_skip hbs hx (by first | (exact skip_empty (by assumption)) | (unfold covB; simp_all)))⟩
              · (first | omega | (dsimp only; omega))
              · exact (Sub.cons rfl (Sub.cons rfl (Sub.cons rfl (Sub.cons rfl (Sub.cons rfl (Sub.cons rfl Sub.nil))))))
              · exact (fun _ h => h)
            · skip
              have h17 : (!Op.bytesLess (cur).toList (x.hi).toList) = false := h17
              refine WPc.skip ?_
              refine Out.next ?_
              refine WPc.seq ?_
              refine WPc.seq ?_
              have hcov : covB x cur = true := by unfold covB; simp_all
              refine WPc.region ?_
              refine WP.val rfl rfl rfl (Val.move rfl rfl) ?_
              refine WP.val rfl rfl rfl (Val.move rfl rfl) ?_
              refine WP.val rfl rfl rfl (Val.indexAddr (j := i) (q := o0 + i * 3) rfl Ty.sl112 rfl rfl (by omega) (by omega) (by omega)) ?_
              refine WP.val rfl rfl rfl (Val.fieldAddr (j := o0 + i * 3 + 2) rfl Ty.fo115_2 rfl rfl) ?_
              refine WP.val rfl rfl rfl (Val.load (v := .bool (x.open_)) rfl Ty.sc4 rfl (fun w h => hr w (h.at 1 rfl) i x hx 2 _ rfl)) ?_
              refine WP.nil ?_
              refine Out.next ?_
              refine WPc.cond rfl (fun h18 => ?_) (fun h18 => ?_)
              · skip
                have h18 : (x.open_) = true := h18
                refine WPc.seq ?_
                refine WPc.region ?_
                refine WP.val rfl rfl rfl (Val.assign rfl rfl) ?_
                refine WP.nil ?_
                refine Out.next ?_
                refine WPc.ret ?_
                refine Out.then_ret ?_
                refine Out.block_ret ?_
                refine Out.then_ret ?_
                refine Out.then_ret ?_
                refine Out.block_ret ?_
                refine Out.then_ret ?_
                refine Out.block_ret ?_
                refine Out.then_ret ?_
                refine Out.block_ret ?_
                refine Out.drop ?_
                exact Out.ret1 (L' := [A]) Try.results62 rfl ⟨_, rfl, ⟨fun _ => cv_open (l := l) hv hcv hsv (List.mem_of_getElem? hx) hcov (by assumption), fun _ => rfl⟩, rfl⟩ (fun w h => h)
              · skip
                have h18 : (x.open_) = false := h18
                refine WPc.skip ?_
                refine Out.next ?_
                refine WPc.seq ?_
                refine WPc.region ?_
                refine WP.val rfl rfl rfl (Val.move rfl rfl) ?_
                refine WP.val rfl rfl rfl (Val.move rfl rfl) ?_
                refine WP.val rfl rfl rfl (Val.indexAddr (j := i) (q := o0 + i * 3) rfl Ty.sl112 rfl rfl (by omega) (by omega) (by omega)) ?_
                refine WP.val rfl rfl rfl (Val.fieldAddr (j := o0 + i * 3 + 1) rfl Ty.fo115_1 rfl rfl) ?_
                refine WP.val rfl rfl rfl (Val.load (v := .string x.hi) rfl Ty.sc9 rfl (fun w h => hr w (h.at 1 rfl) i x hx 1 _ rfl)) ?_
                refine WP.val rfl rfl rfl (Val.move rfl rfl) ?_
                refine WP.val rfl rfl rfl (Val.gtrS rfl rfl rfl) ?_
                refine WP.nil ?_
                refine Out.next ?_
                refine WPc.cond rfl (fun h19 => ?_) (fun h19 => ?_)
                · skip
                  have h19 : (Op.bytesLess (best).toList (x.hi).toList) = true := h19
                  refine WPc.region ?_
                  refine WP.val rfl rfl rfl (Val.move rfl rfl) ?_
                  refine WP.val rfl rfl rfl (Val.move rfl rfl) ?_
                  refine WP.val rfl rfl rfl (Val.indexAddr (j := i) (q := o0 + i * 3) rfl Ty.sl112 rfl rfl (by omega) (by omega) (by omega)) ?_
                  refine WP.val rfl rfl rfl (Val.fieldAddr (j := o0 + i * 3 + 1) rfl Ty.fo115_1 rfl rfl) ?_
                  refine WP.val rfl rfl rfl (Val.load (v := .string x.hi) rfl Ty.sc9 rfl (fun w h => hr w (h.at 1 rfl) i x hx 1 _ rfl)) ?_
                  refine WP.val rfl rfl rfl (Val.assign rfl rfl) ?_
                  refine WP.nil ?_
                  refine Out.block ?_
                  refine Out.next ?_
                  refine WPc.region ?_
                  refine WP.val rfl rfl rfl (Val.move rfl rfl) ?_
                  refine WP.val rfl rfl rfl (Val.add (z := ((i + 1 : Nat) : Int)) rfl rfl rfl ((w64 (by omega) (by omega)).trans (by omega))) ?_
                  refine WP.val rfl rfl rfl (Val.assign rfl rfl) ?_
                  refine WP.nil ?_
                  refine Out.again (i + 1, x.hi) ?_ ?_ ?_ ?_
                  · exact ⟨by show i + 1 ≤ l.length; omega, (by first | exact bs_more hbs hx hcov (by simpa using ‹x.open_ = false›) (by assumption) | exact bs_skip hbs hx (by first | (exact skip_empty (by assumption)) | (unfold covB; simp_all)))⟩
                  · (first | omega | (dsimp only; omega))
                  · exact (Sub.cons rfl (Sub.cons rfl (Sub.cons rfl (Sub.cons rfl (Sub.cons rfl (Sub.cons rfl Sub.nil))))))
                  · exact (fun _ h => h)
                · skip
                  have h19 : (Op.bytesLess (best).toList (x.hi).toList) = false := h19
                  refine WPc.skip ?_
                  refine Out.block ?_
                  refine Out.next ?_
                  refine WPc.region ?_
                  refine WP.val rfl rfl rfl (Val.move rfl rfl) ?_
                  refine WP.val rfl rfl rfl (Val.add (z := ((i + 1 : Nat) : Int)) rfl rfl rfl ((w64 (by omega) (by omega)).trans (by omega))) ?_
                  refine WP.val rfl rfl rfl (Val.assign rfl rfl) ?_
                  refine WP.nil ?_
                  refine Out.again (i + 1, best) ?_ ?_ ?_ ?_
                  · exact ⟨by show i + 1 ≤ l.length; omega, (by first | exact bs_less hbs hx (by simpa using ‹x.open_ = false›) (by simp_all) | exact bs_skip hbs hx (by first | (exact skip_empty (by assumption)) | (unfold covB; simp_all)))⟩
                  · (first | omega | (dsimp only; omega))
                  · exact (Sub.cons rfl (Sub.cons rfl (Sub.cons rfl (Sub.cons rfl (Sub.cons rfl (Sub.cons rfl Sub.nil))))))
                  · exact (fun _ h => h)
          · skip
            refine WP.skip rfl rfl rfl rfl rfl rfl rfl ?_
            refine WP.skip rfl rfl rfl rfl rfl rfl rfl ?_
            refine WP.skip rfl rfl rfl rfl rfl rfl rfl ?_
            refine WP.skip rfl rfl rfl rfl rfl rfl rfl ?_
            refine WP.skip rfl rfl rfl rfl rfl rfl rfl ?_
            refine WP.skip rfl rfl rfl rfl rfl rfl rfl ?_
            refine WP.skip rfl rfl rfl rfl rfl rfl rfl ?_
            refine WP.valG rfl rfl rfl rfl rfl rfl rfl (Val.pickF rfl rfl rfl) ?_
            refine WP.val rfl rfl rfl (Val.pickF rfl rfl rfl) ?_
            refine WP.nil ?_
            refine Out.next ?_
            refine WPc.condF rfl rfl ?_
            refine WPc.skip ?_
            refine Out.next ?_
            refine WPc.seq ?_
            refine WPc.seq ?_
            have hcov : covB x cur = true := by unfold covB; simp_all
            refine WPc.region ?_
            refine WP.val rfl rfl rfl (Val.move rfl rfl) ?_
            refine WP.val rfl rfl rfl (Val.move rfl rfl) ?_
            refine WP.val rfl rfl rfl (Val.indexAddr (j := i) (q := o0 + i * 3) rfl Ty.sl112 rfl rfl (by omega) (by omega) (by omega)) ?_
            refine WP.val rfl rfl rfl (Val.fieldAddr (j := o0 + i * 3 + 2) rfl Ty.fo115_2 rfl rfl) ?_
            refine WP.val rfl rfl rfl (Val.load (v := .bool (x.open_)) rfl Ty.sc4 rfl (fun w h => hr w (h.at 1 rfl) i x hx 2 _ rfl)) ?_
            refine WP.nil ?_
            refine Out.next ?_
            refine WPc.cond rfl (fun h20 => ?_) (fun h20 => ?_)
            · skip
              have h20 : (x.open_) = true := h20
              refine WPc.seq ?_
              refine WPc.region ?_
              refine WP.val rfl rfl rfl (Val.assign rfl rfl) ?_
              refine WP.nil ?_
              refine Out.next ?_
              refine WPc.ret ?_
              refine Out.then_ret ?_
              refine Out.block_ret ?_
              refine Out.then_ret ?_
              refine Out.then_ret ?_
              refine Out.block_ret ?_
              refine Out.then_ret ?_
              refine Out.block_ret ?_
              refine Out.then_ret ?_
              refine Out.block_ret ?_
              refine Out.drop ?_
              exact Out.ret1 (L' := [A]) Try.results62 rfl ⟨_, rfl, ⟨fun _ => cv_open (l := l) hv hcv hsv (List.mem_of_getElem? hx) hcov (by assumption), fun _ => rfl⟩, rfl⟩ (fun w h => h)
            · skip
              have h20 : (x.open_) = false := h20
              refine WPc.skip ?_
              refine Out.next ?_
              refine WPc.seq ?_
              refine WPc.region ?_
              refine WP.val rfl rfl rfl (Val.move rfl rfl) ?_
              refine WP.val rfl rfl rfl (Val.move rfl rfl) ?_
              refine WP.val rfl rfl rfl (Val.indexAddr (j := i) (q := o0 + i * 3) rfl Ty.sl112 rfl rfl (by omega) (by omega) (by omega)) ?_
              refine WP.val rfl rfl rfl (Val.fieldAddr (j := o0 + i * 3 + 1) rfl Ty.fo115_1 rfl rfl) ?_
              refine WP.val rfl rfl rfl (Val.load (v := .string x.hi) rfl Ty.sc9 rfl (fun w h => hr w (h.at 1 rfl) i x hx 1 _ rfl)) ?_
              refine WP.val rfl rfl rfl (Val.move rfl rfl) ?_
              refine WP.val rfl rfl rfl (Val.gtrS rfl rfl rfl) ?_
              refine WP.nil ?_
              refine Out.next ?_
              refine WPc.cond rfl (fun h21 => ?_) (fun h21 => ?_)
              · skip
                have h21 : (Op.bytesLess (best).toList (x.hi).toList) = true := h21
                refine WPc.region ?_
                refine WP.val rfl rfl rfl (Val.move rfl rfl) ?_
                refine WP.val rfl rfl rfl (Val.move rfl rfl) ?_
                refine WP.val rfl rfl rfl (Val.indexAddr (j := i) (q := o0 + i * 3) rfl Ty.sl112 rfl rfl (by omega) (by omega) (by omega)) ?_
                refine WP.val rfl rfl rfl (Val.fieldAddr (j := o0 + i * 3 + 1) rfl Ty.fo115_1 rfl rfl) ?_
                refine WP.val rfl rfl rfl (Val.load (v := .string x.hi) rfl Ty.sc9 rfl (fun w h => hr w (h.at 1 rfl) i x hx 1 _ rfl)) ?_
                refine WP.val rfl rfl rfl (Val.assign rfl rfl) ?_
                refine WP.nil ?_
                refine Out.block ?_
                refine Out.next ?_
                refine WPc.region ?_
                refine WP.val rfl rfl rfl (Val.move rfl rfl) ?_
                refine WP.val rfl rfl rfl (Val.add (z := ((i + 1 : Nat) : Int)) rfl rfl rfl ((w64 (by omega) (by omega)).trans (by omega))) ?_
                refine WP.val rfl rfl rfl (Val.assign rfl rfl) ?_
                refine WP.nil ?_
                refine Out.again (i + 1, x.hi) ?_ ?_ ?_ ?_
                · exact ⟨by show i + 1 ≤ l.length; omega, (by first | exact bs_more hbs hx hcov (by simpa using ‹x.open_ = false›) (by assumption) | exact bs_skip hbs hx (by first | (exact skip_empty (by assumption)) | (unfold covB; simp_all)))⟩
                · (first | omega | (dsimp only; omega))
                · exact (Sub.cons rfl (Sub.cons rfl (Sub.cons rfl (Sub.cons rfl (Sub.cons rfl (Sub.cons rfl Sub.nil))))))
                · exact (fun _ h => h)
              · skip
                have h21 : (Op.bytesLess (best).toList (x.hi).toList) = false := h21
                refine WPc.skip ?_
                refine Out.block ?_
                refine Out.next ?_
                refine WPc.region ?_
                refine WP.val rfl rfl rfl (Val.move rfl rfl) ?_
                refine WP.val rfl rfl rfl (Val.add (z := ((i + 1 : Nat) : Int)) rfl rfl rfl ((w64 (by omega) (by omega)).trans (by omega))) ?_
                refine WP.val rfl rfl rfl (Val.assign rfl rfl) ?_
                refine WP.nil ?_
                refine Out.again (i + 1, best) ?_ ?_ ?_ ?_
                · exact ⟨by show i + 1 ≤ l.length; omega, (by first | exact bs_less hbs hx (by simpa using ‹x.open_ = false›) (by simp_all) | exact bs_skip hbs hx (by first | (exact skip_empty (by assumption)) | (unfold covB; simp_all)))⟩
                · (first | omega | (dsimp only; omega))
                · exact (Sub.cons rfl (Sub.cons rfl (Sub.cons rfl (Sub.cons rfl (Sub.cons rfl (Sub.cons rfl Sub.nil))))))
                · exact (fun _ h => h)
    · skip
      have h13 : ¬ (((i : Nat) : Int) < ((l.length : Nat) : Int)) := h13
      refine WPc.exit ?_
      refine Out.then_exit ?_
      refine Out.then_exit ?_
      refine Out.block_exit ?_
      refine Out.next ?_
      refine WPc.seq ?_
      refine WPc.seq ?_
      refine WPc.region ?_
      refine WP.val rfl rfl rfl (Val.move rfl rfl) ?_
      refine WP.val rfl rfl rfl (Val.move rfl rfl) ?_
      refine WP.val rfl rfl rfl (Val.eqlS rfl rfl rfl) ?_
      refine WP.nil ?_
      refine Out.next ?_
      refine WPc.cond rfl (fun h22 => ?_) (fun h22 => ?_)
      · skip
        have h22 : (seq best cur) = true := h22
        refine WPc.seq ?_
        refine WPc.region ?_
        refine WP.val rfl rfl rfl (Val.assign rfl rfl) ?_
        refine WP.nil ?_
        refine Out.next ?_
        refine WPc.ret ?_
        refine Out.then_ret ?_
        refine Out.block_ret ?_
        refine Out.then_ret ?_
        refine Out.block_ret ?_
        have hin : i = l.length := by omega
        have heq : best = cur := by have h9 : (seq best cur) = true := by assumption
                                    unfold seq at h9; exact ba_ext (by simpa using h9)
        subst heq
        rw [hin] at hbs
        refine Out.drop ?_
        exact Out.ret1 (L' := [A]) Try.results62 rfl ⟨_, rfl, ⟨(fun h => by cases h), fun h => absurd h (cv_none (l := l) hv hvs hcv hbs (by simp_all))⟩, rfl⟩ (fun w h => h)
      · skip
        have h22 : (seq best cur) = false := h22
        refine WPc.skip ?_
        refine Out.next ?_
        refine WPc.region ?_
        refine WP.val rfl rfl rfl (Val.move rfl rfl) ?_
        refine WP.val rfl rfl rfl (Val.assign rfl rfl) ?_
        refine WP.nil ?_
        refine Out.block ?_
        have hne : ¬ best = cur := fun e => by subst e; simp_all [seq]
        have hin : i = l.length := by omega
        rw [hin] at hbs
        have hnx := cv_next (l := l) hv hcv hbs hne
        refine Out.again best ?_ ?_ ?_ ?_
        · exact hnx.1
        · (exact hnx.2)
        · exact (Sub.cons rfl (Sub.cons rfl (Sub.cons rfl (Sub.cons rfl Sub.nil))))
        · exact (fun _ h => h)

theorem covered_spec (A : HProp) (s : Spn) (hvs : VS s) (hsv : Vk (sE s)) (l : List Spn) (hl : l.length ≤ 1000000) (hv : ∀ y ∈ l, VS y) (va : Value) (hva : Rd A 3 Spn.cells va l) : Does Try.prog 62 [va, .agg #[.string s.lo, .string s.hi, .bool (s.open_)]] [A] (fun v L => ∃ b, v = .bool b ∧ (b = true ↔ CovS l s) ∧ L = [A]) := by
  rcases hva with ⟨b0, o0, c0, rfl, hr⟩ | ⟨rfl, a, c, rfl⟩
  · exact covered_row A s hvs hsv l hl hv b0 o0 c0 hr
  · exact covered_nil A s hvs hsv a c

end Go.Proofs.Ytbomnihiapjmpaa.Ak

namespace Go.Proofs.Ytbomnihiapjmpaa.Al
open Go.RowKit Go.Proofs.Ytbomnihiapjmpaa Go.Proofs.Ytbomnihiapjmpaa.Sl Go.Proofs.Ytbomnihiapjmpaa.TrP Go.Proofs.Ytbomnihiapjmpaa.Tb Go.Proofs.Ytbomnihiapjmpaa.Tc Go.Proofs.Ytbomnihiapjmpaa.Td Go.Proofs.Ytbomnihiapjmpaa.Te Go.Proofs.Ytbomnihiapjmpaa.Tk Go.Proofs.Ytbomnihiapjmpaa.Tl Go.Proofs.Ytbomnihiapjmpaa.Tm Go.Proofs.Ytbomnihiapjmpaa.Tj Go.Proofs.Ytbomnihiapjmpaa.Tn Go.Proofs.Ytbomnihiapjmpaa.Tp Go.Proofs.Ytbomnihiapjmpaa.Tq Go.Proofs.Ytbomnihiapjmpaa.Tr Go.Proofs.Ytbomnihiapjmpaa.Tx Go.Proofs.Ytbomnihiapjmpaa.TC Go.Proofs.Ytbomnihiapjmpaa.TD Go.Proofs.Ytbomnihiapjmpaa.TP Go.Proofs.Ytbomnihiapjmpaa.Aa Go.Proofs.Ytbomnihiapjmpaa.Ab Go.Proofs.Ytbomnihiapjmpaa.Ac Go.Proofs.Ytbomnihiapjmpaa.Ad Go.Proofs.Ytbomnihiapjmpaa.Ae Go.Proofs.Ytbomnihiapjmpaa.Af Go.Proofs.Ytbomnihiapjmpaa.Ag Go.Proofs.Ytbomnihiapjmpaa.Ah Go.Proofs.Ytbomnihiapjmpaa.Ai Go.Proofs.Ytbomnihiapjmpaa.Aj Go.Proofs.Ytbomnihiapjmpaa.Ak
set_option linter.unusedVariables false
set_option linter.unusedSimpArgs false
set_option linter.unusedSectionVars false


def spOf (key fin : ByteArray) : Spn := if fin.size = 0 then ⟨key, key ++ (⟨#[0]⟩ : ByteArray), false⟩ else if opn fin = true then ⟨key, ⟨#[]⟩, true⟩ else ⟨key, fin, false⟩
theorem spOf_lo (key fin : ByteArray) : (spOf key fin).lo = key := by unfold spOf; split; rfl; split <;> rfl
theorem spOf_E (key fin : ByteArray) : sE (spOf key fin) = qE key fin := by
  unfold spOf qE sE
  split
  · rw [if_neg (by simp)]
  · split
    · rw [if_pos rfl]
    · rw [if_neg (by simp)]
theorem spOf_VS {key fin : ByteArray} (h : key.size ≠ 0) : VS (spOf key fin) := by
  refine ⟨by rw [spOf_lo]; exact h, ?_⟩
  unfold spOf
  split
  · intro _; show (key ++ _).size ≠ 0; rw [snoc_size]; omega
  · split
    · intro h; cases h
    · intro _; assumption
theorem seq_e (x : ByteArray) : seq x ⟨#[]⟩ = decide (x.size = 0) := seq_nil x
def spsOf (kd : Int) (l : List Pm) : List Spn := (l.filter fun p => decide (alw kd p)).map fun p => spOf p.key p.fin
theorem sps_yes {kd : Int} {l : List Pm} {os : List Spn} {i : Nat} {p : Pm} (ho : os = spsOf kd (l.take i)) (h : l[i]? = some p) (ha : alw kd p) : os ++ [spOf p.key p.fin] = spsOf kd (l.take (i + 1)) := by
  rw [Ag.take_more h, ho]; unfold spsOf; rw [List.filter_append]; simp [ha]
theorem sps_no {kd : Int} {l : List Pm} {os : List Spn} {i : Nat} {p : Pm} (ho : os = spsOf kd (l.take i)) (h : l[i]? = some p) (ha : ¬ alw kd p) : os = spsOf kd (l.take (i + 1)) := by
  rw [Ag.take_more h, ho]; unfold spsOf; rw [List.filter_append]
  have : [p].filter (fun p => decide (alw kd p)) = [] := by rw [List.filter_cons_of_neg (by simpa using ha)]; rfl
  rw [this, List.append_nil]
theorem sps_le {kd : Int} {l : List Pm} : (spsOf kd l).length ≤ l.length := by unfold spsOf; rw [List.length_map]; exact List.length_filter_le _ _
theorem sps_VS {kd : Int} {l : List Pm} (h : ∀ p ∈ l, PmOk p) : ∀ x ∈ spsOf kd l, VS x := fun x hx => by
  obtain ⟨p, hp, rfl⟩ := List.mem_map.1 hx
  exact spOf_VS (h p (List.mem_filter.1 hp).1).2.2.2.1
theorem sps_cov {kd : Int} {l : List Pm} {key fin : ByteArray} : CovS (spsOf kd l) (spOf key fin) ↔ Cov kd l (ka key) (qE key fin) := by
  unfold CovS Cov
  rw [spOf_lo, spOf_E]
  constructor
  · intro h p hp hin
    obtain ⟨x, hx, h2⟩ := h p hp hin
    obtain ⟨r, hr, rfl⟩ := List.mem_map.1 hx
    rw [spOf_lo, spOf_E] at h2
    exact ⟨r, (List.mem_filter.1 hr).1, of_decide_eq_true (List.mem_filter.1 hr).2, h2⟩
  · intro h p hp hin
    obtain ⟨r, hr, h1, h2⟩ := h p hp hin
    refine ⟨spOf r.key r.fin, List.mem_map.2 ⟨r, List.mem_filter.2 ⟨hr, decide_eq_true h1⟩, rfl⟩, ?_⟩
    rw [spOf_lo, spOf_E]; exact h2
set_option maxRecDepth 100000 in
set_option maxHeartbeats 2000000 in
theorem spanof_does (key fin : ByteArray) (hk : key.size ≤ 64) : Does Try.prog 61 [.string key, .string fin] [] (fun v L => v = .agg (Spn.cells (spOf key fin)).toArray ∧ L = []) := by
  have hz1 : ({ data := #[0] } : ByteArray).size = 1 := rfl
  refine Does.enter 18 Try.func61 rfl rfl rfl fun W F => ?_
  show WPc _ _ _ _ _ [(0, .string key), (1, .string fin)] (F)
  refine WPc.seq ?_
  refine WPc.region ?_
  refine WP.eff rfl rfl rfl (Eff.alloc rfl Ty.z115) ?_
  rintro _ F ⟨b1, rfl, rfl⟩
  refine WP.nil ?_
  refine Out.next ?_
  refine WPc.seq ?_
  refine WPc.seq ?_
  refine WPc.region ?_
  refine WP.val rfl rfl rfl (Val.move rfl rfl) ?_
  refine WP.val rfl rfl rfl (Val.eqlS rfl rfl rfl) ?_
  refine WP.nil ?_
  refine Out.next ?_
  refine WPc.cond rfl (fun h1 => ?_) (fun h1 => ?_)
  · skip
    have h1 : (seq fin (⟨#[]⟩)) = true := h1
    refine WPc.seq ?_
    refine WPc.region ?_
    refine WP.val rfl rfl rfl (Val.move rfl rfl) ?_
    refine WP.val rfl rfl rfl (Val.move rfl rfl) ?_
    refine WP.val rfl rfl rfl (Val.addS rfl rfl rfl (by omega)) ?_
    refine WP.val rfl rfl rfl (Val.mk (cs := [.string key, .string (key ++ ⟨#[0]⟩), .bool false]) rfl rfl (fun _ => by kernel_rfl)) ?_
    refine WP.eff0 rfl rfl (Eff.storeAgg (cs := [.string key, .string (key ++ ⟨#[0]⟩), .bool false]) (C' := [.string key, .string (key ++ ⟨#[0]⟩), .bool false]) rfl Ty.ag115 rfl rfl rfl rfl (by simp) rfl) ?_
    rintro _ _ rfl
    refine WP.nil ?_
    refine Out.next ?_
    refine WPc.ret ?_
    refine Out.then_ret ?_
    exact Out.retRun (L' := []) (results_cell (cs := [.string key, .string (key ++ ⟨#[0]⟩), .bool false]) Try.results61 Ty.ag115 rfl rfl (fun w h => h.range 0 rfl rfl)) ⟨(by unfold spOf; simp_all [seq_e, seq0, Spn.cells]), rfl⟩ (fun w h => h.drop)
  · skip
    have h1 : (seq fin (⟨#[]⟩)) = false := h1
    refine WPc.skip ?_
    refine Out.next ?_
    refine WPc.seq ?_
    refine WPc.seq ?_
    refine WPc.region ?_
    refine WP.val rfl rfl rfl (Val.move rfl rfl) ?_
    refine WP.val rfl rfl rfl (Val.eqlS rfl rfl rfl) ?_
    refine WP.nil ?_
    refine Out.next ?_
    refine WPc.cond rfl (fun h2 => ?_) (fun h2 => ?_)
    · skip
      have h2 : (seq fin (⟨#[0]⟩)) = true := h2
      refine WPc.seq ?_
      refine WPc.region ?_
      refine WP.val rfl rfl rfl (Val.move rfl rfl) ?_
      refine WP.val rfl rfl rfl (Val.mk (cs := [.string key, .string (⟨#[]⟩), .bool true]) rfl rfl (fun _ => by kernel_rfl)) ?_
      refine WP.eff0 rfl rfl (Eff.storeAgg (cs := [.string key, .string (⟨#[]⟩), .bool true]) (C' := [.string key, .string (⟨#[]⟩), .bool true]) rfl Ty.ag115 rfl rfl rfl rfl (by simp) rfl) ?_
      rintro _ _ rfl
      refine WP.nil ?_
      refine Out.next ?_
      refine WPc.ret ?_
      refine Out.then_ret ?_
      exact Out.retRun (L' := []) (results_cell (cs := [.string key, .string (⟨#[]⟩), .bool true]) Try.results61 Ty.ag115 rfl rfl (fun w h => h.range 0 rfl rfl)) ⟨(by unfold spOf; simp_all [seq_e, seq0, Spn.cells]), rfl⟩ (fun w h => h.drop)
    · skip
      have h2 : (seq fin (⟨#[0]⟩)) = false := h2
      refine WPc.skip ?_
      refine Out.next ?_
      refine WPc.seq ?_
      refine WPc.region ?_
      refine WP.val rfl rfl rfl (Val.move rfl rfl) ?_
      refine WP.val rfl rfl rfl (Val.move rfl rfl) ?_
      refine WP.val rfl rfl rfl (Val.mk (cs := [.string key, .string fin, .bool false]) rfl rfl (fun _ => by kernel_rfl)) ?_
      refine WP.eff0 rfl rfl (Eff.storeAgg (cs := [.string key, .string fin, .bool false]) (C' := [.string key, .string fin, .bool false]) rfl Ty.ag115 rfl rfl rfl rfl (by simp) rfl) ?_
      rintro _ _ rfl
      refine WP.nil ?_
      refine Out.next ?_
      refine WPc.ret ?_
      exact Out.retRun (L' := []) (results_cell (cs := [.string key, .string fin, .bool false]) Try.results61 Ty.ag115 rfl rfl (fun w h => h.range 0 rfl rfl)) ⟨(by unfold spOf; simp_all [seq_e, seq0, Spn.cells]), rfl⟩ (fun w h => h.drop)
set_option maxRecDepth 100000 in
set_option maxHeartbeats 2000000 in
theorem allows_does (x : Pm) (kd : Int) : Does Try.prog 60 [.agg #[.int .i64 (x.k), .string x.key, .string x.fin], .int .i64 (kd)] [] (fun v L => v = .bool (decide (alw kd x)) ∧ L = []) := by
  refine Does.enter 14 Try.func60 rfl rfl rfl fun W F => ?_
  show WPc _ _ _ _ _ [(0, .agg #[.int .i64 (x.k), .string x.key, .string x.fin]), (1, .int .i64 (kd))] (F)
  refine WPc.seq ?_
  refine WPc.region ?_
  refine WP.eff rfl rfl rfl (Eff.box (C := [.int .i64 (x.k), .string x.key, .string x.fin]) rfl rfl rfl) ?_
  rintro _ F ⟨b1, rfl, rfl⟩
  refine WP.val rfl rfl rfl (Val.assign rfl rfl) ?_
  refine WP.nil ?_
  refine Out.next ?_
  refine WPc.seq ?_
  refine WPc.region ?_
  refine WP.val rfl rfl rfl (Val.fieldAddr (j := 0) rfl Ty.fo45_0 rfl rfl) ?_
  refine WP.val rfl rfl rfl (Val.load rfl Ty.sc3 rfl (fun w h => h.cell 0 rfl rfl)) ?_
  refine WP.val rfl rfl rfl (Val.move rfl rfl) ?_
  refine WP.val rfl rfl rfl (Val.eql rfl rfl rfl) ?_
  refine WP.val rfl rfl rfl (Val.move rfl rfl) ?_
  refine WP.split 9 rfl (fun h1 => ?_) (fun h1 => ?_)
  · skip
    have h1 : (x.k = kd) := h1
    refine WP.skip rfl rfl rfl rfl rfl rfl rfl ?_
    refine WP.skip rfl rfl rfl rfl rfl rfl rfl ?_
    refine WP.skip rfl rfl rfl rfl rfl rfl rfl ?_
    refine WP.val rfl rfl rfl (Val.pickT rfl rfl rfl) ?_
    refine WP.val rfl rfl rfl (Val.assign rfl rfl) ?_
    refine WP.nil ?_
    refine Out.next ?_
    refine WPc.ret ?_
    refine Out.drop ?_
    exact Out.ret1 (L' := []) Try.results60 rfl ⟨congrArg Value.bool (by unfold alw; first | (simp_all; done) | (simp_all; omega)), rfl⟩ (fun w h => h)
  · skip
    have h1 : ¬ (x.k = kd) := h1
    refine WP.valG rfl rfl rfl rfl rfl rfl rfl (Val.fieldAddr (j := 0) rfl Ty.fo45_0 rfl rfl) ?_
    refine WP.valG rfl rfl rfl rfl rfl rfl rfl (Val.load rfl Ty.sc3 rfl (fun w h => h.cell 0 rfl rfl)) ?_
    refine WP.valG rfl rfl rfl rfl rfl rfl rfl (Val.eql rfl rfl rfl) ?_
    refine WP.val rfl rfl rfl (Val.pickF rfl rfl rfl) ?_
    refine WP.val rfl rfl rfl (Val.assign rfl rfl) ?_
    refine WP.nil ?_
    refine Out.next ?_
    refine WPc.ret ?_
    refine Out.drop ?_
    exact Out.ret1 (L' := []) Try.results60 rfl ⟨congrArg Value.bool (by unfold alw; first | (simp_all; done) | (simp_all; omega)), rfl⟩ (fun w h => h)
set_option maxRecDepth 100000 in
set_option maxHeartbeats 2000000 in
theorem permitted_nil (A : HProp) (key fin : ByteArray) (hkz : key.size ≤ 64) (hfz : fin.size ≤ 64) (hvr : VR key fin) (kind : Int) (a : Option Addr) (c : Nat) : Does Try.prog 23 [.slice a 0 c, .string key, .string fin, .int .i64 (kind)] [A] (fun v L => ∃ b, v = .bool b ∧ (b = true ↔ Cov kind ([] : List Pm) (ka key) (qE key fin)) ∧ L = [A]) := by
  refine Does.enter 42 Try.func23 rfl rfl rfl fun W F => ?_
  show WPc _ _ _ _ _ [(0, .slice a 0 c), (1, .string key), (2, .string fin), (3, .int .i64 (kind))] (A :: F)
  refine WPc.seq ?_
  refine WPc.region ?_
  refine WP.val rfl rfl rfl (Val.assign rfl rfl) ?_
  refine WP.nil ?_
  refine Out.next ?_
  refine WPc.seq ?_
  refine WPc.region ?_
  refine WP.val rfl rfl rfl (Val.assign rfl rfl) ?_
  refine WP.nil ?_
  refine Out.next ?_
  refine WPc.seq ?_
  refine WPc.seq ?_
  refine WPc.conv (fun w h => Sat.ownNil (e := 115) (k := 3) h) ?_
  show WPc _ _ _ _ _ _ (Own 115 3 (.slice none 0 0) 0 ([]) :: A :: F)
  refine WPc.region ?_
  refine WP.val rfl rfl rfl (Val.assign rfl rfl) ?_
  refine WP.nil ?_
  refine Out.next ?_
  refine WPc.block ?_
  refine WPc.perm pl1 ?_
  refine WPc.loop (ι := Nat × List Spn × Value) (fun ⟨i, os, v⟩ => i ≤ 0 ∧ os = spsOf kind (([] : List Pm).take i)) (fun ⟨i, os, v⟩ => [(0, .slice a 0 c), (1, .string key), (2, .string fin), (3, .int .i64 (kind)), (8, .bool false), (9, v), (10, .int .i64 (((i : Nat) : Int)))]) (fun ⟨i, os, v⟩ => A :: Own 115 3 v os.length (flatOf Spn.cells os) :: F) (fun ⟨i, os, v⟩ => 0 - i) (0, [], .slice none 0 0) ⟨Nat.zero_le _, rfl⟩ ((Sub.cons rfl (Sub.cons rfl (Sub.cons rfl (Sub.cons rfl (Sub.cons rfl (Sub.cons rfl (Sub.cons rfl Sub.nil)))))))) (fun _ h => h) ?_
  rintro ⟨i, os, v⟩ ⟨hi, hos⟩
  show WPc _ _ _ _ _ [(0, .slice a 0 c), (1, .string key), (2, .string fin), (3, .int .i64 (kind)), (8, .bool false), (9, v), (10, .int .i64 (((i : Nat) : Int)))] (A :: Own 115 3 v os.length (flatOf Spn.cells os) :: F)
  replace hi : i ≤ 0 := hi
  replace hos : os = spsOf kind (([] : List Pm).take i) := hos
  have hol : os.length ≤ i := by rw [hos]; refine Nat.le_trans sps_le ?_; rw [List.length_take]; exact Nat.min_le_left _ _
  refine WPc.seq ?_
  refine WPc.seq ?_
  refine WPc.region ?_
  refine WP.val rfl rfl rfl (Val.move rfl rfl) ?_
  refine WP.val rfl rfl rfl (Val.move rfl rfl) ?_
  refine WP.val rfl rfl rfl (Val.len rfl Ty.sl39 rfl) ?_
  refine WP.val rfl rfl rfl (Val.lss rfl rfl rfl) ?_
  refine WP.nil ?_
  refine Out.next ?_
  refine WPc.ifP rfl (fun h1 => ?_) (fun h1 => ?_)
  · skip
    have h1 : (((i : Nat) : Int) < (0 : Int)) := h1
    exfalso; omega
  · skip
    have h1 : ¬ (((i : Nat) : Int) < (0 : Int)) := h1
    refine WPc.exit ?_
    refine Out.then_exit ?_
    refine Out.then_exit ?_
    refine Out.block_exit ?_
    refine Out.next ?_
    refine WPc.seq ?_
    have hti : ([] : List Pm).take i = ([] : List Pm) := List.take_of_length_le (by first | omega | exact Nat.zero_le _)
    rw [hti] at hos
    have hvs : ∀ x ∈ os, VS x := by rw [hos]; exact sps_VS (fun p h => (List.not_mem_nil h).elim)
    rcases Nat.eq_zero_or_pos os.length with hz | hz
    · skip
      obtain rfl := List.eq_nil_of_length_eq_zero hz
      refine WPc.perm pl1 ?_
      refine WPc.fact (fun w h => own_slice h) (fun hsl1 => ?_)
      obtain ⟨a1, k1, rfl⟩ := hsl1
      show WPc _ _ _ _ _ _ (Own 115 3 (.slice a1 0 k1) 0 ([]) :: A :: F)
      refine WPc.region ?_
      refine WP.val rfl rfl rfl (Val.move rfl rfl) ?_
      refine WP.val rfl rfl rfl (Val.move rfl rfl) ?_
      refine WP.val rfl rfl rfl (Val.move rfl rfl) ?_
      refine WP.eff rfl rfl rfl (Eff.call rfl rfl Try.call61 (spanof_does key fin hkz)) ?_
      rintro _ _ ⟨_, ⟨rfl, rfl⟩, rfl⟩
      show WP _ _ _ _ _ _ _ (Own 115 3 (.slice a1 0 k1) 0 ([]) :: A :: F)
      refine WP.perm pl1 ?_
      refine WP.eff rfl rfl rfl (Eff.call rfl rfl Try.call62 (covered_spec (A) (spOf key fin) (spOf_VS hvr.1) (by rw [spOf_E]; exact vk_qE _ _) ([] : List Spn) (by first | omega | exact Nat.zero_le _) (fun y h => (List.not_mem_nil h).elim) (.slice a1 0 k1) (.inr ⟨rfl, _, _, rfl⟩))) ?_
      rintro _ _ ⟨_, ⟨b, rfl, hb, rfl⟩, rfl⟩
      show WP _ _ _ _ _ _ _ (A :: Own 115 3 (.slice a1 0 k1) 0 ([]) :: F)
      refine WP.val rfl rfl rfl (Val.assign rfl rfl) ?_
      refine WP.nil ?_
      refine Out.next ?_
      refine WPc.ret ?_
      refine Out.perm pl1 ?_
      refine Out.drop ?_
      exact Out.ret1 (L' := [A]) Try.results23 rfl ⟨_, rfl, by rw [hos, sps_cov] at hb; exact hb, rfl⟩ (fun w h => h)
    · skip
      refine WPc.perm pl1 ?_
      refine WPc.open (fun w h => h.ownPos hz) ?_
      rintro ⟨g2, cg2, spg2⟩
      refine WPc.pure (fun hvg2 => ?_)
      obtain ⟨rfl, hng2, hlg2, hsg2, hcg2⟩ := hvg2
      dsimp only at hng2 hlg2 hsg2 hcg2
      show WPc _ _ _ _ _ _ (Blk g2 (flatOf Spn.cells os ++ spg2) 115 :: A :: F)
      refine WPc.region ?_
      refine WP.val rfl rfl rfl (Val.move rfl rfl) ?_
      refine WP.val rfl rfl rfl (Val.move rfl rfl) ?_
      refine WP.val rfl rfl rfl (Val.move rfl rfl) ?_
      refine WP.eff rfl rfl rfl (Eff.call rfl rfl Try.call61 (spanof_does key fin hkz)) ?_
      rintro _ _ ⟨_, ⟨rfl, rfl⟩, rfl⟩
      show WP _ _ _ _ _ _ _ (Blk g2 (flatOf Spn.cells os ++ spg2) 115 :: A :: F)
      refine WP.eff rfl rfl rfl (Eff.call rfl rfl Try.call62 (covered_spec (Blk g2 (flatOf Spn.cells os ++ spg2) 115) (spOf key fin) (spOf_VS hvr.1) (by rw [spOf_E]; exact vk_qE _ _) os (by first | omega | exact Nat.zero_le _) hvs (.slice (some ⟨g2, 0, none⟩) os.length cg2) (.inl ⟨g2, 0, cg2, rfl, fun w hw i x hx => by rw [Nat.zero_add]; exact hw.cell_range (flatOf_range Spn.len hx)⟩))) ?_
      rintro _ _ ⟨_, ⟨b, rfl, hb, rfl⟩, rfl⟩
      show WP _ _ _ _ _ _ _ (Blk g2 (flatOf Spn.cells os ++ spg2) 115 :: A :: F)
      refine WP.val rfl rfl rfl (Val.assign rfl rfl) ?_
      refine WP.nil ?_
      refine Out.next ?_
      refine WPc.ret ?_
      refine Out.drop ?_
      exact Out.ret1 (L' := [A]) Try.results23 rfl ⟨_, rfl, by rw [hos, sps_cov] at hb; exact hb, rfl⟩ (fun w h => h)

set_option maxRecDepth 100000 in
set_option maxHeartbeats 2000000 in
theorem permitted_row (A : HProp) (key fin : ByteArray) (hkz : key.size ≤ 64) (hfz : fin.size ≤ 64) (hvr : VR key fin) (kind : Int) (l : List Pm) (hl : l.length ≤ 1000) (hok : ∀ p ∈ l, PmOk p) (b0 o0 c0 : Nat) (hr : ∀ w, Holds A w → ∀ i x, l[i]? = some x → w.rangeAt b0 (o0 + i * 3) (Pm.cells x)) : Does Try.prog 23 [.slice (some ⟨b0, o0, none⟩) l.length c0, .string key, .string fin, .int .i64 (kind)] [A] (fun v L => ∃ b, v = .bool b ∧ (b = true ↔ Cov kind l (ka key) (qE key fin)) ∧ L = [A]) := by
  refine Does.enter 42 Try.func23 rfl rfl rfl fun W F => ?_
  show WPc _ _ _ _ _ [(0, .slice (some ⟨b0, o0, none⟩) l.length c0), (1, .string key), (2, .string fin), (3, .int .i64 (kind))] (A :: F)
  refine WPc.seq ?_
  refine WPc.region ?_
  refine WP.val rfl rfl rfl (Val.assign rfl rfl) ?_
  refine WP.nil ?_
  refine Out.next ?_
  refine WPc.seq ?_
  refine WPc.region ?_
  refine WP.val rfl rfl rfl (Val.assign rfl rfl) ?_
  refine WP.nil ?_
  refine Out.next ?_
  refine WPc.seq ?_
  refine WPc.seq ?_
  refine WPc.conv (fun w h => Sat.ownNil (e := 115) (k := 3) h) ?_
  show WPc _ _ _ _ _ _ (Own 115 3 (.slice none 0 0) 0 ([]) :: A :: F)
  refine WPc.region ?_
  refine WP.val rfl rfl rfl (Val.assign rfl rfl) ?_
  refine WP.nil ?_
  refine Out.next ?_
  refine WPc.block ?_
  refine WPc.perm pl1 ?_
  refine WPc.loop (ι := Nat × List Spn × Value) (fun ⟨i, os, v⟩ => i ≤ l.length ∧ os = spsOf kind (l.take i)) (fun ⟨i, os, v⟩ => [(0, .slice (some ⟨b0, o0, none⟩) l.length c0), (1, .string key), (2, .string fin), (3, .int .i64 (kind)), (8, .bool false), (9, v), (10, .int .i64 (((i : Nat) : Int)))]) (fun ⟨i, os, v⟩ => A :: Own 115 3 v os.length (flatOf Spn.cells os) :: F) (fun ⟨i, os, v⟩ => l.length - i) (0, [], .slice none 0 0) ⟨Nat.zero_le _, rfl⟩ ((Sub.cons rfl (Sub.cons rfl (Sub.cons rfl (Sub.cons rfl (Sub.cons rfl (Sub.cons rfl (Sub.cons rfl Sub.nil)))))))) (fun _ h => h) ?_
  rintro ⟨i, os, v⟩ ⟨hi, hos⟩
  show WPc _ _ _ _ _ [(0, .slice (some ⟨b0, o0, none⟩) l.length c0), (1, .string key), (2, .string fin), (3, .int .i64 (kind)), (8, .bool false), (9, v), (10, .int .i64 (((i : Nat) : Int)))] (A :: Own 115 3 v os.length (flatOf Spn.cells os) :: F)
  replace hi : i ≤ l.length := hi
  replace hos : os = spsOf kind (l.take i) := hos
  have hol : os.length ≤ i := by rw [hos]; refine Nat.le_trans sps_le ?_; rw [List.length_take]; exact Nat.min_le_left _ _
  refine WPc.seq ?_
  refine WPc.seq ?_
  refine WPc.region ?_
  refine WP.val rfl rfl rfl (Val.move rfl rfl) ?_
  refine WP.val rfl rfl rfl (Val.move rfl rfl) ?_
  refine WP.val rfl rfl rfl (Val.len rfl Ty.sl39 rfl) ?_
  refine WP.val rfl rfl rfl (Val.lss rfl rfl rfl) ?_
  refine WP.nil ?_
  refine Out.next ?_
  refine WPc.ifP rfl (fun h1 => ?_) (fun h1 => ?_)
  · skip
    have h1 : (((i : Nat) : Int) < ((l.length : Nat) : Int)) := h1
    refine WPc.skip ?_
    refine Out.next ?_
    refine WPc.seq ?_
    refine WPc.block ?_
    refine WPc.seq ?_
    have hlt : i < l.length := by omega
    obtain ⟨x, hx⟩ : ∃ x, l[i]? = some x := ⟨_, List.getElem?_eq_getElem hlt⟩
    refine WPc.region ?_
    refine WP.val rfl rfl rfl (Val.move rfl rfl) ?_
    refine WP.val rfl rfl rfl (Val.move rfl rfl) ?_
    refine WP.val rfl rfl rfl (Val.indexAddr (j := i) (q := o0 + i * 3) rfl Ty.sl39 rfl rfl (by omega) (by omega) (by omega)) ?_
    refine WP.val rfl rfl rfl (Val.loadAgg (cs := (Pm.cells x)) rfl Ty.ag45 rfl (by rfl) (fun w h => hr w (h.at 0 rfl) i x hx)) ?_
    refine WP.val rfl rfl rfl (Val.move rfl rfl) ?_
    refine WP.eff rfl rfl rfl (Eff.call rfl rfl Try.call60 (allows_does x kind)) ?_
    rintro _ _ ⟨_, ⟨rfl, rfl⟩, rfl⟩
    show WP _ _ _ _ _ _ _ (A :: Own 115 3 v os.length (flatOf Spn.cells os) :: F)
    refine WP.nil ?_
    refine Out.next ?_
    refine WPc.ifP rfl (fun h2 => ?_) (fun h2 => ?_)
    · skip
      have h2 : (alw kind x) := h2
      refine WPD.start (Sat W (A :: Own 115 3 v os.length (flatOf Spn.cells os) :: F)) Ty.mixed ?_
      refine WPD.takeM 0 rfl rfl rfl rfl (by kernel_rfl) (by kernel_rfl) (by kernel_rfl) (by kernel_rfl) (fun _ _ _ h => h) (fun _ h => h) (Val.move rfl rfl) ?_
      refine WPD.takeM 1 rfl rfl rfl rfl (by kernel_rfl) (by kernel_rfl) (by kernel_rfl) (by kernel_rfl) (fun _ _ _ h => h) (fun _ h => h) (Val.move rfl rfl) ?_
      refine WPD.takeM 2 rfl rfl rfl rfl (by kernel_rfl) (by kernel_rfl) (by kernel_rfl) (by kernel_rfl) (fun _ _ _ h => h) (fun _ h => h) (Val.move rfl rfl) ?_
      refine WPD.takeM 3 rfl rfl rfl rfl (by kernel_rfl) (by kernel_rfl) (by kernel_rfl) (by kernel_rfl) (fun _ _ _ h => h) (fun _ h => h) (Val.indexAddr (j := i) (q := o0 + i * 3) rfl Ty.sl39 rfl rfl (by omega) (by omega) (by omega)) ?_
      refine WPD.takeM 4 rfl rfl rfl rfl (by kernel_rfl) (by kernel_rfl) (by kernel_rfl) (by kernel_rfl) (fun _ _ _ h => h) (fun _ h => h) (Val.fieldAddr (j := o0 + i * 3 + 1) rfl Ty.fo45_1 rfl rfl) ?_
      refine WPD.take 5 rfl rfl rfl rfl (by kernel_rfl) (by kernel_rfl) (by kernel_rfl) (by kernel_rfl) (fun _ _ _ h => h) (by kernel_rfl) (fun _ h => h) (Val.load (v := .string x.key) rfl Ty.sc9 rfl (fun w h => hr w (h.at 0 rfl) i x hx 1 _ rfl)) ?_
      refine WPD.takeM 6 rfl rfl rfl rfl (by kernel_rfl) (by kernel_rfl) (by kernel_rfl) (by kernel_rfl) (fun _ _ _ h => h) (fun _ h => h) (Val.move rfl rfl) ?_
      refine WPD.takeM 7 rfl rfl rfl rfl (by kernel_rfl) (by kernel_rfl) (by kernel_rfl) (by kernel_rfl) (fun _ _ _ h => h) (fun _ h => h) (Val.move rfl rfl) ?_
      refine WPD.takeM 8 rfl rfl rfl rfl (by kernel_rfl) (by kernel_rfl) (by kernel_rfl) (by kernel_rfl) (fun _ _ _ h => h) (fun _ h => h) (Val.indexAddr (j := i) (q := o0 + i * 3) rfl Ty.sl39 rfl rfl (by omega) (by omega) (by omega)) ?_
      refine WPD.takeM 9 rfl rfl rfl rfl (by kernel_rfl) (by kernel_rfl) (by kernel_rfl) (by kernel_rfl) (fun _ _ _ h => h) (fun _ h => h) (Val.fieldAddr (j := o0 + i * 3 + 2) rfl Ty.fo45_2 rfl rfl) ?_
      refine WPD.take 10 rfl rfl rfl rfl (by kernel_rfl) (by kernel_rfl) (by kernel_rfl) (by kernel_rfl) (fun _ _ _ h => h) (by kernel_rfl) (fun _ h => h) (Val.load (v := .string x.fin) rfl Ty.sc9 rfl (fun w h => hr w (h.at 0 rfl) i x hx 2 _ rfl)) ?_
      refine WPD.stepC 11 (by kernel_rfl) rfl rfl rfl rfl (by kernel_rfl) (Eff.call rfl rfl Try.call61 (spanof_does x.key x.fin (hok x (List.mem_of_getElem? hx)).2.1)) ?_
      rintro _ _ ⟨_, ⟨rfl, rfl⟩, rfl⟩
      refine ⟨(Sat W (A :: Own 115 3 v os.length (flatOf Spn.cells os) :: F)), (fun _ h => h), ?_⟩
      show WPD _ _ _ _ _ _ _ _ _ (A :: Own 115 3 v os.length (flatOf Spn.cells os) :: F)
      refine WPD.stepC 12 (by kernel_rfl) rfl rfl rfl rfl (by kernel_rfl) (Eff.mkSlice (C := [.string ((spOf x.key x.fin).lo), .string ((spOf x.key x.fin).hi), .bool ((spOf x.key x.fin).open_)]) rfl Ty.sl112 rfl (fun _ => by kernel_rfl)) ?_
      rintro _ _ ⟨b1, rfl, rfl⟩
      refine ⟨(Sat W (Blk b1 [.string ((spOf x.key x.fin).lo), .string ((spOf x.key x.fin).hi), .bool ((spOf x.key x.fin).open_)] 115 :: A :: Own 115 3 v os.length (flatOf Spn.cells os) :: F)), (fun _ h => h), ?_⟩
      refine WPD.perm pl2 ?_
      refine WPD.stepC 13 (by kernel_rfl) rfl rfl rfl rfl (by kernel_rfl) (Eff.append (m := 1) (n0 := os.length) (news := [.string ((spOf x.key x.fin).lo), .string ((spOf x.key x.fin).hi), .bool ((spOf x.key x.fin).open_)]) rfl Ty.sl112 Ty.z115 rfl rfl rfl (.slice Ty.sl112 rfl rfl (fun w h => cells_range (h.range 1 rfl rfl))) (by omega) (by omega)) ?_
      rintro v2 _ ⟨onev2, rfl⟩
      refine ⟨(Sat W (Own 115 3 v2 (os.length + 1) ((flatOf Spn.cells os) ++ ([.string ((spOf x.key x.fin).lo), .string ((spOf x.key x.fin).hi), .bool ((spOf x.key x.fin).open_)])) :: Blk b1 [.string ((spOf x.key x.fin).lo), .string ((spOf x.key x.fin).hi), .bool ((spOf x.key x.fin).open_)] 115 :: A :: F)), (fun _ h => h), ?_⟩
      refine WPD.takeM 14 rfl rfl rfl rfl (by kernel_rfl) (by kernel_rfl) (by kernel_rfl) (by kernel_rfl) (fun _ _ _ h => h) (fun _ h => h) (Val.assign rfl rfl) ?_
      refine WPD.done (by kernel_rfl) ?_
      refine Out.block ?_
      refine Out.next ?_
      refine WPc.region ?_
      refine WP.val rfl rfl rfl (Val.move rfl rfl) ?_
      refine WP.val rfl rfl rfl (Val.add (z := ((i + 1 : Nat) : Int)) rfl rfl rfl ((w64 (by omega) (by omega)).trans (by omega))) ?_
      refine WP.val rfl rfl rfl (Val.assign rfl rfl) ?_
      refine WP.nil ?_
      refine Out.perm pl1 ?_
      refine Out.drop ?_
      refine Out.perm pl1 ?_
      refine Out.again (i + 1, os ++ [spOf x.key x.fin], v2) ?_ ?_ ?_ ?_
      · exact ⟨by show i + 1 ≤ l.length; omega, sps_yes hos hx (by assumption)⟩
      · (first | omega | (dsimp only; omega))
      · exact (Sub.cons rfl (Sub.cons rfl (Sub.cons rfl (Sub.cons rfl (Sub.cons rfl (Sub.cons rfl (Sub.cons rfl Sub.nil)))))))
      · exact (fun w h => by dsimp only; rw [flatOf_snoc, List.length_append]; exact h)
    · skip
      have h2 : ¬ (alw kind x) := h2
      refine WPc.skip ?_
      refine Out.block ?_
      refine Out.next ?_
      refine WPc.region ?_
      refine WP.val rfl rfl rfl (Val.move rfl rfl) ?_
      refine WP.val rfl rfl rfl (Val.add (z := ((i + 1 : Nat) : Int)) rfl rfl rfl ((w64 (by omega) (by omega)).trans (by omega))) ?_
      refine WP.val rfl rfl rfl (Val.assign rfl rfl) ?_
      refine WP.nil ?_
      refine Out.again (i + 1, os, v) ?_ ?_ ?_ ?_
      · exact ⟨by show i + 1 ≤ l.length; omega, sps_no hos hx (by assumption)⟩
      · (first | omega | (dsimp only; omega))
      · exact (Sub.cons rfl (Sub.cons rfl (Sub.cons rfl (Sub.cons rfl (Sub.cons rfl (Sub.cons rfl (Sub.cons rfl Sub.nil)))))))
      · exact (fun w h => h)
  · skip
    have h1 : ¬ (((i : Nat) : Int) < ((l.length : Nat) : Int)) := h1
    refine WPc.exit ?_
    refine Out.then_exit ?_
    refine Out.then_exit ?_
    refine Out.block_exit ?_
    refine Out.next ?_
    refine WPc.seq ?_
    have hti : l.take i = l := List.take_of_length_le (by first | omega | exact Nat.zero_le _)
    rw [hti] at hos
    have hvs : ∀ x ∈ os, VS x := by rw [hos]; exact sps_VS hok
    rcases Nat.eq_zero_or_pos os.length with hz | hz
    · skip
      obtain rfl := List.eq_nil_of_length_eq_zero hz
      refine WPc.perm pl1 ?_
      refine WPc.fact (fun w h => own_slice h) (fun hsl3 => ?_)
      obtain ⟨a3, k3, rfl⟩ := hsl3
      show WPc _ _ _ _ _ _ (Own 115 3 (.slice a3 0 k3) 0 ([]) :: A :: F)
      refine WPc.region ?_
      refine WP.val rfl rfl rfl (Val.move rfl rfl) ?_
      refine WP.val rfl rfl rfl (Val.move rfl rfl) ?_
      refine WP.val rfl rfl rfl (Val.move rfl rfl) ?_
      refine WP.eff rfl rfl rfl (Eff.call rfl rfl Try.call61 (spanof_does key fin hkz)) ?_
      rintro _ _ ⟨_, ⟨rfl, rfl⟩, rfl⟩
      show WP _ _ _ _ _ _ _ (Own 115 3 (.slice a3 0 k3) 0 ([]) :: A :: F)
      refine WP.perm pl1 ?_
      refine WP.eff rfl rfl rfl (Eff.call rfl rfl Try.call62 (covered_spec (A) (spOf key fin) (spOf_VS hvr.1) (by rw [spOf_E]; exact vk_qE _ _) ([] : List Spn) (by first | omega | exact Nat.zero_le _) (fun y h => (List.not_mem_nil h).elim) (.slice a3 0 k3) (.inr ⟨rfl, _, _, rfl⟩))) ?_
      rintro _ _ ⟨_, ⟨b, rfl, hb, rfl⟩, rfl⟩
      show WP _ _ _ _ _ _ _ (A :: Own 115 3 (.slice a3 0 k3) 0 ([]) :: F)
      refine WP.val rfl rfl rfl (Val.assign rfl rfl) ?_
      refine WP.nil ?_
      refine Out.next ?_
      refine WPc.ret ?_
      refine Out.perm pl1 ?_
      refine Out.drop ?_
      exact Out.ret1 (L' := [A]) Try.results23 rfl ⟨_, rfl, by rw [hos, sps_cov] at hb; exact hb, rfl⟩ (fun w h => h)
    · skip
      refine WPc.perm pl1 ?_
      refine WPc.open (fun w h => h.ownPos hz) ?_
      rintro ⟨g4, cg4, spg4⟩
      refine WPc.pure (fun hvg4 => ?_)
      obtain ⟨rfl, hng4, hlg4, hsg4, hcg4⟩ := hvg4
      dsimp only at hng4 hlg4 hsg4 hcg4
      show WPc _ _ _ _ _ _ (Blk g4 (flatOf Spn.cells os ++ spg4) 115 :: A :: F)
      refine WPc.region ?_
      refine WP.val rfl rfl rfl (Val.move rfl rfl) ?_
      refine WP.val rfl rfl rfl (Val.move rfl rfl) ?_
      refine WP.val rfl rfl rfl (Val.move rfl rfl) ?_
      refine WP.eff rfl rfl rfl (Eff.call rfl rfl Try.call61 (spanof_does key fin hkz)) ?_
      rintro _ _ ⟨_, ⟨rfl, rfl⟩, rfl⟩
      show WP _ _ _ _ _ _ _ (Blk g4 (flatOf Spn.cells os ++ spg4) 115 :: A :: F)
      refine WP.eff rfl rfl rfl (Eff.call rfl rfl Try.call62 (covered_spec (Blk g4 (flatOf Spn.cells os ++ spg4) 115) (spOf key fin) (spOf_VS hvr.1) (by rw [spOf_E]; exact vk_qE _ _) os (by first | omega | exact Nat.zero_le _) hvs (.slice (some ⟨g4, 0, none⟩) os.length cg4) (.inl ⟨g4, 0, cg4, rfl, fun w hw i x hx => by rw [Nat.zero_add]; exact hw.cell_range (flatOf_range Spn.len hx)⟩))) ?_
      rintro _ _ ⟨_, ⟨b, rfl, hb, rfl⟩, rfl⟩
      show WP _ _ _ _ _ _ _ (Blk g4 (flatOf Spn.cells os ++ spg4) 115 :: A :: F)
      refine WP.val rfl rfl rfl (Val.assign rfl rfl) ?_
      refine WP.nil ?_
      refine Out.next ?_
      refine WPc.ret ?_
      refine Out.drop ?_
      exact Out.ret1 (L' := [A]) Try.results23 rfl ⟨_, rfl, by rw [hos, sps_cov] at hb; exact hb, rfl⟩ (fun w h => h)

theorem permitted_spec (A : HProp) (key fin : ByteArray) (hkz : key.size ≤ 64) (hfz : fin.size ≤ 64) (hvr : VR key fin) (kind : Int) (l : List Pm) (hl : l.length ≤ 1000) (hok : ∀ p ∈ l, PmOk p) (va : Value) (hva : Rd A 3 Pm.cells va l) : Does Try.prog 23 [va, .string key, .string fin, .int .i64 (kind)] [A] (fun v L => ∃ b, v = .bool b ∧ (b = true ↔ Cov kind l (ka key) (qE key fin)) ∧ L = [A]) := by
  rcases hva with ⟨b0, o0, c0, rfl, hr⟩ | ⟨rfl, a, c, rfl⟩
  · exact permitted_row A key fin hkz hfz hvr kind l hl hok b0 o0 c0 hr
  · exact permitted_nil A key fin hkz hfz hvr kind a c

end Go.Proofs.Ytbomnihiapjmpaa.Al

namespace Go.Proofs.Ytbomnihiapjmpaa.Am
open Go.RowKit Go.Proofs.Ytbomnihiapjmpaa Go.Proofs.Ytbomnihiapjmpaa.Sl Go.Proofs.Ytbomnihiapjmpaa.TrP Go.Proofs.Ytbomnihiapjmpaa.Tb Go.Proofs.Ytbomnihiapjmpaa.Tc Go.Proofs.Ytbomnihiapjmpaa.Td Go.Proofs.Ytbomnihiapjmpaa.Te Go.Proofs.Ytbomnihiapjmpaa.Tk Go.Proofs.Ytbomnihiapjmpaa.Tl Go.Proofs.Ytbomnihiapjmpaa.Tm Go.Proofs.Ytbomnihiapjmpaa.Tj Go.Proofs.Ytbomnihiapjmpaa.Tn Go.Proofs.Ytbomnihiapjmpaa.Tp Go.Proofs.Ytbomnihiapjmpaa.Tq Go.Proofs.Ytbomnihiapjmpaa.Tr Go.Proofs.Ytbomnihiapjmpaa.Tx Go.Proofs.Ytbomnihiapjmpaa.TC Go.Proofs.Ytbomnihiapjmpaa.TD Go.Proofs.Ytbomnihiapjmpaa.TP Go.Proofs.Ytbomnihiapjmpaa.Aa Go.Proofs.Ytbomnihiapjmpaa.Ab Go.Proofs.Ytbomnihiapjmpaa.Ac Go.Proofs.Ytbomnihiapjmpaa.Ad Go.Proofs.Ytbomnihiapjmpaa.Ae Go.Proofs.Ytbomnihiapjmpaa.Af Go.Proofs.Ytbomnihiapjmpaa.Ag Go.Proofs.Ytbomnihiapjmpaa.Ah Go.Proofs.Ytbomnihiapjmpaa.Ai Go.Proofs.Ytbomnihiapjmpaa.Aj Go.Proofs.Ytbomnihiapjmpaa.Ak Go.Proofs.Ytbomnihiapjmpaa.Al
set_option linter.unusedVariables false
set_option linter.unusedSimpArgs false
set_option linter.unusedSectionVars false


theorem all_of {α : Type} {l : List α} {i : Nat} {φ : α → Prop} (h : ∀ j y, j < i → l[j]? = some y → φ y) (hi : l.length ≤ i) : ∀ y ∈ l, φ y := fun y hy => by
  obtain ⟨j, hj⟩ := List.getElem?_of_mem hy
  exact h j y (Nat.lt_of_lt_of_le (List.getElem?_eq_some_iff.1 hj).1 hi) hj
theorem all_more {α : Type} {l : List α} {i : Nat} {φ : α → Prop} {x : α} (h : ∀ j y, j < i → l[j]? = some y → φ y) (hx : l[i]? = some x) (hp : φ x) : ∀ j y, j < i + 1 → l[j]? = some y → φ y := fun j y hj hy =>
  (Nat.lt_succ_iff_lt_or_eq.1 hj).elim (fun h' => h j y h' hy) (fun h' => by subst h'; rw [hx] at hy; injection hy with hy; subst hy; exact hp)
theorem pmok_of {x : Pm} {b : Bool} (h0 : ¬ x.k < 0) (h2 : ¬ 2 < x.k) (hk : ((x.key.size : Nat) : Int) ≤ 64) (hf : ((x.fin.size : Nat) : Int) ≤ 64) (hv : VR x.key x.fin) : PmOk x := ⟨by omega, by omega, by omega, hv⟩
set_option maxRecDepth 100000 in
set_option maxHeartbeats 2000000 in
theorem perms_nil (A : HProp) (a : Option Addr) (c : Nat) : Does Try.prog 19 [.slice a 0 c] [A] (fun v L => ∃ b, v = .bool b ∧ (b = true → (∀ p ∈ ([] : List Pm), PmOk p) ∧ 0 ≤ 12) ∧ L = [A]) := by
  refine Does.enter 43 Try.func19 rfl rfl rfl fun W F => ?_
  show WPc _ _ _ _ _ [(0, .slice a 0 c)] (A :: F)
  refine WPc.seq ?_
  refine WPc.region ?_
  refine WP.val rfl rfl rfl (Val.assign rfl rfl) ?_
  refine WP.nil ?_
  refine Out.next ?_
  refine WPc.seq ?_
  refine WPc.seq ?_
  refine WPc.region ?_
  refine WP.val rfl rfl rfl (Val.move rfl rfl) ?_
  refine WP.val rfl rfl rfl (Val.len rfl Ty.sl39 rfl) ?_
  refine WP.val rfl rfl rfl (Val.move rfl rfl) ?_
  refine WP.nil ?_
  refine Out.next ?_
  refine WPc.block ?_
  refine WPc.loop (ι := Nat) (fun i => i ≤ 0 ∧ ∀ j y, j < i → ([] : List Pm)[j]? = some y → PmOk y) (fun i => [(0, .slice a 0 c), (2, .bool false), (5, .slice a 0 c), (6, .int .i64 0), (7, .int .i64 (((i : Nat) : Int)))]) (fun i => A :: F) (fun i => 0 - i) 0 ⟨Nat.zero_le _, fun j y h => absurd h (Nat.not_lt_zero _)⟩ ((Sub.cons rfl (Sub.cons rfl (Sub.cons rfl (Sub.cons rfl (Sub.cons rfl Sub.nil)))))) (fun _ h => h) ?_
  rintro i ⟨hi, hall⟩
  show WPc _ _ _ _ _ [(0, .slice a 0 c), (2, .bool false), (5, .slice a 0 c), (6, .int .i64 0), (7, .int .i64 (((i : Nat) : Int)))] (A :: F)
  replace hi : i ≤ 0 := hi
  replace hall : ∀ j y, j < i → ([] : List Pm)[j]? = some y → PmOk y := hall
  refine WPc.seq ?_
  refine WPc.region ?_
  refine WP.val rfl rfl rfl (Val.lss rfl rfl rfl) ?_
  refine WP.nil ?_
  refine Out.next ?_
  refine WPc.seq ?_
  refine WPc.ifP rfl (fun h1 => ?_) (fun h1 => ?_)
  · skip
    have h1 : (((i : Nat) : Int) < (0 : Int)) := h1
    exfalso; omega
  · skip
    have h1 : ¬ (((i : Nat) : Int) < (0 : Int)) := h1
    refine WPc.exit ?_
    refine Out.then_exit ?_
    refine Out.then_exit ?_
    refine Out.block_exit ?_
    refine Out.next ?_
    refine WPc.seq ?_
    refine WPc.region ?_
    refine WP.val rfl rfl rfl (Val.move rfl rfl) ?_
    refine WP.val rfl rfl rfl (Val.len rfl Ty.sl39 rfl) ?_
    refine WP.val rfl rfl rfl (Val.boolK (q := true) (Val.leq rfl rfl rfl) (by decide)) ?_
    refine WP.val rfl rfl rfl (Val.assign rfl rfl) ?_
    refine WP.nil ?_
    refine Out.next ?_
    refine WPc.ret ?_
    exact Out.ret1 (L' := [A]) Try.results19 rfl ⟨_, rfl, (fun h => ⟨all_of hall (by first | omega | exact Nat.zero_le _), (by first | exact Nat.zero_le _ | (have h := of_decide_eq_true h; omega))⟩), rfl⟩ (fun w h => h)

set_option maxRecDepth 100000 in
set_option maxHeartbeats 2000000 in
theorem perms_row (A : HProp) (l : List Pm) (hl : l.length ≤ 9223372036854775807) (b0 o0 c0 : Nat) (hr : ∀ w, Holds A w → ∀ i x, l[i]? = some x → w.rangeAt b0 (o0 + i * 3) (Pm.cells x)) : Does Try.prog 19 [.slice (some ⟨b0, o0, none⟩) l.length c0] [A] (fun v L => ∃ b, v = .bool b ∧ (b = true → (∀ p ∈ l, PmOk p) ∧ l.length ≤ 12) ∧ L = [A]) := by
  refine Does.enter 43 Try.func19 rfl rfl rfl fun W F => ?_
  show WPc _ _ _ _ _ [(0, .slice (some ⟨b0, o0, none⟩) l.length c0)] (A :: F)
  refine WPc.seq ?_
  refine WPc.region ?_
  refine WP.val rfl rfl rfl (Val.assign rfl rfl) ?_
  refine WP.nil ?_
  refine Out.next ?_
  refine WPc.seq ?_
  refine WPc.seq ?_
  refine WPc.region ?_
  refine WP.val rfl rfl rfl (Val.move rfl rfl) ?_
  refine WP.val rfl rfl rfl (Val.len rfl Ty.sl39 rfl) ?_
  refine WP.val rfl rfl rfl (Val.move rfl rfl) ?_
  refine WP.nil ?_
  refine Out.next ?_
  refine WPc.block ?_
  refine WPc.loop (ι := Nat) (fun i => i ≤ l.length ∧ ∀ j y, j < i → l[j]? = some y → PmOk y) (fun i => [(0, .slice (some ⟨b0, o0, none⟩) l.length c0), (2, .bool false), (5, .slice (some ⟨b0, o0, none⟩) l.length c0), (6, .int .i64 (((l.length : Nat) : Int))), (7, .int .i64 (((i : Nat) : Int)))]) (fun i => A :: F) (fun i => l.length - i) 0 ⟨Nat.zero_le _, fun j y h => absurd h (Nat.not_lt_zero _)⟩ ((Sub.cons rfl (Sub.cons rfl (Sub.cons rfl (Sub.cons rfl (Sub.cons rfl Sub.nil)))))) (fun _ h => h) ?_
  rintro i ⟨hi, hall⟩
  show WPc _ _ _ _ _ [(0, .slice (some ⟨b0, o0, none⟩) l.length c0), (2, .bool false), (5, .slice (some ⟨b0, o0, none⟩) l.length c0), (6, .int .i64 (((l.length : Nat) : Int))), (7, .int .i64 (((i : Nat) : Int)))] (A :: F)
  replace hi : i ≤ l.length := hi
  replace hall : ∀ j y, j < i → l[j]? = some y → PmOk y := hall
  refine WPc.seq ?_
  refine WPc.region ?_
  refine WP.val rfl rfl rfl (Val.lss rfl rfl rfl) ?_
  refine WP.nil ?_
  refine Out.next ?_
  refine WPc.seq ?_
  refine WPc.ifP rfl (fun h1 => ?_) (fun h1 => ?_)
  · skip
    have h1 : (((i : Nat) : Int) < ((l.length : Nat) : Int)) := h1
    refine WPc.skip ?_
    refine Out.next ?_
    refine WPc.seq ?_
    refine WPc.block ?_
    refine WPc.seq ?_
    have hlt : i < l.length := by omega
    obtain ⟨x, hx⟩ : ∃ x, l[i]? = some x := ⟨_, List.getElem?_eq_getElem hlt⟩
    refine WPc.region ?_
    refine WP.val rfl rfl rfl (Val.indexAddr (j := i) (q := o0 + i * 3) rfl Ty.sl39 rfl rfl (by omega) (by omega) (by omega)) ?_
    refine WP.val rfl rfl rfl (Val.loadAgg (cs := (Pm.cells x)) rfl Ty.ag45 rfl (by rfl) (fun w h => hr w (h.at 0 rfl) i x hx)) ?_
    refine WP.eff rfl rfl rfl (Eff.alloc rfl Ty.z45) ?_
    rintro _ _ ⟨b1, rfl, rfl⟩
    refine WP.eff0 rfl rfl (Eff.storeAgg (cs := [.int .i64 (x.k), .string x.key, .string x.fin]) (C' := [.int .i64 (x.k), .string x.key, .string x.fin]) rfl Ty.ag45 rfl rfl rfl rfl (by simp) rfl) ?_
    rintro _ _ rfl
    refine WP.nil ?_
    refine Out.next ?_
    refine WPc.seq ?_
    refine WPc.region ?_
    refine WP.val rfl rfl rfl (Val.fieldAddr (j := 0) rfl Ty.fo45_0 rfl rfl) ?_
    refine WP.val rfl rfl rfl (Val.load rfl Ty.sc3 rfl (fun w h => h.cell 0 rfl rfl)) ?_
    refine WP.val rfl rfl rfl (Val.lss rfl rfl rfl) ?_
    refine WP.val rfl rfl rfl (Val.move rfl rfl) ?_
    refine WP.split 14 rfl (fun h2 => ?_) (fun h2 => ?_)
    · skip
      have h2 : (x.k < (0 : Int)) := h2
      refine WP.skip rfl rfl rfl rfl rfl rfl rfl ?_
      refine WP.skip rfl rfl rfl rfl rfl rfl rfl ?_
      refine WP.skip rfl rfl rfl rfl rfl rfl rfl ?_
      refine WP.val rfl rfl rfl (Val.pickT rfl rfl rfl) ?_
      refine WP.val rfl rfl rfl (Val.move rfl rfl) ?_
      refine WP.skip rfl rfl rfl rfl rfl rfl rfl ?_
      refine WP.skip rfl rfl rfl rfl rfl rfl rfl ?_
      refine WP.skip rfl rfl rfl rfl rfl rfl rfl ?_
      refine WP.skip rfl rfl rfl rfl rfl rfl rfl ?_
      refine WP.val rfl rfl rfl (Val.pickT rfl rfl rfl) ?_
      refine WP.val rfl rfl rfl (Val.move rfl rfl) ?_
      refine WP.skip rfl rfl rfl rfl rfl rfl rfl ?_
      refine WP.skip rfl rfl rfl rfl rfl rfl rfl ?_
      refine WP.skip rfl rfl rfl rfl rfl rfl rfl ?_
      refine WP.skip rfl rfl rfl rfl rfl rfl rfl ?_
      refine WP.val rfl rfl rfl (Val.pickT rfl rfl rfl) ?_
      refine WP.val rfl rfl rfl (Val.move rfl rfl) ?_
      refine WP.skip rfl rfl rfl rfl rfl rfl rfl ?_
      refine WP.skip rfl rfl rfl rfl rfl rfl rfl ?_
      refine WP.skip rfl rfl rfl rfl rfl rfl rfl ?_
      refine WP.skip rfl rfl rfl rfl rfl rfl rfl ?_
      refine WP.skip rfl rfl rfl rfl rfl rfl rfl ?_
      refine WP.skip rfl rfl rfl rfl rfl rfl rfl ?_
      refine WP.val rfl rfl rfl (Val.pickT rfl rfl rfl) ?_
      refine WP.nil ?_
      refine Out.next ?_
      refine WPc.condT rfl rfl ?_
      refine WPc.seq ?_
      refine WPc.region ?_
      refine WP.val rfl rfl rfl (Val.assign rfl rfl) ?_
      refine WP.nil ?_
      refine Out.next ?_
      refine WPc.ret ?_
      refine Out.block_ret ?_
      refine Out.then_ret ?_
      refine Out.then_ret ?_
      refine Out.block_ret ?_
      refine Out.then_ret ?_
      refine Out.drop ?_
      exact Out.ret1 (L' := [A]) Try.results19 rfl ⟨_, rfl, (fun h => by cases h), rfl⟩ (fun w h => h)
    · skip
      have h2 : ¬ (x.k < (0 : Int)) := h2
      refine WP.valG rfl rfl rfl rfl rfl rfl rfl (Val.fieldAddr (j := 0) rfl Ty.fo45_0 rfl rfl) ?_
      refine WP.valG rfl rfl rfl rfl rfl rfl rfl (Val.load rfl Ty.sc3 rfl (fun w h => h.cell 0 rfl rfl)) ?_
      refine WP.valG rfl rfl rfl rfl rfl rfl rfl (Val.gtr rfl rfl rfl) ?_
      refine WP.val rfl rfl rfl (Val.pickF rfl rfl rfl) ?_
      refine WP.val rfl rfl rfl (Val.move rfl rfl) ?_
      refine WP.split 19 rfl (fun h3 => ?_) (fun h3 => ?_)
      · skip
        have h3 : ((2 : Int) < x.k) := h3
        refine WP.skip rfl rfl rfl rfl rfl rfl rfl ?_
        refine WP.skip rfl rfl rfl rfl rfl rfl rfl ?_
        refine WP.skip rfl rfl rfl rfl rfl rfl rfl ?_
        refine WP.skip rfl rfl rfl rfl rfl rfl rfl ?_
        refine WP.val rfl rfl rfl (Val.pickT rfl rfl rfl) ?_
        refine WP.val rfl rfl rfl (Val.move rfl rfl) ?_
        refine WP.skip rfl rfl rfl rfl rfl rfl rfl ?_
        refine WP.skip rfl rfl rfl rfl rfl rfl rfl ?_
        refine WP.skip rfl rfl rfl rfl rfl rfl rfl ?_
        refine WP.skip rfl rfl rfl rfl rfl rfl rfl ?_
        refine WP.val rfl rfl rfl (Val.pickT rfl rfl rfl) ?_
        refine WP.val rfl rfl rfl (Val.move rfl rfl) ?_
        refine WP.skip rfl rfl rfl rfl rfl rfl rfl ?_
        refine WP.skip rfl rfl rfl rfl rfl rfl rfl ?_
        refine WP.skip rfl rfl rfl rfl rfl rfl rfl ?_
        refine WP.skip rfl rfl rfl rfl rfl rfl rfl ?_
        refine WP.skip rfl rfl rfl rfl rfl rfl rfl ?_
        refine WP.skip rfl rfl rfl rfl rfl rfl rfl ?_
        refine WP.val rfl rfl rfl (Val.pickT rfl rfl rfl) ?_
        refine WP.nil ?_
        refine Out.next ?_
        refine WPc.condT rfl rfl ?_
        refine WPc.seq ?_
        refine WPc.region ?_
        refine WP.val rfl rfl rfl (Val.assign rfl rfl) ?_
        refine WP.nil ?_
        refine Out.next ?_
        refine WPc.ret ?_
        refine Out.block_ret ?_
        refine Out.then_ret ?_
        refine Out.then_ret ?_
        refine Out.block_ret ?_
        refine Out.then_ret ?_
        refine Out.drop ?_
        exact Out.ret1 (L' := [A]) Try.results19 rfl ⟨_, rfl, (fun h => by cases h), rfl⟩ (fun w h => h)
      · skip
        have h3 : ¬ ((2 : Int) < x.k) := h3
        refine WP.valG rfl rfl rfl rfl rfl rfl rfl (Val.fieldAddr (j := 1) rfl Ty.fo45_1 rfl rfl) ?_
        refine WP.valG rfl rfl rfl rfl rfl rfl rfl (Val.load rfl Ty.sc9 rfl (fun w h => h.cell 0 rfl rfl)) ?_
        refine WP.effG rfl rfl rfl rfl rfl rfl rfl (Eff.call rfl rfl Try.call20 (key_does x.key)) ?_
        rintro _ _ ⟨_, ⟨rfl, rfl⟩, rfl⟩
        show WP _ _ _ _ _ _ _ (Blk b1 [.int .i64 (x.k), .string x.key, .string x.fin] 45 :: A :: F)
        refine WP.valG rfl rfl rfl rfl rfl rfl rfl (Val.notP rfl rfl) ?_
        refine WP.val rfl rfl rfl (Val.pickF rfl rfl rfl) ?_
        refine WP.val rfl rfl rfl (Val.move rfl rfl) ?_
        refine WP.split 25 rfl (fun h4 => ?_) (fun h4 => ?_)
        · skip
          have h4 : (¬ ((((x.key).size : Nat) : Int) ≤ 64)) := h4
          refine WP.skip rfl rfl rfl rfl rfl rfl rfl ?_
          refine WP.skip rfl rfl rfl rfl rfl rfl rfl ?_
          refine WP.skip rfl rfl rfl rfl rfl rfl rfl ?_
          refine WP.skip rfl rfl rfl rfl rfl rfl rfl ?_
          refine WP.val rfl rfl rfl (Val.pickT rfl rfl rfl) ?_
          refine WP.val rfl rfl rfl (Val.move rfl rfl) ?_
          refine WP.skip rfl rfl rfl rfl rfl rfl rfl ?_
          refine WP.skip rfl rfl rfl rfl rfl rfl rfl ?_
          refine WP.skip rfl rfl rfl rfl rfl rfl rfl ?_
          refine WP.skip rfl rfl rfl rfl rfl rfl rfl ?_
          refine WP.skip rfl rfl rfl rfl rfl rfl rfl ?_
          refine WP.skip rfl rfl rfl rfl rfl rfl rfl ?_
          refine WP.val rfl rfl rfl (Val.pickT rfl rfl rfl) ?_
          refine WP.nil ?_
          refine Out.next ?_
          refine WPc.condT rfl rfl ?_
          refine WPc.seq ?_
          refine WPc.region ?_
          refine WP.val rfl rfl rfl (Val.assign rfl rfl) ?_
          refine WP.nil ?_
          refine Out.next ?_
          refine WPc.ret ?_
          refine Out.block_ret ?_
          refine Out.then_ret ?_
          refine Out.then_ret ?_
          refine Out.block_ret ?_
          refine Out.then_ret ?_
          refine Out.drop ?_
          exact Out.ret1 (L' := [A]) Try.results19 rfl ⟨_, rfl, (fun h => by cases h), rfl⟩ (fun w h => h)
        · skip
          have h4 : ¬ (¬ ((((x.key).size : Nat) : Int) ≤ 64)) := h4
          refine WP.valG rfl rfl rfl rfl rfl rfl rfl (Val.fieldAddr (j := 2) rfl Ty.fo45_2 rfl rfl) ?_
          refine WP.valG rfl rfl rfl rfl rfl rfl rfl (Val.load rfl Ty.sc9 rfl (fun w h => h.cell 0 rfl rfl)) ?_
          refine WP.effG rfl rfl rfl rfl rfl rfl rfl (Eff.call rfl rfl Try.call20 (key_does x.fin)) ?_
          rintro _ _ ⟨_, ⟨rfl, rfl⟩, rfl⟩
          show WP _ _ _ _ _ _ _ (Blk b1 [.int .i64 (x.k), .string x.key, .string x.fin] 45 :: A :: F)
          refine WP.valG rfl rfl rfl rfl rfl rfl rfl (Val.notP rfl rfl) ?_
          refine WP.val rfl rfl rfl (Val.pickF rfl rfl rfl) ?_
          refine WP.val rfl rfl rfl (Val.move rfl rfl) ?_
          refine WP.split 31 rfl (fun h5 => ?_) (fun h5 => ?_)
          · skip
            have h5 : (¬ ((((x.fin).size : Nat) : Int) ≤ 64)) := h5
            refine WP.skip rfl rfl rfl rfl rfl rfl rfl ?_
            refine WP.skip rfl rfl rfl rfl rfl rfl rfl ?_
            refine WP.skip rfl rfl rfl rfl rfl rfl rfl ?_
            refine WP.skip rfl rfl rfl rfl rfl rfl rfl ?_
            refine WP.skip rfl rfl rfl rfl rfl rfl rfl ?_
            refine WP.skip rfl rfl rfl rfl rfl rfl rfl ?_
            refine WP.val rfl rfl rfl (Val.pickT rfl rfl rfl) ?_
            refine WP.nil ?_
            refine Out.next ?_
            refine WPc.condT rfl rfl ?_
            refine WPc.seq ?_
            refine WPc.region ?_
            refine WP.val rfl rfl rfl (Val.assign rfl rfl) ?_
            refine WP.nil ?_
            refine Out.next ?_
            refine WPc.ret ?_
            refine Out.block_ret ?_
            refine Out.then_ret ?_
            refine Out.then_ret ?_
            refine Out.block_ret ?_
            refine Out.then_ret ?_
            refine Out.drop ?_
            exact Out.ret1 (L' := [A]) Try.results19 rfl ⟨_, rfl, (fun h => by cases h), rfl⟩ (fun w h => h)
          · skip
            have h5 : ¬ (¬ ((((x.fin).size : Nat) : Int) ≤ 64)) := h5
            refine WP.valG rfl rfl rfl rfl rfl rfl rfl (Val.fieldAddr (j := 1) rfl Ty.fo45_1 rfl rfl) ?_
            refine WP.valG rfl rfl rfl rfl rfl rfl rfl (Val.load rfl Ty.sc9 rfl (fun w h => h.cell 0 rfl rfl)) ?_
            refine WP.valG rfl rfl rfl rfl rfl rfl rfl (Val.fieldAddr (j := 2) rfl Ty.fo45_2 rfl rfl) ?_
            refine WP.valG rfl rfl rfl rfl rfl rfl rfl (Val.load rfl Ty.sc9 rfl (fun w h => h.cell 0 rfl rfl)) ?_
            refine WP.effG rfl rfl rfl rfl rfl rfl rfl (Eff.call rfl rfl Try.call21 (vr_does x.key x.fin)) ?_
            rintro _ _ ⟨_, ⟨bv, rfl, hbv, rfl⟩, rfl⟩
            show WP _ _ _ _ _ _ _ (Blk b1 [.int .i64 (x.k), .string x.key, .string x.fin] 45 :: A :: F)
            refine WP.valG rfl rfl rfl rfl rfl rfl rfl (Val.not rfl rfl) ?_
            refine WP.val rfl rfl rfl (Val.pickF rfl rfl rfl) ?_
            refine WP.nil ?_
            refine Out.next ?_
            refine WPc.cond rfl (fun h6 => ?_) (fun h6 => ?_)
            · skip
              have h6 : (!bv) = true := h6
              refine WPc.seq ?_
              refine WPc.region ?_
              refine WP.val rfl rfl rfl (Val.assign rfl rfl) ?_
              refine WP.nil ?_
              refine Out.next ?_
              refine WPc.ret ?_
              refine Out.block_ret ?_
              refine Out.then_ret ?_
              refine Out.then_ret ?_
              refine Out.block_ret ?_
              refine Out.then_ret ?_
              refine Out.drop ?_
              exact Out.ret1 (L' := [A]) Try.results19 rfl ⟨_, rfl, (fun h => by cases h), rfl⟩ (fun w h => h)
            · skip
              have h6 : (!bv) = false := h6
              refine WPc.skip ?_
              refine Out.block ?_
              refine Out.next ?_
              refine WPc.region ?_
              refine WP.val rfl rfl rfl (Val.add (z := ((i + 1 : Nat) : Int)) rfl rfl rfl ((w64 (by omega) (by omega)).trans (by omega))) ?_
              refine WP.val rfl rfl rfl (Val.move rfl rfl) ?_
              refine WP.nil ?_
              refine Out.drop ?_
              refine Out.again (i + 1) ?_ ?_ ?_ ?_
              · exact ⟨by show i + 1 ≤ l.length; omega, all_more hall hx (pmok_of (b := true) (by omega) (by omega) (Decidable.byContradiction (by assumption)) (Decidable.byContradiction (by assumption)) (hbv (by simpa using ‹(!bv) = false›)))⟩
              · (first | omega | (dsimp only; omega))
              · exact (Sub.cons rfl (Sub.cons rfl (Sub.cons rfl (Sub.cons rfl (Sub.cons rfl Sub.nil)))))
              · exact (fun _ h => h)
  · skip
    have h1 : ¬ (((i : Nat) : Int) < ((l.length : Nat) : Int)) := h1
    refine WPc.exit ?_
    refine Out.then_exit ?_
    refine Out.then_exit ?_
    refine Out.block_exit ?_
    refine Out.next ?_
    refine WPc.seq ?_
    refine WPc.region ?_
    refine WP.val rfl rfl rfl (Val.move rfl rfl) ?_
    refine WP.val rfl rfl rfl (Val.len rfl Ty.sl39 rfl) ?_
    refine WP.val rfl rfl rfl (Val.leq rfl rfl rfl) ?_
    refine WP.val rfl rfl rfl (Val.assign rfl rfl) ?_
    refine WP.nil ?_
    refine Out.next ?_
    refine WPc.ret ?_
    exact Out.ret1 (L' := [A]) Try.results19 rfl ⟨_, rfl, (fun h => ⟨all_of hall (by first | omega | exact Nat.zero_le _), (by first | exact Nat.zero_le _ | (have h := of_decide_eq_true h; omega))⟩), rfl⟩ (fun w h => h)

theorem perms_spec (A : HProp) (l : List Pm) (hl : l.length ≤ 9223372036854775807) (va : Value) (hva : Rd A 3 Pm.cells va l) : Does Try.prog 19 [va] [A] (fun v L => ∃ b, v = .bool b ∧ (b = true → (∀ p ∈ l, PmOk p) ∧ l.length ≤ 12) ∧ L = [A]) := by
  rcases hva with ⟨b0, o0, c0, rfl, hr⟩ | ⟨rfl, a, c, rfl⟩
  · exact perms_row A l hl b0 o0 c0 hr
  · exact perms_nil A a c

def pmk : Pm := ⟨2, ⟨#[107]⟩, ⟨#[]⟩⟩
theorem pmk_ok : PmOk pmk := ⟨by decide, by decide, by decide, by decide, .inl rfl⟩
theorem pmk_cov : Cov 1 [pmk] (ka ⟨#[107]⟩) (qE ⟨#[107]⟩ ⟨#[]⟩) := fun p _ h => ⟨pmk, List.mem_cons_self, .inr rfl, h⟩
set_option maxRecDepth 100000 in
set_option maxHeartbeats 2000000 in
theorem permits_law (W0 : World) (l : List Pm) (va : Value) (hva : Rd (Old W0) 3 Pm.cells va l) (hl : l.length ≤ 9223372036854775807) (key fin : ByteArray) (kind : Int) : Does Try.prog 4 [va, .string key, .string fin, .int .i64 (kind)] [Old W0] (fun v L => v = .bool true ∧ L = [Old W0]) := by
  refine Does.enter 65 Try.func4 rfl rfl rfl fun W F => ?_
  show WPc _ _ _ _ _ [(0, va), (1, .string key), (2, .string fin), (3, .int .i64 (kind))] (Old W0 :: F)
  refine WPc.seq ?_
  refine WPc.region ?_
  refine WP.val rfl rfl rfl (Val.assign rfl rfl) ?_
  refine WP.nil ?_
  refine Out.next ?_
  refine WPc.seq ?_
  refine WPc.seq ?_
  refine WPc.region ?_
  refine WP.val rfl rfl rfl (Val.move rfl rfl) ?_
  refine WP.eff rfl rfl rfl (Eff.call rfl rfl Try.call18 (fits4_spec (Old W0) l hl va hva)) ?_
  rintro _ _ ⟨_, ⟨q1, rfl, hq1, rfl⟩, rfl⟩
  show WP _ _ _ _ _ _ _ (Old W0 :: F)
  refine WP.val rfl rfl rfl (Val.not rfl rfl) ?_
  refine WP.val rfl rfl rfl (Val.move rfl rfl) ?_
  refine WP.splitB 12 rfl (fun h1 => ?_) (fun h1 => ?_)
  · skip
    refine WP.skip rfl rfl rfl rfl rfl rfl rfl ?_
    refine WP.skip rfl rfl rfl rfl rfl rfl rfl ?_
    refine WP.skip rfl rfl rfl rfl rfl rfl rfl ?_
    refine WP.val rfl rfl rfl (Val.pickT rfl rfl rfl) ?_
    refine WP.val rfl rfl rfl (Val.move rfl rfl) ?_
    refine WP.skip rfl rfl rfl rfl rfl rfl rfl ?_
    refine WP.skip rfl rfl rfl rfl rfl rfl rfl ?_
    refine WP.skip rfl rfl rfl rfl rfl rfl rfl ?_
    refine WP.val rfl rfl rfl (Val.pickT rfl rfl rfl) ?_
    refine WP.nil ?_
    refine Out.next ?_
    refine WPc.condT rfl rfl ?_
    refine WPc.seq ?_
    refine WPc.region ?_
    refine WP.val rfl rfl rfl (Val.assign rfl rfl) ?_
    refine WP.nil ?_
    refine Out.next ?_
    refine WPc.ret ?_
    refine Out.then_ret ?_
    exact Out.ret1 (L' := _) Try.results4 rfl ⟨rfl, rfl⟩ (fun _ h => h)
  · skip
    refine WP.valG rfl rfl rfl rfl rfl rfl rfl (Val.move rfl rfl) ?_
    refine WP.valG rfl rfl rfl rfl rfl rfl rfl (Val.lenS rfl Ty.st9 rfl) ?_
    refine WP.valG rfl rfl rfl rfl rfl rfl rfl (Val.gtr rfl rfl rfl) ?_
    refine WP.val rfl rfl rfl (Val.pickF rfl rfl rfl) ?_
    refine WP.val rfl rfl rfl (Val.move rfl rfl) ?_
    refine WP.split 17 rfl (fun h2 => ?_) (fun h2 => ?_)
    · skip
      have h2 : ((2147483647 : Int) < (((key).size : Nat) : Int)) := h2
      refine WP.skip rfl rfl rfl rfl rfl rfl rfl ?_
      refine WP.skip rfl rfl rfl rfl rfl rfl rfl ?_
      refine WP.skip rfl rfl rfl rfl rfl rfl rfl ?_
      refine WP.val rfl rfl rfl (Val.pickT rfl rfl rfl) ?_
      refine WP.nil ?_
      refine Out.next ?_
      refine WPc.condT rfl rfl ?_
      refine WPc.seq ?_
      refine WPc.region ?_
      refine WP.val rfl rfl rfl (Val.assign rfl rfl) ?_
      refine WP.nil ?_
      refine Out.next ?_
      refine WPc.ret ?_
      refine Out.then_ret ?_
      exact Out.ret1 (L' := _) Try.results4 rfl ⟨rfl, rfl⟩ (fun _ h => h)
    · skip
      have h2 : ¬ ((2147483647 : Int) < (((key).size : Nat) : Int)) := h2
      refine WP.valG rfl rfl rfl rfl rfl rfl rfl (Val.move rfl rfl) ?_
      refine WP.valG rfl rfl rfl rfl rfl rfl rfl (Val.lenS rfl Ty.st9 rfl) ?_
      refine WP.valG rfl rfl rfl rfl rfl rfl rfl (Val.gtr rfl rfl rfl) ?_
      refine WP.val rfl rfl rfl (Val.pickF rfl rfl rfl) ?_
      refine WP.nil ?_
      refine Out.next ?_
      refine WPc.ifP rfl (fun h3 => ?_) (fun h3 => ?_)
      · skip
        have h3 : ((2147483647 : Int) < (((fin).size : Nat) : Int)) := h3
        refine WPc.seq ?_
        refine WPc.region ?_
        refine WP.val rfl rfl rfl (Val.assign rfl rfl) ?_
        refine WP.nil ?_
        refine Out.next ?_
        refine WPc.ret ?_
        refine Out.then_ret ?_
        exact Out.ret1 (L' := _) Try.results4 rfl ⟨rfl, rfl⟩ (fun _ h => h)
      · skip
        have h3 : ¬ ((2147483647 : Int) < (((fin).size : Nat) : Int)) := h3
        refine WPc.skip ?_
        refine Out.next ?_
        refine WPc.seq ?_
        refine WPc.seq ?_
        refine WPc.region ?_
        refine WP.val rfl rfl rfl (Val.move rfl rfl) ?_
        refine WP.eff rfl rfl rfl (Eff.call rfl rfl Try.call19 (perms_spec (Old W0) l hl va hva)) ?_
        rintro _ _ ⟨_, ⟨q2, rfl, hq2, rfl⟩, rfl⟩
        show WP _ _ _ _ _ _ _ (Old W0 :: F)
        refine WP.val rfl rfl rfl (Val.not rfl rfl) ?_
        refine WP.val rfl rfl rfl (Val.move rfl rfl) ?_
        refine WP.splitB 25 rfl (fun h4 => ?_) (fun h4 => ?_)
        · skip
          refine WP.skip rfl rfl rfl rfl rfl rfl rfl ?_
          refine WP.skip rfl rfl rfl rfl rfl rfl rfl ?_
          refine WP.skip rfl rfl rfl rfl rfl rfl rfl ?_
          refine WP.val rfl rfl rfl (Val.pickT rfl rfl rfl) ?_
          refine WP.val rfl rfl rfl (Val.move rfl rfl) ?_
          refine WP.skip rfl rfl rfl rfl rfl rfl rfl ?_
          refine WP.skip rfl rfl rfl rfl rfl rfl rfl ?_
          refine WP.skip rfl rfl rfl rfl rfl rfl rfl ?_
          refine WP.val rfl rfl rfl (Val.pickT rfl rfl rfl) ?_
          refine WP.val rfl rfl rfl (Val.move rfl rfl) ?_
          refine WP.skip rfl rfl rfl rfl rfl rfl rfl ?_
          refine WP.skip rfl rfl rfl rfl rfl rfl rfl ?_
          refine WP.skip rfl rfl rfl rfl rfl rfl rfl ?_
          refine WP.skip rfl rfl rfl rfl rfl rfl rfl ?_
          refine WP.val rfl rfl rfl (Val.pickT rfl rfl rfl) ?_
          refine WP.val rfl rfl rfl (Val.move rfl rfl) ?_
          refine WP.skip rfl rfl rfl rfl rfl rfl rfl ?_
          refine WP.skip rfl rfl rfl rfl rfl rfl rfl ?_
          refine WP.val rfl rfl rfl (Val.pickT rfl rfl rfl) ?_
          refine WP.val rfl rfl rfl (Val.move rfl rfl) ?_
          refine WP.skip rfl rfl rfl rfl rfl rfl rfl ?_
          refine WP.skip rfl rfl rfl rfl rfl rfl rfl ?_
          refine WP.val rfl rfl rfl (Val.pickT rfl rfl rfl) ?_
          refine WP.nil ?_
          refine Out.next ?_
          refine WPc.condT rfl rfl ?_
          refine WPc.seq ?_
          refine WPc.region ?_
          refine WP.val rfl rfl rfl (Val.assign rfl rfl) ?_
          refine WP.nil ?_
          refine Out.next ?_
          refine WPc.ret ?_
          refine Out.then_ret ?_
          exact Out.ret1 (L' := _) Try.results4 rfl ⟨rfl, rfl⟩ (fun _ h => h)
        · skip
          refine WP.valG rfl rfl rfl rfl rfl rfl rfl (Val.move rfl rfl) ?_
          refine WP.effG rfl rfl rfl rfl rfl rfl rfl (Eff.call rfl rfl Try.call20 (key_does key)) ?_
          rintro _ _ ⟨_, ⟨rfl, rfl⟩, rfl⟩
          show WP _ _ _ _ _ _ _ (Old W0 :: F)
          refine WP.valG rfl rfl rfl rfl rfl rfl rfl (Val.notP rfl rfl) ?_
          refine WP.val rfl rfl rfl (Val.pickF rfl rfl rfl) ?_
          refine WP.val rfl rfl rfl (Val.move rfl rfl) ?_
          refine WP.split 30 rfl (fun h5 => ?_) (fun h5 => ?_)
          · skip
            have h5 : (¬ ((((key).size : Nat) : Int) ≤ 64)) := h5
            refine WP.skip rfl rfl rfl rfl rfl rfl rfl ?_
            refine WP.skip rfl rfl rfl rfl rfl rfl rfl ?_
            refine WP.skip rfl rfl rfl rfl rfl rfl rfl ?_
            refine WP.val rfl rfl rfl (Val.pickT rfl rfl rfl) ?_
            refine WP.val rfl rfl rfl (Val.move rfl rfl) ?_
            refine WP.skip rfl rfl rfl rfl rfl rfl rfl ?_
            refine WP.skip rfl rfl rfl rfl rfl rfl rfl ?_
            refine WP.skip rfl rfl rfl rfl rfl rfl rfl ?_
            refine WP.skip rfl rfl rfl rfl rfl rfl rfl ?_
            refine WP.val rfl rfl rfl (Val.pickT rfl rfl rfl) ?_
            refine WP.val rfl rfl rfl (Val.move rfl rfl) ?_
            refine WP.skip rfl rfl rfl rfl rfl rfl rfl ?_
            refine WP.skip rfl rfl rfl rfl rfl rfl rfl ?_
            refine WP.val rfl rfl rfl (Val.pickT rfl rfl rfl) ?_
            refine WP.val rfl rfl rfl (Val.move rfl rfl) ?_
            refine WP.skip rfl rfl rfl rfl rfl rfl rfl ?_
            refine WP.skip rfl rfl rfl rfl rfl rfl rfl ?_
            refine WP.val rfl rfl rfl (Val.pickT rfl rfl rfl) ?_
            refine WP.nil ?_
            refine Out.next ?_
            refine WPc.condT rfl rfl ?_
            refine WPc.seq ?_
            refine WPc.region ?_
            refine WP.val rfl rfl rfl (Val.assign rfl rfl) ?_
            refine WP.nil ?_
            refine Out.next ?_
            refine WPc.ret ?_
            refine Out.then_ret ?_
            exact Out.ret1 (L' := _) Try.results4 rfl ⟨rfl, rfl⟩ (fun _ h => h)
          · skip
            have h5 : ¬ (¬ ((((key).size : Nat) : Int) ≤ 64)) := h5
            refine WP.valG rfl rfl rfl rfl rfl rfl rfl (Val.move rfl rfl) ?_
            refine WP.effG rfl rfl rfl rfl rfl rfl rfl (Eff.call rfl rfl Try.call20 (key_does fin)) ?_
            rintro _ _ ⟨_, ⟨rfl, rfl⟩, rfl⟩
            show WP _ _ _ _ _ _ _ (Old W0 :: F)
            refine WP.valG rfl rfl rfl rfl rfl rfl rfl (Val.notP rfl rfl) ?_
            refine WP.val rfl rfl rfl (Val.pickF rfl rfl rfl) ?_
            refine WP.val rfl rfl rfl (Val.move rfl rfl) ?_
            refine WP.split 35 rfl (fun h6 => ?_) (fun h6 => ?_)
            · skip
              have h6 : (¬ ((((fin).size : Nat) : Int) ≤ 64)) := h6
              refine WP.skip rfl rfl rfl rfl rfl rfl rfl ?_
              refine WP.skip rfl rfl rfl rfl rfl rfl rfl ?_
              refine WP.skip rfl rfl rfl rfl rfl rfl rfl ?_
              refine WP.skip rfl rfl rfl rfl rfl rfl rfl ?_
              refine WP.val rfl rfl rfl (Val.pickT rfl rfl rfl) ?_
              refine WP.val rfl rfl rfl (Val.move rfl rfl) ?_
              refine WP.skip rfl rfl rfl rfl rfl rfl rfl ?_
              refine WP.skip rfl rfl rfl rfl rfl rfl rfl ?_
              refine WP.val rfl rfl rfl (Val.pickT rfl rfl rfl) ?_
              refine WP.val rfl rfl rfl (Val.move rfl rfl) ?_
              refine WP.skip rfl rfl rfl rfl rfl rfl rfl ?_
              refine WP.skip rfl rfl rfl rfl rfl rfl rfl ?_
              refine WP.val rfl rfl rfl (Val.pickT rfl rfl rfl) ?_
              refine WP.nil ?_
              refine Out.next ?_
              refine WPc.condT rfl rfl ?_
              refine WPc.seq ?_
              refine WPc.region ?_
              refine WP.val rfl rfl rfl (Val.assign rfl rfl) ?_
              refine WP.nil ?_
              refine Out.next ?_
              refine WPc.ret ?_
              refine Out.then_ret ?_
              exact Out.ret1 (L' := _) Try.results4 rfl ⟨rfl, rfl⟩ (fun _ h => h)
            · skip
              have h6 : ¬ (¬ ((((fin).size : Nat) : Int) ≤ 64)) := h6
              refine WP.valG rfl rfl rfl rfl rfl rfl rfl (Val.move rfl rfl) ?_
              refine WP.valG rfl rfl rfl rfl rfl rfl rfl (Val.move rfl rfl) ?_
              refine WP.effG rfl rfl rfl rfl rfl rfl rfl (Eff.call rfl rfl Try.call21 (vr_does key fin)) ?_
              rintro _ _ ⟨_, ⟨q3, rfl, hq3, rfl⟩, rfl⟩
              show WP _ _ _ _ _ _ _ (Old W0 :: F)
              refine WP.valG rfl rfl rfl rfl rfl rfl rfl (Val.not rfl rfl) ?_
              refine WP.val rfl rfl rfl (Val.pickF rfl rfl rfl) ?_
              refine WP.val rfl rfl rfl (Val.move rfl rfl) ?_
              refine WP.splitB 41 rfl (fun h7 => ?_) (fun h7 => ?_)
              · skip
                refine WP.skip rfl rfl rfl rfl rfl rfl rfl ?_
                refine WP.skip rfl rfl rfl rfl rfl rfl rfl ?_
                refine WP.val rfl rfl rfl (Val.pickT rfl rfl rfl) ?_
                refine WP.val rfl rfl rfl (Val.move rfl rfl) ?_
                refine WP.skip rfl rfl rfl rfl rfl rfl rfl ?_
                refine WP.skip rfl rfl rfl rfl rfl rfl rfl ?_
                refine WP.val rfl rfl rfl (Val.pickT rfl rfl rfl) ?_
                refine WP.nil ?_
                refine Out.next ?_
                refine WPc.condT rfl rfl ?_
                refine WPc.seq ?_
                refine WPc.region ?_
                refine WP.val rfl rfl rfl (Val.assign rfl rfl) ?_
                refine WP.nil ?_
                refine Out.next ?_
                refine WPc.ret ?_
                refine Out.then_ret ?_
                exact Out.ret1 (L' := _) Try.results4 rfl ⟨rfl, rfl⟩ (fun _ h => h)
              · skip
                refine WP.valG rfl rfl rfl rfl rfl rfl rfl (Val.move rfl rfl) ?_
                refine WP.valG rfl rfl rfl rfl rfl rfl rfl (Val.lss rfl rfl rfl) ?_
                refine WP.val rfl rfl rfl (Val.pickF rfl rfl rfl) ?_
                refine WP.val rfl rfl rfl (Val.move rfl rfl) ?_
                refine WP.split 45 rfl (fun h8 => ?_) (fun h8 => ?_)
                · skip
                  have h8 : (kind < (0 : Int)) := h8
                  refine WP.skip rfl rfl rfl rfl rfl rfl rfl ?_
                  refine WP.skip rfl rfl rfl rfl rfl rfl rfl ?_
                  refine WP.val rfl rfl rfl (Val.pickT rfl rfl rfl) ?_
                  refine WP.nil ?_
                  refine Out.next ?_
                  refine WPc.condT rfl rfl ?_
                  refine WPc.seq ?_
                  refine WPc.region ?_
                  refine WP.val rfl rfl rfl (Val.assign rfl rfl) ?_
                  refine WP.nil ?_
                  refine Out.next ?_
                  refine WPc.ret ?_
                  refine Out.then_ret ?_
                  exact Out.ret1 (L' := _) Try.results4 rfl ⟨rfl, rfl⟩ (fun _ h => h)
                · skip
                  have h8 : ¬ (kind < (0 : Int)) := h8
                  refine WP.valG rfl rfl rfl rfl rfl rfl rfl (Val.move rfl rfl) ?_
                  refine WP.valG rfl rfl rfl rfl rfl rfl rfl (Val.gtr rfl rfl rfl) ?_
                  refine WP.val rfl rfl rfl (Val.pickF rfl rfl rfl) ?_
                  refine WP.nil ?_
                  refine Out.next ?_
                  refine WPc.ifP rfl (fun h9 => ?_) (fun h9 => ?_)
                  · skip
                    have h9 : ((1 : Int) < kind) := h9
                    refine WPc.seq ?_
                    refine WPc.region ?_
                    refine WP.val rfl rfl rfl (Val.assign rfl rfl) ?_
                    refine WP.nil ?_
                    refine Out.next ?_
                    refine WPc.ret ?_
                    refine Out.then_ret ?_
                    exact Out.ret1 (L' := _) Try.results4 rfl ⟨rfl, rfl⟩ (fun _ h => h)
                  · skip
                    have h9 : ¬ ((1 : Int) < kind) := h9
                    refine WPc.skip ?_
                    refine Out.next ?_
                    refine WPc.seq ?_
                    obtain ⟨hok, hl12⟩ := hq2 (by simpa using ‹(!q2) = false›)
                    have hvr := hq3 (by simpa using ‹(!q3) = false›)
                    have hkz : key.size ≤ 64 := by omega
                    have hfz : fin.size ≤ 64 := by omega
                    have hkd : kind = 0 ∨ kind = 1 := by omega
                    refine WPc.region ?_
                    refine WP.val rfl rfl rfl (Val.move rfl rfl) ?_
                    refine WP.val rfl rfl rfl (Val.move rfl rfl) ?_
                    refine WP.val rfl rfl rfl (Val.move rfl rfl) ?_
                    refine WP.val rfl rfl rfl (Val.move rfl rfl) ?_
                    refine WP.eff rfl rfl rfl (Eff.call rfl rfl Try.call22 (permits_spec (Old W0) key fin hkz hfz hvr kind hkd l (by omega) hok va hva)) ?_
                    rintro _ _ ⟨_, ⟨p1, rfl, hp1, rfl⟩, rfl⟩
                    show WP _ _ _ _ _ _ _ (Old W0 :: F)
                    refine WP.val rfl rfl rfl (Val.move rfl rfl) ?_
                    refine WP.val rfl rfl rfl (Val.move rfl rfl) ?_
                    refine WP.val rfl rfl rfl (Val.move rfl rfl) ?_
                    refine WP.val rfl rfl rfl (Val.move rfl rfl) ?_
                    refine WP.eff rfl rfl rfl (Eff.call rfl rfl Try.call23 (permitted_spec (Old W0) key fin hkz hfz hvr kind l (by omega) hok va hva)) ?_
                    rintro _ _ ⟨_, ⟨p2, rfl, hp2, rfl⟩, rfl⟩
                    show WP _ _ _ _ _ _ _ (Old W0 :: F)
                    refine WP.val rfl rfl rfl (Val.eqlB rfl Ty2.bo4 rfl rfl) ?_
                    refine WP.val rfl rfl rfl (Val.move rfl rfl) ?_
                    refine WP.splitB 60 rfl (fun h10 => ?_) (fun h10 => ?_)
                    · skip
                      refine WP.valG rfl rfl rfl rfl rfl rfl rfl (Val.mk (cs := [.int .i64 2, .string (⟨#[107]⟩), .string (⟨#[]⟩)]) rfl rfl (fun _ => by kernel_rfl)) ?_
                      refine WP.effG rfl rfl rfl rfl rfl rfl rfl (Eff.mkSlice (C := [.int .i64 2, .string (⟨#[107]⟩), .string (⟨#[]⟩)]) rfl Ty.sl39 rfl (fun _ => by kernel_rfl)) ?_
                      rintro _ _ ⟨b1, rfl, rfl⟩
                      refine WP.effG rfl rfl rfl rfl rfl rfl rfl (Eff.call rfl rfl Try.call22 (permits_spec (Blk b1 [.int .i64 2, .string (⟨#[107]⟩), .string (⟨#[]⟩)] 45) ⟨#[107]⟩ ⟨#[]⟩ (by decide) (by decide) pmk_ok.2.2.2 1 (.inr rfl) [pmk] (by decide) (fun p hp => by rw [List.mem_singleton.1 hp]; exact pmk_ok) (.slice (some ⟨b1, 0, none⟩) 1 1) (show Rd (Blk b1 [.int .i64 2, .string (⟨#[107]⟩), .string (⟨#[]⟩)] 45) 3 Pm.cells (.slice (some ⟨b1, 0, none⟩) 1 1) [pmk] from rd_blk Pm.len _ _ _ [pmk]))) ?_
                      rintro _ _ ⟨_, ⟨p3, rfl, hp3, rfl⟩, rfl⟩
                      show WP _ _ _ _ _ _ _ (Blk b1 [.int .i64 2, .string (⟨#[107]⟩), .string (⟨#[]⟩)] 45 :: Old W0 :: F)
                      refine WP.val rfl rfl rfl (Val.pickT rfl rfl rfl) ?_
                      refine WP.val rfl rfl rfl (Val.assign rfl rfl) ?_
                      refine WP.nil ?_
                      refine Out.next ?_
                      refine WPc.ret ?_
                      refine Out.drop ?_
                      exact Out.ret1 (L' := _) Try.results4 rfl ⟨congrArg Value.bool (hp3.2 pmk_cov), rfl⟩ (fun _ h => h)
                    · skip
                      exact absurd (Bool.eq_iff_iff.2 (hp1.trans hp2.symm)) (by simp_all)

end Go.Proofs.Ytbomnihiapjmpaa.Am

