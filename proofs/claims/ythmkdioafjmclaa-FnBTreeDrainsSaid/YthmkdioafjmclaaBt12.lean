import Derived.Test.YthmkdioafjmclaaSlTerse
import Derived.Test.YthmkdioafjmclaaBt11
namespace Go.Proofs.Ythmkdioafjmclaa.Bt12
open Go.RowKit Go.Proofs.Ythmkdioafjmclaa Go.Proofs.Ythmkdioafjmclaa.Sl Go.Proofs.Ythmkdioafjmclaa.Bt Go.Proofs.Ythmkdioafjmclaa.Bt2 Go.Proofs.Ythmkdioafjmclaa.Bt3 Go.Proofs.Ythmkdioafjmclaa.Bt4 Go.Proofs.Ythmkdioafjmclaa.Bt5 Go.Proofs.Ythmkdioafjmclaa.Bt6 Go.Proofs.Ythmkdioafjmclaa.Bt7 Go.Proofs.Ythmkdioafjmclaa.Bt8 Go.Proofs.Ythmkdioafjmclaa.Bt9 Go.Proofs.Ythmkdioafjmclaa.Bt10 Go.Proofs.Ythmkdioafjmclaa.Bt11
set_option linter.unusedVariables false
set_option linter.unusedSimpArgs false
set_option linter.unusedSectionVars false


theorem Holds.sepAt {w : World} : ∀ {L : List HProp} {A : HProp} (i : Nat), L[i]? = some A → Holds (Sep L) w → Holds A w
 | B :: L, A, 0, hi, ⟨r, s, hlt, s1, s2, h1, h2, hd, hA, hL⟩ => by
  simp only [List.getElem?_cons_zero, Option.some.injEq] at hi
  subst hi
  exact ⟨r, s1, fun b hb => hlt b (hb.imp id (h1 b)), hA⟩
 | B :: L, A, i + 1, hi, ⟨r, s, hlt, s1, s2, h1, h2, hd, hA, hL⟩ => Holds.sepAt i (by simpa using hi) ⟨r, s2, fun b hb => hlt b (hb.imp id (h2 b)), hL⟩
theorem own_open {α : Type} {cf : α → List Value} {k : Nat} (hk : ∀ x, (cf x).length = k) {e : TypeId} {v : Value} {l : List α} {r s : Nat → Prop} {hh : Array Obj} (h : (Own e k v l.length (flatOf cf l)).p r s hh) :
  ∃ B : HProp, B.p r s hh ∧ Rd B k cf v l ∧ ∀ r s hh, B.p r s hh → (Own e k v l.length (flatOf cf l)).p r s hh := by
 obtain ⟨q, hq⟩ := h
 cases q with
 | none =>
  obtain ⟨rfl, h1, h2⟩ := hq
  exact ⟨Own e k (.slice none 0 0) l.length (flatOf cf l), ⟨none, ⟨rfl, h1, h2⟩⟩, .inr ⟨List.eq_nil_of_length_eq_zero h1, none, 0, rfl⟩, fun _ _ _ h => h⟩
 | some q =>
  obtain ⟨b, cap, sp⟩ := q
  obtain ⟨s1, s2, h1, h2, hd, ⟨rfl, e1, e2, e3, e4⟩, t1, t2, k1, k2, kd, hB, -⟩ := hq
  refine ⟨Blk b (flatOf cf l ++ sp) e, (Blk b (flatOf cf l ++ sp) e).mono _ _ _ _ _ _ (fun _ h => h) (fun b hb => h2 b (k1 b hb)) (fun _ _ => rfl) hB, .inl ⟨b, 0, cap, rfl, fun w hw i x hx => ?_⟩, fun r s hh hB => ⟨some (b, cap, sp), fun _ => False, s, fun _ h => h.elim, fun _ h => h, fun _ h => h.elim, ⟨rfl, e1, e2, e3, e4⟩, s, fun _ => False, fun _ h => h, fun _ h => h.elim, fun _ _ h => h, hB, trivial⟩⟩
  rw [Nat.zero_add]
  exact hw.cell_range (flatOf_range hk hx)
/-- a node that can be read as long as A holds -/
structure NodeAt (A : HProp) (Q : Value → Prop) (k : Nat × Tr) (vi vc cw : Value) (ks : List (Nat × Tr)) : Prop where
 cells : ∀ w, Holds A w → w.cell? ⟨k.1, 0, none⟩ = some vi ∧ w.cell? ⟨k.1, 1, none⟩ = some vc ∧ w.cell? ⟨k.1, 2, none⟩ = some cw
 cow : Q cw
 items : Rd A 2 El.cells vi k.2.is
 kids : Rd A 1 vcf vc (kp ks)
 snd : ks.map (·.2) = k.2.ks
def RdT (A : HProp) (Q : Value → Prop) : Nat → Nat × Tr → Prop
 | 0, k => ∃ vi vc cw, NodeAt A Q k vi vc cw []
 | h + 1, k => ∃ vi vc cw ks, NodeAt A Q k vi vc cw ks ∧ ∀ x ∈ ks, RdT A Q h x
theorem NodeAt.mono {A B : HProp} {Q : Value → Prop} {k : Nat × Tr} {vi vc cw : Value} {ks : List (Nat × Tr)} (hi : ∀ w, Holds B w → Holds A w) (h : NodeAt A Q k vi vc cw ks) : NodeAt B Q k vi vc cw ks :=
 ⟨fun w hw => h.cells w (hi w hw), h.cow, h.items.mono hi, h.kids.mono hi, h.snd⟩
theorem RdT.mono {A B : HProp} {Q : Value → Prop} (hi : ∀ w, Holds B w → Holds A w) : ∀ {h : Nat} {k : Nat × Tr}, RdT A Q h k → RdT B Q h k
 | 0, _, ⟨vi, vc, cw, hn⟩ => ⟨vi, vc, cw, hn.mono hi⟩
 | _ + 1, _, ⟨vi, vc, cw, ks, hn, hk⟩ => ⟨vi, vc, cw, ks, hn.mono hi, fun x hx => (hk x hx).mono hi⟩
theorem kids_open {c h : Nat} (ih : ∀ (k : Nat × Tr) (r s : Nat → Prop) (hh : Array Obj), (Nd c h k).p r s hh → ∃ B : HProp, B.p r s hh ∧ RdT B (· = .pointer (some ⟨c, 0, none⟩)) h k ∧ ∀ r s hh, B.p r s hh → (Nd c h k).p r s hh) :
  ∀ (ks : List (Nat × Tr)) (r s : Nat → Prop) (hh : Array Obj), parts (ks.map (Nd c h)) r s hh → ∃ Bs : List HProp, parts Bs r s hh ∧ (∀ k ∈ ks, ∃ (i : Nat) (B : HProp), Bs[i]? = some B ∧ RdT B (· = .pointer (some ⟨c, 0, none⟩)) h k) ∧ ∀ r s hh, parts Bs r s hh → parts (ks.map (Nd c h)) r s hh
 | [], _, _, _, _ => ⟨[], trivial, (fun _ h => by cases h), fun _ _ _ h => h⟩
 | k :: ks, r, s, hh, ⟨s1, s2, h1, h2, hd, hA, hL⟩ => by
  obtain ⟨B, b1, b2, b3⟩ := ih k r s1 hh hA
  obtain ⟨Bs, c1, c2, c3⟩ := kids_open ih ks r s2 hh hL
  refine ⟨B :: Bs, ⟨s1, s2, h1, h2, hd, b1, c1⟩, fun q hq => ?_, fun r s hh ⟨t1, t2, k1, k2, kd, hB, hBs⟩ => ⟨t1, t2, k1, k2, kd, b3 _ _ _ hB, c3 _ _ _ hBs⟩⟩
  rcases List.mem_cons.1 hq with rfl | hq
  ·
   exact ⟨0, B, rfl, b2⟩
  ·
   obtain ⟨i, B', e1, e2⟩ := c2 q hq
   exact ⟨i + 1, B', by simpa using e1, e2⟩
theorem nd_rdT {c : Nat} : ∀ (h : Nat) (k : Nat × Tr) (r s : Nat → Prop) (hh : Array Obj), (Nd c h k).p r s hh → ∃ B : HProp, B.p r s hh ∧ RdT B (· = .pointer (some ⟨c, 0, none⟩)) h k ∧ ∀ r s hh, B.p r s hh → (Nd c h k).p r s hh := by
 intro h
 induction h with
 | zero =>
  rintro k r s hh ⟨⟨vi, vc, ks⟩, s1, t1, a1, b1, d1, ⟨hP, hz⟩, s2, t2, a2, b2, d2, hB, s3, t3, a3, b3, d3, hO, s4, t4, a4, b4, d4, hC, s5, t5, a5, b5, d5, hK, -⟩
  dsimp only at hP hz hB hO hC hK
  have hz := hz trivial
  subst hz
  obtain ⟨B1, p1, p2, p3⟩ := own_open El.len hO
  rw [← kp_len] at hC
  obtain ⟨B2, q1, q2, q3⟩ := own_open vcf_len hC
  refine ⟨Sep [Blk k.1 [vi, vc, .pointer (some ⟨c, 0, none⟩)] 213, B1, B2], ⟨s2, t2, fun b hb => b1 b (a2 b hb), fun b hb => b1 b (b2 b hb), d2, hB, s3, t3, a3, b3, d3, p1, s4, t4, a4, b4, d4, q1, trivial⟩,
   ⟨vi, vc, _, ⟨fun w hw => ?_, rfl, p2.mono fun w hw => Holds.sepAt 1 rfl hw, q2.mono fun w hw => Holds.sepAt 2 rfl hw, hP⟩⟩, ?_⟩
  ·
   have h0 := Holds.sepAt (A := Blk k.1 [vi, vc, .pointer (some ⟨c, 0, none⟩)] 213) 0 rfl hw
   exact ⟨h0.cell 0, h0.cell 1, h0.cell 2⟩
  ·
   rintro r s hh ⟨s2, t2, a2, b2, d2, hB, s3, t3, a3, b3, d3, hO, s4, t4, a4, b4, d4, hC, -⟩
   exact ⟨(vi, vc, []), fun _ => False, s, fun _ h => h.elim, fun _ h => h, fun _ h => h.elim, ⟨hP, fun _ => rfl⟩, s2, t2, a2, b2, d2, hB, s3, t3, a3, b3, d3, p3 _ _ _ hO, s4, t4, a4, b4, d4, q3 _ _ _ hC, fun _ => False, fun _ => False, fun _ h => h.elim, fun _ h => h.elim, fun _ h => h.elim, trivial, trivial⟩
 | succ h ih =>
  rintro k r s hh ⟨⟨vi, vc, ks⟩, s1, t1, a1, b1, d1, ⟨hP, hz⟩, s2, t2, a2, b2, d2, hB, s3, t3, a3, b3, d3, hO, s4, t4, a4, b4, d4, hC, s5, t5, a5, b5, d5, hK, -⟩
  dsimp only at hP hz hB hO hC hK
  obtain ⟨B1, p1, p2, p3⟩ := own_open El.len hO
  rw [← kp_len] at hC
  obtain ⟨B2, q1, q2, q3⟩ := own_open vcf_len hC
  obtain ⟨Bs, u1, u2, u3⟩ := kids_open ih ks r s5 hh hK
  refine ⟨Sep [Blk k.1 [vi, vc, .pointer (some ⟨c, 0, none⟩)] 213, B1, B2, Sep Bs], ⟨s2, t2, fun b hb => b1 b (a2 b hb), fun b hb => b1 b (b2 b hb), d2, hB, s3, t3, a3, b3, d3, p1, s4, t4, a4, b4, d4, q1, s5, t5, a5, b5, d5, u1, trivial⟩,
   ⟨vi, vc, _, ks, ⟨fun w hw => ?_, rfl, p2.mono fun w hw => Holds.sepAt 1 rfl hw, q2.mono fun w hw => Holds.sepAt 2 rfl hw, hP⟩, fun x hx => ?_⟩, ?_⟩
  ·
   have h0 := Holds.sepAt (A := Blk k.1 [vi, vc, .pointer (some ⟨c, 0, none⟩)] 213) 0 rfl hw
   exact ⟨h0.cell 0, h0.cell 1, h0.cell 2⟩
  ·
   obtain ⟨i, B, e1, e2⟩ := u2 x hx
   exact e2.mono fun w hw => Holds.sepAt i e1 (Holds.sepAt 3 rfl hw)
  ·
   rintro r s hh ⟨s2, t2, a2, b2, d2, hB, s3, t3, a3, b3, d3, hO, s4, t4, a4, b4, d4, hC, s5, t5, a5, b5, d5, hK, -⟩
   exact ⟨(vi, vc, ks), fun _ => False, s, fun _ h => h.elim, fun _ h => h, fun _ h => h.elim, ⟨hP, fun h => h.elim⟩, s2, t2, a2, b2, d2, hB, s3, t3, a3, b3, d3, p3 _ _ _ hO, s4, t4, a4, b4, d4, (by have := q3 _ _ _ hC; rw [kp_len] at this; exact this), s5, t5, a5, b5, d5, u3 _ _ _ hK, trivial⟩
theorem nd_open {W w : World} {L : List HProp} {c h : Nat} {k : Nat × Tr} (hs : Sat W (Nd c h k :: L) w) : ∃ B : HProp, Sat W (Pure (RdT B (· = .pointer (some ⟨c, 0, none⟩)) h k ∧ ∀ r s hh, B.p r s hh → (Nd c h k).p r s hh) :: B :: L) w := by
 obtain ⟨r, s, hd, hlt, s1, s2, h1, h2, hs2, hA, hL⟩ := hs.mem
 obtain ⟨B, b1, b2, b3⟩ := nd_rdT h k r s1 w.heap hA
 exact ⟨B, Sat.pure_mk ⟨b2, b3⟩ ⟨hs.os, hs.tape, hs.output, r, s, hd, hlt, s1, s2, h1, h2, hs2, b1, hL⟩⟩
theorem Rd.pos {α : Type} {A : HProp} {k : Nat} {cf : α → List Value} {va : Value} {l : List α} (h : Rd A k cf va l) (hl : 0 < l.length) : ∃ b o c, va = .slice (some ⟨b, o, none⟩) l.length c ∧ ∀ w, Holds A w → ∀ i x, l[i]? = some x → w.rangeAt b (o + i * k) (cf x) := by
 rcases h with h | ⟨rfl, -⟩
 ·
  exact h
 ·
  simp at hl
/-- what a callback that stops at 'most' elements makes of a list -/
def vis (most : Int) : List El → List El → List El × Bool
 | out, [] => (out, true)
 | out, x :: L => if most ≤ 0 ∨ (out.length : Int) + 1 < most then vis most (out ++ [x]) L else (out ++ [x], false)
theorem vis_app {most : Int} : ∀ (L1 L2 out o : List El), vis most out L1 = (o, true) → vis most out (L1 ++ L2) = vis most o L2
 | [], L2, out, o, h => by simp only [vis, Prod.mk.injEq, and_true] at h; subst h; rfl
 | x :: L1, L2, out, o, h => by
  simp only [vis, List.cons_append] at h ⊢
  split at h
  ·
   rename_i hc; rw [if_pos hc]; exact vis_app L1 L2 _ o h
  ·
   cases (Prod.mk.inj h).2
theorem vis_stop {most : Int} : ∀ (L1 L2 out o : List El), vis most out L1 = (o, false) → vis most out (L1 ++ L2) = (o, false)
 | [], L2, out, o, h => by simp [vis] at h
 | x :: L1, L2, out, o, h => by
  simp only [vis, List.cons_append] at h ⊢
  split at h
  ·
   rename_i hc; rw [if_pos hc]; exact vis_stop L1 L2 _ o h
  ·
   rename_i hc; rw [if_neg hc]; exact h
theorem vis_len {most : Int} : ∀ (L out : List El), (vis most out L).1.length ≤ out.length + L.length
 | [], out => by simp [vis]
 | x :: L, out => by
  simp only [vis]
  split
  ·
   have := vis_len (most := most) L (out ++ [x]); rw [List.length_append, List.length_singleton] at this; rw [List.length_cons]; omega
  ·
   rw [List.length_append, List.length_singleton, List.length_cons]; omega
/-- the elements of a tree, in order -/
def ino : Nat → Tr → List El
 | 0, t => t.is
 | h + 1, t => (List.zipWith (fun k x => ino h k ++ [x]) t.ks t.is).flatten ++ ino h (kid t t.is.length)
def pre (h : Nat) (t : Tr) (i : Nat) : List El := match h with
 | 0 => t.is.take i
 | h + 1 => ((List.zipWith (fun k x => ino h k ++ [x]) t.ks t.is).take i).flatten
theorem pre_zero (h : Nat) (t : Tr) : pre h t 0 = [] := by cases h <;> rfl
theorem pre_leaf {t : Tr} {i : Nat} {x : El} (hx : t.is[i]? = some x) : pre 0 t (i + 1) = pre 0 t i ++ [x] := take_more hx
theorem pre_step {h : Nat} {t k : Tr} {i : Nat} {x : El} (hx : t.is[i]? = some x) (hk : t.ks[i]? = some k) : pre (h + 1) t (i + 1) = pre (h + 1) t i ++ (ino h k ++ [x]) := by
 have : (List.zipWith (fun k x => ino h k ++ [x]) t.ks t.is)[i]? = some (ino h k ++ [x]) := by rw [List.getElem?_zipWith, hk, hx]
 show (List.take (i + 1) _).flatten = (List.take i _).flatten ++ _
 rw [take_more this, List.flatten_append]; simp
theorem pre_all_leaf (t : Tr) : pre 0 t t.is.length = ino 0 t := List.take_length
theorem pre_all_step {h : Nat} {t k : Tr} (hl : t.ks.length = t.is.length + 1) (hk : t.ks[t.is.length]? = some k) : ino (h + 1) t = pre (h + 1) t t.is.length ++ ino h k := by
 show _ ++ _ = (List.take _ _).flatten ++ _
 rw [kid_at hk, List.take_of_length_le (by rw [List.length_zipWith]; omega)]
theorem pre_more {h : Nat} {t : Tr} (i : Nat) : ∃ R, (match h with | 0 => t.is | h + 1 => (List.zipWith (fun k x => ino h k ++ [x]) t.ks t.is).flatten) = pre h t i ++ R := by
 cases h with
 | zero => exact ⟨t.is.drop i, (List.take_append_drop _ _).symm⟩
 | succ h => exact ⟨((List.zipWith (fun k x => ino h k ++ [x]) t.ks t.is).drop i).flatten, by show _ = (List.take i _).flatten ++ _; rw [← List.flatten_append, List.take_append_drop]⟩
theorem pre_ino {h : Nat} {t : Tr} (i : Nat) : ∃ R, ino h t = pre h t i ++ R := by
 obtain ⟨R, hR⟩ := pre_more (h := h) (t := t) i
 cases h with
 | zero => exact ⟨R, hR⟩
 | succ h => exact ⟨R ++ ino h (kid t t.is.length), by show (List.zipWith (fun k x => ino h k ++ [x]) t.ks t.is).flatten ++ _ = _; rw [show (List.zipWith (fun k x => ino h k ++ [x]) t.ks t.is).flatten = pre (h + 1) t i ++ R from hR, List.append_assoc]⟩
/-- what a callback has gathered -/
def OutP (ob : Nat) (out : List El) : HProp := Ex fun v : Value => Sep [Blk ob [v] 52, Own 55 2 v out.length (flatOf El.cells out)]
theorem _root_.Go.Proofs.Ythmkdioafjmclaa.Sl.Sat.outOpen {W w : World} {L : List HProp} {ob : Nat} {out : List El} (h : Sat W (OutP ob out :: L) w) : ∃ v : Value, Sat W (Blk ob [v] 52 :: Own 55 2 v out.length (flatOf El.cells out) :: L) w := by
 obtain ⟨v, h⟩ := h.ex
 exact ⟨v, h.sep⟩
theorem _root_.Go.Proofs.Ythmkdioafjmclaa.Sl.Sat.outMk {W w : World} {L : List HProp} {ob : Nat} {out : List El} {v : Value} (h : Sat W (Blk ob [v] 52 :: Own 55 2 v out.length (flatOf El.cells out) :: L) w) : Sat W (OutP ob out :: L) w := Sat.ex_mk v (Sat.sep_mk h)
structure Bop where
 kind : Int
 tree : Int
 el : El
 from_ : Int
 till : Int
 most : Int
 again : Bool
def Bop.cells (o : Bop) : List Value := [.int .i64 o.kind, .int .i64 o.tree, .int .i64 o.el.k, .int .i64 o.el.v, .int .i64 o.from_, .int .i64 o.till, .int .i64 o.most, .bool o.again]
theorem Bop.len (o : Bop) : o.cells.length = 8 := rfl
set_option maxRecDepth 100000 in
set_option maxHeartbeats 2000000 in
theorem cb_spec (ob pb : Nat) (out : List El) (o : Bop) (x : El) (hl : out.length ≤ 1000000) : Does Try.prog 109 [.agg #[.int .i64 (x.k), .int .i64 (x.v)], .pointer (some ⟨ob, 0, none⟩), .pointer (some ⟨pb, 0, none⟩)] [OutP ob out, Blk pb [.int .i64 (o.kind), .int .i64 (o.tree), .int .i64 (o.el.k), .int .i64 (o.el.v), .int .i64 (o.from_), .int .i64 (o.till), .int .i64 (o.most), .bool (o.again)] 57] (fun v L => v = .bool (decide (o.most ≤ 0 ∨ (out.length : Int) + 1 < o.most)) ∧ L = [OutP ob (out ++ [x]), Blk pb [.int .i64 (o.kind), .int .i64 (o.tree), .int .i64 (o.el.k), .int .i64 (o.el.v), .int .i64 (o.from_), .int .i64 (o.till), .int .i64 (o.most), .bool (o.again)] 57]) := by
 refine Does.enter 19 Try.func109 rfl rfl rfl fun W F => ?_
 show WPc _ _ _ _ _ [(0, .agg #[.int .i64 (x.k), .int .i64 (x.v)]), (1, .pointer (some ⟨ob, 0, none⟩)), (2, .pointer (some ⟨pb, 0, none⟩))] (OutP ob out :: Blk pb [.int .i64 (o.kind), .int .i64 (o.tree), .int .i64 (o.el.k), .int .i64 (o.el.v), .int .i64 (o.from_), .int .i64 (o.till), .int .i64 (o.most), .bool (o.again)] 57 :: F)
 refine WPc.sr ?_
 refine WP.eff rfl rfl rfl (Eff.box (C := [.int .i64 (x.k), .int .i64 (x.v)]) rfl rfl rfl) ?_
 rintro _ _ ⟨b1, rfl, rfl⟩
 refine WP.val rfl rfl rfl (Val.assign rfl rfl) ?_
 refine WP.nx ?_
 refine WPc.seq ?_
 refine WPc.perm pl1 ?_
 refine WPc.open (fun w h => h.outOpen) ?_
 rintro v0
 show WPc _ _ _ _ _ _ (Blk ob [v0] 52 :: Own 55 2 v0 out.length (flatOf El.cells out) :: Blk b1 [.int .i64 (x.k), .int .i64 (x.v)] 55 :: _)
 refine WPc.region ?_
 refine WP.val rfl rfl rfl (Val.load rfl Ty.sc52 rfl (fun w h => h.cell 0 rfl rfl)) ?_
 refine WP.val rfl rfl rfl (Val.loadAgg (cs := [.int .i64 (x.k), .int .i64 (x.v)]) rfl Ty.ag55 rfl rfl (fun w h => h.range 2 rfl rfl)) ?_
 refine WP.eff rfl rfl rfl (Eff.mkSlice (C := [.int .i64 (x.k), .int .i64 (x.v)]) rfl Ty.sl52 rfl (fun _ => by kernel_rfl)) ?_
 rintro _ _ ⟨b2, rfl, rfl⟩
 refine WP.perm pl2 ?_
 refine WP.eff rfl rfl rfl (Eff.append (m := 1) (n0 := out.length) (news := [.int .i64 (x.k), .int .i64 (x.v)]) rfl Ty.sl52 Ty.z55 rfl rfl rfl (.slice Ty.sl52 rfl rfl (fun w h => cells_range (h.range 1 rfl rfl))) (by omega) (by omega)) ?_
 rintro v3 _ ⟨onev3, rfl⟩
 refine WP.perm pl2 ?_
 refine WP.eff0 rfl rfl (Eff.store rfl Ty.sc52 rfl rfl onev3 (by simp) st0) ?_
 rintro _ _ rfl
 refine WP.nx ?_
 refine WPc.sr ?_
 refine WP.val rfl rfl rfl (Val.fieldAddr (j := 6) rfl Ty.fo57_5 rfl rfl) ?_
 refine WP.val rfl rfl rfl (Val.load rfl Ty.sc3 rfl (fun w h => h.cell 4 rfl rfl)) ?_
 refine WP.val rfl rfl rfl (Val.leq rfl rfl rfl) ?_
 refine WP.val rfl rfl rfl (Val.move rfl rfl) ?_
 refine WP.split 12 rfl (fun h1 => ?_) (fun h1 => ?_)
 ·
  have h1 : (o.most ≤ (0 : Int)) := h1
  iterate 5 (refine WP.skip rfl rfl rfl rfl rfl rfl rfl ?_)
  refine WP.val rfl rfl rfl (Val.pickT rfl rfl rfl) ?_
  refine WP.val rfl rfl rfl (Val.assign rfl rfl) ?_
  refine WP.nx ?_
  refine WPc.ret ?_
  refine Out.perm pl1 ?_
  refine Out.c1 (B := Own 55 2 v3 ((out ++ [x]).length) (flatOf El.cells (out ++ [x]))) (fun w h => by rw [flatOf_append, flatOf_one, List.length_append]; exact h) ?_
  refine Out.perm pl1 ?_
  refine Out.conv (fun w h => h.outMk) ?_
  refine Out.perm pl1 ?_
  refine Out.drop ?_
  refine Out.perm pl1 ?_
  refine Out.drop ?_
  exact Out.ret1 (L' := _) Try.results109 rfl ⟨(congrArg Value.bool (by rw [show decide (o.most ≤ 0 ∨ (out.length : Int) + 1 < o.most) = true from decide_eq_true (.inl (by omega))])), rfl⟩ (fun _ h => h)
 ·
  have h1 : ¬ (o.most ≤ (0 : Int)) := h1
  refine WP.valG rfl rfl rfl rfl rfl rfl rfl (Val.load rfl Ty.sc52 rfl (fun w h => h.cell 0 rfl rfl)) ?_
  refine WP.valG rfl rfl rfl rfl rfl rfl rfl (Val.lenOwn rfl Ty.sl52 rfl (fun w h => h.at 1 rfl)) ?_
  refine WP.valG rfl rfl rfl rfl rfl rfl rfl (Val.fieldAddr (j := 6) rfl Ty.fo57_5 rfl rfl) ?_
  refine WP.valG rfl rfl rfl rfl rfl rfl rfl (Val.load rfl Ty.sc3 rfl (fun w h => h.cell 4 rfl rfl)) ?_
  refine WP.valG rfl rfl rfl rfl rfl rfl rfl (Val.lss rfl rfl rfl) ?_
  refine WP.val rfl rfl rfl (Val.pickF rfl rfl rfl) ?_
  refine WP.val rfl rfl rfl (Val.assign rfl rfl) ?_
  refine WP.nx ?_
  refine WPc.ret ?_
  refine Out.perm pl1 ?_
  refine Out.c1 (B := Own 55 2 v3 ((out ++ [x]).length) (flatOf El.cells (out ++ [x]))) (fun w h => by rw [flatOf_append, flatOf_one, List.length_append]; exact h) ?_
  refine Out.perm pl1 ?_
  refine Out.conv (fun w h => h.outMk) ?_
  refine Out.perm pl1 ?_
  refine Out.drop ?_
  refine Out.perm pl1 ?_
  refine Out.drop ?_
  exact Out.ret1 (L' := _) Try.results109 rfl ⟨(congrArg Value.bool (decide_eq_decide.2 (by omega))), rfl⟩ (fun _ h => h)

end Go.Proofs.Ythmkdioafjmclaa.Bt12
