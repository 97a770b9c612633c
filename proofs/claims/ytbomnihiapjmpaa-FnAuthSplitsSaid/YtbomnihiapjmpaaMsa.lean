import Derived.Orders
import Derived.OrdersHeld
import Derived.RegionTactic
import Derived.WalkKit
import Derived.Below
import Derived.Deep.MidRow
import Derived.Deep.AppendSrc
import Derived.Deep.RegionHeld
import Derived.Laws.MakeOwn
import Derived.Laws.CopyRow
import Derived.IntWalk
import Derived.Laws.IdiomStrings
import Derived.Lib.SmallJoins
import Derived.Laws.Strings
import Derived.WideShapes
import Derived.WalkLawsBesides
import Derived.WalkSpells
import Derived.ProofKit
import Derived.Deep.Slices
import Derived.Deep.Fields
import Derived.Lib.Hide
import Derived.Lib.AppendZeros
import Derived.LaidEql
import Derived.Defers
import Derived.Lib.Bytealg
import Derived.Laws.Externs
namespace Go.Proofs.Ytbomnihiapjmpaa.Sl
set_option linter.unusedVariables false

/-! ## a region that draws its order, once more: what is read need not stay behind an operation that waits for all others -/
/-- what an operation waits for -/
def direct (ops : Array Oper) (i : Nat) : List Nat :=
  match ops[i]? with
  | some o => (o.after.toList.filter fun e => Region.binds .any e).map (·.on)
  | none => []
/-- and what that waits for, and so on -/
def behind (ops : Array Oper) : Nat → List Nat → List Nat
  | 0, S => S
  | k + 1, S => behind ops k (S ++ S.flatMap (direct ops)).eraseDups
def Closed (ops : Array Oper) (listed : Array Bool) : Prop := ∀ j, listed.getD j false = true → ∀ k ∈ direct ops j, listed.getD k false = true
theorem behind_listed {ops : Array Oper} {L : Array Bool} (hcl : Closed ops L) : ∀ (k : Nat) (S : List Nat), (∀ j ∈ S, L.getD j false = true) → ∀ j ∈ behind ops k S, L.getD j false = true
  | 0, _, h => h
  | k + 1, S, h => behind_listed hcl k _ fun j hj => by
    rw [List.mem_eraseDups, List.mem_append, List.mem_flatMap] at hj
    rcases hj with hj | ⟨q, hq, hj⟩
    · exact h j hj
    · exact hcl q (h q hq) j hj
def closedB (ops : Array Oper) (listed : Array Bool) : Bool := decide (listed.size = ops.size) && (List.range ops.size).all fun j => !listed.getD j false || (direct ops j).all fun k => listed.getD k false
theorem closed_of {ops : Array Oper} {listed : Array Bool} (h : closedB ops listed = true) : Closed ops listed := by
  unfold closedB at h
  simp only [Bool.and_eq_true, decide_eq_true_eq] at h
  obtain ⟨hs, h⟩ := h
  intro j hj k hk
  have hlt : j < ops.size := by
    rw [← hs]
    rcases Nat.lt_or_ge j listed.size with h' | h'
    · exact h'
    · simp [Array.getElem?_eq_none h'] at hj
  have h1 := List.all_eq_true.1 h j (List.mem_range.2 hlt)
  rw [hj] at h1
  simp only [Bool.not_true, Bool.false_or] at h1
  exact List.all_eq_true.1 h1 k hk
/-- operations that do not look at memory -/
def memFree (ops : Array Oper) (k : Nat) : Bool := match ops[k]? with
  | some o => (match o.op with | .binOp .eql .. | .binOp .neq .. => false | .move _ | .assign _ | .fieldAddr .. | .indexAddr .. | .nilCheck _ | .pick .. | .slice .. | .binOp .. | .unOp .. | .extract .. | .field .. | .build .. => true | _ => false)
  | none => false
/-- each other operation that may look at memory is ahead of j, or waits for it -/
def cutB (ops : Array Oper) (j : Nat) : Bool := (List.range ops.size).all fun k => k == j || memFree ops k || (behind ops 12 (direct ops j)).contains k || (behind ops 12 (direct ops k)).contains j

variable {P : Program} {ops : Array Oper} {Q : Exit → Act → World → Prop} {S : World → Prop}
/-- Whatever order is picked: S holds behind each operation but those that part the others in two; behind such a one another S may hold. -/
def wpF (P : Program) (ops : Array Oper) (Q : Exit → Act → World → Prop) : Nat → (World → Prop) → Array Bool → Act → World → Prop
  | 0, _, listed, a, w => Region.ready .any ops listed = [] ∧ Q .normal a w
  | fuel + 1, S, listed, a, w =>
    (Region.ready .any ops listed = [] → Q .normal a w) ∧
    ∀ i ∈ Region.ready .any ops listed, wpOp P ops Q i (fun a' w' => ∃ S', (S' = S ∨ cutB ops i = true ∨ ∀ w, S' w → S w) ∧ S' w' ∧ wpF P ops Q fuel S' (listed.setIfInBounds i true) a' w') a w
theorem wpF_any : ∀ (fuel : Nat) (S : World → Prop) (listed : Array Bool) (a : Act) (w : World), wpF P ops Q fuel S listed a w → wpAny P .any ops Q fuel listed a w
  | 0, _, _, _, _, h => h
  | fuel + 1, S, _, _, _, h => ⟨h.1, fun i hi => wpOp_mono (fun a' w' ⟨S', _, _, h1⟩ => wpF_any fuel S' _ a' w' h1) (h.2 i hi)⟩
theorem ready_direct {listed : Array Bool} {j : Nat} (hj : j ∈ Region.ready .any ops listed) : ∀ k ∈ direct ops j, listed.getD k false = true := by
  obtain ⟨_, o, ho, hall⟩ := mem_ready.1 hj
  intro k hk
  simp only [direct, ho, List.mem_map, List.mem_filter] at hk
  obtain ⟨e, ⟨he, hb⟩, rfl⟩ := hk
  exact hall e (by simpa using he) hb
theorem closed_set {listed : Array Bool} {j : Nat} (hc : Closed ops listed) (hj : j ∈ Region.ready .any ops listed) : Closed ops (listed.setIfInBounds j true) := by
  intro i hi k hk
  refine getD_set_true ?_
  by_cases hij : j = i
  · subst hij; exact ready_direct hj k hk
  · rw [getD_set_ne false hij] at hi; exact hc i hi k hk
theorem getD_of_ready {listed : Array Bool} {i : Nat} (hi : i ∈ Region.ready .any ops listed) : listed.getD i false = false := by
  have h := (mem_ready.1 hi).1
  rcases Nat.lt_or_ge i listed.size with h' | h'
  · simpa [h'] using h
  · simp [Array.getElem?_eq_none h']
theorem not_cut {listed : Array Bool} {i j : Nat} (hc : Closed ops listed) (hi : i ∈ Region.ready .any ops listed) (hj : j ∈ Region.ready .any ops listed) (hne : j ≠ i) (hm : memFree ops i = false) : cutB ops j ≠ true := by
  intro h
  have hlt : i < ops.size := by
    obtain ⟨_, o, ho, _⟩ := mem_ready.1 hi
    exact (Array.getElem?_eq_some_iff.1 ho).1
  have h1 := List.all_eq_true.1 h i (List.mem_range.2 hlt)
  simp only [Bool.or_eq_true, beq_iff_eq, Ne.symm hne, false_or, List.contains_iff_mem, hm, Bool.false_eq_true] at h1
  rcases h1 with h1 | h1
  · have := behind_listed hc 12 _ (ready_direct hj) i h1
    rw [getD_of_ready hi] at this
    cases this
  · have := behind_listed hc 12 _ (ready_direct hi) j h1
    rw [getD_of_ready hj] at this
    cases this
/-- An operation that yields its value in every world that meets S may be taken first. (M: in every world at all.) -/
theorem wpF_first {i : Nat} {oi : Oper} {v : Value} (hi : ops[i]? = some oi) (hsel : ∀ (j : Nat) (o : Oper) cs b, ops[j]? = some o → o.op ≠ .select cs b)
    (hQ : ∀ c a w, Q (.panic c) (a.put oi.dst v) w → Q (.panic c) a w) :
    ∀ (fuel : Nat) (S : World → Prop) (listed : Array Bool) (a : Act) (w : World),
      (∀ j oj, ops[j]? = some oj → j ≠ i → listed.getD j true = false → (∀ e ∈ oj.after, Region.binds .any e = true → e.on ≠ i) → oi.apart ops oj = true) →
      Closed ops listed → i ∈ Region.ready .any ops listed → (YieldsIf P ops S oi v a ∧ memFree ops i = false ∨ YieldsIf P ops (fun _ => True) oi v a) → S w →
      wpF P ops Q fuel S (listed.setIfInBounds i true) (a.put oi.dst v) w → wpF P ops Q (fuel + 1) S listed a w := by
  intro fuel
  have own : ∀ (S : World → Prop) (a : Act) (w : World) (K : Act → World → Prop), (YieldsIf P ops S oi v a ∧ memFree ops i = false ∨ YieldsIf P ops (fun _ => True) oi v a) → S w → K (a.put oi.dst v) w → wpOp P ops Q i K a w := by
    intro S a w K hy hS hK
    rcases hy with hy | hy
    · exact hy.1.wpOp hi hS hK
    · exact hy.wpOp hi trivial hK
  induction fuel with
  | zero =>
    intro S listed a w _ _ hr hy hS H
    refine ⟨fun h => (by rw [h] at hr; cases hr), fun j hj => ?_⟩
    by_cases hji : j = i
    · subst hji; exact own S a w _ hy hS ⟨S, .inl rfl, hS, H⟩
    · have := ready_mono hj hji
      rw [H.1] at this
      cases this
  | succ fuel ih =>
    intro S listed a w hfree hcl hr hy hS H
    refine ⟨fun h => (by rw [h] at hr; cases hr), fun j hj => ?_⟩
    by_cases hji : j = i
    · subst hji; exact own S a w _ hy hS ⟨S, .inl rfl, hS, H⟩
    obtain ⟨hjun, oj, hoj, hall⟩ := mem_ready.1 hj
    have hnot : ∀ e ∈ oj.after, Region.binds .any e = true → e.on ≠ i := fun e he hb heq => by
      have h1 := hall e he hb
      rw [heq, getD_of_ready hr] at h1
      cases h1
    have hfree' : ∀ k ok, ops[k]? = some ok → k ≠ i → (listed.setIfInBounds j true).getD k true = false → (∀ e ∈ ok.after, Region.binds .any e = true → e.on ≠ i) → oi.apart ops ok = true := by
      intro k ok hk hki hun hno
      refine hfree k ok hk hki ?_ hno
      by_cases hjk : j = k
      · subst hjk; exact hjun
      · rw [getD_set_ne true hjk] at hun; exact hun
    rcases hy with hy | hy
    · have h2 := wpOp_putIf hoj (hfree j oj hoj hji hjun hnot) (fun cs b => hsel i oi cs b hi) (fun cs b => hsel j oj cs b hoj) hQ hy.1 (H.2 j (ready_mono hj hji))
      refine wpOp_mono (fun a' w' h3 => ?_) h2
      obtain ⟨hy', S', hS', hSw, hrest⟩ := h3
      refine ⟨S', hS', hSw, ih S' (listed.setIfInBounds j true) a' w' hfree' (closed_set hcl hj) (ready_mono hr (Ne.symm hji)) (.inl ⟨?_, hy.2⟩) hSw ?_⟩
      · rcases hS' with rfl | hc | hsub
        · exact hy'
        · exact absurd hc (not_cut hcl hr hj hji hy.2)
        · exact hy'.imp (fun ⟨hw, hv⟩ => ⟨hw, fun w h => hv w (hsub w h)⟩) id
      rw [Array.setIfInBounds_comm _ _ hji]; exact hrest
    · have h2 := wpOp_putIf hoj (hfree j oj hoj hji hjun hnot) (fun cs b => hsel i oi cs b hi) (fun cs b => hsel j oj cs b hoj) hQ hy (H.2 j (ready_mono hj hji))
      refine wpOp_mono (fun a' w' h3 => ?_) h2
      obtain ⟨hy', S', hS', hSw, hrest⟩ := h3
      refine ⟨S', hS', hSw, ih S' (listed.setIfInBounds j true) a' w' hfree' (closed_set hcl hj) (ready_mono hr (Ne.symm hji)) (.inr hy') hSw ?_⟩
      rw [Array.setIfInBounds_comm _ _ hji]; exact hrest
theorem wpF_take {i : Nat} {oi : Oper} {v : Value} {fuel : Nat} {listed : Array Bool} {a : Act} {w : World} (hi : ops[i]? = some oi)
    (hs : Region.noSelect ops = true) (hf : Region.free .any ops listed i = true) (hc : closedB ops listed = true) (hr : (Region.ready .any ops listed).contains i = true)
    (hQ : ∀ c a w, Q (.panic c) (a.put oi.dst v) w → Q (.panic c) a w) (hy : YieldsIf P ops S oi v a ∧ memFree ops i = false ∨ YieldsIf P ops (fun _ => True) oi v a) (hS : S w)
    (h : wpF P ops Q fuel S (listed.setIfInBounds i true) (a.put oi.dst v) w) : wpF P ops Q (fuel + 1) S listed a w :=
  wpF_first hi (Region.noSelect_spec hs) hQ fuel S listed a w (Region.free_spec hi hf) (closed_of hc) (by simpa using hr) hy hS h
theorem wpF_all {rs : List Nat} {fuel : Nat} {listed : Array Bool} {a : Act} {w : World} (hr : Region.ready .any ops listed = rs) (hne : rs ≠ [])
    (h : ∀ i ∈ rs, wpOp P ops Q i (fun a' w' => ∃ S', (S' = S ∨ cutB ops i = true ∨ ∀ w, S' w → S w) ∧ S' w' ∧ wpF P ops Q fuel S' (listed.setIfInBounds i true) a' w') a w) : wpF P ops Q (fuel + 1) S listed a w :=
  ⟨fun h0 => absurd (hr ▸ h0) hne, hr ▸ h⟩
theorem wpF_done {listed : Array Bool} {a : Act} {w : World} (hr : Region.ready .any ops listed = []) (h : Q .normal a w) : ∀ fuel, wpF P ops Q fuel S listed a w
  | 0 => ⟨hr, h⟩
  | _ + 1 => ⟨fun _ => h, by rw [hr]; simp⟩
theorem wpF_start {id : Nat} {a : Act} {w : World} (hm : P.follows .mixedOrders = true) (h : wpF P ops Q ops.size S (Array.replicate ops.size false) a { w with drawn := w.drawn + 1 }) : (Code.region id ops true).wp P Q a w :=
  wp_region_any hm (wpF_any _ _ _ _ _ h)
end Go.Proofs.Ytbomnihiapjmpaa.Sl

namespace Go.Proofs.Ytbomnihiapjmpaa.Sl
open Go.RowKit
set_option linter.unusedVariables false

/-! ## memory in parts: what is said of blocks that one owns (s) and of blocks that nobody writes any more (r) -/
structure HProp where
  p : (Nat → Prop) → (Nat → Prop) → Array Obj → Prop
  mono : ∀ (r r' s s' : Nat → Prop) (h h' : Array Obj), (∀ b, r b → r' b) → (∀ b, s b → s' b) → (∀ b, r b ∨ s b → h'[b]? = h[b]?) → p r s h → p r' s' h'

/-- a block of one's own -/
def Obk (b : Nat) (o : Obj) : HProp := ⟨fun _ s h => s b ∧ h[b]? = some o, fun _ _ _ _ _ _ _ hs ha ⟨h1, h2⟩ => ⟨hs _ h1, (ha b (.inr h1)).trans h2⟩⟩
/-- a row of cells of one's own -/
def Blk (b : Nat) (C : List Value) (T : TypeId) : HProp := ⟨fun _ s h => s b ∧ ∃ fr : Nat × Nat, h[b]? = some (.cells C.toArray T fr) ∧ (fr = (0, 0) ∨ T = 5 ∧ ∀ i, i < C.length → ¬ (fr.1 ≤ i ∧ i < fr.2)),
  fun _ _ _ _ _ _ _ hs ha ⟨h1, fr, h2, h3⟩ => ⟨hs _ h1, fr, (ha b (.inr h1)).trans h2, h3⟩⟩
/-- a map of one's own -/
def Mpk (b : Nat) (es : Array MapEntry) (clock : Nat) : HProp := Obk b (.map es clock)
def Pure (φ : Prop) : HProp := ⟨fun _ _ _ => φ, fun _ _ _ _ _ _ _ _ _ h => h⟩
def Ex {α : Type} (f : α → HProp) : HProp := ⟨fun r s h => ∃ x, (f x).p r s h, fun _ _ _ _ _ _ hr hs ha ⟨x, hx⟩ => ⟨x, (f x).mono _ _ _ _ _ _ hr hs ha hx⟩⟩
/-- what stays for good -/
def Ro (A : HProp) : HProp := ⟨fun r _ h => ∃ s0, (∀ b, s0 b → r b) ∧ A.p r s0 h, fun _ _ _ _ _ _ hr _ ha ⟨s0, h0, hx⟩ =>
  ⟨s0, fun b hb => hr b (h0 b hb), A.mono _ _ _ _ _ _ hr (fun _ h => h) (fun b hb => ha b (.inl (hb.elim id (h0 b)))) hx⟩⟩
/-- all that was there at W, as it was -/
def Old (W : World) : HProp := ⟨fun r _ h => ∀ b, b < W.heap.size → r b ∧ h[b]? = W.heap[b]?, fun _ _ _ _ _ _ hr _ ha h b hb => ⟨hr b (h b hb).1, (ha b (.inl (h b hb).1)).trans (h b hb).2⟩⟩

def parts : List HProp → (Nat → Prop) → (Nat → Prop) → Array Obj → Prop
  | [], _, _, _ => True
  | A :: L, r, s, h => ∃ s1 s2 : Nat → Prop, (∀ b, s1 b → s b) ∧ (∀ b, s2 b → s b) ∧ (∀ b, s1 b → ¬ s2 b) ∧ A.p r s1 h ∧ parts L r s2 h
theorem parts_mono : ∀ (L : List HProp) (r r' s s' : Nat → Prop) (h h' : Array Obj), (∀ b, r b → r' b) → (∀ b, s b → s' b) → (∀ b, r b ∨ s b → h'[b]? = h[b]?) → parts L r s h → parts L r' s' h'
  | [], _, _, _, _, _, _, _, _, _, _ => True.intro
  | A :: L, _, _, _, _, _, _, hr, hs, ha, ⟨s1, s2, h1, h2, hd, hA, hL⟩ =>
    ⟨s1, s2, fun b hb => hs b (h1 b hb), fun b hb => hs b (h2 b hb), hd, A.mono _ _ _ _ _ _ hr (fun _ h => h) (fun b hb => ha b (hb.imp id (h1 b))) hA,
      parts_mono L _ _ _ _ _ _ hr (fun _ h => h) (fun b hb => ha b (hb.imp id (h2 b))) hL⟩
def Sep (L : List HProp) : HProp := ⟨parts L, parts_mono L⟩

theorem parts_append : ∀ (L M : List HProp) (r s : Nat → Prop) (h : Array Obj), parts (L ++ M) r s h ↔ ∃ s1 s2 : Nat → Prop, (∀ b, s1 b → s b) ∧ (∀ b, s2 b → s b) ∧ (∀ b, s1 b → ¬ s2 b) ∧ parts L r s1 h ∧ parts M r s2 h
  | [], M, r, s, h => ⟨fun hM => ⟨fun _ => False, s, fun _ h => h.elim, fun _ h => h, fun _ h => h.elim, True.intro, hM⟩, fun ⟨_, _, _, h2, _, _, hM⟩ => parts_mono M _ _ _ _ _ _ (fun _ h => h) h2 (fun _ _ => rfl) hM⟩
  | A :: L, M, r, s, h => by
    constructor
    · rintro ⟨s1, s2, h1, h2, hd, hA, hr⟩
      obtain ⟨t1, t2, k1, k2, kd, hL, hM⟩ := (parts_append L M r s2 h).1 hr
      refine ⟨fun b => s1 b ∨ t1 b, t2, fun b hb => hb.elim (h1 b) (fun x => h2 b (k1 b x)), fun b hb => h2 b (k2 b hb), fun b hb hb2 => hb.elim (fun x => hd b x (k2 b hb2)) (fun x => kd b x hb2), ⟨s1, t1, fun _ h => .inl h, fun _ h => .inr h, fun b hb hb2 => hd b hb (k1 b hb2), hA, hL⟩, hM⟩
    · rintro ⟨s1, s2, h1, h2, hd, ⟨t1, t2, k1, k2, kd, hA, hL⟩, hM⟩
      refine ⟨t1, fun b => t2 b ∨ s2 b, fun b hb => h1 b (k1 b hb), fun b hb => hb.elim (fun x => h1 b (k2 b x)) (h2 b), fun b hb hb2 => hb2.elim (fun x => kd b hb x) (fun x => hd b (k1 b hb) x), hA, ?_⟩
      exact (parts_append L M r _ h).2 ⟨t2, s2, fun _ h => .inl h, fun _ h => .inr h, fun b hb hb2 => hd b (k2 b hb) hb2, hL, hM⟩

theorem parts_perm {L M : List HProp} (hp : L.Perm M) : ∀ (r s : Nat → Prop) (h : Array Obj), parts L r s h → parts M r s h := by
  induction hp with
  | nil => exact fun _ _ _ h => h
  | cons A _ ih => rintro r s h ⟨s1, s2, h1, h2, hd, hA, hL⟩; exact ⟨s1, s2, h1, h2, hd, hA, ih _ _ _ hL⟩
  | swap A B L =>
    rintro r s h ⟨s1, s2, h1, h2, hd, hA, t1, t2, k1, k2, kd, hB, hL⟩
    exact ⟨t1, fun b => s1 b ∨ t2 b, fun b hb => h2 b (k1 b hb), fun b hb => hb.elim (h1 b) (fun x => h2 b (k2 b x)), fun b hb hb2 => hb2.elim (fun x => hd b x (k1 b hb)) (kd b hb), hB,
      s1, t2, fun _ h => .inl h, fun _ h => .inr h, fun b hb hb2 => hd b hb (k2 b hb2), hA, hL⟩
  | trans _ _ i1 i2 => exact fun r s h hh => i2 r s h (i1 r s h hh)

/-- The world w: what L says, and the streams as at W. -/
structure Sat (W : World) (L : List HProp) (w : World) : Prop where
  os : w.os = W.os
  tape : w.tape = W.tape
  output : w.output = W.output
  mem : ∃ r s : Nat → Prop, (∀ b, r b → ¬ s b) ∧ (∀ b, r b ∨ s b → b < w.heap.size) ∧ parts L r s w.heap

theorem Sat.perm {W w : World} {L M : List HProp} (h : Sat W L w) (hp : L.Perm M) : Sat W M w := by
  obtain ⟨r, s, hd, hlt, hm⟩ := h.mem
  exact ⟨h.os, h.tape, h.output, r, s, hd, hlt, parts_perm hp r s _ hm⟩
theorem Sat.drop {W w : World} {A : HProp} {L : List HProp} (h : Sat W (A :: L) w) : Sat W L w := by
  obtain ⟨r, s, hd, hlt, s1, s2, h1, h2, -, -, hL⟩ := h.mem
  exact ⟨h.os, h.tape, h.output, r, s, hd, hlt, parts_mono L _ _ _ _ _ _ (fun _ h => h) h2 (fun _ _ => rfl) hL⟩
theorem Sat.dropEnd {W w : World} {L M : List HProp} (h : Sat W (L ++ M) w) : Sat W L w := by
  obtain ⟨r, s, hd, hlt, hm⟩ := h.mem
  obtain ⟨s1, s2, h1, h2, -, hL, -⟩ := (parts_append L M r s _).1 hm
  exact ⟨h.os, h.tape, h.output, r, s, hd, hlt, parts_mono L _ _ _ _ _ _ (fun _ h => h) h1 (fun _ _ => rfl) hL⟩
/-- the head holds of the world -/
def Holds (A : HProp) (w : World) : Prop := ∃ r s : Nat → Prop, (∀ b, r b ∨ s b → b < w.heap.size) ∧ A.p r s w.heap
theorem Sat.head {W w : World} {A : HProp} {L : List HProp} (h : Sat W (A :: L) w) : Holds A w := by
  obtain ⟨r, s, hd, hlt, s1, s2, h1, h2, -, hA, -⟩ := h.mem
  exact ⟨r, s1, fun b hb => hlt b (hb.imp id (h1 b)), hA⟩
theorem Sat.at {W w : World} : ∀ {L : List HProp} {A : HProp} (i : Nat), L[i]? = some A → Sat W L w → Holds A w
  | _ :: _, _, 0, hi, h => by
    simp only [List.getElem?_cons_zero, Option.some.injEq] at hi
    subst hi
    exact h.head
  | _ :: _, _, i + 1, hi, h => Sat.at i (by simpa using hi) h.drop
theorem Holds.ro {A : HProp} {w : World} (h : Holds (Ro A) w) : Holds A w := by
  obtain ⟨r, s, hlt, s0, h0, hA⟩ := h
  exact ⟨r, s0, fun b hb => hlt b (.inl (hb.elim id (h0 b))), hA⟩
theorem Holds.obk {b : Nat} {o : Obj} {w : World} (h : Holds (Obk b o) w) : w.heap[b]? = some o := by obtain ⟨_, _, _, _, h⟩ := h; exact h
theorem Holds.blk {b : Nat} {C : List Value} {T : TypeId} {w : World} (h : Holds (Blk b C T) w) : ∃ fr : Nat × Nat, w.heap[b]? = some (.cells C.toArray T fr) ∧ ∀ i, i < C.length → ¬ (fr.1 ≤ i ∧ i < fr.2) := by
  obtain ⟨_, _, _, _, fr, h, hf⟩ := h
  exact ⟨fr, h, hf.elim (fun e i _ => by subst e; simp) (·.2)⟩
theorem Holds.blk0 {b : Nat} {C : List Value} {T : TypeId} {w : World} (h : Holds (Blk b C T) w) (hT : (T == 5) = false) : w.heap[b]? = some (.cells C.toArray T (0, 0)) := by
  obtain ⟨_, _, _, _, fr, h, hf⟩ := h
  rcases hf with rfl | ⟨rfl, -⟩
  · exact h
  · simp at hT
theorem Holds.cell {b : Nat} {C : List Value} {T : TypeId} {w : World} (h : Holds (Blk b C T) w) (i : Nat) : w.cell? ⟨b, i, none⟩ = C[i]? := by
  obtain ⟨fr, h1, h2⟩ := h.blk
  simp [World.cell?, h1]
theorem Holds.free {b : Nat} {C : List Value} {T : TypeId} {w : World} (h : Holds (Blk b C T) w) {i : Nat} (hi : i < C.length) : w.frozen? ⟨b, i, none⟩ = false := by
  obtain ⟨⟨lo, hi'⟩, h1, h2⟩ := h.blk
  have := h2 i hi
  simp only [World.frozen?, h1]
  rw [Bool.and_eq_false_iff]
  simp only [decide_eq_false_iff_not]
  omega
theorem Holds.old {W w : World} (h : Holds (Old W) w) : ∀ b, b < W.heap.size → w.heap[b]? = W.heap[b]? := by obtain ⟨_, _, _, h⟩ := h; exact fun b hb => (h b hb).2
theorem Holds.old_size {W w : World} (h : Holds (Old W) w) : W.heap.size ≤ w.heap.size := by
  obtain ⟨r, s, hlt, h⟩ := h
  cases hz : W.heap.size with
  | zero => omega
  | succ n => have := hlt n (.inl (h n (by omega)).1); omega
theorem Sat.start (W : World) : Sat W [Old W] W :=
  ⟨rfl, rfl, rfl, fun b => b < W.heap.size, fun _ => False, fun _ _ h => h, fun _ h => h.elim id False.elim, fun _ => False, fun _ => False, fun _ h => h, fun _ h => h, fun _ h => h.elim, fun _ hb => ⟨hb, rfl⟩, True.intro⟩
theorem Sat.below {W w : World} {L : List HProp} (h : Sat W (Old W :: L) w) : Below W.heap.size W w :=
  ⟨h.os, h.tape, h.output, h.head.old_size, fun k hk => h.head.old k hk⟩
theorem Sat.heap {W w w' : World} {L : List HProp} (h : Sat W L w) (ho : w'.os = w.os) (ht : w'.tape = w.tape) (hu : w'.output = w.output) (hh : w'.heap = w.heap) : Sat W L w' := by
  obtain ⟨r, s, hd, hlt, hm⟩ := h.mem
  exact ⟨ho.trans h.os, ht.trans h.tape, hu.trans h.output, r, s, hd, hh ▸ hlt, hh ▸ hm⟩
theorem Sat.drew {W w : World} {L : List HProp} (h : Sat W L w) : Sat W L w.drew := h.heap rfl rfl rfl rfl

/-- one part turns, the others stay -/
theorem Sat.upd {W w : World} {A A' : HProp} {L : List HProp} (h : Sat W (A :: L) w) (w' : World) (ho : w'.os = w.os) (ht : w'.tape = w.tape) (hu : w'.output = w.output) (hz : w.heap.size ≤ w'.heap.size)
    (hA : ∀ r s : Nat → Prop, (∀ b, r b → ¬ s b) → (∀ b, r b ∨ s b → b < w.heap.size) → A.p r s w.heap →
      ∃ s' : Nat → Prop, (∀ b, s' b → s b ∨ w.heap.size ≤ b) ∧ (∀ b, s' b → b < w'.heap.size) ∧ A'.p r s' w'.heap ∧ ∀ b, ¬ s b → b < w.heap.size → w'.heap[b]? = w.heap[b]?) : Sat W (A' :: L) w' := by
  obtain ⟨r, s, hd, hlt, s1, s2, h1, h2, hs, hA1, hL⟩ := h.mem
  obtain ⟨s', k1, k2, hA', hb⟩ := hA r s1 (fun b hr hs1 => hd b hr (h1 b hs1)) (fun b hb => hlt b (hb.imp id (h1 b))) hA1
  refine ⟨ho.trans h.os, ht.trans h.tape, hu.trans h.output, r, fun b => s' b ∨ s2 b, ?_, ?_, s', s2, fun _ h => .inl h, fun _ h => .inr h, ?_, hA', ?_⟩
  · intro b hr hb2
    rcases hb2 with hb2 | hb2
    · rcases k1 b hb2 with h | h
      · exact hd b hr (h1 b h)
      · have := hlt b (.inl hr); omega
    · exact hd b hr (h2 b hb2)
  · intro b hb2
    rcases hb2 with hr | hb2 | hb2
    · exact Nat.lt_of_lt_of_le (hlt b (.inl hr)) hz
    · exact k2 b hb2
    · exact Nat.lt_of_lt_of_le (hlt b (.inr (h2 b hb2))) hz
  · intro b hb2 hb3
    rcases k1 b hb2 with h | h
    · exact hs b h hb3
    · have := hlt b (.inr (h2 b hb3)); omega
  · refine parts_mono L _ _ _ _ _ _ (fun _ h => h) (fun _ h => h) ?_ hL
    intro b hb2
    rcases hb2 with hr | hb2
    · exact hb b (fun h => hd b hr (h1 b h)) (hlt b (.inl hr))
    · exact hb b (fun h => hs b h hb2) (hlt b (.inr (h2 b hb2)))
/-- a new block -/
theorem Sat.alloc {W w : World} {L : List HProp} (h : Sat W L w) (o : Obj) : Sat W (Obk w.heap.size o :: L) (w.alloc o) := by
  have h0 : Sat W (Pure True :: L) w := by
    obtain ⟨r, s, hd, hlt, hm⟩ := h.mem
    exact ⟨h.os, h.tape, h.output, r, s, hd, hlt, fun _ => False, s, fun _ h => h.elim, fun _ h => h, fun _ h => h.elim, True.intro, hm⟩
  refine h0.upd (w.alloc o) rfl rfl rfl (by simp) fun r s hd hlt _ => ⟨fun b => b = w.heap.size, fun b hb => .inr (by omega), fun b hb => by simp; omega, ⟨rfl, heap_alloc_new w o⟩, fun b _ hb => Below.heap_alloc w o b hb⟩
theorem Sat.imp {W w : World} {A B : HProp} {L : List HProp} (h : Sat W (A :: L) w) (hi : ∀ r s h, A.p r s h → B.p r s h) : Sat W (B :: L) w := by
  obtain ⟨r, s, hd, hlt, s1, s2, h1, h2, hs, hA, hL⟩ := h.mem
  exact ⟨h.os, h.tape, h.output, r, s, hd, hlt, s1, s2, h1, h2, hs, hi _ _ _ hA, hL⟩
theorem Sat.blk {W w : World} {L : List HProp} (h : Sat W L w) (C : List Value) (T : TypeId) : Sat W (Blk w.heap.size C T :: L) (w.alloc (.cells C.toArray T)) :=
  (h.alloc (.cells C.toArray T)).imp fun _ _ _ ⟨h1, h2⟩ => ⟨h1, (0, 0), h2, .inl rfl⟩
/-- the head's block is written -/
theorem Sat.write {W w : World} {b : Nat} {o o' : Obj} {L : List HProp} (h : Sat W (Obk b o :: L) w) (w' : World) (ho : w'.os = w.os) (ht : w'.tape = w.tape) (hu : w'.output = w.output)
    (hz : w'.heap.size = w.heap.size) (hb : w'.heap[b]? = some o') (hne : ∀ k, k ≠ b → w'.heap[k]? = w.heap[k]?) : Sat W (Obk b o' :: L) w' :=
  h.upd w' ho ht hu (by omega) fun r s hd hlt ⟨hs, hbo⟩ => ⟨s, fun _ h => .inl h, fun b hb => by have := hlt b (.inr hb); omega, ⟨hs, hb⟩, fun k hk _ => hne k (fun e => hk (e ▸ hs))⟩
theorem Sat.set {W w : World} {b i : Nat} {C : List Value} {T : TypeId} {L : List HProp} (h : Sat W (Blk b C T :: L) w) (v : Value) : Sat W (Blk b (C.set i v) T :: L) (w.setCell ⟨b, i, none⟩ v) :=
  h.upd _ rfl rfl rfl (by simp) fun r s hd hlt ⟨hs, fr, hb, hf⟩ => ⟨s, fun _ h => .inl h, fun b hb => by simp; exact hlt b (.inr hb), ⟨hs, fr, by simp [World.setCell, Array.getElem?_modify, hb], by simpa using hf⟩,
    fun k hk _ => heap_setCell_other w ⟨b, i, none⟩ k v (fun e => hk (by subst e; exact hs))⟩

theorem Sat.freeze {W w : World} {A : HProp} {L : List HProp} (h : Sat W (A :: L) w) : Sat W (Ro A :: L) w := by
  obtain ⟨r, s, hd, hlt, s1, s2, h1, h2, hs, hA, hL⟩ := h.mem
  refine ⟨h.os, h.tape, h.output, fun b => r b ∨ s1 b, s2, ?_, ?_, fun _ => False, s2, fun _ h => h.elim, fun _ h => h, fun _ h => h.elim, ⟨s1, fun _ h => .inr h, ?_⟩, ?_⟩
  · intro b hb hb2
    exact hb.elim (fun x => hd b x (h2 b hb2)) (fun x => hs b x hb2)
  · intro b hb
    rcases hb with (hb | hb) | hb
    · exact hlt b (.inl hb)
    · exact hlt b (.inr (h1 b hb))
    · exact hlt b (.inr (h2 b hb))
  · exact A.mono _ _ _ _ _ _ (fun _ h => .inl h) (fun _ h => h) (fun _ _ => rfl) hA
  · exact parts_mono L _ _ _ _ _ _ (fun _ h => .inl h) (fun _ h => h) (fun _ _ => rfl) hL
theorem Sat.ro_dup {W w : World} {A : HProp} {L : List HProp} (h : Sat W (Ro A :: L) w) : Sat W (Ro A :: Ro A :: L) w := by
  obtain ⟨r, s, hd, hlt, s1, s2, h1, h2, hs, hA, hL⟩ := h.mem
  exact ⟨h.os, h.tape, h.output, r, s, hd, hlt, fun _ => False, s, fun _ h => h.elim, fun _ h => h, fun _ h => h.elim, hA, s1, s2, h1, h2, hs, hA, hL⟩
theorem Sat.old_dup {W W0 w : World} {L : List HProp} (h : Sat W (Old W0 :: L) w) : Sat W (Old W0 :: Old W0 :: L) w := by
  obtain ⟨r, s, hd, hlt, s1, s2, h1, h2, hs, hA, hL⟩ := h.mem
  exact ⟨h.os, h.tape, h.output, r, s, hd, hlt, fun _ => False, s, fun _ h => h.elim, fun _ h => h, fun _ h => h.elim, hA, s1, s2, h1, h2, hs, hA, hL⟩
theorem Sat.ex {W w : World} {α : Type} {f : α → HProp} {L : List HProp} (h : Sat W (Ex f :: L) w) : ∃ x, Sat W (f x :: L) w := by
  obtain ⟨r, s, hd, hlt, s1, s2, h1, h2, hs, ⟨x, hA⟩, hL⟩ := h.mem
  exact ⟨x, h.os, h.tape, h.output, r, s, hd, hlt, s1, s2, h1, h2, hs, hA, hL⟩
theorem Sat.ex_mk {W w : World} {α : Type} {f : α → HProp} {L : List HProp} (x : α) (h : Sat W (f x :: L) w) : Sat W (Ex f :: L) w := h.imp fun _ _ _ h => ⟨x, h⟩
theorem Sat.pure {W w : World} {φ : Prop} {L : List HProp} (h : Sat W (Pure φ :: L) w) : φ := by obtain ⟨r, s, hd, hlt, s1, s2, h1, h2, hs, hA, hL⟩ := h.mem; exact hA
theorem Sat.pure_mk {W w : World} {φ : Prop} {L : List HProp} (hφ : φ) (h : Sat W L w) : Sat W (Pure φ :: L) w := by
  obtain ⟨r, s, hd, hlt, hm⟩ := h.mem
  exact ⟨h.os, h.tape, h.output, r, s, hd, hlt, fun _ => False, s, fun _ h => h.elim, fun _ h => h, fun _ h => h.elim, hφ, hm⟩
theorem Sat.sep {W w : World} {M L : List HProp} (h : Sat W (Sep M :: L) w) : Sat W (M ++ L) w := by
  obtain ⟨r, s, hd, hlt, s1, s2, h1, h2, hs, hA, hL⟩ := h.mem
  exact ⟨h.os, h.tape, h.output, r, s, hd, hlt, (parts_append M L r s _).2 ⟨s1, s2, h1, h2, hs, hA, hL⟩⟩
theorem Sat.sep_mk {W w : World} {M L : List HProp} (h : Sat W (M ++ L) w) : Sat W (Sep M :: L) w := by
  obtain ⟨r, s, hd, hlt, hm⟩ := h.mem
  obtain ⟨s1, s2, h1, h2, hs, hA, hL⟩ := (parts_append M L r s _).1 hm
  exact ⟨h.os, h.tape, h.output, r, s, hd, hlt, s1, s2, h1, h2, hs, hA, hL⟩
theorem Sat.apart {W w : World} {b : Nat} {C : List Value} {T : TypeId} {b' : Nat} {C' : List Value} {T' : TypeId} {L : List HProp} (h : Sat W (Blk b C T :: Blk b' C' T' :: L) w) : b ≠ b' := by
  obtain ⟨r, s, hd, hlt, s1, s2, h1, h2, hs, hA, t1, t2, k1, k2, kd, hB, hL⟩ := h.mem
  intro e; subst e
  exact hs b hA.1 (k1 b hB.1)
theorem Ro.imp {A B : HProp} (hi : ∀ r s h, A.p r s h → B.p r s h) : ∀ r s h, (Ro A).p r s h → (Ro B).p r s h := fun _ _ _ ⟨s0, h0, hA⟩ => ⟨s0, h0, hi _ _ _ hA⟩
theorem Ro.of_ex {α : Type} {f : α → HProp} : ∀ r s h, (Ro (Ex f)).p r s h → (Ex fun x => Ro (f x)).p r s h := fun _ _ _ ⟨s0, h0, x, hA⟩ => ⟨x, s0, h0, hA⟩
theorem Ro.of_pure {φ : Prop} : ∀ r s h, (Ro (Pure φ)).p r s h → φ := fun _ _ _ ⟨_, _, hA⟩ => hA
theorem Ro.of_sep : ∀ (L : List HProp) (r s : Nat → Prop) (h : Array Obj), (Ro (Sep L)).p r s h → (Sep (L.map Ro)).p r s h
  | [], _, _, _, _ => True.intro
  | A :: L, r, s, h, ⟨s0, h0, s1, s2, h1, h2, hd, hA, hL⟩ =>
    ⟨fun _ => False, s, fun _ h => h.elim, fun _ h => h, fun _ h => h.elim, ⟨s1, fun b hb => h0 b (h1 b hb), hA⟩, Ro.of_sep L r s h ⟨s2, fun b hb => h0 b (h2 b hb), hL⟩⟩

/-! ## the frame -/
def look : List (Nat × Value) → Nat → Option Value
  | [], _ => none
  | (t', v) :: l, t => match Nat.beq t' t with | true => some v | false => look l t
/-- the calls that the frame has deferred so far: none, unless a local one of this class says so -/
class Dfs where
  ds : List Deferred
instance (priority := 10) Dfs.none : Dfs := ⟨[]⟩
structure Fr [D : Dfs] (n : Nat) (a : Act) (l : List (Nat × Value)) : Prop where
  size : a.tmps.size = n
  defers : a.defers = D.ds
  at_ : ∀ t v, look l t = some v → a.tmps.getD t undef = v
def ev (l : List (Nat × Value)) : Operand → Option Value
  | .tmp t => look l t
  | .const v => some v
  | .global g => some (.pointer (some ⟨g, 0, none⟩))
  | .func f => some (.func (.func f) #[] #[])
section DfsOf
variable [Dfs]
theorem Fr.ev {n : Nat} {a : Act} {l : List (Nat × Value)} (h : Fr n a l) {x : Operand} {v : Value} (hx : ev l x = some v) : a.eval x = v := by
  cases x with
  | tmp t => exact h.at_ t v hx
  | const c => exact Option.some.inj hx
  | global g => exact Option.some.inj hx
  | func f => exact Option.some.inj hx
omit [Dfs] in
theorem look_cons {t t' : Nat} {v : Value} {l : List (Nat × Value)} : look ((t', v) :: l) t = if t' = t then some v else look l t := by
  show (match Nat.beq t' t with | true => some v | false => look l t) = _
  by_cases h : t' = t
  · subst h; simp
  · have : Nat.beq t' t = false := Bool.eq_false_iff.2 (fun e => h (Nat.eq_of_beq_eq_true e))
    rw [this, if_neg h]
theorem Fr.put {n : Nat} {a : Act} {l : List (Nat × Value)} (h : Fr n a l) {d : Nat} (hd : d < n) (v : Value) : Fr n (a.put (some d) v) ((d, v) :: l) := by
  refine ⟨by simp [Act.put, h.size], h.defers, fun t u hu => ?_⟩
  rw [look_cons] at hu
  have hlt : d < a.tmps.size := by rw [h.size]; exact hd
  by_cases e : d = t
  · subst e
    simp only [if_true, Option.some.injEq] at hu
    subst hu
    simp [Act.put, hlt]
  · rw [if_neg e] at hu
    rw [← h.at_ t u hu]
    simp [Act.put, Array.getElem?_setIfInBounds_ne e]
theorem Fr.put_none {n : Nat} {a : Act} {l : List (Nat × Value)} (h : Fr n a l) (v : Value) : Fr n (a.put none v) l := h
def Sub (l l' : List (Nat × Value)) : Prop := ∀ t v, look l' t = some v → look l t = some v
omit [Dfs] in
theorem Sub.nil {l : List (Nat × Value)} : Sub l [] := fun _ _ h => by cases h
omit [Dfs] in
theorem Sub.cons {l l' : List (Nat × Value)} {t : Nat} {v : Value} (h : look l t = some v) (hs : Sub l l') : Sub l ((t, v) :: l') := fun t' v' h' => by
  rw [look_cons] at h'
  by_cases e : t = t'
  · subst e; simp only [if_true] at h'; exact h' ▸ h
  · rw [if_neg e] at h'; exact hs _ _ h'
theorem Fr.sub {n : Nat} {a : Act} {l l' : List (Nat × Value)} (h : Fr n a l) (hs : Sub l l') : Fr n a l' := ⟨h.size, h.defers, fun t v hv => h.at_ t v (hs t v hv)⟩

/-! ## what is to be shown of a piece of code -/
section
variable (P : Program) (W : World)
def WP (ops : Array Oper) (Q : Exit → Act → World → Prop) (rest : List Oper) (n : Nat) (l : List (Nat × Value)) (L : List HProp) : Prop :=
  ∀ a w, Fr n a l → Sat W L w → wpList P ops Q rest a w
def WPc (c : Code) (Q : Exit → Act → World → Prop) (n : Nat) (l : List (Nat × Value)) (L : List HProp) : Prop :=
  ∀ a w, Fr n a l → Sat W L w → c.wp P Q a w
def Out (Q : Exit → Act → World → Prop) (e : Exit) (n : Nat) (l : List (Nat × Value)) (L : List HProp) : Prop :=
  ∀ a w, Fr n a l → Sat W L w → Q e a w
def WPD (ops : Array Oper) (Q : Exit → Act → World → Prop) (S : World → Prop) (fuel : Nat) (listed : Array Bool) (n : Nat) (l : List (Nat × Value)) (L : List HProp) : Prop :=
  ∀ a w, Fr n a l → Sat W L w → wpF P ops Q fuel S listed a w
/-- an operation that yields v and turns nothing -/
def Val (n : Nat) (l : List (Nat × Value)) (G : World → Prop) (o : Oper) (v : Value) : Prop :=
  ∀ a w, Fr n a l → G w → (execOp a.eval o).run P w = .ok (.value v) w
/-- an operation that yields some v, and makes L' out of L -/
def Eff (Q : Exit → Act → World → Prop) (n : Nat) (l : List (Nat × Value)) (L : List HProp) (o : Oper) (R : Value → List HProp → Prop) : Prop :=
  ∀ a w, Fr n a l → Sat W L w → ∀ K : Act → World → Prop, (∀ v L' w', R v L' → Sat W L' w' → K (a.put o.dst v) w') → o.wp P a w K Q
end

section
variable {P : Program} {W : World} {ops : Array Oper} {Q : Exit → Act → World → Prop} {rest : List Oper} {n : Nat} {l : List (Nat × Value)} {L : List HProp} {o : Oper}

theorem WP.nil (h : Out W Q .normal n l L) : WP P W ops Q [] n l L := h
theorem WP.val {d : Tmp} {v : Value} (hg : o.guard = none) (hd : o.dst = some d) (hlt : Nat.ble (d + 1) n = true) (hv : Val P n l (Sat W L) o v) (h : WP P W ops Q rest n ((d, v) :: l) L) : WP P W ops Q (o :: rest) n l L := by
  intro a w hf hs
  refine wpList_plain hg fun K hK => ?_
  unfold Oper.wp
  rw [hv a w hf hs, Oper.upon_value, hd]
  exact hK _ _ (h _ _ (hf.put (Nat.le_of_ble_eq_true hlt) v) hs)
theorem WP.eff {d : Tmp} {R : Value → List HProp → Prop} (hg : o.guard = none) (hd : o.dst = some d) (hlt : Nat.ble (d + 1) n = true) (he : Eff P W Q n l L o R)
    (h : ∀ v L', R v L' → WP P W ops Q rest n ((d, v) :: l) L') : WP P W ops Q (o :: rest) n l L := by
  intro a w hf hs
  refine wpList_plain hg fun K hK => he a w hf hs K fun v L' w' hR hs' => ?_
  rw [hd]
  exact hK _ _ (h v L' hR _ _ (hf.put (Nat.le_of_ble_eq_true hlt) v) hs')
theorem WP.eff0 {R : Value → List HProp → Prop} (hg : o.guard = none) (hd : o.dst = none) (he : Eff P W Q n l L o R)
    (h : ∀ v L', R v L' → WP P W ops Q rest n l L') : WP P W ops Q (o :: rest) n l L := by
  intro a w hf hs
  refine wpList_plain hg fun K hK => he a w hf hs K fun v L' w' hR hs' => ?_
  rw [hd]
  exact hK _ _ (h v L' hR _ _ hf hs')

/-! guards -/
def slotAt (ops : Array Oper) (i : Nat) : Option Tmp := (ops[i]?).bind (·.dst)
theorem wanted_of {a : Act} {g : Nat} {want : Bool} {t : Tmp} {b : Bool} (hg : o.guard = some (g, want)) (ht : slotAt ops g = some t) (hn : Nat.ble (t + 1) n = true) (hf : Fr n a l) (hb : look l t = some (.bool b)) :
    Region.wanted o (yielded ops a.tmps) = (b == want) := by
  have h := hf.at_ t _ hb
  have hlt : t < a.tmps.size := by rw [hf.size]; exact Nat.le_of_ble_eq_true hn
  unfold slotAt at ht
  simp only [Region.wanted, hg, yielded, ht, Option.bind_some]
  have : a.tmps[t]? = some (.bool b) := by
    rw [Array.getElem?_eq_getElem hlt]
    simpa [hlt] using h
  rw [this]
  cases b <;> cases want <;> rfl
theorem wanted_undef {a : Act} {g : Nat} {want : Bool} {t : Tmp} (hg : o.guard = some (g, want)) (ht : slotAt ops g = some t) (hn : Nat.ble (t + 1) n = true) (hf : Fr n a l) (hb : look l t = some undef) : Region.wanted o (yielded ops a.tmps) = false := by
  have h := hf.at_ t _ hb
  have hlt : t < a.tmps.size := by rw [hf.size]; exact Nat.le_of_ble_eq_true hn
  unfold slotAt at ht
  simp only [Region.wanted, hg, yielded, ht, Option.bind_some]
  have : a.tmps[t]? = some undef := by
    rw [Array.getElem?_eq_getElem hlt]
    simpa [hlt] using h
  rw [this]
  cases want <;> rfl
theorem WP.skipU {d : Tmp} {g : Nat} {want : Bool} {t : Tmp} (hg : o.guard = some (g, want)) (ht : slotAt ops g = some t) (hn : Nat.ble (t + 1) n = true) (hb : look l t = some undef)
    (hd : o.dst = some d) (hlt : Nat.ble (d + 1) n = true) (h : WP P W ops Q rest n ((d, undef) :: l) L) : WP P W ops Q (o :: rest) n l L := by
  intro a w hf hs
  refine wpList_step fun K hK => ?_
  rw [wanted_undef hg ht hn hf hb, hd]
  exact hK _ _ (h _ _ (hf.put (Nat.le_of_ble_eq_true hlt) _) hs)
theorem WP.skip {d : Tmp} {g : Nat} {want : Bool} {t : Tmp} {b : Bool} (hg : o.guard = some (g, want)) (ht : slotAt ops g = some t) (hn : Nat.ble (t + 1) n = true) (hb : look l t = some (.bool b)) (hne : (b == want) = false)
    (hd : o.dst = some d) (hlt : Nat.ble (d + 1) n = true) (h : WP P W ops Q rest n ((d, undef) :: l) L) : WP P W ops Q (o :: rest) n l L := by
  intro a w hf hs
  refine wpList_step fun K hK => ?_
  rw [wanted_of hg ht hn hf hb, hne, hd]
  exact hK _ _ (h _ _ (hf.put (Nat.le_of_ble_eq_true hlt) _) hs)
theorem WP.skip0 {g : Nat} {want : Bool} {t : Tmp} {b : Bool} (hg : o.guard = some (g, want)) (ht : slotAt ops g = some t) (hn : Nat.ble (t + 1) n = true) (hb : look l t = some (.bool b)) (hne : (b == want) = false)
    (hd : o.dst = none) (h : WP P W ops Q rest n l L) : WP P W ops Q (o :: rest) n l L := by
  intro a w hf hs
  refine wpList_step fun K hK => ?_
  rw [wanted_of hg ht hn hf hb, hne, hd]
  exact hK _ _ (h _ _ hf hs)
theorem WP.valG {d : Tmp} {v : Value} {g : Nat} {want : Bool} {t : Tmp} {b : Bool} (hg : o.guard = some (g, want)) (ht : slotAt ops g = some t) (hn : Nat.ble (t + 1) n = true) (hb : look l t = some (.bool b)) (hne : (b == want) = true)
    (hd : o.dst = some d) (hlt : Nat.ble (d + 1) n = true) (hv : Val P n l (Sat W L) o v) (h : WP P W ops Q rest n ((d, v) :: l) L) : WP P W ops Q (o :: rest) n l L := by
  intro a w hf hs
  refine wpList_step fun K hK => ?_
  rw [wanted_of hg ht hn hf hb, hne]
  show Oper.wp P o a w K Q
  unfold Oper.wp
  rw [hv a w hf hs, Oper.upon_value, hd]
  exact hK _ _ (h _ _ (hf.put (Nat.le_of_ble_eq_true hlt) v) hs)
theorem WP.effG {d : Tmp} {R : Value → List HProp → Prop} {g : Nat} {want : Bool} {t : Tmp} {b : Bool} (hg : o.guard = some (g, want)) (ht : slotAt ops g = some t) (hn : Nat.ble (t + 1) n = true) (hb : look l t = some (.bool b)) (hne : (b == want) = true)
    (hd : o.dst = some d) (hlt : Nat.ble (d + 1) n = true) (he : Eff P W Q n l L o R) (h : ∀ v L', R v L' → WP P W ops Q rest n ((d, v) :: l) L') : WP P W ops Q (o :: rest) n l L := by
  intro a w hf hs
  refine wpList_step fun K hK => ?_
  rw [wanted_of hg ht hn hf hb, hne]
  refine he a w hf hs K fun v L' w' hR hs' => ?_
  rw [hd]
  exact hK _ _ (h v L' hR _ _ (hf.put (Nat.le_of_ble_eq_true hlt) v) hs')

/-! the parts in another order -/
theorem WP.perm {M : List HProp} (hp : L.Perm M) (h : WP P W ops Q rest n l M) : WP P W ops Q rest n l L := fun a w hf hs => h a w hf (hs.perm hp)
theorem WP.conv {M : List HProp} (hi : ∀ w, Sat W L w → Sat W M w) (h : WP P W ops Q rest n l M) : WP P W ops Q rest n l L := fun a w hf hs => h a w hf (hi w hs)
theorem WP.ex {α : Type} {f : α → HProp} (h : ∀ x, WP P W ops Q rest n l (f x :: L)) : WP P W ops Q rest n l (Ex f :: L) := fun a w hf hs => let ⟨x, hx⟩ := hs.ex; h x a w hf hx
theorem WP.pure {φ : Prop} (h : φ → WP P W ops Q rest n l L) : WP P W ops Q rest n l (Pure φ :: L) := fun a w hf hs => h hs.pure a w hf hs.drop
theorem WP.fact {φ : Prop} (hi : ∀ w, Sat W L w → φ) (h : φ → WP P W ops Q rest n l L) : WP P W ops Q rest n l L := fun a w hf hs => h (hi w hs) a w hf hs
theorem WPD.pure {S : World → Prop} {fuel : Nat} {listed : Array Bool} {φ : Prop} (h : φ → WPD P W ops Q S fuel listed n l L) : WPD P W ops Q S fuel listed n l (Pure φ :: L) := fun a w hf hs => h hs.pure a w hf hs.drop
theorem WPc.perm {c : Code} {M : List HProp} (hp : L.Perm M) (h : WPc P W c Q n l M) : WPc P W c Q n l L := fun a w hf hs => h a w hf (hs.perm hp)
theorem WPc.conv {c : Code} {M : List HProp} (hi : ∀ w, Sat W L w → Sat W M w) (h : WPc P W c Q n l M) : WPc P W c Q n l L := fun a w hf hs => h a w hf (hi w hs)
theorem WPc.sub {c : Code} {l' : List (Nat × Value)} (hl : Sub l l') (h : WPc P W c Q n l' L) : WPc P W c Q n l L := fun a w hf hs => h a w (hf.sub hl) hs
theorem WPc.ex {c : Code} {α : Type} {f : α → HProp} (h : ∀ x, WPc P W c Q n l (f x :: L)) : WPc P W c Q n l (Ex f :: L) := fun a w hf hs => let ⟨x, hx⟩ := hs.ex; h x a w hf hx
theorem WPc.pure {c : Code} {φ : Prop} (h : φ → WPc P W c Q n l L) : WPc P W c Q n l (Pure φ :: L) := fun a w hf hs => h hs.pure a w hf hs.drop
theorem WPc.fact {c : Code} {φ : Prop} (hi : ∀ w, Sat W L w → φ) (h : φ → WPc P W c Q n l L) : WPc P W c Q n l L := fun a w hf hs => h (hi w hs) a w hf hs
theorem Out.conv {e : Exit} {M : List HProp} (hi : ∀ w, Sat W L w → Sat W M w) (h : Out W Q e n l M) : Out W Q e n l L := fun a w hf hs => h a w hf (hi w hs)
theorem Out.perm {e : Exit} {M : List HProp} (hp : L.Perm M) (h : Out W Q e n l M) : Out W Q e n l L := fun a w hf hs => h a w hf (hs.perm hp)
theorem Out.fact {e : Exit} {φ : Prop} (hi : ∀ w, Sat W L w → φ) (h : φ → Out W Q e n l L) : Out W Q e n l L := fun a w hf hs => h (hi w hs) a w hf hs
theorem WPD.conv {S : World → Prop} {M : List HProp} {fuel : Nat} {listed : Array Bool} (hi : ∀ w, Sat W L w → Sat W M w) (h : WPD P W ops Q S fuel listed n l M) : WPD P W ops Q S fuel listed n l L := fun a w hf hs => h a w hf (hi w hs)
theorem WPD.perm {S : World → Prop} {M : List HProp} {fuel : Nat} {listed : Array Bool} (hp : L.Perm M) (h : WPD P W ops Q S fuel listed n l M) : WPD P W ops Q S fuel listed n l L := fun a w hf hs => h a w hf (hs.perm hp)

/-! code -/
theorem WPc.seq {x y : Code} (h : WPc P W x (Exit.then (y.wp P Q) Q) n l L) : WPc P W (.seq x y) Q n l L := fun a w hf hs => wp_seq (h a w hf hs)
theorem WPc.region {id : Nat} {l0 : List Oper} (h : WP P W l0.toArray Q l0 n l L) : WPc P W (.region id l0.toArray false) Q n l L := fun a w hf hs => wp_region_lit (h a w hf hs)
theorem WPc.block {id : Nat} {c : Code} (h : WPc P W c (Exit.inBlock id Q) n l L) : WPc P W (.block id c) Q n l L := fun a w hf hs => wp_block (h a w hf hs)
theorem WPc.skip (h : Out W Q .normal n l L) : WPc P W .skip Q n l L := fun a w hf hs => wp_skip (h a w hf hs)
theorem WPc.label {i : Nat} (h : Out W Q .normal n l L) : WPc P W (.label i) Q n l L := fun a w hf hs => wp_label (h a w hf hs)
theorem WPc.exit {id : Nat} (h : Out W Q (.exit id) n l L) : WPc P W (.exit id) Q n l L := fun a w hf hs => wp_exit (h a w hf hs)
theorem WPc.ret (h : Out W Q .ret n l L) : WPc P W .ret Q n l L := fun a w hf hs => wp_ret (h a w hf hs)
theorem WPc.cond {c : Operand} {x y : Code} {b : Bool} (hc : ev l c = some (.bool b)) (ht : b = true → WPc P W x Q n l L) (hf : b = false → WPc P W y Q n l L) : WPc P W (.cond c x y) Q n l L :=
  fun a w hfr hs => wp_cond_split (hfr.ev hc) (fun h => ht h a w hfr hs) (fun h => hf h a w hfr hs)
theorem WPc.ifP {c : Operand} {x y : Code} {p : Prop} [Decidable p] (hc : ev l c = some (.bool (decide p))) (ht : p → WPc P W x Q n l L) (hf : ¬ p → WPc P W y Q n l L) : WPc P W (.cond c x y) Q n l L :=
  .cond hc (fun h => ht (of_decide_eq_true h)) (fun h => hf (of_decide_eq_false h))
theorem WPc.condT {c : Operand} {x y : Code} {b : Bool} (hc : ev l c = some (.bool b)) (hb : b = true) (h : WPc P W x Q n l L) : WPc P W (.cond c x y) Q n l L := .cond hc (fun _ => h) (fun h0 => by rw [hb] at h0; cases h0)
theorem WPc.condF {c : Operand} {x y : Code} {b : Bool} (hc : ev l c = some (.bool b)) (hb : b = false) (h : WPc P W y Q n l L) : WPc P W (.cond c x y) Q n l L := .cond hc (fun h0 => by rw [hb] at h0; cases h0) (fun _ => h)

theorem Out.next {y : Code} (h : WPc P W y Q n l L) : Out W (Exit.then (y.wp P Q) Q) .normal n l L := h
theorem Out.then_exit {nx : Act → World → Prop} {id : Nat} (h : Out W Q (.exit id) n l L) : Out W (Exit.then nx Q) (.exit id) n l L := h
theorem Out.then_ret {nx : Act → World → Prop} (h : Out W Q .ret n l L) : Out W (Exit.then nx Q) .ret n l L := h
theorem Out.block {id : Nat} (h : Out W Q .normal n l L) : Out W (Exit.inBlock id Q) .normal n l L := h
theorem Out.block_exit {id : Nat} (h : Out W Q .normal n l L) : Out W (Exit.inBlock id Q) (.exit id) n l L := fun a w hf hs => by simp only [Exit.inBlock, if_true]; exact h a w hf hs
theorem Out.block_other {id id' : Nat} (hne : Nat.beq id' id = false) (h : Out W Q (.exit id') n l L) : Out W (Exit.inBlock id Q) (.exit id') n l L := fun a w hf hs => by
  have : id' ≠ id := fun e => by subst e; simp at hne
  simp only [Exit.inBlock, if_neg this]; exact h a w hf hs
theorem Out.block_ret {id : Nat} (h : Out W Q .ret n l L) : Out W (Exit.inBlock id Q) .ret n l L := h

open Classical in
noncomputable def leastOf (p : Nat → Prop) : Nat := if h : ∃ k, p k ∧ ∀ j, p j → k ≤ j then h.choose else 0
omit [Dfs] in
theorem least_ex {p : Nat → Prop} : ∀ k, p k → ∃ m, p m ∧ ∀ j, p j → m ≤ j := by
  intro k
  induction k using Nat.strongRecOn with
  | _ k ih =>
    intro hk
    by_cases h : ∃ j, j < k ∧ p j
    · obtain ⟨j, hj, hp⟩ := h
      exact ih j hj hp
    · exact ⟨k, hk, fun j hj => by
        rcases Nat.lt_or_ge j k with hlt | hge
        · exact absurd ⟨j, hlt, hj⟩ h
        · exact hge⟩
omit [Dfs] in
theorem leastOf_spec {p : Nat → Prop} {k : Nat} (hk : p k) : p (leastOf p) ∧ ∀ j, p j → leastOf p ≤ j := by
  have h := least_ex k hk
  unfold leastOf
  rw [dif_pos h]
  exact h.choose_spec
/-- what is so where ways meet, or at a round's end -/
def Meet (W : World) (n : Nat) {ι : Type} (I : ι → Prop) (lf : ι → List (Nat × Value)) (Lf : ι → List HProp) : Act → World → Prop := fun a w => ∃ j, I j ∧ Fr n a (lf j) ∧ Sat W (Lf j) w
def Again (W : World) (n : Nat) {ι : Type} (I : ι → Prop) (lf : ι → List (Nat × Value)) (Lf : ι → List HProp) (μ : ι → Nat) (m : Nat) : Act → World → Prop := fun a w => ∃ j, I j ∧ μ j < m ∧ Fr n a (lf j) ∧ Sat W (Lf j) w
/-- a loop: what is so at each round's head, with a number that goes down -/
theorem WPc.loop {c : Code} {ι : Type} (I : ι → Prop) (lf : ι → List (Nat × Value)) (Lf : ι → List HProp) (μ : ι → Nat) (i0 : ι) (h0 : I i0) (hl : Sub l (lf i0)) (hL : ∀ w, Sat W L w → Sat W (Lf i0) w)
    (round : ∀ i, I i → WPc P W c (Exit.then (Again W n I lf Lf μ (μ i)) Q) n (lf i) (Lf i)) : WPc P W (.loop c) Q n l L := by
  intro a w hf hs
  refine wp_loop (fun a w => ∃ i, I i ∧ Fr n a (lf i) ∧ Sat W (Lf i) w) (fun a w => leastOf fun k => ∃ i, μ i = k ∧ I i ∧ Fr n a (lf i) ∧ Sat W (Lf i) w) ⟨i0, h0, hf.sub hl, hL w hs⟩ ?_
  rintro a w ⟨i, hI, hfi, hsi⟩
  obtain ⟨⟨i', e, hI', hf', hs'⟩, -⟩ := leastOf_spec (p := fun k => ∃ i, μ i = k ∧ I i ∧ Fr n a (lf i) ∧ Sat W (Lf i) w) ⟨i, rfl, hI, hfi, hsi⟩
  refine Code.wp_mono ?_ (round i' hI' a w hf' hs')
  intro e' a' w' hq
  cases e' with
  | normal =>
    obtain ⟨j, hj, hlt, hfj, hsj⟩ := hq
    refine ⟨⟨j, hj, hfj, hsj⟩, ?_⟩
    have := (leastOf_spec (p := fun k => ∃ i, μ i = k ∧ I i ∧ Fr n a' (lf i) ∧ Sat W (Lf i) w') ⟨j, rfl, hj, hfj, hsj⟩).2 _ ⟨j, rfl, hj, hfj, hsj⟩
    show leastOf _ < leastOf _
    omega
  | _ => exact hq
theorem Out.again {ι : Type} {I : ι → Prop} {lf : ι → List (Nat × Value)} {Lf : ι → List HProp} {μ : ι → Nat} {m : Nat} (j : ι) (hI : I j) (hμ : μ j < m) (hl : Sub l (lf j)) (hL : ∀ w, Sat W L w → Sat W (Lf j) w) :
    Out W (Exit.then (Again W n I lf Lf μ m) Q) .normal n l L := fun _ w hf hs => ⟨j, hI, hμ, hf.sub hl, hL w hs⟩
/-- ways meet: what is so there -/
theorem WPc.cut {x y : Code} {ι : Type} (I : ι → Prop) (lf : ι → List (Nat × Value)) (Lf : ι → List HProp)
    (first : WPc P W x (Exit.then (Meet W n I lf Lf) Q) n l L) (second : ∀ j, I j → WPc P W y Q n (lf j) (Lf j)) : WPc P W (.seq x y) Q n l L := by
  intro a w hf hs
  refine wp_seq (Code.wp_mono ?_ (first a w hf hs))
  intro e' a' w' hq
  cases e' with
  | normal =>
    obtain ⟨j, hj, hfj, hsj⟩ := hq
    exact second j hj a' w' hfj hsj
  | _ => exact hq
theorem Out.meet {ι : Type} {I : ι → Prop} {lf : ι → List (Nat × Value)} {Lf : ι → List HProp} (j : ι) (hI : I j) (hl : Sub l (lf j)) (hL : ∀ w, Sat W L w → Sat W (Lf j) w) :
    Out W (Exit.then (Meet W n I lf Lf) Q) .normal n l L := fun _ w hf hs => ⟨j, hI, hf.sub hl, hL w hs⟩

/-! a region that draws its order -/
theorem WPD.start {id : Nat} {ops : Array Oper} (S : World → Prop) (hm : P.follows .mixedOrders = true) (h : WPD P W ops Q S ops.size (Array.replicate ops.size false) n l L) : WPc P W (.region id ops true) Q n l L :=
  fun a w hf hs => wpF_start hm (h a _ hf hs.drew)
theorem WPD.take {S : World → Prop} {fuel : Nat} {listed : Array Bool} {d : Tmp} {v : Value} (i : Nat) (hi : ops[i]? = some o) (hg : o.guard = none) (hd : o.dst = some d) (hlt : Nat.ble (d + 1) n = true)
    (hns : Region.noSelect ops = true) (hfree : Region.free .any ops listed i = true) (hcl : closedB ops listed = true) (hr : (Region.ready .any ops listed).contains i = true)
    (hQ : ∀ c a w, Q (.panic c) (a.put (some d) v) w → Q (.panic c) a w) (hmf : memFree ops i = false) (hS : ∀ w, Sat W L w → S w) (hv : Val P n l S o v)
    (h : WPD P W ops Q S fuel (listed.setIfInBounds i true) n ((d, v) :: l) L) : WPD P W ops Q S (fuel + 1) listed n l L := by
  intro a w hf hs
  refine wpF_take hi hns hfree hcl hr (by rw [hd]; exact hQ) (.inl ⟨.inl ⟨by simp [Region.wanted, hg], fun w' hS' => hv a w' hf hS'⟩, hmf⟩) (hS w hs) ?_
  rw [hd]
  exact h _ _ (hf.put (Nat.le_of_ble_eq_true hlt) v) hs
theorem WPD.takeG {S : World → Prop} {fuel : Nat} {listed : Array Bool} {d : Tmp} {v : Value} {g : Nat} {want : Bool} {t : Tmp} {b : Bool} (i : Nat) (hi : ops[i]? = some o) (hg : o.guard = some (g, want))
    (ht : slotAt ops g = some t) (hn : Nat.ble (t + 1) n = true) (hb : look l t = some (.bool b)) (hne : (b == want) = true) (hd : o.dst = some d) (hlt : Nat.ble (d + 1) n = true)
    (hns : Region.noSelect ops = true) (hfree : Region.free .any ops listed i = true) (hcl : closedB ops listed = true) (hr : (Region.ready .any ops listed).contains i = true)
    (hQ : ∀ c a w, Q (.panic c) (a.put (some d) v) w → Q (.panic c) a w) (hmf : memFree ops i = false) (hS : ∀ w, Sat W L w → S w) (hv : Val P n l S o v)
    (h : WPD P W ops Q S fuel (listed.setIfInBounds i true) n ((d, v) :: l) L) : WPD P W ops Q S (fuel + 1) listed n l L := by
  intro a w hf hs
  refine wpF_take hi hns hfree hcl hr (by rw [hd]; exact hQ) (.inl ⟨.inl ⟨by rw [wanted_of hg ht hn hf hb, hne], fun w' hS' => hv a w' hf hS'⟩, hmf⟩) (hS w hs) ?_
  rw [hd]
  exact h _ _ (hf.put (Nat.le_of_ble_eq_true hlt) v) hs
theorem WPD.takeM {S : World → Prop} {fuel : Nat} {listed : Array Bool} {d : Tmp} {v : Value} (i : Nat) (hi : ops[i]? = some o) (hg : o.guard = none) (hd : o.dst = some d) (hlt : Nat.ble (d + 1) n = true)
    (hns : Region.noSelect ops = true) (hfree : Region.free .any ops listed i = true) (hcl : closedB ops listed = true) (hr : (Region.ready .any ops listed).contains i = true)
    (hQ : ∀ c a w, Q (.panic c) (a.put (some d) v) w → Q (.panic c) a w) (hS : ∀ w, Sat W L w → S w) (hv : Val P n l (fun _ => True) o v)
    (h : WPD P W ops Q S fuel (listed.setIfInBounds i true) n ((d, v) :: l) L) : WPD P W ops Q S (fuel + 1) listed n l L := by
  intro a w hf hs
  refine wpF_take hi hns hfree hcl hr (by rw [hd]; exact hQ) (.inr (.inl ⟨by simp [Region.wanted, hg], fun w' hS' => hv a w' hf hS'⟩)) (hS w hs) ?_
  rw [hd]
  exact h _ _ (hf.put (Nat.le_of_ble_eq_true hlt) v) hs
theorem WPD.takeGM {S : World → Prop} {fuel : Nat} {listed : Array Bool} {d : Tmp} {v : Value} {g : Nat} {want : Bool} {t : Tmp} {b : Bool} (i : Nat) (hi : ops[i]? = some o) (hg : o.guard = some (g, want))
    (ht : slotAt ops g = some t) (hn : Nat.ble (t + 1) n = true) (hb : look l t = some (.bool b)) (hne : (b == want) = true) (hd : o.dst = some d) (hlt : Nat.ble (d + 1) n = true)
    (hns : Region.noSelect ops = true) (hfree : Region.free .any ops listed i = true) (hcl : closedB ops listed = true) (hr : (Region.ready .any ops listed).contains i = true)
    (hQ : ∀ c a w, Q (.panic c) (a.put (some d) v) w → Q (.panic c) a w) (hS : ∀ w, Sat W L w → S w) (hv : Val P n l (fun _ => True) o v)
    (h : WPD P W ops Q S fuel (listed.setIfInBounds i true) n ((d, v) :: l) L) : WPD P W ops Q S (fuel + 1) listed n l L := by
  intro a w hf hs
  refine wpF_take hi hns hfree hcl hr (by rw [hd]; exact hQ) (.inr (.inl ⟨by rw [wanted_of hg ht hn hf hb, hne], fun w' hS' => hv a w' hf hS'⟩)) (hS w hs) ?_
  rw [hd]
  exact h _ _ (hf.put (Nat.le_of_ble_eq_true hlt) v) hs
theorem WPD.skip {S : World → Prop} {fuel : Nat} {listed : Array Bool} {d : Tmp} {g : Nat} {want : Bool} {t : Tmp} {b : Bool} (i : Nat) (hi : ops[i]? = some o) (hg : o.guard = some (g, want))
    (ht : slotAt ops g = some t) (hn : Nat.ble (t + 1) n = true) (hb : look l t = some (.bool b)) (hne : (b == want) = false) (hd : o.dst = some d) (hlt : Nat.ble (d + 1) n = true)
    (hns : Region.noSelect ops = true) (hfree : Region.free .any ops listed i = true) (hcl : closedB ops listed = true) (hr : (Region.ready .any ops listed).contains i = true)
    (hQ : ∀ c a w, Q (.panic c) (a.put (some d) undef) w → Q (.panic c) a w) (hS : ∀ w, Sat W L w → S w)
    (h : WPD P W ops Q S fuel (listed.setIfInBounds i true) n ((d, undef) :: l) L) : WPD P W ops Q S (fuel + 1) listed n l L := by
  intro a w hf hs
  refine wpF_take (v := undef) hi hns hfree hcl hr (by rw [hd]; exact hQ) (.inr (.inr ⟨by rw [wanted_of hg ht hn hf hb, hne], rfl⟩)) (hS w hs) ?_
  rw [hd]
  exact h _ _ (hf.put (Nat.le_of_ble_eq_true hlt) _) hs
theorem WPD.skipU {S : World → Prop} {fuel : Nat} {listed : Array Bool} {d : Tmp} {g : Nat} {want : Bool} {t : Tmp} (i : Nat) (hi : ops[i]? = some o) (hg : o.guard = some (g, want))
    (ht : slotAt ops g = some t) (hn : Nat.ble (t + 1) n = true) (hb : look l t = some undef) (hd : o.dst = some d) (hlt : Nat.ble (d + 1) n = true)
    (hns : Region.noSelect ops = true) (hfree : Region.free .any ops listed i = true) (hcl : closedB ops listed = true) (hr : (Region.ready .any ops listed).contains i = true)
    (hQ : ∀ c a w, Q (.panic c) (a.put (some d) undef) w → Q (.panic c) a w) (hS : ∀ w, Sat W L w → S w)
    (h : WPD P W ops Q S fuel (listed.setIfInBounds i true) n ((d, undef) :: l) L) : WPD P W ops Q S (fuel + 1) listed n l L := by
  intro a w hf hs
  refine wpF_take (v := undef) hi hns hfree hcl hr (by rw [hd]; exact hQ) (.inr (.inr ⟨wanted_undef hg ht hn hf hb, rfl⟩)) (hS w hs) ?_
  rw [hd]
  exact h _ _ (hf.put (Nat.le_of_ble_eq_true hlt) _) hs
/-- the one operation that may come up now -/
theorem WPD.step {S : World → Prop} {fuel : Nat} {listed : Array Bool} {d : Tmp} {R : Value → List HProp → Prop} (i : Nat) (hr : Region.ready .any ops listed = [i]) (hi : ops[i]? = some o) (hg : o.guard = none) (hd : o.dst = some d) (hlt : Nat.ble (d + 1) n = true)
    (he : Eff P W Q n l L o R) (h : ∀ v L', R v L' → (∀ w, Sat W L' w → S w) ∧ WPD P W ops Q S fuel (listed.setIfInBounds i true) n ((d, v) :: l) L') : WPD P W ops Q S (fuel + 1) listed n l L := by
  intro a w hf hs
  refine wpF_all hr (by simp) fun j hj => ?_
  obtain rfl : j = i := by simpa using hj
  refine wpOp_step hi fun K hK => ?_
  rw [if_pos (by simp [Region.wanted, hg])]
  refine he a w hf hs K fun v L' w' hR hs' => ?_
  rw [hd]
  exact hK _ _ ⟨S, .inl rfl, (h v L' hR).1 w' hs', (h v L' hR).2 _ _ (hf.put (Nat.le_of_ble_eq_true hlt) v) hs'⟩
theorem WPD.step0 {S : World → Prop} {fuel : Nat} {listed : Array Bool} {R : Value → List HProp → Prop} (i : Nat) (hr : Region.ready .any ops listed = [i]) (hi : ops[i]? = some o) (hg : o.guard = none) (hd : o.dst = none)
    (he : Eff P W Q n l L o R) (h : ∀ v L', R v L' → (∀ w, Sat W L' w → S w) ∧ WPD P W ops Q S fuel (listed.setIfInBounds i true) n l L') : WPD P W ops Q S (fuel + 1) listed n l L := by
  intro a w hf hs
  refine wpF_all hr (by simp) fun j hj => ?_
  obtain rfl : j = i := by simpa using hj
  refine wpOp_step hi fun K hK => ?_
  rw [if_pos (by simp [Region.wanted, hg])]
  refine he a w hf hs K fun v L' w' hR hs' => ?_
  rw [hd]
  exact hK _ _ ⟨S, .inl rfl, (h v L' hR).1 w' hs', (h v L' hR).2 _ _ hf hs'⟩
theorem WPD.stepC {S : World → Prop} {fuel : Nat} {listed : Array Bool} {d : Tmp} {R : Value → List HProp → Prop} (i : Nat) (hr : Region.ready .any ops listed = [i]) (hi : ops[i]? = some o) (hg : o.guard = none) (hd : o.dst = some d) (hlt : Nat.ble (d + 1) n = true) (hcut : cutB ops i = true)
    (he : Eff P W Q n l L o R) (h : ∀ v L', R v L' → ∃ S', (∀ w, Sat W L' w → S' w) ∧ WPD P W ops Q S' fuel (listed.setIfInBounds i true) n ((d, v) :: l) L') : WPD P W ops Q S (fuel + 1) listed n l L := by
  intro a w hf hs
  refine wpF_all hr (by simp) fun j hj => ?_
  obtain rfl : j = i := by simpa using hj
  refine wpOp_step hi fun K hK => ?_
  rw [if_pos (by simp [Region.wanted, hg])]
  refine he a w hf hs K fun v L' w' hR hs' => ?_
  rw [hd]
  obtain ⟨S', h1, h2⟩ := h v L' hR
  exact hK _ _ ⟨S', .inr (.inl hcut), h1 w' hs', h2 _ _ (hf.put (Nat.le_of_ble_eq_true hlt) v) hs'⟩
/-- more is known of memory from here on -/
theorem WPD.stepS {S : World → Prop} {fuel : Nat} {listed : Array Bool} {d : Tmp} {R : Value → List HProp → Prop} (i : Nat) (hr : Region.ready .any ops listed = [i]) (hi : ops[i]? = some o) (hg : o.guard = none) (hd : o.dst = some d) (hlt : Nat.ble (d + 1) n = true)
    (he : Eff P W Q n l L o R) (h : ∀ v L', R v L' → ∃ S', (∀ w, S' w → S w) ∧ (∀ w, Sat W L' w → S' w) ∧ WPD P W ops Q S' fuel (listed.setIfInBounds i true) n ((d, v) :: l) L') : WPD P W ops Q S (fuel + 1) listed n l L := by
  intro a w hf hs
  refine wpF_all hr (by simp) fun j hj => ?_
  obtain rfl : j = i := by simpa using hj
  refine wpOp_step hi fun K hK => ?_
  rw [if_pos (by simp [Region.wanted, hg])]
  refine he a w hf hs K fun v L' w' hR hs' => ?_
  rw [hd]
  obtain ⟨S', h0, h1, h2⟩ := h v L' hR
  exact hK _ _ ⟨S', .inr (.inr h0), h1 w' hs', h2 _ _ (hf.put (Nat.le_of_ble_eq_true hlt) v) hs'⟩
theorem WPD.stepC0 {S : World → Prop} {fuel : Nat} {listed : Array Bool} {R : Value → List HProp → Prop} (i : Nat) (hr : Region.ready .any ops listed = [i]) (hi : ops[i]? = some o) (hg : o.guard = none) (hd : o.dst = none) (hcut : cutB ops i = true)
    (he : Eff P W Q n l L o R) (h : ∀ v L', R v L' → ∃ S', (∀ w, Sat W L' w → S' w) ∧ WPD P W ops Q S' fuel (listed.setIfInBounds i true) n l L') : WPD P W ops Q S (fuel + 1) listed n l L := by
  intro a w hf hs
  refine wpF_all hr (by simp) fun j hj => ?_
  obtain rfl : j = i := by simpa using hj
  refine wpOp_step hi fun K hK => ?_
  rw [if_pos (by simp [Region.wanted, hg])]
  refine he a w hf hs K fun v L' w' hR hs' => ?_
  rw [hd]
  obtain ⟨S', h1, h2⟩ := h v L' hR
  exact hK _ _ ⟨S', .inr (.inl hcut), h1 w' hs', h2 _ _ hf hs'⟩
/-- one of two operations that may come up now -/
def WPO (P : Program) (W : World) (ops : Array Oper) (Q : Exit → Act → World → Prop) (S : World → Prop) (fuel : Nat) (listed : Array Bool) (n : Nat) (l : List (Nat × Value)) (L : List HProp) (i : Nat) : Prop :=
  ∀ a w, Fr n a l → Sat W L w → wpOp P ops Q i (fun a' w' => ∃ S', (S' = S ∨ cutB ops i = true ∨ ∀ w, S' w → S w) ∧ S' w' ∧ wpF P ops Q fuel S' (listed.setIfInBounds i true) a' w') a w
theorem WPD.pick2 {S : World → Prop} {fuel : Nat} {listed : Array Bool} (i j : Nat) (hr : Region.ready .any ops listed = [i, j]) (h1 : WPO P W ops Q S fuel listed n l L i) (h2 : WPO P W ops Q S fuel listed n l L j) : WPD P W ops Q S (fuel + 1) listed n l L := by
  intro a w hf hs
  refine wpF_all hr (by simp) fun k hk => ?_
  rcases List.mem_cons.1 hk with rfl | hk
  · exact h1 a w hf hs
  · obtain rfl : k = j := by simpa using hk
    exact h2 a w hf hs
theorem WPO.perm {S : World → Prop} {fuel : Nat} {listed : Array Bool} {M : List HProp} {i : Nat} (hp : L.Perm M) (h : WPO P W ops Q S fuel listed n l M i) : WPO P W ops Q S fuel listed n l L i := fun a w hf hs => h a w hf (hs.perm hp)
theorem WPO.step {S : World → Prop} {fuel : Nat} {listed : Array Bool} {d : Tmp} {R : Value → List HProp → Prop} {i : Nat} (hi : ops[i]? = some o) (hg : o.guard = none) (hd : o.dst = some d) (hlt : Nat.ble (d + 1) n = true)
    (he : Eff P W Q n l L o R) (h : ∀ v L', R v L' → (∀ w, Sat W L' w → S w) ∧ WPD P W ops Q S fuel (listed.setIfInBounds i true) n ((d, v) :: l) L') : WPO P W ops Q S fuel listed n l L i := by
  intro a w hf hs
  refine wpOp_step hi fun K hK => ?_
  rw [if_pos (by simp [Region.wanted, hg])]
  refine he a w hf hs K fun v L' w' hR hs' => ?_
  rw [hd]
  exact hK _ _ ⟨S, .inl rfl, (h v L' hR).1 w' hs', (h v L' hR).2 _ _ (hf.put (Nat.le_of_ble_eq_true hlt) v) hs'⟩
theorem WPO.step0 {S : World → Prop} {fuel : Nat} {listed : Array Bool} {R : Value → List HProp → Prop} {i : Nat} (hi : ops[i]? = some o) (hg : o.guard = none) (hd : o.dst = none)
    (he : Eff P W Q n l L o R) (h : ∀ v L', R v L' → (∀ w, Sat W L' w → S w) ∧ WPD P W ops Q S fuel (listed.setIfInBounds i true) n l L') : WPO P W ops Q S fuel listed n l L i := by
  intro a w hf hs
  refine wpOp_step hi fun K hK => ?_
  rw [if_pos (by simp [Region.wanted, hg])]
  refine he a w hf hs K fun v L' w' hR hs' => ?_
  rw [hd]
  exact hK _ _ ⟨S, .inl rfl, (h v L' hR).1 w' hs', (h v L' hR).2 _ _ hf hs'⟩
theorem WPO.stepC {S : World → Prop} {fuel : Nat} {listed : Array Bool} {d : Tmp} {R : Value → List HProp → Prop} {i : Nat} (hi : ops[i]? = some o) (hg : o.guard = none) (hd : o.dst = some d) (hlt : Nat.ble (d + 1) n = true) (hcut : cutB ops i = true)
    (he : Eff P W Q n l L o R) (h : ∀ v L', R v L' → ∃ S', (∀ w, Sat W L' w → S' w) ∧ WPD P W ops Q S' fuel (listed.setIfInBounds i true) n ((d, v) :: l) L') : WPO P W ops Q S fuel listed n l L i := by
  intro a w hf hs
  refine wpOp_step hi fun K hK => ?_
  rw [if_pos (by simp [Region.wanted, hg])]
  refine he a w hf hs K fun v L' w' hR hs' => ?_
  rw [hd]
  obtain ⟨S', h1, h2⟩ := h v L' hR
  exact hK _ _ ⟨S', .inr (.inl hcut), h1 w' hs', h2 _ _ (hf.put (Nat.le_of_ble_eq_true hlt) v) hs'⟩
theorem WPO.stepS {S : World → Prop} {fuel : Nat} {listed : Array Bool} {d : Tmp} {R : Value → List HProp → Prop} {i : Nat} (hi : ops[i]? = some o) (hg : o.guard = none) (hd : o.dst = some d) (hlt : Nat.ble (d + 1) n = true)
    (he : Eff P W Q n l L o R) (h : ∀ v L', R v L' → ∃ S', (∀ w, S' w → S w) ∧ (∀ w, Sat W L' w → S' w) ∧ WPD P W ops Q S' fuel (listed.setIfInBounds i true) n ((d, v) :: l) L') : WPO P W ops Q S fuel listed n l L i := by
  intro a w hf hs
  refine wpOp_step hi fun K hK => ?_
  rw [if_pos (by simp [Region.wanted, hg])]
  refine he a w hf hs K fun v L' w' hR hs' => ?_
  rw [hd]
  obtain ⟨S', h0, h1, h2⟩ := h v L' hR
  exact hK _ _ ⟨S', .inr (.inr h0), h1 w' hs', h2 _ _ (hf.put (Nat.le_of_ble_eq_true hlt) v) hs'⟩
theorem WPO.stepC0 {S : World → Prop} {fuel : Nat} {listed : Array Bool} {R : Value → List HProp → Prop} {i : Nat} (hi : ops[i]? = some o) (hg : o.guard = none) (hd : o.dst = none) (hcut : cutB ops i = true)
    (he : Eff P W Q n l L o R) (h : ∀ v L', R v L' → ∃ S', (∀ w, Sat W L' w → S' w) ∧ WPD P W ops Q S' fuel (listed.setIfInBounds i true) n l L') : WPO P W ops Q S fuel listed n l L i := by
  intro a w hf hs
  refine wpOp_step hi fun K hK => ?_
  rw [if_pos (by simp [Region.wanted, hg])]
  refine he a w hf hs K fun v L' w' hR hs' => ?_
  rw [hd]
  obtain ⟨S', h1, h2⟩ := h v L' hR
  exact hK _ _ ⟨S', .inr (.inl hcut), h1 w' hs', h2 _ _ hf hs'⟩
theorem WPD.done {S : World → Prop} {fuel : Nat} {listed : Array Bool} (hr : Region.ready .any ops listed = []) (h : Out W Q .normal n l L) : WPD P W ops Q S fuel listed n l L := fun a w hf hs => wpF_done hr (h a w hf hs) fuel

end
end DfsOf
/-! ## functions -/
section
variable {P : Program} {W : World} {ops : Array Oper} {Q : Exit → Act → World → Prop} {rest : List Oper} {n : Nat} {l : List (Nat × Value)} {L : List HProp} {o : Oper}
/-- what a function does: out of L, what R says of its answer and of what is there then -/
def Does (P : Program) (f : FuncId) (args : List Value) (L : List HProp) (R : Value → List HProp → Prop) : Prop :=
  ∀ (W : World) (F : List HProp) (w : World), Sat W (L ++ F) w → Calls P f args.toArray w fun e w' => ∃ v L', e = .returned v ∧ R v L' ∧ Sat W (L' ++ F) w'
def Ends (W : World) (F : List HProp) (R : Value → List HProp → Prop) : Ending → World → Prop := fun e w' => ∃ v L', e = .returned v ∧ R v L' ∧ Sat W (L' ++ F) w'
def argsFrom : Nat → List Value → List (Nat × Value)
  | _, [] => []
  | i, v :: l => (i, v) :: argsFrom (i + 1) l
theorem look_args : ∀ (as_ : List Value) (i t : Nat) (v : Value), look (argsFrom i as_) t = some v → i ≤ t ∧ as_[t - i]? = some v
  | [], _, _, _, h => by cases h
  | x :: as_, i, t, v, h => by
    simp only [argsFrom] at h
    rw [look_cons] at h
    by_cases e : i = t
    · subst e; simp only [if_true] at h; simpa using h
    · rw [if_neg e] at h
      obtain ⟨h1, h2⟩ := look_args as_ (i + 1) t v h
      refine ⟨by omega, ?_⟩
      rw [show t - i = (t - (i + 1)) + 1 by omega]
      simpa using h2
theorem Does.enter {f : FuncId} {fn : Func} {c : Code} {args : List Value} {R : Value → List HProp → Prop} (n : Nat) (hf : P.funcs[f]? = some fn) (hb : fn.body = some c) (hn : fn.ntmps = n) (hle : Nat.ble args.length n = true)
    (h : ∀ (W : World) (F : List HProp), WPc P W c (bodyPost P fn (Ends W F R)) n (argsFrom 0 args) (L ++ F)) : Does P f args L R := by
  intro W F w hs
  have hle' : args.length ≤ n := Nat.le_of_ble_eq_true hle
  refine calls_of_wp hf hb (h W F _ w ⟨by simp [hn]; omega, rfl, fun t v hv => ?_⟩ hs)
  obtain ⟨-, h2⟩ := look_args args 0 t v hv
  have hlt := (List.getElem?_eq_some_iff.1 h2).1
  simp only [Nat.sub_zero] at h2 hlt
  rw [Array.getD_eq_getD_getElem?, Array.getElem?_append_left (by simpa using hlt)]
  simp [h2]
theorem Out.ret1 {fn : Func} {F : List HProp} {R : Value → List HProp → Prop} {t : Tmp} {v : Value} {L' : List HProp} (hr : fn.results = #[.tmp t]) (hv : look l t = some v) (hR : R v L') (hL : ∀ w, Sat W L w → Sat W (L' ++ F) w) :
    Out W (bodyPost P fn (Ends W F R)) .ret n l L := fun a w hf hs => ⟨hf.defers, v, by rw [results_tmp hr, hf.at_ t v hv], v, L', rfl, hR, hL w hs⟩
theorem Out.ret0 {fn : Func} {F : List HProp} {R : Value → List HProp → Prop} {L' : List HProp} (hr : fn.results = #[]) (hR : R (.tuple #[]) L') (hL : ∀ w, Sat W L w → Sat W (L' ++ F) w) :
    Out W (bodyPost P fn (Ends W F R)) .ret n l L := fun a w hf hs => ⟨hf.defers, _, results_none hr _ _ _, _, L', rfl, hR, hL w hs⟩
theorem Out.end0 {fn : Func} {F : List HProp} {R : Value → List HProp → Prop} {L' : List HProp} (hr : fn.results = #[]) (hR : R (.tuple #[]) L') (hL : ∀ w, Sat W L w → Sat W (L' ++ F) w) :
    Out W (bodyPost P fn (Ends W F R)) .normal n l L := fun a w hf hs => ⟨hf.defers, _, results_none hr _ _ _, _, L', rfl, hR, hL w hs⟩
theorem Out.ret2 {fn : Func} {F : List HProp} {R : Value → List HProp → Prop} {t u : Tmp} {v x : Value} {L' : List HProp} (hr : fn.results = #[.tmp t, .tmp u]) (hv : look l t = some v) (hx : look l u = some x)
    (hR : R (.tuple #[v, x]) L') (hL : ∀ w, Sat W L w → Sat W (L' ++ F) w) :
    Out W (bodyPost P fn (Ends W F R)) .ret n l L := fun a w hf hs => ⟨hf.defers, _, by rw [results_tmp2 hr, hf.at_ t v hv, hf.at_ u x hx], _, L', rfl, hR, hL w hs⟩
theorem Out.retRun {fn : Func} {F : List HProp} {R : Value → List HProp → Prop} {v : Value} {L' : List HProp} (hv : ∀ a w, Fr n a l → Sat W L w → (results fn a.tmps).run P w = .ok v w) (hR : R v L') (hL : ∀ w, Sat W L w → Sat W (L' ++ F) w) :
    Out W (bodyPost P fn (Ends W F R)) .ret n l L := fun a w hf hs => ⟨hf.defers, v, hv a w hf hs, v, L', rfl, hR, hL w hs⟩
theorem Does.calls {f : FuncId} {args : List Value} {R : Value → List HProp → Prop} {F : List HProp} {w : World} (h : Does P f args L R) (hs : Sat W (L ++ F) w) : Calls P f args.toArray w (Ends W F R) := h W F w hs
theorem Does.mono {f : FuncId} {args : List Value} {R R' : Value → List HProp → Prop} (h : Does P f args L R) (hi : ∀ v L', R v L' → ∃ L'', R' v L'' ∧ ∀ (W w : World) (F : List HProp), Sat W (L' ++ F) w → Sat W (L'' ++ F) w) : Does P f args L R' :=
  fun W F w hs => (h W F w hs).mono fun _ w' ⟨v, L', he, hR, hs'⟩ => let ⟨L'', h1, h2⟩ := hi v L' hR; ⟨v, L'', he, h1, h2 W w' F hs'⟩
variable [Dfs]
/-- A call. -/
theorem Eff.enter {f : FuncId} {args : List Value} {L0 F : List HProp} {R : Value → List HProp → Prop} (h : Does P f args L0 R)
    (ho : ∀ a w, Fr n a l → Sat W (L0 ++ F) w → (execOp a.eval o).run P w = .ok (.enter f args.toArray) w) : Eff P W Q n l (L0 ++ F) o (fun v L' => ∃ M, R v M ∧ L' = M ++ F) := by
  intro a w hf hs K hK
  unfold Oper.wp
  rw [ho a w hf hs, Oper.upon_enter]
  refine (h W F w hs).mono ?_
  rintro e w' ⟨v, L', rfl, hR, hs'⟩
  exact hK v (L' ++ F) w' ⟨L', hR, rfl⟩ hs'
end

/-! places in a list -/
theorem pl0 {α : Type} {L : List α} : List.Perm L L := List.Perm.refl _
theorem pl1 {α : Type} {a0 a1 : α} {L : List α} : List.Perm (a0 :: a1 :: L) (a1 :: a0 :: L) := List.Perm.swap _ _ _
theorem pl2 {α : Type} {a0 a1 a2 : α} {L : List α} : List.Perm (a0 :: a1 :: a2 :: L) (a2 :: a0 :: a1 :: L) := (List.Perm.cons _ pl1).trans (List.Perm.swap _ _ _)
theorem pl3 {α : Type} {a0 a1 a2 a3 : α} {L : List α} : List.Perm (a0 :: a1 :: a2 :: a3 :: L) (a3 :: a0 :: a1 :: a2 :: L) := (List.Perm.cons _ pl2).trans (List.Perm.swap _ _ _)
theorem pl4 {α : Type} {a0 a1 a2 a3 a4 : α} {L : List α} : List.Perm (a0 :: a1 :: a2 :: a3 :: a4 :: L) (a4 :: a0 :: a1 :: a2 :: a3 :: L) := (List.Perm.cons _ pl3).trans (List.Perm.swap _ _ _)
theorem pl5 {α : Type} {a0 a1 a2 a3 a4 a5 : α} {L : List α} : List.Perm (a0 :: a1 :: a2 :: a3 :: a4 :: a5 :: L) (a5 :: a0 :: a1 :: a2 :: a3 :: a4 :: L) := (List.Perm.cons _ pl4).trans (List.Perm.swap _ _ _)
theorem pl6 {α : Type} {a0 a1 a2 a3 a4 a5 a6 : α} {L : List α} : List.Perm (a0 :: a1 :: a2 :: a3 :: a4 :: a5 :: a6 :: L) (a6 :: a0 :: a1 :: a2 :: a3 :: a4 :: a5 :: L) := (List.Perm.cons _ pl5).trans (List.Perm.swap _ _ _)
theorem pl7 {α : Type} {a0 a1 a2 a3 a4 a5 a6 a7 : α} {L : List α} : List.Perm (a0 :: a1 :: a2 :: a3 :: a4 :: a5 :: a6 :: a7 :: L) (a7 :: a0 :: a1 :: a2 :: a3 :: a4 :: a5 :: a6 :: L) := (List.Perm.cons _ pl6).trans (List.Perm.swap _ _ _)
theorem pl8 {α : Type} {a0 a1 a2 a3 a4 a5 a6 a7 a8 : α} {L : List α} : List.Perm (a0 :: a1 :: a2 :: a3 :: a4 :: a5 :: a6 :: a7 :: a8 :: L) (a8 :: a0 :: a1 :: a2 :: a3 :: a4 :: a5 :: a6 :: a7 :: L) := (List.Perm.cons _ pl7).trans (List.Perm.swap _ _ _)
theorem pl9 {α : Type} {a0 a1 a2 a3 a4 a5 a6 a7 a8 a9 : α} {L : List α} : List.Perm (a0 :: a1 :: a2 :: a3 :: a4 :: a5 :: a6 :: a7 :: a8 :: a9 :: L) (a9 :: a0 :: a1 :: a2 :: a3 :: a4 :: a5 :: a6 :: a7 :: a8 :: L) := (List.Perm.cons _ pl8).trans (List.Perm.swap _ _ _)
theorem pl10 {α : Type} {a0 a1 a2 a3 a4 a5 a6 a7 a8 a9 a10 : α} {L : List α} : List.Perm (a0 :: a1 :: a2 :: a3 :: a4 :: a5 :: a6 :: a7 :: a8 :: a9 :: a10 :: L) (a10 :: a0 :: a1 :: a2 :: a3 :: a4 :: a5 :: a6 :: a7 :: a8 :: a9 :: L) := (List.Perm.cons _ pl9).trans (List.Perm.swap _ _ _)
theorem pl11 {α : Type} {a0 a1 a2 a3 a4 a5 a6 a7 a8 a9 a10 a11 : α} {L : List α} : List.Perm (a0 :: a1 :: a2 :: a3 :: a4 :: a5 :: a6 :: a7 :: a8 :: a9 :: a10 :: a11 :: L) (a11 :: a0 :: a1 :: a2 :: a3 :: a4 :: a5 :: a6 :: a7 :: a8 :: a9 :: a10 :: L) := (List.Perm.cons _ pl10).trans (List.Perm.swap _ _ _)
theorem pl12 {α : Type} {a0 a1 a2 a3 a4 a5 a6 a7 a8 a9 a10 a11 a12 : α} {L : List α} : List.Perm (a0 :: a1 :: a2 :: a3 :: a4 :: a5 :: a6 :: a7 :: a8 :: a9 :: a10 :: a11 :: a12 :: L) (a12 :: a0 :: a1 :: a2 :: a3 :: a4 :: a5 :: a6 :: a7 :: a8 :: a9 :: a10 :: a11 :: L) := (List.Perm.cons _ pl11).trans (List.Perm.swap _ _ _)
theorem pl13 {α : Type} {a0 a1 a2 a3 a4 a5 a6 a7 a8 a9 a10 a11 a12 a13 : α} {L : List α} : List.Perm (a0 :: a1 :: a2 :: a3 :: a4 :: a5 :: a6 :: a7 :: a8 :: a9 :: a10 :: a11 :: a12 :: a13 :: L) (a13 :: a0 :: a1 :: a2 :: a3 :: a4 :: a5 :: a6 :: a7 :: a8 :: a9 :: a10 :: a11 :: a12 :: L) := (List.Perm.cons _ pl12).trans (List.Perm.swap _ _ _)
theorem pl14 {α : Type} {a0 a1 a2 a3 a4 a5 a6 a7 a8 a9 a10 a11 a12 a13 a14 : α} {L : List α} : List.Perm (a0 :: a1 :: a2 :: a3 :: a4 :: a5 :: a6 :: a7 :: a8 :: a9 :: a10 :: a11 :: a12 :: a13 :: a14 :: L) (a14 :: a0 :: a1 :: a2 :: a3 :: a4 :: a5 :: a6 :: a7 :: a8 :: a9 :: a10 :: a11 :: a12 :: a13 :: L) := (List.Perm.cons _ pl13).trans (List.Perm.swap _ _ _)
theorem pl15 {α : Type} {a0 a1 a2 a3 a4 a5 a6 a7 a8 a9 a10 a11 a12 a13 a14 a15 : α} {L : List α} : List.Perm (a0 :: a1 :: a2 :: a3 :: a4 :: a5 :: a6 :: a7 :: a8 :: a9 :: a10 :: a11 :: a12 :: a13 :: a14 :: a15 :: L) (a15 :: a0 :: a1 :: a2 :: a3 :: a4 :: a5 :: a6 :: a7 :: a8 :: a9 :: a10 :: a11 :: a12 :: a13 :: a14 :: L) := (List.Perm.cons _ pl14).trans (List.Perm.swap _ _ _)
theorem pl16 {α : Type} {a0 a1 a2 a3 a4 a5 a6 a7 a8 a9 a10 a11 a12 a13 a14 a15 a16 : α} {L : List α} : List.Perm (a0 :: a1 :: a2 :: a3 :: a4 :: a5 :: a6 :: a7 :: a8 :: a9 :: a10 :: a11 :: a12 :: a13 :: a14 :: a15 :: a16 :: L) (a16 :: a0 :: a1 :: a2 :: a3 :: a4 :: a5 :: a6 :: a7 :: a8 :: a9 :: a10 :: a11 :: a12 :: a13 :: a14 :: a15 :: L) := (List.Perm.cons _ pl15).trans (List.Perm.swap _ _ _)
theorem pl17 {α : Type} {a0 a1 a2 a3 a4 a5 a6 a7 a8 a9 a10 a11 a12 a13 a14 a15 a16 a17 : α} {L : List α} : List.Perm (a0 :: a1 :: a2 :: a3 :: a4 :: a5 :: a6 :: a7 :: a8 :: a9 :: a10 :: a11 :: a12 :: a13 :: a14 :: a15 :: a16 :: a17 :: L) (a17 :: a0 :: a1 :: a2 :: a3 :: a4 :: a5 :: a6 :: a7 :: a8 :: a9 :: a10 :: a11 :: a12 :: a13 :: a14 :: a15 :: a16 :: L) := (List.Perm.cons _ pl16).trans (List.Perm.swap _ _ _)
theorem pl18 {α : Type} {a0 a1 a2 a3 a4 a5 a6 a7 a8 a9 a10 a11 a12 a13 a14 a15 a16 a17 a18 : α} {L : List α} : List.Perm (a0 :: a1 :: a2 :: a3 :: a4 :: a5 :: a6 :: a7 :: a8 :: a9 :: a10 :: a11 :: a12 :: a13 :: a14 :: a15 :: a16 :: a17 :: a18 :: L) (a18 :: a0 :: a1 :: a2 :: a3 :: a4 :: a5 :: a6 :: a7 :: a8 :: a9 :: a10 :: a11 :: a12 :: a13 :: a14 :: a15 :: a16 :: a17 :: L) := (List.Perm.cons _ pl17).trans (List.Perm.swap _ _ _)
theorem pl19 {α : Type} {a0 a1 a2 a3 a4 a5 a6 a7 a8 a9 a10 a11 a12 a13 a14 a15 a16 a17 a18 a19 : α} {L : List α} : List.Perm (a0 :: a1 :: a2 :: a3 :: a4 :: a5 :: a6 :: a7 :: a8 :: a9 :: a10 :: a11 :: a12 :: a13 :: a14 :: a15 :: a16 :: a17 :: a18 :: a19 :: L) (a19 :: a0 :: a1 :: a2 :: a3 :: a4 :: a5 :: a6 :: a7 :: a8 :: a9 :: a10 :: a11 :: a12 :: a13 :: a14 :: a15 :: a16 :: a17 :: a18 :: L) := (List.Perm.cons _ pl18).trans (List.Perm.swap _ _ _)
theorem pl20 {α : Type} {a0 a1 a2 a3 a4 a5 a6 a7 a8 a9 a10 a11 a12 a13 a14 a15 a16 a17 a18 a19 a20 : α} {L : List α} : List.Perm (a0 :: a1 :: a2 :: a3 :: a4 :: a5 :: a6 :: a7 :: a8 :: a9 :: a10 :: a11 :: a12 :: a13 :: a14 :: a15 :: a16 :: a17 :: a18 :: a19 :: a20 :: L) (a20 :: a0 :: a1 :: a2 :: a3 :: a4 :: a5 :: a6 :: a7 :: a8 :: a9 :: a10 :: a11 :: a12 :: a13 :: a14 :: a15 :: a16 :: a17 :: a18 :: a19 :: L) := (List.Perm.cons _ pl19).trans (List.Perm.swap _ _ _)
theorem pl21 {α : Type} {a0 a1 a2 a3 a4 a5 a6 a7 a8 a9 a10 a11 a12 a13 a14 a15 a16 a17 a18 a19 a20 a21 : α} {L : List α} : List.Perm (a0 :: a1 :: a2 :: a3 :: a4 :: a5 :: a6 :: a7 :: a8 :: a9 :: a10 :: a11 :: a12 :: a13 :: a14 :: a15 :: a16 :: a17 :: a18 :: a19 :: a20 :: a21 :: L) (a21 :: a0 :: a1 :: a2 :: a3 :: a4 :: a5 :: a6 :: a7 :: a8 :: a9 :: a10 :: a11 :: a12 :: a13 :: a14 :: a15 :: a16 :: a17 :: a18 :: a19 :: a20 :: L) := (List.Perm.cons _ pl20).trans (List.Perm.swap _ _ _)
theorem pl22 {α : Type} {a0 a1 a2 a3 a4 a5 a6 a7 a8 a9 a10 a11 a12 a13 a14 a15 a16 a17 a18 a19 a20 a21 a22 : α} {L : List α} : List.Perm (a0 :: a1 :: a2 :: a3 :: a4 :: a5 :: a6 :: a7 :: a8 :: a9 :: a10 :: a11 :: a12 :: a13 :: a14 :: a15 :: a16 :: a17 :: a18 :: a19 :: a20 :: a21 :: a22 :: L) (a22 :: a0 :: a1 :: a2 :: a3 :: a4 :: a5 :: a6 :: a7 :: a8 :: a9 :: a10 :: a11 :: a12 :: a13 :: a14 :: a15 :: a16 :: a17 :: a18 :: a19 :: a20 :: a21 :: L) := (List.Perm.cons _ pl21).trans (List.Perm.swap _ _ _)
theorem pl23 {α : Type} {a0 a1 a2 a3 a4 a5 a6 a7 a8 a9 a10 a11 a12 a13 a14 a15 a16 a17 a18 a19 a20 a21 a22 a23 : α} {L : List α} : List.Perm (a0 :: a1 :: a2 :: a3 :: a4 :: a5 :: a6 :: a7 :: a8 :: a9 :: a10 :: a11 :: a12 :: a13 :: a14 :: a15 :: a16 :: a17 :: a18 :: a19 :: a20 :: a21 :: a22 :: a23 :: L) (a23 :: a0 :: a1 :: a2 :: a3 :: a4 :: a5 :: a6 :: a7 :: a8 :: a9 :: a10 :: a11 :: a12 :: a13 :: a14 :: a15 :: a16 :: a17 :: a18 :: a19 :: a20 :: a21 :: a22 :: L) := (List.Perm.cons _ pl22).trans (List.Perm.swap _ _ _)
theorem pl24 {α : Type} {a0 a1 a2 a3 a4 a5 a6 a7 a8 a9 a10 a11 a12 a13 a14 a15 a16 a17 a18 a19 a20 a21 a22 a23 a24 : α} {L : List α} : List.Perm (a0 :: a1 :: a2 :: a3 :: a4 :: a5 :: a6 :: a7 :: a8 :: a9 :: a10 :: a11 :: a12 :: a13 :: a14 :: a15 :: a16 :: a17 :: a18 :: a19 :: a20 :: a21 :: a22 :: a23 :: a24 :: L) (a24 :: a0 :: a1 :: a2 :: a3 :: a4 :: a5 :: a6 :: a7 :: a8 :: a9 :: a10 :: a11 :: a12 :: a13 :: a14 :: a15 :: a16 :: a17 :: a18 :: a19 :: a20 :: a21 :: a22 :: a23 :: L) := (List.Perm.cons _ pl23).trans (List.Perm.swap _ _ _)
theorem st0 {α : Type} {a0 v : α} {L : List α} : List.set (a0 :: L) 0 v = v :: L := rfl
theorem st1 {α : Type} {a0 a1 v : α} {L : List α} : List.set (a0 :: a1 :: L) 1 v = a0 :: v :: L := rfl
theorem st2 {α : Type} {a0 a1 a2 v : α} {L : List α} : List.set (a0 :: a1 :: a2 :: L) 2 v = a0 :: a1 :: v :: L := rfl
theorem st3 {α : Type} {a0 a1 a2 a3 v : α} {L : List α} : List.set (a0 :: a1 :: a2 :: a3 :: L) 3 v = a0 :: a1 :: a2 :: v :: L := rfl
theorem st4 {α : Type} {a0 a1 a2 a3 a4 v : α} {L : List α} : List.set (a0 :: a1 :: a2 :: a3 :: a4 :: L) 4 v = a0 :: a1 :: a2 :: a3 :: v :: L := rfl
theorem st5 {α : Type} {a0 a1 a2 a3 a4 a5 v : α} {L : List α} : List.set (a0 :: a1 :: a2 :: a3 :: a4 :: a5 :: L) 5 v = a0 :: a1 :: a2 :: a3 :: a4 :: v :: L := rfl
theorem st6 {α : Type} {a0 a1 a2 a3 a4 a5 a6 v : α} {L : List α} : List.set (a0 :: a1 :: a2 :: a3 :: a4 :: a5 :: a6 :: L) 6 v = a0 :: a1 :: a2 :: a3 :: a4 :: a5 :: v :: L := rfl
theorem st7 {α : Type} {a0 a1 a2 a3 a4 a5 a6 a7 v : α} {L : List α} : List.set (a0 :: a1 :: a2 :: a3 :: a4 :: a5 :: a6 :: a7 :: L) 7 v = a0 :: a1 :: a2 :: a3 :: a4 :: a5 :: a6 :: v :: L := rfl
theorem st8 {α : Type} {a0 a1 a2 a3 a4 a5 a6 a7 a8 v : α} {L : List α} : List.set (a0 :: a1 :: a2 :: a3 :: a4 :: a5 :: a6 :: a7 :: a8 :: L) 8 v = a0 :: a1 :: a2 :: a3 :: a4 :: a5 :: a6 :: a7 :: v :: L := rfl
theorem st9 {α : Type} {a0 a1 a2 a3 a4 a5 a6 a7 a8 a9 v : α} {L : List α} : List.set (a0 :: a1 :: a2 :: a3 :: a4 :: a5 :: a6 :: a7 :: a8 :: a9 :: L) 9 v = a0 :: a1 :: a2 :: a3 :: a4 :: a5 :: a6 :: a7 :: a8 :: v :: L := rfl
theorem st10 {α : Type} {a0 a1 a2 a3 a4 a5 a6 a7 a8 a9 a10 v : α} {L : List α} : List.set (a0 :: a1 :: a2 :: a3 :: a4 :: a5 :: a6 :: a7 :: a8 :: a9 :: a10 :: L) 10 v = a0 :: a1 :: a2 :: a3 :: a4 :: a5 :: a6 :: a7 :: a8 :: a9 :: v :: L := rfl
theorem st11 {α : Type} {a0 a1 a2 a3 a4 a5 a6 a7 a8 a9 a10 a11 v : α} {L : List α} : List.set (a0 :: a1 :: a2 :: a3 :: a4 :: a5 :: a6 :: a7 :: a8 :: a9 :: a10 :: a11 :: L) 11 v = a0 :: a1 :: a2 :: a3 :: a4 :: a5 :: a6 :: a7 :: a8 :: a9 :: a10 :: v :: L := rfl
theorem st12 {α : Type} {a0 a1 a2 a3 a4 a5 a6 a7 a8 a9 a10 a11 a12 v : α} {L : List α} : List.set (a0 :: a1 :: a2 :: a3 :: a4 :: a5 :: a6 :: a7 :: a8 :: a9 :: a10 :: a11 :: a12 :: L) 12 v = a0 :: a1 :: a2 :: a3 :: a4 :: a5 :: a6 :: a7 :: a8 :: a9 :: a10 :: a11 :: v :: L := rfl
theorem st13 {α : Type} {a0 a1 a2 a3 a4 a5 a6 a7 a8 a9 a10 a11 a12 a13 v : α} {L : List α} : List.set (a0 :: a1 :: a2 :: a3 :: a4 :: a5 :: a6 :: a7 :: a8 :: a9 :: a10 :: a11 :: a12 :: a13 :: L) 13 v = a0 :: a1 :: a2 :: a3 :: a4 :: a5 :: a6 :: a7 :: a8 :: a9 :: a10 :: a11 :: a12 :: v :: L := rfl
theorem st14 {α : Type} {a0 a1 a2 a3 a4 a5 a6 a7 a8 a9 a10 a11 a12 a13 a14 v : α} {L : List α} : List.set (a0 :: a1 :: a2 :: a3 :: a4 :: a5 :: a6 :: a7 :: a8 :: a9 :: a10 :: a11 :: a12 :: a13 :: a14 :: L) 14 v = a0 :: a1 :: a2 :: a3 :: a4 :: a5 :: a6 :: a7 :: a8 :: a9 :: a10 :: a11 :: a12 :: a13 :: v :: L := rfl
theorem st15 {α : Type} {a0 a1 a2 a3 a4 a5 a6 a7 a8 a9 a10 a11 a12 a13 a14 a15 v : α} {L : List α} : List.set (a0 :: a1 :: a2 :: a3 :: a4 :: a5 :: a6 :: a7 :: a8 :: a9 :: a10 :: a11 :: a12 :: a13 :: a14 :: a15 :: L) 15 v = a0 :: a1 :: a2 :: a3 :: a4 :: a5 :: a6 :: a7 :: a8 :: a9 :: a10 :: a11 :: a12 :: a13 :: a14 :: v :: L := rfl
theorem st16 {α : Type} {a0 a1 a2 a3 a4 a5 a6 a7 a8 a9 a10 a11 a12 a13 a14 a15 a16 v : α} {L : List α} : List.set (a0 :: a1 :: a2 :: a3 :: a4 :: a5 :: a6 :: a7 :: a8 :: a9 :: a10 :: a11 :: a12 :: a13 :: a14 :: a15 :: a16 :: L) 16 v = a0 :: a1 :: a2 :: a3 :: a4 :: a5 :: a6 :: a7 :: a8 :: a9 :: a10 :: a11 :: a12 :: a13 :: a14 :: a15 :: v :: L := rfl
theorem st17 {α : Type} {a0 a1 a2 a3 a4 a5 a6 a7 a8 a9 a10 a11 a12 a13 a14 a15 a16 a17 v : α} {L : List α} : List.set (a0 :: a1 :: a2 :: a3 :: a4 :: a5 :: a6 :: a7 :: a8 :: a9 :: a10 :: a11 :: a12 :: a13 :: a14 :: a15 :: a16 :: a17 :: L) 17 v = a0 :: a1 :: a2 :: a3 :: a4 :: a5 :: a6 :: a7 :: a8 :: a9 :: a10 :: a11 :: a12 :: a13 :: a14 :: a15 :: a16 :: v :: L := rfl
theorem st18 {α : Type} {a0 a1 a2 a3 a4 a5 a6 a7 a8 a9 a10 a11 a12 a13 a14 a15 a16 a17 a18 v : α} {L : List α} : List.set (a0 :: a1 :: a2 :: a3 :: a4 :: a5 :: a6 :: a7 :: a8 :: a9 :: a10 :: a11 :: a12 :: a13 :: a14 :: a15 :: a16 :: a17 :: a18 :: L) 18 v = a0 :: a1 :: a2 :: a3 :: a4 :: a5 :: a6 :: a7 :: a8 :: a9 :: a10 :: a11 :: a12 :: a13 :: a14 :: a15 :: a16 :: a17 :: v :: L := rfl
theorem st19 {α : Type} {a0 a1 a2 a3 a4 a5 a6 a7 a8 a9 a10 a11 a12 a13 a14 a15 a16 a17 a18 a19 v : α} {L : List α} : List.set (a0 :: a1 :: a2 :: a3 :: a4 :: a5 :: a6 :: a7 :: a8 :: a9 :: a10 :: a11 :: a12 :: a13 :: a14 :: a15 :: a16 :: a17 :: a18 :: a19 :: L) 19 v = a0 :: a1 :: a2 :: a3 :: a4 :: a5 :: a6 :: a7 :: a8 :: a9 :: a10 :: a11 :: a12 :: a13 :: a14 :: a15 :: a16 :: a17 :: a18 :: v :: L := rfl
theorem st20 {α : Type} {a0 a1 a2 a3 a4 a5 a6 a7 a8 a9 a10 a11 a12 a13 a14 a15 a16 a17 a18 a19 a20 v : α} {L : List α} : List.set (a0 :: a1 :: a2 :: a3 :: a4 :: a5 :: a6 :: a7 :: a8 :: a9 :: a10 :: a11 :: a12 :: a13 :: a14 :: a15 :: a16 :: a17 :: a18 :: a19 :: a20 :: L) 20 v = a0 :: a1 :: a2 :: a3 :: a4 :: a5 :: a6 :: a7 :: a8 :: a9 :: a10 :: a11 :: a12 :: a13 :: a14 :: a15 :: a16 :: a17 :: a18 :: a19 :: v :: L := rfl
theorem st21 {α : Type} {a0 a1 a2 a3 a4 a5 a6 a7 a8 a9 a10 a11 a12 a13 a14 a15 a16 a17 a18 a19 a20 a21 v : α} {L : List α} : List.set (a0 :: a1 :: a2 :: a3 :: a4 :: a5 :: a6 :: a7 :: a8 :: a9 :: a10 :: a11 :: a12 :: a13 :: a14 :: a15 :: a16 :: a17 :: a18 :: a19 :: a20 :: a21 :: L) 21 v = a0 :: a1 :: a2 :: a3 :: a4 :: a5 :: a6 :: a7 :: a8 :: a9 :: a10 :: a11 :: a12 :: a13 :: a14 :: a15 :: a16 :: a17 :: a18 :: a19 :: a20 :: v :: L := rfl
theorem st22 {α : Type} {a0 a1 a2 a3 a4 a5 a6 a7 a8 a9 a10 a11 a12 a13 a14 a15 a16 a17 a18 a19 a20 a21 a22 v : α} {L : List α} : List.set (a0 :: a1 :: a2 :: a3 :: a4 :: a5 :: a6 :: a7 :: a8 :: a9 :: a10 :: a11 :: a12 :: a13 :: a14 :: a15 :: a16 :: a17 :: a18 :: a19 :: a20 :: a21 :: a22 :: L) 22 v = a0 :: a1 :: a2 :: a3 :: a4 :: a5 :: a6 :: a7 :: a8 :: a9 :: a10 :: a11 :: a12 :: a13 :: a14 :: a15 :: a16 :: a17 :: a18 :: a19 :: a20 :: a21 :: v :: L := rfl
theorem st23 {α : Type} {a0 a1 a2 a3 a4 a5 a6 a7 a8 a9 a10 a11 a12 a13 a14 a15 a16 a17 a18 a19 a20 a21 a22 a23 v : α} {L : List α} : List.set (a0 :: a1 :: a2 :: a3 :: a4 :: a5 :: a6 :: a7 :: a8 :: a9 :: a10 :: a11 :: a12 :: a13 :: a14 :: a15 :: a16 :: a17 :: a18 :: a19 :: a20 :: a21 :: a22 :: a23 :: L) 23 v = a0 :: a1 :: a2 :: a3 :: a4 :: a5 :: a6 :: a7 :: a8 :: a9 :: a10 :: a11 :: a12 :: a13 :: a14 :: a15 :: a16 :: a17 :: a18 :: a19 :: a20 :: a21 :: a22 :: v :: L := rfl
theorem st24 {α : Type} {a0 a1 a2 a3 a4 a5 a6 a7 a8 a9 a10 a11 a12 a13 a14 a15 a16 a17 a18 a19 a20 a21 a22 a23 a24 v : α} {L : List α} : List.set (a0 :: a1 :: a2 :: a3 :: a4 :: a5 :: a6 :: a7 :: a8 :: a9 :: a10 :: a11 :: a12 :: a13 :: a14 :: a15 :: a16 :: a17 :: a18 :: a19 :: a20 :: a21 :: a22 :: a23 :: a24 :: L) 24 v = a0 :: a1 :: a2 :: a3 :: a4 :: a5 :: a6 :: a7 :: a8 :: a9 :: a10 :: a11 :: a12 :: a13 :: a14 :: a15 :: a16 :: a17 :: a18 :: a19 :: a20 :: a21 :: a22 :: a23 :: v :: L := rfl

section
variable [Dfs]
theorem WP.drop {P : Program} {W : World} {ops : Array Oper} {Q : Exit → Act → World → Prop} {rest : List Oper} {n : Nat} {l : List (Nat × Value)} {A : HProp} {L : List HProp} (h : WP P W ops Q rest n l L) : WP P W ops Q rest n l (A :: L) := fun a w hf hs => h a w hf hs.drop
theorem WPc.drop {P : Program} {W : World} {c : Code} {Q : Exit → Act → World → Prop} {n : Nat} {l : List (Nat × Value)} {A : HProp} {L : List HProp} (h : WPc P W c Q n l L) : WPc P W c Q n l (A :: L) := fun a w hf hs => h a w hf hs.drop
theorem WPD.drop {P : Program} {W : World} {ops : Array Oper} {Q : Exit → Act → World → Prop} {S : World → Prop} {fuel : Nat} {listed : Array Bool} {n : Nat} {l : List (Nat × Value)} {A : HProp} {L : List HProp} (h : WPD P W ops Q S fuel listed n l L) : WPD P W ops Q S fuel listed n l (A :: L) := fun a w hf hs => h a w hf hs.drop
theorem Out.drop {W : World} {Q : Exit → Act → World → Prop} {e : Exit} {n : Nat} {l : List (Nat × Value)} {A : HProp} {L : List HProp} (h : Out W Q e n l L) : Out W Q e n l (A :: L) := fun a w hf hs => h a w hf hs.drop
theorem Fr.know {n : Nat} {a : Act} {l : List (Nat × Value)} {t : Nat} {v u : Value} (h : Fr n a l) (hl : look l t = some v) (e : v = u) : Fr n a ((t, u) :: l) := h.sub (Sub.cons (by rw [hl, e]) fun _ _ h => h)
/-- a test in a slot, both ways -/
theorem WP.split {P : Program} {W : World} {ops : Array Oper} {Q : Exit → Act → World → Prop} {rest : List Oper} {n : Nat} {l : List (Nat × Value)} {L : List HProp} (t : Nat) {p : Prop} [Decidable p] (hl : look l t = some (.bool (decide p)))
    (h1 : p → WP P W ops Q rest n ((t, .bool true) :: l) L) (h2 : ¬ p → WP P W ops Q rest n ((t, .bool false) :: l) L) : WP P W ops Q rest n l L := fun a w hf hs => by
  by_cases hp : p
  · exact h1 hp a w (hf.know hl (by simp [hp])) hs
  · exact h2 hp a w (hf.know hl (by simp [hp])) hs
theorem WPD.split {P : Program} {W : World} {ops : Array Oper} {Q : Exit → Act → World → Prop} {S : World → Prop} {fuel : Nat} {listed : Array Bool} {n : Nat} {l : List (Nat × Value)} {L : List HProp} (t : Nat) {p : Prop} [Decidable p] (hl : look l t = some (.bool (decide p)))
    (h1 : p → WPD P W ops Q S fuel listed n ((t, .bool true) :: l) L) (h2 : ¬ p → WPD P W ops Q S fuel listed n ((t, .bool false) :: l) L) : WPD P W ops Q S fuel listed n l L := fun a w hf hs => by
  by_cases hp : p
  · exact h1 hp a w (hf.know hl (by simp [hp])) hs
  · exact h2 hp a w (hf.know hl (by simp [hp])) hs
theorem WP.splitB {P : Program} {W : World} {ops : Array Oper} {Q : Exit → Act → World → Prop} {rest : List Oper} {n : Nat} {l : List (Nat × Value)} {L : List HProp} (t : Nat) {b : Bool} (hl : look l t = some (.bool b))
    (h1 : b = true → WP P W ops Q rest n ((t, .bool true) :: l) L) (h2 : b = false → WP P W ops Q rest n ((t, .bool false) :: l) L) : WP P W ops Q rest n l L := fun a w hf hs => by
  cases b
  · exact h2 rfl a w (hf.know hl rfl) hs
  · exact h1 rfl a w (hf.know hl rfl) hs
theorem WPD.splitB {P : Program} {W : World} {ops : Array Oper} {Q : Exit → Act → World → Prop} {S : World → Prop} {fuel : Nat} {listed : Array Bool} {n : Nat} {l : List (Nat × Value)} {L : List HProp} (t : Nat) {b : Bool} (hl : look l t = some (.bool b))
    (h1 : b = true → WPD P W ops Q S fuel listed n ((t, .bool true) :: l) L) (h2 : b = false → WPD P W ops Q S fuel listed n ((t, .bool false) :: l) L) : WPD P W ops Q S fuel listed n l L := fun a w hf hs => by
  cases b
  · exact h2 rfl a w (hf.know hl rfl) hs
  · exact h1 rfl a w (hf.know hl rfl) hs
/-- a slot's value, spelled otherwise -/
theorem WP.know {P : Program} {W : World} {ops : Array Oper} {Q : Exit → Act → World → Prop} {rest : List Oper} {n : Nat} {l : List (Nat × Value)} {L : List HProp} (t : Nat) (u : Value) {v : Value} (hl : look l t = some v) (e : v = u) (h : WP P W ops Q rest n ((t, u) :: l) L) : WP P W ops Q rest n l L := fun a w hf hs => h a w (hf.know hl e) hs
theorem WPc.know {P : Program} {W : World} {c : Code} {Q : Exit → Act → World → Prop} {n : Nat} {l : List (Nat × Value)} {L : List HProp} (t : Nat) (u : Value) {v : Value} (hl : look l t = some v) (e : v = u) (h : WPc P W c Q n ((t, u) :: l) L) : WPc P W c Q n l L := fun a w hf hs => h a w (hf.know hl e) hs
theorem WPD.know {P : Program} {W : World} {ops : Array Oper} {Q : Exit → Act → World → Prop} {S : World → Prop} {fuel : Nat} {listed : Array Bool} {n : Nat} {l : List (Nat × Value)} {L : List HProp} (t : Nat) (u : Value) {v : Value} (hl : look l t = some v) (e : v = u) (h : WPD P W ops Q S fuel listed n ((t, u) :: l) L) : WPD P W ops Q S fuel listed n l L := fun a w hf hs => h a w (hf.know hl e) hs
omit [Dfs] in
theorem wpList_seg {P : Program} {ops : Array Oper} {Q : Exit → Act → World → Prop} {rest : List Oper} : ∀ (l1 : List Oper) (a : Act) (w : World), wpList P ops (Exit.then (wpList P ops Q rest) Q) l1 a w → wpList P ops Q (l1 ++ rest) a w
  | [], _, _, h => h
  | o :: l1, a, w, h => by
    have hlo : LetsOut (Exit.then (wpList P ops Q rest) Q) → LetsOut Q := fun ⟨a, w, h⟩ => ⟨a, w, h⟩
    simp only [wpList, List.cons_append] at h ⊢
    split
    · rename_i hw
      rw [if_pos hw] at h
      rcases h with h | ⟨h1, h2⟩
      · refine .inl ?_
        unfold Oper.wp at *
        generalize (execOp a.eval o).run P w = r at *
        cases r with
        | ok n w' =>
          cases n <;> simp only [Oper.upon] at h ⊢ <;> first
            | exact wpList_seg l1 _ _ h
            | exact Calls.mono h (fun e w'' he => by cases e <;> first | exact wpList_seg l1 _ _ he | exact hlo he | exact he)
            | exact Rows.mono h (fun _ _ he => wpList_seg l1 _ _ he)
        | halt x w' => cases x <;> simp only [Oper.upon] at h ⊢ <;> exact h
      · exact .inr ⟨h1, hlo h2⟩
    · rename_i hw
      rw [if_neg hw] at h
      exact wpList_seg l1 _ _ h
/-- the first m operations by themselves: ways meet behind them -/
theorem WP.seg {P : Program} {W : World} {ops : Array Oper} {Q : Exit → Act → World → Prop} {rest : List Oper} {n : Nat} {l : List (Nat × Value)} {L : List HProp} (m : Nat) {ι : Type} (I : ι → Prop) (lf : ι → List (Nat × Value)) (Lf : ι → List HProp)
    (first : WP P W ops (Exit.then (Meet W n I lf Lf) Q) (rest.take m) n l L) (second : ∀ j, I j → WP P W ops Q (rest.drop m) n (lf j) (Lf j)) : WP P W ops Q rest n l L := by
  intro a w hf hs
  have h := first a w hf hs
  have hm : ∀ l1 a w, wpList P ops (Exit.then (Meet W n I lf Lf) Q) l1 a w → wpList P ops (Exit.then (wpList P ops Q (rest.drop m)) Q) l1 a w := by
    intro l1
    induction l1 with
    | nil => rintro a w ⟨j, hj, hfj, hsj⟩; exact second j hj a w hfj hsj
    | cons o l1 ih =>
      intro a w h
      have hlo : LetsOut (Exit.then (Meet W n I lf Lf) Q) → LetsOut (Exit.then (wpList P ops Q (rest.drop m)) Q) := fun ⟨a, w, h⟩ => ⟨a, w, h⟩
      simp only [wpList] at h ⊢
      split
      · rename_i hw
        rw [if_pos hw] at h
        rcases h with h | ⟨h1, h2⟩
        · refine .inl ?_
          unfold Oper.wp at *
          generalize (execOp a.eval o).run P w = r at *
          cases r with
          | ok n w' =>
            cases n <;> simp only [Oper.upon] at h ⊢ <;> first
              | exact ih _ _ h
              | exact Calls.mono h (fun e w'' he => by cases e <;> first | exact ih _ _ he | exact hlo he | exact he)
              | exact Rows.mono h (fun _ _ he => ih _ _ he)
          | halt x w' => cases x <;> simp only [Oper.upon] at h ⊢ <;> exact h
        · exact .inr ⟨h1, hlo h2⟩
      · rename_i hw
        rw [if_neg hw] at h
        exact ih _ _ h
  have := wpList_seg (rest.take m) a w (hm _ a w h)
  rwa [List.take_append_drop] at this
theorem WP.open {P : Program} {W : World} {ops : Array Oper} {Q : Exit → Act → World → Prop} {rest : List Oper} {n : Nat} {l : List (Nat × Value)} {L : List HProp} {α : Type} {f : α → List HProp} (hi : ∀ w, Sat W L w → ∃ x, Sat W (f x) w) (h : ∀ x, WP P W ops Q rest n l (f x)) : WP P W ops Q rest n l L := fun a w hf hs => let ⟨x, hx⟩ := hi w hs; h x a w hf hx
theorem WPc.open {P : Program} {W : World} {c : Code} {Q : Exit → Act → World → Prop} {n : Nat} {l : List (Nat × Value)} {L : List HProp} {α : Type} {f : α → List HProp} (hi : ∀ w, Sat W L w → ∃ x, Sat W (f x) w) (h : ∀ x, WPc P W c Q n l (f x)) : WPc P W c Q n l L := fun a w hf hs => let ⟨x, hx⟩ := hi w hs; h x a w hf hx
theorem WPD.open {P : Program} {W : World} {ops : Array Oper} {Q : Exit → Act → World → Prop} {S : World → Prop} {fuel : Nat} {listed : Array Bool} {n : Nat} {l : List (Nat × Value)} {L : List HProp} {α : Type} {f : α → List HProp} (hi : ∀ w, Sat W L w → ∃ x, Sat W (f x) w) (h : ∀ x, WPD P W ops Q S fuel listed n l (f x)) : WPD P W ops Q S fuel listed n l L := fun a w hf hs => let ⟨x, hx⟩ := hi w hs; h x a w hf hx
theorem WPD.fact {P : Program} {W : World} {ops : Array Oper} {Q : Exit → Act → World → Prop} {S : World → Prop} {fuel : Nat} {listed : Array Bool} {n : Nat} {l : List (Nat × Value)} {L : List HProp} {φ : Prop} (hi : ∀ w, Sat W L w → φ) (h : φ → WPD P W ops Q S fuel listed n l L) : WPD P W ops Q S fuel listed n l L := fun a w hf hs => h (hi w hs) a w hf hs
theorem Out.open {W : World} {Q : Exit → Act → World → Prop} {e : Exit} {n : Nat} {l : List (Nat × Value)} {L : List HProp} {α : Type} {f : α → List HProp} (hi : ∀ w, Sat W L w → ∃ x, Sat W (f x) w) (h : ∀ x, Out W Q e n l (f x)) : Out W Q e n l L := fun a w hf hs => let ⟨x, hx⟩ := hi w hs; h x a w hf hx
/-- one of two -/
theorem WPc.or {P : Program} {W : World} {c : Code} {Q : Exit → Act → World → Prop} {n : Nat} {l : List (Nat × Value)} {L : List HProp} {A B : Prop} {M M' : List HProp} (hi : ∀ w, Sat W L w → (A ∧ Sat W M w) ∨ (B ∧ Sat W M' w)) (h1 : A → WPc P W c Q n l M) (h2 : B → WPc P W c Q n l M') : WPc P W c Q n l L :=
  fun a w hf hs => (hi w hs).elim (fun ⟨x, y⟩ => h1 x a w hf y) (fun ⟨x, y⟩ => h2 x a w hf y)
theorem Out.or {W : World} {e : Exit} {Q : Exit → Act → World → Prop} {n : Nat} {l : List (Nat × Value)} {L : List HProp} {A B : Prop} {M M' : List HProp} (hi : ∀ w, Sat W L w → (A ∧ Sat W M w) ∨ (B ∧ Sat W M' w)) (h1 : A → Out W Q e n l M) (h2 : B → Out W Q e n l M') : Out W Q e n l L :=
  fun a w hf hs => (hi w hs).elim (fun ⟨x, y⟩ => h1 x a w hf y) (fun ⟨x, y⟩ => h2 x a w hf y)
end
/-- what is so ahead of a call, case by case -/
theorem Does.or {P : Program} {f : FuncId} {args : List Value} {L : List HProp} {R : Value → List HProp → Prop} {A B : Prop} {M M' : List HProp} (hi : ∀ W w F, Sat W (L ++ F) w → (A ∧ Sat W (M ++ F) w) ∨ (B ∧ Sat W (M' ++ F) w)) (h1 : A → Does P f args M R) (h2 : B → Does P f args M' R) : Does P f args L R :=
  fun W F w hs => (hi W w F hs).elim (fun ⟨x, y⟩ => h1 x W F w y) (fun ⟨x, y⟩ => h2 x W F w y)
theorem Does.open {P : Program} {f : FuncId} {args : List Value} {L : List HProp} {R : Value → List HProp → Prop} {α : Type} {g : α → List HProp} (hi : ∀ W w F, Sat W (L ++ F) w → ∃ x, Sat W (g x ++ F) w) (h : ∀ x, Does P f args (g x) R) : Does P f args L R :=
  fun W F w hs => let ⟨x, hx⟩ := hi W w F hs; h x W F w hx
theorem Does.fact {P : Program} {f : FuncId} {args : List Value} {L : List HProp} {R : Value → List HProp → Prop} {A : Prop} (hi : ∀ W w F, Sat W (L ++ F) w → A) (h : A → Does P f args L R) : Does P f args L R := fun W F w hs => h (hi W w F hs) W F w hs
theorem Does.conv {P : Program} {f : FuncId} {args : List Value} {L M : List HProp} {R : Value → List HProp → Prop} (hi : ∀ W w F, Sat W (L ++ F) w → Sat W (M ++ F) w) (h : Does P f args M R) : Does P f args L R := fun W F w hs => h W F w (hi W w F hs)
end Go.Proofs.Ytbomnihiapjmpaa.Sl

namespace Go.Proofs.Ytbomnihiapjmpaa.Sl
open Go.RowKit
set_option linter.unusedSectionVars false
set_option linter.unusedVariables false
set_option linter.unusedSimpArgs false

/-! ## closed facts on types (each is reckoned by the kernel) -/
def scal (P : Program) (t : TypeId) : Bool := match P.underlying t with | some (.struct _) | some (.array _ _) | none => false | _ => (P.info? t).map (·.size) == some 1
def aggS (P : Program) (t : TypeId) : Option Nat := match P.underlying t with | some (.struct _) | some (.array _ _) => (P.info? t).map (·.size) | _ => none
def fldO (P : Program) (s : TypeId) (f : Nat) : Option Nat := match P.underlying s with
  | some (.struct fs) => (fs[f]?).bind fun fl => (P.info? fl.type).bind fun i => if i.size = 0 then none else some fl.offset
  | _ => none
def fldS (P : Program) (s : TypeId) (f : Nat) : Option Nat := match P.underlying s with
  | some (.struct fs) => match fs[f]? with | some fl => if scal P fl.type then some fl.offset else none | none => none
  | _ => none
def fldA (P : Program) (s : TypeId) (f : Nat) : Option (Nat × Nat) := match P.underlying s with
  | some (.struct fs) => (fs[f]?).bind fun fl => (aggS P fl.type).map fun k => (fl.offset, k)
  | _ => none
def slcE (P : Program) (t : TypeId) : Option (TypeId × Nat × Nat) := match P.underlying t with | some (.slice e) => (P.info? e).map fun i => (e, i.size, i.bytes) | _ => none
def arrE (P : Program) (t : TypeId) : Option (Nat × Nat) := match P.underlying t with | some (.array len e) => (P.info? e).map fun i => (len, i.size) | _ => none
def zeroC (P : Program) (t : TypeId) : Option (List Value) := (P.info? t).bind fun i => i.zero.map fun z => z.cells.toList
def intK (P : Program) (t : TypeId) : Option IntKind := match P.underlying t with | some (.int k) => some k | _ => none
def isStr (P : Program) (t : TypeId) : Bool := match P.underlying t with | some .string => true | _ => false

theorem w64 {z : Int} (h1 : -9223372036854775808 ≤ z) (h2 : z ≤ 9223372036854775807) : IntKind.i64.wrap z = z := by
  exact IntWalk.i64_in _ ⟨by omega, by omega⟩
theorem scal_agg {P : Program} {t : TypeId} (h : scal P t = true) (w : World) : (isAgg t).run P w = .ok false w := by
  unfold scal at h
  cases hu : P.underlying t with
  | none => rw [hu] at h; cases h
  | some d => rw [hu] at h; unfold isAgg; rw [Sem.run_bind, run_underlying hu w]; cases d <;> first | rfl | cases h
theorem scal_size {P : Program} {t : TypeId} (h : scal P t = true) : (P.info? t).map (·.size) = some 1 := by
  unfold scal at h
  cases hu : P.underlying t with
  | none => rw [hu] at h; cases h
  | some d => rw [hu] at h; cases d <;> first | exact eq_of_beq h | cases h
theorem aggS_row {P : Program} {t : TypeId} {k : Nat} (h : aggS P t = some k) : ∃ d, P.underlying t = some d ∧ d.isRow = true ∧ (P.info? t).map (·.size) = some k := by
  unfold aggS at h
  cases hu : P.underlying t with
  | none => rw [hu] at h; cases h
  | some d => rw [hu] at h; cases d <;> first | exact ⟨_, rfl, rfl, h⟩ | cases h

section
variable [Dfs]
variable {P : Program} {W : World} {n : Nat} {l : List (Nat × Value)} {L : List HProp} {o : Oper} {Q : Exit → Act → World → Prop} {G : World → Prop}

/-! ## cells -/
theorem Sat.cell {w : World} {b : Nat} {C : List Value} {T : TypeId} {i : Nat} {v : Value} (k : Nat) (hk : L[k]? = some (Blk b C T)) (hi : C[i]? = some v) (h : Sat W L w) : w.cell? ⟨b, i, none⟩ = some v := by
  exact ((h.at k hk).cell i).trans hi
theorem Sat.cellRo {w : World} {b : Nat} {C : List Value} {T : TypeId} {i : Nat} {v : Value} (k : Nat) (hk : L[k]? = some (Ro (Blk b C T))) (hi : C[i]? = some v) (h : Sat W L w) : w.cell? ⟨b, i, none⟩ = some v := by
  exact ((h.at k hk).ro.cell i).trans hi
theorem old_lt {W0 : World} {a : Addr} {v : Value} (h : W0.cell? a = some v) : a.block < W0.heap.size := World.block_lt_of_cell? W0 a h
theorem Sat.cellOld {w W0 : World} {a : Addr} {v : Value} (k : Nat) (hk : L[k]? = some (Old W0)) (hv : W0.cell? a = some v) (h : Sat W L w) : w.cell? a = some v := by
  have := (h.at k hk).old a.block (old_lt hv)
  exact (World.cell?_of_block this).trans hv
theorem Holds.cell_range {w : World} {b o0 : Nat} {C cs : List Value} {T : TypeId} (h : Holds (Blk b C T) w) (hc : (C.drop o0).take cs.length = cs) : w.rangeAt b o0 cs := by
  intro j v hj
  rw [h.cell]
  rw [← hc, List.getElem?_take] at hj
  split at hj
  · simpa using hj
  · cases hj
theorem Sat.range {w : World} {b o0 : Nat} {C cs : List Value} {T : TypeId} (k : Nat) (hk : L[k]? = some (Blk b C T)) (hc : (C.drop o0).take cs.length = cs) (h : Sat W L w) : w.rangeAt b o0 cs := by
  intro j v hj
  refine h.cell k hk ?_
  rw [← hc, List.getElem?_take] at hj
  split at hj
  · simpa using hj
  · cases hj
theorem Sat.rangeRo {w : World} {b o0 : Nat} {C cs : List Value} {T : TypeId} (k : Nat) (hk : L[k]? = some (Ro (Blk b C T))) (hc : (C.drop o0).take cs.length = cs) (h : Sat W L w) : w.rangeAt b o0 cs := by
  intro j v hj
  refine h.cellRo k hk ?_
  rw [← hc, List.getElem?_take] at hj
  split at hj
  · simpa using hj
  · cases hj
theorem Sat.rangeOld {w W0 : World} {b o0 : Nat} {cs : List Value} (k : Nat) (hk : L[k]? = some (Old W0)) (hc : W0.rangeAt b o0 cs) (h : Sat W L w) : w.rangeAt b o0 cs :=
  fun j v hj => h.cellOld k hk (hc j v hj)

/-! ## operations that only yield -/
theorem Val.move {x : Operand} {v : Value} (ho : o.op = .move x) (hx : ev l x = some v) : Val P n l G o v := fun a w hf hs => by
  simp only [execOp, ho, hf.ev hx]; rfl
theorem Val.assign {x : Operand} {v : Value} (ho : o.op = .assign x) (hx : ev l x = some v) : Val P n l G o v := fun a w hf hs => by
  simp only [execOp, ho, hf.ev hx]; rfl
theorem Val.pick {c x y : Operand} {b : Bool} {u v r : Value} (ho : o.op = .pick c x y) (hc : ev l c = some (.bool b)) (hx : ev l (bif b then x else y) = some r) : Val P n l G o r := fun a w hf hs => by
  have e : (bif b then a.eval x else a.eval y) = r := by cases b <;> exact hf.ev hx
  simp only [execOp, ho, hf.ev hc, asBool]
  cases b <;> (simp at e; simp [e])
theorem Val.pickT {c x y : Operand} {r : Value} (ho : o.op = .pick c x y) (hc : ev l c = some (.bool true)) (hx : ev l x = some r) : Val P n l G o r := fun a w hf hs => by
  simp [execOp, ho, hf.ev hc, asBool, hf.ev hx]
theorem Val.pickF {c x y : Operand} {r : Value} (ho : o.op = .pick c x y) (hc : ev l c = some (.bool false)) (hx : ev l y = some r) : Val P n l G o r := fun a w hf hs => by
  simp [execOp, ho, hf.ev hc, asBool, hf.ev hx]
theorem Val.load {t : TypeId} {x : Operand} {p : Addr} {v : Value} (ho : o.op = .load t x) (ht : scal P t = true) (hx : ev l x = some (.pointer (some p))) (hc : ∀ w, G w → w.cell? p = some v) : Val P n l G o v := fun a w hf hs => by
  simp [execOp, ho, hf.ev hx, Instr.loadAt, Instr.sureAddr, loadVar, Sem.run_bind, scal_agg ht, Go.load, Sem.run, hc w hs]
theorem Val.loadAgg {t : TypeId} {x : Operand} {b i k : Nat} {cs : List Value} (ho : o.op = .load t x) (ht : aggS P t = some k) (hx : ev l x = some (.pointer (some ⟨b, i, none⟩))) (hk : cs.length = k)
    (hc : ∀ w, G w → w.rangeAt b i cs) : Val P n l G o (.agg cs.toArray) := fun a w hf hs => by
  obtain ⟨d, h1, h2, h3⟩ := aggS_row ht
  have := run_loadAt_mid (P := P) w b i t cs d (hc w hs) h1 h2 (by rw [h3, hk])
  simp only [execOp, ho, hf.ev hx, Sem.run_bind, this]
  rfl
theorem Val.nilCheck {x : Operand} {p : Addr} (ho : o.op = .nilCheck x) (hx : ev l x = some (.pointer (some p))) : Val P n l G o (.pointer (some p)) := fun a w hf hs => by
  simp only [execOp, ho, hf.ev hx]; rfl
theorem Val.nilCheckF {x : Operand} {f : FuncId} {xs cs : Array Value} (ho : o.op = .nilCheck x) (hx : ev l x = some (.func (.func f) xs cs)) : Val P n l G o (.func (.func f) xs cs) := fun a w hf hs => by
  simp only [execOp, ho, hf.ev hx]; rfl
theorem Val.nilCheckI {x : Operand} {t : TypeId} {v : Value} (ho : o.op = .nilCheck x) (hx : ev l x = some (.iface t v)) : Val P n l G o (.iface t v) := fun a w hf hs => by
  simp only [execOp, ho, hf.ev hx]; rfl
theorem Val.fieldAddr {s : TypeId} {x : Operand} {f b i k j : Nat} (ho : o.op = .fieldAddr s x f) (ht : fldO P s f = some k) (hx : ev l x = some (.pointer (some ⟨b, i, none⟩))) (hj : i + k = j) :
    Val P n l G o (.pointer (some ⟨b, j, none⟩)) := fun a w hf hs => by
  subst hj
  unfold fldO at ht
  cases hu : P.underlying s with
  | none => rw [hu] at ht; cases ht
  | some d =>
    rw [hu] at ht
    cases d with
    | struct fs =>
      simp only at ht
      cases hfl : fs[f]? with
      | none => rw [hfl] at ht; cases ht
      | some fl =>
        rw [hfl] at ht
        simp only [Option.bind_some] at ht
        cases hi : P.info? fl.type with
        | none => rw [hi] at ht; cases ht
        | some inf =>
          rw [hi] at ht
          simp only [Option.bind_some] at ht
          split at ht
          · cases ht
          · rename_i hz
            simp only [Option.some.injEq] at ht
            subst ht
            simp [execOp, ho, hf.ev hx, Instr.fieldAt, Instr.sureAddr, run_underlying hu w, hfl, fieldPlace, sizeOf, typeInfo, hi, hz, Addr.add_mid]
    | _ => cases ht
theorem Val.field {s : TypeId} {x : Operand} {f k : Nat} {cs : Array Value} {v : Value} (ho : o.op = .field s x f) (ht : fldS P s f = some k) (hx : ev l x = some (.agg cs)) (hv : cs[k]? = some v) : Val P n l G o v := fun a w hf hs => by
  unfold fldS at ht
  cases hu : P.underlying s with
  | none => rw [hu] at ht; cases ht
  | some d =>
    rw [hu] at ht
    cases d with
    | struct fs =>
      simp only at ht
      cases hfl : fs[f]? with
      | none => rw [hfl] at ht; cases ht
      | some fl =>
        rw [hfl] at ht
        simp only at ht
        split at ht
        · rename_i hz
          simp only [Option.some.injEq] at ht
          subst ht
          simp [execOp, ho, hf.ev hx, Instr.field, run_underlying hu w, hfl, asAgg, part, scal_agg hz, hv]
        · cases ht
    | _ => cases ht
theorem Val.fieldAgg {s : TypeId} {x : Operand} {f k m : Nat} {cs : Array Value} {ds : List Value} (ho : o.op = .field s x f) (ht : fldA P s f = some (k, m)) (hx : ev l x = some (.agg cs)) (hv : cs.extract k (k + m) = ds.toArray) :
    Val P n l G o (.agg ds.toArray) := fun a w hf hs => by
  unfold fldA at ht
  cases hu : P.underlying s with
  | none => rw [hu] at ht; cases ht
  | some d =>
    rw [hu] at ht
    cases d with
    | struct fs =>
      simp only at ht
      cases hfl : fs[f]? with
      | none => rw [hfl] at ht; cases ht
      | some fl =>
        rw [hfl] at ht
        simp only [Option.bind_some] at ht
        cases hz : aggS P fl.type with
        | none => rw [hz] at ht; cases ht
        | some q =>
          rw [hz] at ht
          simp only [Option.map_some, Option.some.injEq, Prod.mk.injEq] at ht
          obtain ⟨rfl, rfl⟩ := ht
          obtain ⟨d', h1, h2, h3⟩ := aggS_row hz
          have hagg : (isAgg fl.type).run P w = .ok true w := by
            unfold isAgg
            rw [Sem.run_bind, run_underlying h1 w]
            cases d' <;> simp_all
          cases hi : P.info? fl.type with
          | none => rw [hi] at h3; cases h3
          | some inf =>
            have hsz : inf.size = q := by rw [hi] at h3; simpa using h3
            simp [execOp, ho, hf.ev hx, Instr.field, run_underlying hu w, hfl, asAgg, part, hagg, sizeOf, typeInfo, hi, hsz, hv]
    | _ => cases ht
theorem slcE_of {t e : TypeId} {k by_ : Nat} (ht : slcE P t = some (e, k, by_)) : ∃ i, P.underlying t = some (.slice e) ∧ P.info? e = some i ∧ i.size = k ∧ i.bytes = by_ := by
  unfold slcE at ht
  cases hu : P.underlying t with
  | none => rw [hu] at ht; cases ht
  | some d =>
    rw [hu] at ht
    cases d with
    | slice e' =>
      simp only at ht
      cases hi : P.info? e' with
      | none => rw [hi] at ht; cases ht
      | some i =>
        rw [hi] at ht
        simp only [Option.map_some, Option.some.injEq, Prod.mk.injEq] at ht
        obtain ⟨rfl, rfl, rfl⟩ := ht
        exact ⟨i, rfl, hi, rfl, rfl⟩
    | _ => cases ht
theorem Val.indexAddr {t e : TypeId} {x y : Operand} {k by_ b i len cap j q : Nat} {ki : IntKind} {z : Int} (ho : o.op = .indexAddr t x y) (ht : slcE P t = some (e, k, by_)) (hx : ev l x = some (.slice (some ⟨b, i, none⟩) len cap))
    (hy : ev l y = some (.int ki z)) (hz : z = (j : Int)) (hj : j < len) (hq : i + j * k = q) : Val P n l G o (.pointer (some ⟨b, q, none⟩)) := fun a w hf hs => by
  subst hq hz
  obtain ⟨inf, hu, hi, rfl, rfl⟩ := slcE_of ht
  have h1 : (0 : Int) ≤ (j : Int) ∧ (j : Int) < (len : Int) := by omega
  simp [execOp, ho, hf.ev hx, hf.ev hy, Instr.indexAt, asIntOf, run_underlying hu w, sizeOf, typeInfo, hi, h1, hj, Addr.add_mid]
  try (intro h; omega)
theorem Val.indexAddrA {t : TypeId} {x y : Operand} {k b i len j q : Nat} {ki : IntKind} {z : Int} (ho : o.op = .indexAddr t x y) (ht : arrE P t = some (len, k)) (hx : ev l x = some (.pointer (some ⟨b, i, none⟩)))
    (hy : ev l y = some (.int ki z)) (hz : z = (j : Int)) (hj : j < len) (hq : i + j * k = q) : Val P n l G o (.pointer (some ⟨b, q, none⟩)) := fun a w hf hs => by
  subst hq hz
  unfold arrE at ht
  cases hu : P.underlying t with
  | none => rw [hu] at ht; cases ht
  | some d =>
    rw [hu] at ht
    cases d with
    | array len' e =>
      simp only at ht
      cases hi : P.info? e with
      | none => rw [hi] at ht; cases ht
      | some inf =>
        rw [hi] at ht
        simp only [Option.map_some, Option.some.injEq, Prod.mk.injEq] at ht
        obtain ⟨rfl, rfl⟩ := ht
        have h1 : (0 : Int) ≤ (j : Int) ∧ (j : Int) < (len' : Int) := by omega
        simp [execOp, ho, hf.ev hx, hf.ev hy, Instr.indexAt, asIntOf, run_underlying hu w, sizeOf, typeInfo, hi, h1, hj, Addr.add_mid, Instr.sureAddr]
        try (intro h; omega)
    | _ => cases ht
theorem Val.indexStr {t : TypeId} {x y : Operand} {s : ByteArray} {ki : IntKind} {z : Int} {j : Nat} {c : UInt8} (ho : o.op = .index t x y) (ht : isStr P t = true) (hx : ev l x = some (.string s)) (hy : ev l y = some (.int ki z))
    (hz : z = (j : Int)) (hc : s.data.toList[j]? = some c) : Val P n l G o (.int .u8 c.toNat) := fun a w hf hs => by
  subst hz
  have hu : P.underlying t = some .string := by
    unfold isStr at ht
    split at ht
    · assumption
    · cases ht
  have hlt : j < s.size := by
    have := (List.getElem?_eq_some_iff.1 hc).1
    simpa using this
  have hg : s[j]? = some c := by
    rw [getElem?_pos s j hlt]
    obtain ⟨h1, h2⟩ := List.getElem?_eq_some_iff.1 hc
    rw [← h2]; rfl
  simp [execOp, ho, hf.ev hx, hf.ev hy, Instr.index, asIntOf, run_underlying hu w, hg]
theorem Val.extract {x : Operand} {i : Nat} {vs : Array Value} {v : Value} (ho : o.op = .extract x i) (hx : ev l x = some (.tuple vs)) (hv : vs[i]? = some v) : Val P n l G o v := fun a w hf hs => by
  simp [execOp, ho, hf.ev hx, Instr.extract, hv]
theorem Val.iface {t : TypeId} {x : Operand} {v : Value} (ho : o.op = .makeInterface t x) (hx : ev l x = some v) (ht : (match P.underlying t with | some (.interface _) => false | none => false | _ => true) = true) : Val P n l G o (.iface t v) := fun a w hf hs => by
  cases hu : P.underlying t with
  | none => rw [hu] at ht; cases ht
  | some d =>
    rw [hu] at ht
    cases d <;> first | (simp [execOp, ho, hf.ev hx, Instr.makeInterface, run_underlying hu w]; done) | cases ht
theorem Val.makeFunc {fn : Fn} {xs ys : Array Operand} {us vs : Array Value} (ho : o.op = .makeFunc fn xs ys) (hx : ∀ a, Fr n a l → xs.map a.eval = us) (hy : ∀ a, Fr n a l → ys.map a.eval = vs) : Val P n l G o (.func fn us vs) := fun a w hf hs => by
  simp [execOp, ho, hx a hf, hy a hf, Instr.makeFunc]

/-! numbers -/
theorem Val.add {t u : TypeId} {x y : Operand} {k : IntKind} {p q z : Int} (ho : o.op = .binOp .add t x y u) (hx : ev l x = some (.int k p)) (hy : ev l y = some (.int k q)) (hz : k.wrap (p + q) = z) : Val P n l G o (.int k z) := fun a w hf hs => by
  subst hz; simp [execOp, ho, hf.ev hx, hf.ev hy, eqGuard, binOp, Op.intArith]
theorem Val.sub {t u : TypeId} {x y : Operand} {k : IntKind} {p q z : Int} (ho : o.op = .binOp .sub t x y u) (hx : ev l x = some (.int k p)) (hy : ev l y = some (.int k q)) (hz : k.wrap (p - q) = z) : Val P n l G o (.int k z) := fun a w hf hs => by
  subst hz; simp [execOp, ho, hf.ev hx, hf.ev hy, eqGuard, binOp, Op.intArith]
theorem Val.mul {t u : TypeId} {x y : Operand} {k : IntKind} {p q z : Int} (ho : o.op = .binOp .mul t x y u) (hx : ev l x = some (.int k p)) (hy : ev l y = some (.int k q)) (hz : k.wrap (p * q) = z) : Val P n l G o (.int k z) := fun a w hf hs => by
  subst hz; simp [execOp, ho, hf.ev hx, hf.ev hy, eqGuard, binOp, Op.intArith]
theorem Val.quo {t u : TypeId} {x y : Operand} {k : IntKind} {p q z : Int} (ho : o.op = .binOp .quo t x y u) (hx : ev l x = some (.int k p)) (hy : ev l y = some (.int k q)) (h0 : q ≠ 0) (hz : k.wrap (p.tdiv q) = z) : Val P n l G o (.int k z) := fun a w hf hs => by
  subst hz; simp [execOp, ho, hf.ev hx, hf.ev hy, eqGuard, binOp, Op.intDiv, h0]
theorem Val.rem {t u : TypeId} {x y : Operand} {k : IntKind} {p q z : Int} (ho : o.op = .binOp .rem t x y u) (hx : ev l x = some (.int k p)) (hy : ev l y = some (.int k q)) (h0 : q ≠ 0) (hz : p.tmod q = z) : Val P n l G o (.int k z) := fun a w hf hs => by
  subst hz; simp [execOp, ho, hf.ev hx, hf.ev hy, eqGuard, binOp, Op.intDiv, h0]
theorem Val.lss {t u : TypeId} {x y : Operand} {k : IntKind} {p q : Int} (ho : o.op = .binOp .lss t x y u) (hx : ev l x = some (.int k p)) (hy : ev l y = some (.int k q)) : Val P n l G o (.bool (decide (p < q))) := fun a w hf hs => by
  simp [execOp, ho, hf.ev hx, hf.ev hy, eqGuard, binOp, Op.intCmp]
theorem Val.leq {t u : TypeId} {x y : Operand} {k : IntKind} {p q : Int} (ho : o.op = .binOp .leq t x y u) (hx : ev l x = some (.int k p)) (hy : ev l y = some (.int k q)) : Val P n l G o (.bool (decide (p ≤ q))) := fun a w hf hs => by
  simp [execOp, ho, hf.ev hx, hf.ev hy, eqGuard, binOp, Op.intCmp]
theorem Val.gtr {t u : TypeId} {x y : Operand} {k : IntKind} {p q : Int} (ho : o.op = .binOp .gtr t x y u) (hx : ev l x = some (.int k p)) (hy : ev l y = some (.int k q)) : Val P n l G o (.bool (decide (q < p))) := fun a w hf hs => by
  simp [execOp, ho, hf.ev hx, hf.ev hy, eqGuard, binOp, Op.intCmp]
theorem Val.geq {t u : TypeId} {x y : Operand} {k : IntKind} {p q : Int} (ho : o.op = .binOp .geq t x y u) (hx : ev l x = some (.int k p)) (hy : ev l y = some (.int k q)) : Val P n l G o (.bool (decide (q ≤ p))) := fun a w hf hs => by
  simp [execOp, ho, hf.ev hx, hf.ev hy, eqGuard, binOp, Op.intCmp]
theorem Val.eql {t u : TypeId} {x y : Operand} {k : IntKind} {p q : Int} (ho : o.op = .binOp .eql t x y u) (hx : ev l x = some (.int k p)) (hy : ev l y = some (.int k q)) : Val P n l G o (.bool (decide (p = q))) := fun a w hf hs => by
  simp [execOp, ho, hf.ev hx, hf.ev hy, eqGuard, binOp, Op.intCmp]
  rfl
theorem Val.neq {t u : TypeId} {x y : Operand} {k : IntKind} {p q : Int} (ho : o.op = .binOp .neq t x y u) (hx : ev l x = some (.int k p)) (hy : ev l y = some (.int k q)) : Val P n l G o (.bool (decide (p ≠ q))) := fun a w hf hs => by
  have e : (p != q) = decide (p ≠ q) := by rw [Bool.eq_iff_iff]; simp
  simp [execOp, ho, hf.ev hx, hf.ev hy, eqGuard, binOp, Op.intCmp, e]
theorem Val.not {t : TypeId} {x : Operand} {b : Bool} (ho : o.op = .unOp .not t x) (hx : ev l x = some (.bool b)) : Val P n l G o (.bool (!b)) := fun a w hf hs => by
  simp [execOp, ho, hf.ev hx, Op.unary]
theorem Val.notP {t : TypeId} {x : Operand} {p : Prop} [Decidable p] (ho : o.op = .unOp .not t x) (hx : ev l x = some (.bool (decide p))) : Val P n l G o (.bool (decide (¬ p))) := by
  have h := Val.not (P := P) (n := n) (G := G) ho hx
  rwa [← decide_not] at h
theorem Val.neg {t : TypeId} {x : Operand} {k : IntKind} {p z : Int} (ho : o.op = .unOp .neg t x) (hx : ev l x = some (.int k p)) (hz : k.wrap (0 - p) = z) : Val P n l G o (.int k z) := fun a w hf hs => by
  subst hz; simp [execOp, ho, hf.ev hx, Op.unary, Op.intArith]
theorem Val.conv {s t : TypeId} {x : Operand} {k k' : IntKind} {p z : Int} (ho : o.op = .convert s t x) (ht : intK P t = some k) (hs' : (P.underlying s).isSome = true) (hx : ev l x = some (.int k' p)) (hz : k.wrap p = z) : Val P n l G o (.int k z) := fun a w hf hs => by
  subst hz
  have hu : P.underlying t = some (.int k) := by
    unfold intK at ht
    split at ht
    · rename_i h; simp at ht; subst ht; exact h
    · cases ht
  obtain ⟨d, hd⟩ := Option.isSome_iff_exists.1 hs'
  simp [execOp, ho, hf.ev hx, convert, run_underlying hu w, run_underlying hd w, Conv.intToInt]

/-! strings -/
def seq (x y : ByteArray) : Bool := x.toList == y.toList
theorem Val.eqlS {t u : TypeId} {x y : Operand} {p q : ByteArray} (ho : o.op = .binOp .eql t x y u) (hx : ev l x = some (.string p)) (hy : ev l y = some (.string q)) : Val P n l G o (.bool (seq p q)) := fun a w hf hs => by
  simp [execOp, ho, hf.ev hx, hf.ev hy, eqGuard, binOp, Op.stringOp, seq]
theorem Val.neqS {t u : TypeId} {x y : Operand} {p q : ByteArray} (ho : o.op = .binOp .neq t x y u) (hx : ev l x = some (.string p)) (hy : ev l y = some (.string q)) : Val P n l G o (.bool (!seq p q)) := fun a w hf hs => by
  simp [execOp, ho, hf.ev hx, hf.ev hy, eqGuard, binOp, Op.stringOp, seq]
theorem Val.lssS {t u : TypeId} {x y : Operand} {p q : ByteArray} (ho : o.op = .binOp .lss t x y u) (hx : ev l x = some (.string p)) (hy : ev l y = some (.string q)) : Val P n l G o (.bool (Op.bytesLess p.toList q.toList)) := fun a w hf hs => by
  simp [execOp, ho, hf.ev hx, hf.ev hy, eqGuard, binOp, Op.stringOp]
theorem Val.addS {t u : TypeId} {x y : Operand} {p q : ByteArray} (ho : o.op = .binOp .add t x y u) (hx : ev l x = some (.string p)) (hy : ev l y = some (.string q)) (hz : p.size + q.size ≤ 9223372036854775807) : Val P n l G o (.string (p ++ q)) := fun a w hf hs => by
  have h : ¬ ((IntKind.i64.max : Int) < (p.size : Int) + (q.size : Int)) := by
    have : IntKind.i64.max = 9223372036854775807 := rfl
    omega
  simp [execOp, ho, hf.ev hx, hf.ev hy, eqGuard, binOp, Op.stringOp, h]
  omega
theorem Val.lenS {x : Operand} {t : TypeId} {s : ByteArray} (ho : o.op = .call { callee := .builtin .len, args := #[x], argTypes := #[t] }) (ht : isStr P t = true) (hx : ev l x = some (.string s)) : Val P n l G o (.int .i64 s.size) := fun a w hf hs => by
  have hu : P.underlying t = some .string := by
    unfold isStr at ht
    split at ht
    · assumption
    · cases ht
  simp [execOp, ho, resolve, invoke, builtin, Builtin.len_, hf.ev hx, run_underlying hu w, goInt]
theorem Val.len {x : Operand} {t e : TypeId} {k by_ m c : Nat} {p : Option Addr} (ho : o.op = .call { callee := .builtin .len, args := #[x], argTypes := #[t] }) (ht : slcE P t = some (e, k, by_)) (hx : ev l x = some (.slice p m c)) : Val P n l G o (.int .i64 m) := fun a w hf hs => by
  obtain ⟨inf, hu, hi, rfl, rfl⟩ := slcE_of ht
  simp [execOp, ho, resolve, invoke, builtin, Builtin.len_, hf.ev hx, run_underlying hu w, goInt]
theorem Val.cap {x : Operand} {t e : TypeId} {k by_ m c : Nat} {p : Option Addr} (ho : o.op = .call { callee := .builtin .cap, args := #[x], argTypes := #[t] }) (ht : slcE P t = some (e, k, by_)) (hx : ev l x = some (.slice p m c)) : Val P n l G o (.int .i64 c) := fun a w hf hs => by
  obtain ⟨inf, hu, hi, rfl, rfl⟩ := slcE_of ht
  simp [execOp, ho, resolve, invoke, builtin, Builtin.cap_, hf.ev hx, run_underlying hu w, goInt]

/-! x[lo:hi] -/
def bnd : Option Int → Nat → Int
  | some z, _ => z
  | none, d => d
theorem Val.slice {t e : TypeId} {x : Operand} {k by_ m c lo hi j : Nat} {b i : Nat} {ylo yhi : Option Operand} {vlo vhi : Option (IntKind × Int)} (ho : o.op = .slice t x ylo yhi none) (ht : slcE P t = some (e, k, by_)) (hx : ev l x = some (.slice (some ⟨b, i, none⟩) m c))
    (hlo : ylo.map (ev l) = vlo.map fun p => some (.int p.1 p.2)) (hhi : yhi.map (ev l) = vhi.map fun p => some (.int p.1 p.2)) (h1 : bnd (vlo.map (·.2)) 0 = (lo : Int)) (h2 : bnd (vhi.map (·.2)) m = (hi : Int)) (h3 : lo ≤ hi) (h4 : hi ≤ c) (hm : m ≤ c)
    (hj : (if c = lo then i else i + lo * k) = j) : Val P n l G o (.slice (some ⟨b, j, none⟩) (hi - lo) (c - lo)) := fun a w hf hs => by
  subst hj
  obtain ⟨inf, hu, hinf, rfl, rfl⟩ := slcE_of ht
  have elo : ylo.map a.eval = vlo.map fun p => .int p.1 p.2 := by
    cases ylo <;> cases vlo <;> simp at hlo ⊢
    exact hf.ev hlo
  have ehi : yhi.map a.eval = vhi.map fun p => .int p.1 p.2 := by
    cases yhi <;> cases vhi <;> simp at hhi ⊢
    exact hf.ev hhi
  have key : (Instr.sliceBounds true m c (vlo.map fun p => .int p.1 p.2) (vhi.map fun p => .int p.1 p.2) none).run P w = .ok (lo, hi, c) w := by
    cases vlo with
    | none =>
      cases vhi with
      | none =>
        simp [bnd] at h1 h2
        have e1 : lo = 0 := by omega
        have e2 : hi = m := by omega
        subst e1 e2
        simp [Instr.sliceBounds]
      | some q =>
        simp [bnd] at h1 h2
        have e1 : lo = 0 := by omega
        subst e1
        have b1 : (0 : Int) ≤ (hi : Int) ∧ (hi : Int) ≤ (c : Int) := by omega
        simp [Instr.sliceBounds, Instr.sliceBound, asIntOf, h2, b1, h4]
        try (intro h; omega)
    | some p =>
      cases vhi with
      | none =>
        simp [bnd] at h1 h2
        have e2 : hi = m := by omega
        subst e2
        have b1 : (0 : Int) ≤ (lo : Int) ∧ (lo : Int) ≤ (hi : Int) := by omega
        simp [Instr.sliceBounds, Instr.sliceBound, asIntOf, h1, b1, h3]
        try (intro h; omega)
      | some q =>
        simp [bnd] at h1 h2
        have b1 : (0 : Int) ≤ (hi : Int) ∧ (hi : Int) ≤ (c : Int) := by omega
        have b2 : (0 : Int) ≤ (lo : Int) ∧ (lo : Int) ≤ (hi : Int) := by omega
        simp [Instr.sliceBounds, Instr.sliceBound, asIntOf, h1, h2, b1, b2, h3, h4]
  have hnu : ∀ n' e', P.underlying t ≠ some (.array n' e') := fun n' e' h => by rw [hu] at h; cases h
  simp only [execOp, ho, hf.ev hx, elo, ehi, Option.map_none, Instr.sliceAt, Sem.run_bind, run_underlying hu w, Result.andThen_ok, Instr.slice, key, sizeOf, typeInfo, hinf]
  by_cases hcl : c = lo
  · subst hcl; simp [hinf]
  · simp [hinf, hcl, Addr.add_mid]
theorem Val.sliceNil {t e : TypeId} {x : Operand} {k by_ : Nat} {ylo yhi : Option Operand} {vlo vhi : Option (IntKind × Int)} (ho : o.op = .slice t x ylo yhi none) (ht : slcE P t = some (e, k, by_)) (hx : ev l x = some (.slice none 0 0))
    (hlo : ylo.map (ev l) = vlo.map fun p => some (.int p.1 p.2)) (hhi : yhi.map (ev l) = vhi.map fun p => some (.int p.1 p.2)) (h1 : bnd (vlo.map (·.2)) 0 = 0) (h2 : bnd (vhi.map (·.2)) 0 = 0) : Val P n l G o (.slice none 0 0) := fun a w hf hs => by
  obtain ⟨inf, hu, hinf, rfl, rfl⟩ := slcE_of ht
  have elo : ylo.map a.eval = vlo.map fun p => .int p.1 p.2 := by
    cases ylo <;> cases vlo <;> simp at hlo ⊢
    exact hf.ev hlo
  have ehi : yhi.map a.eval = vhi.map fun p => .int p.1 p.2 := by
    cases yhi <;> cases vhi <;> simp at hhi ⊢
    exact hf.ev hhi
  have key : (Instr.sliceBounds true 0 0 (vlo.map fun p => .int p.1 p.2) (vhi.map fun p => .int p.1 p.2) none).run P w = .ok (0, 0, 0) w := by
    cases vlo <;> cases vhi <;> simp [bnd] at h1 h2 <;> simp [Instr.sliceBounds, Instr.sliceBound, asIntOf, h1, h2]
  simp only [execOp, ho, hf.ev hx, elo, ehi, Option.map_none, Instr.sliceAt, Sem.run_bind, run_underlying hu w, Result.andThen_ok, Instr.slice, key, sizeOf, typeInfo, hinf]
  simp [hinf]
theorem Val.sliceS {t : TypeId} {x : Operand} {s : ByteArray} {lo hi : Nat} {ylo yhi : Option Operand} {vlo vhi : Option (IntKind × Int)} (ho : o.op = .slice t x ylo yhi none) (ht : isStr P t = true) (hx : ev l x = some (.string s))
    (hlo : ylo.map (ev l) = vlo.map fun p => some (.int p.1 p.2)) (hhi : yhi.map (ev l) = vhi.map fun p => some (.int p.1 p.2)) (h1 : bnd (vlo.map (·.2)) 0 = (lo : Int)) (h2 : bnd (vhi.map (·.2)) s.size = (hi : Int)) (h3 : lo ≤ hi) (h4 : hi ≤ s.size) :
    Val P n l G o (.string (s.extract lo hi)) := fun a w hf hs => by
  have hu : P.underlying t = some .string := by
    unfold isStr at ht
    split at ht
    · assumption
    · cases ht
  have elo : ylo.map a.eval = vlo.map fun p => .int p.1 p.2 := by
    cases ylo <;> cases vlo <;> simp at hlo ⊢
    exact hf.ev hlo
  have ehi : yhi.map a.eval = vhi.map fun p => .int p.1 p.2 := by
    cases yhi <;> cases vhi <;> simp at hhi ⊢
    exact hf.ev hhi
  have key : (Instr.sliceBounds false s.size s.size (vlo.map fun p => .int p.1 p.2) (vhi.map fun p => .int p.1 p.2) none).run P w = .ok (lo, hi, s.size) w := by
    cases vlo with
    | none =>
      cases vhi with
      | none =>
        simp [bnd] at h1 h2
        have e1 : lo = 0 := by omega
        have e2 : hi = s.size := by omega
        subst e1 e2
        simp [Instr.sliceBounds]
      | some q =>
        simp [bnd] at h1 h2
        have e1 : lo = 0 := by omega
        subst e1
        have b1 : (0 : Int) ≤ (hi : Int) ∧ (hi : Int) ≤ (s.size : Int) := by omega
        simp [Instr.sliceBounds, Instr.sliceBound, asIntOf, h2, b1, h4]
        try (intro h; omega)
    | some p =>
      cases vhi with
      | none =>
        simp [bnd] at h1 h2
        have e2 : hi = s.size := by omega
        subst e2
        have b1 : (0 : Int) ≤ (lo : Int) ∧ (lo : Int) ≤ (s.size : Int) := by omega
        simp [Instr.sliceBounds, Instr.sliceBound, asIntOf, h1, b1, h3]
        try (intro h; omega)
      | some q =>
        simp [bnd] at h1 h2
        have b1 : (0 : Int) ≤ (hi : Int) ∧ (hi : Int) ≤ (s.size : Int) := by omega
        have b2 : (0 : Int) ≤ (lo : Int) ∧ (lo : Int) ≤ (hi : Int) := by omega
        simp [Instr.sliceBounds, Instr.sliceBound, asIntOf, h1, h2, b1, b2, h3, h4]
  simp [execOp, ho, hf.ev hx, elo, ehi, Instr.sliceAt, run_underlying hu w, Instr.slice, key]

/-! nil or not -/
def isPtr (P : Program) (t : TypeId) : Bool := match P.underlying t with | some (.pointer _) => true | _ => false
def isSlc (P : Program) (t : TypeId) : Bool := match P.underlying t with | some (.slice _) => true | _ => false
theorem isPtr_of {t : TypeId} (h : isPtr P t = true) : ∃ e, P.underlying t = some (.pointer e) := by
  unfold isPtr at h
  split at h
  · rename_i e he; exact ⟨e, he⟩
  · cases h
theorem isSlc_of {t : TypeId} (h : isSlc P t = true) : ∃ e, P.underlying t = some (.slice e) := by
  unfold isSlc at h
  split at h
  · rename_i e he; exact ⟨e, he⟩
  · cases h
theorem equal_nilP {t : TypeId} (ht : isPtr P t = true) (p : Option Addr) (w : World) : (Op.equal t (.pointer p) (.pointer none)).run P w = .ok p.isNone w := by
  obtain ⟨e, hu⟩ := isPtr_of ht
  have h : Op.maxDepth = 9999 + 1 := rfl
  unfold Op.equal
  rw [h]
  unfold Op.equalIn
  cases p <;> simp [run_underlying hu w]
theorem equal_nilP' {t : TypeId} (ht : isPtr P t = true) (p : Option Addr) (w : World) : (Op.equal t (.pointer none) (.pointer p)).run P w = .ok p.isNone w := by
  obtain ⟨e, hu⟩ := isPtr_of ht
  have h : Op.maxDepth = 9999 + 1 := rfl
  unfold Op.equal
  rw [h]
  unfold Op.equalIn
  cases p <;> simp [run_underlying hu w]
theorem equal_nilS {t : TypeId} (ht : isSlc P t = true) (p : Option Addr) (m c m' c' : Nat) (w : World) : (Op.equal t (.slice p m c) (.slice none m' c')).run P w = .ok p.isNone w := by
  obtain ⟨e, hu⟩ := isSlc_of ht
  have h : Op.maxDepth = 9999 + 1 := rfl
  unfold Op.equal
  rw [h]
  unfold Op.equalIn
  cases p <;> simp [run_underlying hu w]
theorem Val.nilP {t u : TypeId} {x y : Operand} {p : Option Addr} (ho : o.op = .binOp .eql t x y u) (ht : isPtr P t = true) (hx : ev l x = some (.pointer p)) (hy : ev l y = some (.pointer none)) :
    Val P n l G o (.bool p.isNone) := fun a w hf hs => by
  simp [execOp, ho, hf.ev hx, hf.ev hy, eqGuard, binOp, equal_nilP ht p w]
theorem Val.nilPn {t u : TypeId} {x y : Operand} {p : Option Addr} (ho : o.op = .binOp .neq t x y u) (ht : isPtr P t = true) (hx : ev l x = some (.pointer p)) (hy : ev l y = some (.pointer none)) :
    Val P n l G o (.bool p.isSome) := fun a w hf hs => by
  simp [execOp, ho, hf.ev hx, hf.ev hy, eqGuard, binOp, equal_nilP ht p w]
def isIfc (P : Program) (t : TypeId) : Bool := match P.underlying t with | some (.interface _) => true | _ => false
theorem equal_nilI {t : TypeId} (ht : isIfc P t = true) (w : World) : (Op.equal t .nilIface .nilIface).run P w = .ok true w := by
  unfold isIfc at ht
  split at ht
  · rename_i e hu
    have h : Op.maxDepth = 9999 + 1 := rfl
    unfold Op.equal
    rw [h]
    unfold Op.equalIn
    simp [run_underlying hu w]
  · cases ht
theorem equal_someI {t u : TypeId} {v : Value} (ht : isIfc P t = true) (w : World) : (Op.equal t (.iface u v) .nilIface).run P w = .ok false w := by
  unfold isIfc at ht
  split at ht
  · rename_i e hu
    have h : Op.maxDepth = 9999 + 1 := rfl
    unfold Op.equal
    rw [h]
    unfold Op.equalIn
    simp [run_underlying hu w]
  · cases ht
theorem Val.nilI {t u : TypeId} {x : Operand} (ho : o.op = .binOp .eql t x (.const .nilIface) u) (ht : isIfc P t = true) (hx : ev l x = some .nilIface) : Val P n l G o (.bool true) := fun a w hf hs => by
  have hc : a.eval (.const .nilIface) = .nilIface := rfl
  simp [execOp, ho, hf.ev hx, hc, eqGuard, binOp, equal_nilI ht w]
theorem Val.nilIn {t u : TypeId} {x : Operand} (ho : o.op = .binOp .neq t x (.const .nilIface) u) (ht : isIfc P t = true) (hx : ev l x = some .nilIface) : Val P n l G o (.bool false) := fun a w hf hs => by
  have hc : a.eval (.const .nilIface) = .nilIface := rfl
  simp [execOp, ho, hf.ev hx, hc, eqGuard, binOp, equal_nilI ht w]
theorem Val.someI {t u s : TypeId} {v : Value} {x : Operand} (ho : o.op = .binOp .eql t x (.const .nilIface) u) (ht : isIfc P t = true) (hx : ev l x = some (.iface s v)) : Val P n l G o (.bool false) := fun a w hf hs => by
  have hc : a.eval (.const .nilIface) = .nilIface := rfl
  simp [execOp, ho, hf.ev hx, hc, eqGuard, binOp, equal_someI ht w]
theorem Val.someIn {t u s : TypeId} {v : Value} {x : Operand} (ho : o.op = .binOp .neq t x (.const .nilIface) u) (ht : isIfc P t = true) (hx : ev l x = some (.iface s v)) : Val P n l G o (.bool true) := fun a w hf hs => by
  have hc : a.eval (.const .nilIface) = .nilIface := rfl
  simp [execOp, ho, hf.ev hx, hc, eqGuard, binOp, equal_someI ht w]
theorem Val.min2 {t t' : TypeId} {x y : Operand} {k : IntKind} {p q z : Int} (ho : o.op = .call { callee := .builtin .min, args := #[x, y], argTypes := #[t, t'] }) (hx : ev l x = some (.int k p)) (hy : ev l y = some (.int k q)) (hz : (if q < p then q else p) = z) : Val P n l G o (.int k z) := fun a w hf hs => by
  subst hz; simp [execOp, ho, resolve, invoke, builtin, Builtin.min_, Builtin.min2, hf.ev hx, hf.ev hy]
theorem Val.max2 {t t' : TypeId} {x y : Operand} {k : IntKind} {p q z : Int} (ho : o.op = .call { callee := .builtin .max, args := #[x, y], argTypes := #[t, t'] }) (hx : ev l x = some (.int k p)) (hy : ev l y = some (.int k q)) (hz : (if p < q then q else p) = z) : Val P n l G o (.int k z) := fun a w hf hs => by
  subst hz; simp [execOp, ho, resolve, invoke, builtin, Builtin.max_, Builtin.max2, hf.ev hx, hf.ev hy]
theorem Val.nilS {t u : TypeId} {x y : Operand} {p : Option Addr} {m c m' c' : Nat} (ho : o.op = .binOp .eql t x y u) (ht : isSlc P t = true) (hx : ev l x = some (.slice p m c)) (hy : ev l y = some (.slice none m' c')) :
    Val P n l G o (.bool p.isNone) := fun a w hf hs => by
  simp [execOp, ho, hf.ev hx, hf.ev hy, eqGuard, binOp, equal_nilS ht p m c m' c' w]
theorem Val.nilSn {t u : TypeId} {x y : Operand} {p : Option Addr} {m c m' c' : Nat} (ho : o.op = .binOp .neq t x y u) (ht : isSlc P t = true) (hx : ev l x = some (.slice p m c)) (hy : ev l y = some (.slice none m' c')) :
    Val P n l G o (.bool p.isSome) := fun a w hf hs => by
  simp [execOp, ho, hf.ev hx, hf.ev hy, eqGuard, binOp, equal_nilS ht p m c m' c' w]
/-- structs and arrays by parts -/
theorem Val.build {t : TypeId} {ps : Array (Nat × Operand)} {vs : Array (Nat × Value)} {cs : List Value} (ho : o.op = .build t ps) (hv : ∀ a, Fr n a l → (ps.map fun p => (p.1, a.eval p.2)) = vs) (hb : ∀ w, (Instr.build t vs).run P w = .ok (.agg cs.toArray) w) :
    Val P n l G o (.agg cs.toArray) := fun a w hf hs => by
  have := hv a hf
  simp only [execOp, ho]
  have e : (ps.map fun x => match x with | (i, y) => (i, a.eval y)) = vs := by rw [← this]
  simp only [e, Sem.run_bind, hb w]
  rfl

/-! ## what a function hands back out of memory -/
theorem results_cell {fn : Func} {t : Tmp} {ty : TypeId} {b k : Nat} {cs : List Value} (hr : fn.results = #[.cell t ty]) (ht : aggS P ty = some k) (hv : look l t = some (.pointer (some ⟨b, 0, none⟩))) (hk : cs.length = k)
    (hc : ∀ w, Sat W L w → w.rangeAt b 0 cs) : ∀ a w, Fr n a l → Sat W L w → (results fn a.tmps).run P w = .ok (.agg cs.toArray) w := fun a w hf hs => by
  obtain ⟨d, h1, h2, h3⟩ := aggS_row ht
  have := run_loadVar_mid (P := P) w b 0 ty cs d (hc w hs) h1 h2 (by rw [h3, hk])
  have e := hf.at_ t _ hv
  rw [Array.getD_eq_getD_getElem?] at e
  simp [results, hr, e, asAddr, this]
theorem results_cell1 {fn : Func} {t : Tmp} {ty : TypeId} {p : Addr} {v : Value} (hr : fn.results = #[.cell t ty]) (ht : scal P ty = true) (hv : look l t = some (.pointer (some p)))
    (hc : ∀ w, Sat W L w → w.cell? p = some v) : ∀ a w, Fr n a l → Sat W L w → (results fn a.tmps).run P w = .ok v w := fun a w hf hs => by
  have e := hf.at_ t _ hv
  rw [Array.getD_eq_getD_getElem?] at e
  simp [results, hr, e, asAddr, loadVar, scal_agg ht, Go.load, Sem.run, hc w hs]

/-! ## operations that make or write -/
def One (v : Value) (L : List HProp) : Value → List HProp → Prop := fun u M => u = v ∧ M = L
theorem Eff.val {v : Value} (h : Val P n l (Sat W L) o v) : Eff P W Q n l L o (One v L) := fun a w hf hs K hK => by
  unfold Oper.wp
  rw [h a w hf hs, Oper.upon_value]
  exact hK v L w ⟨rfl, rfl⟩ hs
def New (T : TypeId) (C : List Value) (L : List HProp) : Value → List HProp → Prop := fun u M => ∃ b, u = .pointer (some ⟨b, 0, none⟩) ∧ M = Blk b C T :: L
theorem Eff.new {v : World → Value} {T : TypeId} {C : List Value} (f : Nat → Value) (R : Value → List HProp → Prop) (hR : ∀ b, R (f b) (Blk b C T :: L))
    (h : ∀ a w, Fr n a l → Sat W L w → (execOp a.eval o).run P w = .ok (.value (f w.heap.size)) (w.alloc (.cells C.toArray T))) : Eff P W Q n l L o R := fun a w hf hs K hK => by
  unfold Oper.wp
  rw [h a w hf hs, Oper.upon_value]
  exact hK _ _ _ (hR _) (hs.blk C T)
theorem zeroC_of {t : TypeId} {C : List Value} (ht : zeroC P t = some C) : ∃ i z, P.info? t = some i ∧ i.zero = some z ∧ z.cells = C.toArray := by
  unfold zeroC at ht
  cases hi : P.info? t with
  | none => rw [hi] at ht; cases ht
  | some i =>
    rw [hi] at ht
    simp only [Option.bind_some] at ht
    cases hz : i.zero with
    | none => rw [hz] at ht; cases ht
    | some z =>
      rw [hz] at ht
      simp only [Option.map_some, Option.some.injEq] at ht
      exact ⟨i, z, rfl, hz, by rw [← ht]⟩
theorem Eff.alloc {t : TypeId} {C : List Value} (ho : o.op = .alloc t) (ht : zeroC P t = some C) : Eff P W Q n l L o (New t C L) :=
  Eff.new (v := fun _ => .nilFunc) (fun b => .pointer (some ⟨b, 0, none⟩)) _ (fun b => ⟨b, rfl, rfl⟩) fun a w hf hs => by
    obtain ⟨i, z, hi, hz, hc⟩ := zeroC_of ht
    simp [execOp, ho, Instr.alloc, zeroValue, typeInfo, hi, hz, newVar, newRow, hc]
theorem Eff.box {t : TypeId} {x : Operand} {v : Value} {C : List Value} (ho : o.op = .box t x) (hx : ev l x = some v) (hc : v.cells = C.toArray) : Eff P W Q n l L o (New t C L) :=
  Eff.new (v := fun _ => .nilFunc) (fun b => .pointer (some ⟨b, 0, none⟩)) _ (fun b => ⟨b, rfl, rfl⟩) fun a w hf hs => by
    simp [execOp, ho, Instr.box, hf.ev hx, newVar, newRow, hc]
def NewS (T : TypeId) (m c : Nat) (C : List Value) (L : List HProp) : Value → List HProp → Prop := fun u M => ∃ b, u = .slice (some ⟨b, 0, none⟩) m c ∧ M = Blk b C T :: L
theorem Eff.buildSlice {t e : TypeId} {k by_ m : Nat} {ps : Array (Nat × Operand)} {vs : Array (Nat × Value)} {C : List Value} (ho : o.op = .buildSlice t m ps) (ht : slcE P t = some (e, k, by_)) (hv : ∀ a, Fr n a l → (ps.map fun p => (p.1, a.eval p.2)) = vs)
    (hb : ∀ w, (Instr.buildSlice t m vs).run P w = .ok (.slice (some ⟨w.heap.size, 0, none⟩) m m) (w.alloc (.cells C.toArray e))) : Eff P W Q n l L o (NewS e m m C L) :=
  Eff.new (v := fun _ => .nilFunc) (fun b => .slice (some ⟨b, 0, none⟩) m m) _ (fun b => ⟨b, rfl, rfl⟩) fun a w hf hs => by
    have := hv a hf
    simp only [execOp, ho]
    have e : (ps.map fun x => match x with | (i, y) => (i, a.eval y)) = vs := by rw [← this]
    simp only [e, Sem.run_bind, hb w]
    rfl
theorem madeCells_list (z : List Value) (k m : Nat) (hz : z.length = k) : madeCells z.toArray (m * k) = ((List.replicate m z).flatten).toArray := by
  subst hz
  apply Array.ext'
  simp only [madeCells, Array.toList_map, Array.toList_range]
  induction m with
  | zero => simp
  | succ m ih =>
    rw [List.replicate_succ', List.flatten_append, Nat.succ_mul, List.range_add, List.map_append, ih]
    congr 1
    simp only [List.flatten_singleton, List.map_map]
    apply List.ext_getElem?
    intro i
    rw [List.getElem?_map]
    by_cases hi : i < z.length
    · rw [List.getElem?_range hi, List.getElem?_eq_getElem hi]
      simp [Nat.mul_add_mod_of_lt hi, hi, Nat.add_comm, Nat.mod_eq_of_lt hi]
    · rw [List.getElem?_eq_none (by simpa using hi), List.getElem?_eq_none (by simpa using hi)]; rfl
theorem Eff.makeSlice {t e : TypeId} {k by_ m c : Nat} {x y : Operand} {kl kc : IntKind} {zl zc : Int} {z : List Value} (ho : o.op = .makeSlice t x y) (ht : slcE P t = some (e, k, by_)) (hz : zeroC P e = some z) (hk : z.length = k) (hx : ev l x = some (.int kl zl)) (hy : ev l y = some (.int kc zc))
    (hm : zl = (m : Int)) (hc : zc = (c : Int)) (hmc : m ≤ c) (hb : by_ * c ≤ 281474976710656) (h63 : c ≤ 9223372036854775807) : Eff P W Q n l L o (NewS e m c ((List.replicate c z).flatten) L) :=
  Eff.new (v := fun _ => .nilFunc) (fun b => .slice (some ⟨b, 0, none⟩) m c) _ (fun b => ⟨b, rfl, rfl⟩) fun a w hf hs => by
    subst hm hc
    obtain ⟨inf, hu, hi, rfl, rfl⟩ := slcE_of ht
    obtain ⟨i2, z2, hi2, hz2, hc2⟩ := zeroC_of hz
    rw [hi] at hi2
    obtain rfl : inf = i2 := by simpa using hi2
    have := run_make (P := P) w t e inf z2 hu hi hz2 kl kc (m : Int) (c : Int) (by omega) (by omega) (by
      have h : ((inf.bytes * c : Nat) : Int) ≤ 281474976710656 := by omega
      rwa [Int.natCast_mul] at h) (by omega)
    simp only [Int.toNat_natCast, hc2] at this
    rw [madeCells_list z inf.size c hk] at this
    simp only [execOp, ho, hf.ev hx, hf.ev hy, Sem.run_bind, this]
    rfl

/-! stores -/
def Sets (M : List HProp) : Value → List HProp → Prop := fun _ L' => L' = M
theorem one_cell {v : Value} (h : v.oneCell' = true) : v.cells = #[v] := by cases v <;> first | rfl | cases h
theorem Eff.store {t : TypeId} {x y : Operand} {b i : Nat} {v : Value} {C C' : List Value} {T : TypeId} (ho : o.op = .store t x y) (ht : scal P t = true) (hx : ev l x = some (.pointer (some ⟨b, i, none⟩))) (hy : ev l y = some v)
    (h1 : v.oneCell' = true) (hi : i < C.length) (hC : C.set i v = C') : Eff P W Q n l (Blk b C T :: L) o (Sets (Blk b C' T :: L)) := fun a w hf hs K hK => by
  subst hC
  have hc : w.cell? ⟨b, i, none⟩ = some C[i] := by rw [hs.head.cell, List.getElem?_eq_getElem hi]
  have hfz : w.frozen? ⟨b, i, none⟩ = false := hs.head.free hi
  have hsz := scal_size ht
  have hrun : (Instr.storeAt t (.pointer (some ⟨b, i, none⟩)) v).run P w = .ok () (w.setCell ⟨b, i, none⟩ v) := by
    cases hinf : P.info? t with
    | none => rw [hinf] at hsz; cases hsz
    | some inf =>
      have : inf.size = 1 := by rw [hinf] at hsz; simpa using hsz
      have hst : (Go.store ⟨b, i, none⟩ v).run P w = .ok () (w.setCell ⟨b, i, none⟩ v) := by
        unfold Go.store
        cases v <;> first | (cases h1; done) | (simp [Sem.run, hc, hfz])
      simp [Instr.storeAt, Instr.sureAddr, storeVar, sizeOf, typeInfo, hinf, one_cell h1, this, storeCells, Addr.add, hst]
  unfold Oper.wp
  simp only [execOp, ho, hf.ev hx, hf.ev hy, Sem.run_bind, hrun]
  exact hK undef _ _ rfl (hs.set v)
theorem setCells_blk {w : World} {b : Nat} {T : TypeId} : ∀ (vs : List Value) (C : List Value) (i : Nat), i + vs.length ≤ C.length → Sat W (Blk b C T :: L) w → Sat W (Blk b (C.take i ++ vs ++ C.drop (i + vs.length)) T :: L) (w.setCells b i vs) := by
  intro vs
  induction vs generalizing w with
  | nil => intro C i hl hs; simpa [World.setCells] using hs
  | cons v vs ih =>
    intro C i hl hs
    simp only [List.length_cons] at hl
    have h := ih (C.set i v) (i + 1) (by simp; omega) (hs.set (i := i) v)
    simp only [World.setCells]
    have e : (C.set i v).take (i + 1) ++ vs ++ (C.set i v).drop (i + 1 + vs.length) = C.take i ++ (v :: vs) ++ C.drop (i + (v :: vs).length) := by
      have e1 : (C.set i v).take (i + 1) = C.take i ++ [v] := by
        rw [List.take_add_one, List.getElem?_set_self (by omega), List.take_set_of_le (Nat.le_refl _)]
        rfl
      have e2 : (C.set i v).drop (i + 1 + vs.length) = C.drop (i + (v :: vs).length) := by
        rw [List.drop_set_of_lt (by omega), List.length_cons]
        congr 1
        omega
      rw [e1, e2]
      simp
    rw [e] at h
    exact h
theorem Eff.storeAgg {t : TypeId} {x y : Operand} {b i k : Nat} {cs : List Value} {C C' : List Value} {T : TypeId} (ho : o.op = .store t x y) (ht : aggS P t = some k) (hx : ev l x = some (.pointer (some ⟨b, i, none⟩))) (hy : ev l y = some (.agg cs.toArray))
    (hk : cs.length = k) (h1 : cs.all (·.oneCell') = true) (hi : i + k ≤ C.length) (hC : C.take i ++ cs ++ C.drop (i + k) = C') : Eff P W Q n l (Blk b C T :: L) o (Sets (Blk b C' T :: L)) := fun a w hf hs K hK => by
  subst hC hk
  obtain ⟨d, -, -, h3⟩ := aggS_row ht
  have hth : w.there b i cs.length := fun j hj => by
    have hlt : i + j < C.length := by omega
    exact ⟨by rw [hs.head.cell, List.getElem?_eq_getElem hlt]; rfl, hs.head.free hlt⟩
  have hrun := run_storeAt_mid (P := P) w b i t cs.toArray (by simpa using hth) (by simpa using h3) (by simpa using h1)
  unfold Oper.wp
  simp only [execOp, ho, hf.ev hx, hf.ev hy, Sem.run_bind, hrun]
  exact hK undef _ _ rfl (setCells_blk cs C i hi hs)
end
end Go.Proofs.Ytbomnihiapjmpaa.Sl

namespace Go.Proofs.Ytbomnihiapjmpaa.Sl
open Go.RowKit Go.Lib
set_option linter.unusedSectionVars false
set_option linter.unusedVariables false
set_option linter.unusedSimpArgs false

/-! ## calls -/
def evs (l : List (Nat × Value)) : List Operand → Option (List Value)
  | [] => some []
  | x :: xs => match ev l x with | some v => (match evs l xs with | some vs => some (v :: vs) | none => none) | none => none
def evps (l : List (Nat × Value)) : List (Nat × Operand) → Option (List (Nat × Value))
  | [] => some []
  | (i, x) :: xs => match ev l x with | some v => (match evps l xs with | some vs => some ((i, v) :: vs) | none => none) | none => none

section
variable [Dfs]
variable {P : Program} {W : World} {n : Nat} {l : List (Nat × Value)} {L : List HProp} {o : Oper} {Q : Exit → Act → World → Prop} {G : World → Prop}
theorem Fr.evs {a : Act} (h : Fr n a l) : ∀ {xs : List Operand} {vs : List Value}, evs l xs = some vs → xs.map a.eval = vs
  | [], vs, hv => by simp only [Sl.evs, Option.some.injEq] at hv; subst hv; rfl
  | x :: xs, vs, hv => by
    simp only [Sl.evs] at hv
    cases hx : Sl.ev l x with
    | none => rw [hx] at hv; cases hv
    | some v =>
      rw [hx] at hv
      cases hxs : Sl.evs l xs with
      | none => rw [hxs] at hv; cases hv
      | some us =>
        rw [hxs] at hv
        simp only [Option.some.injEq] at hv
        subst hv
        rw [List.map_cons, h.ev hx, h.evs hxs]
theorem Fr.evps {a : Act} (h : Fr n a l) : ∀ {xs : List (Nat × Operand)} {vs : List (Nat × Value)}, evps l xs = some vs → xs.map (fun p => (p.1, a.eval p.2)) = vs
  | [], vs, hv => by simp only [Sl.evps, Option.some.injEq] at hv; subst hv; rfl
  | (i, x) :: xs, vs, hv => by
    simp only [Sl.evps] at hv
    cases hx : Sl.ev l x with
    | none => rw [hx] at hv; cases hv
    | some v =>
      rw [hx] at hv
      cases hxs : Sl.evps l xs with
      | none => rw [hxs] at hv; cases hv
      | some us =>
        rw [hxs] at hv
        simp only [Option.some.injEq] at hv
        subst hv
        rw [List.map_cons, h.ev hx, h.evps hxs]
def After (R : Value → List HProp → Prop) (F : List HProp) : Value → List HProp → Prop := fun v L' => ∃ M, R v M ∧ L' = M ++ F
theorem Eff.call {f : FuncId} {xs : List Operand} {ats : Array TypeId} {args : List Value} {L0 F : List HProp} {R : Value → List HProp → Prop} (ho : o.op = .call { callee := .value (.func f), args := xs.toArray, argTypes := ats })
    (hx : evs l xs = some args) (hc : ∀ (as_ : Array Value) (w : World), (callFunc f as_).run P w = .ok (.enter f as_) w) (h : Does P f args L0 R) : Eff P W Q n l (L0 ++ F) o (After R F) :=
  Eff.enter h fun a w hf hs => by
    have e : (xs.toArray.map a.eval) = args.toArray := by rw [List.map_toArray, hf.evs hx]
    simp only [execOp, ho, resolve, Act.eval, e, Sem.run_bind, Deferred.ofValue, Sem.run_pure, Result.andThen_ok, invoke]
    have e2 : (#[] ++ args.toArray ++ #[] : Array Value) = args.toArray := by simp
    rw [e2, hc]
/-- a call of a function value -/
theorem Eff.callF {f : FuncId} {x : Operand} {xs : List Operand} {ats : Array TypeId} {first caps : Array Value} {args args' : List Value} {L0 F : List HProp} {R : Value → List HProp → Prop} (ho : o.op = .call { callee := .value x, args := xs.toArray, argTypes := ats })
    (hv : ev l x = some (.func (.func f) first caps)) (hx : evs l xs = some args) (ha : first.toList ++ args ++ caps.toList = args') (hc : ∀ (as_ : Array Value) (w : World), (callFunc f as_).run P w = .ok (.enter f as_) w) (h : Does P f args' L0 R) : Eff P W Q n l (L0 ++ F) o (After R F) :=
  Eff.enter h fun a w hf hs => by
    subst ha
    have e : (xs.toArray.map a.eval) = args.toArray := by rw [List.map_toArray, hf.evs hx]
    simp only [execOp, ho, resolve, hf.ev hv, e, Sem.run_bind, Deferred.ofValue, Sem.run_pure, Result.andThen_ok, invoke]
    have e2 : first ++ args.toArray ++ caps = (first.toList ++ args ++ caps.toList).toArray := by simp
    rw [e2, hc]
/-- a call through an interface -/
theorem Eff.invoke {f : FuncId} {x : Operand} {nm : String} {xs : List Operand} {ats : Array TypeId} {t : TypeId} {v u : Value} {args : List Value} {L0 F : List HProp} {R : Value → List HProp → Prop} (ho : o.op = .call { callee := .invoke x nm, args := xs.toArray, argTypes := ats })
    (hv : ev l x = some (.iface t v)) (hx : evs l xs = some args) (hm : ∀ w : World, (method (P.types.size + Made.depth) t v nm).run P w = .ok (f, u) w) (hc : ∀ (as_ : Array Value) (w : World), (callFunc f as_).run P w = .ok (.enter f as_) w)
    (h : Does P f (u :: args) L0 R) : Eff P W Q n l (L0 ++ F) o (After R F) :=
  Eff.enter h fun a w hf hs => by
    have e : (xs.toArray.map a.eval) = args.toArray := by rw [List.map_toArray, hf.evs hx]
    simp only [execOp, ho, resolve, hf.ev hv, e, Sem.run_bind, Sem.run_pure, Result.andThen_ok, Go.invoke]
    have e1 : (#[Value.iface t v] ++ args.toArray)[0]? = some (.iface t v) := by simp
    have e2 : (#[Value.iface t v] ++ args.toArray).extract 1 (#[Value.iface t v] ++ args.toArray).size = args.toArray := by
      apply Array.ext'
      simp
    simp only [e1, e2, callMethod, Sem.run_bind, program, Sem.run, Result.andThen_ok, hm]
    have e3 : #[u] ++ args.toArray = (u :: args).toArray := by simp
    rw [e3, hc]
theorem Val.mkFunc {fn : Fn} {xs ys : List Operand} {us vs : List Value} (ho : o.op = .makeFunc fn xs.toArray ys.toArray) (hx : evs l xs = some us) (hy : evs l ys = some vs) : Val P n l G o (.func fn us.toArray vs.toArray) :=
  Val.makeFunc ho (fun a hf => by rw [List.map_toArray, hf.evs hx]) (fun a hf => by rw [List.map_toArray, hf.evs hy])
theorem Val.mk {t : TypeId} {ps : List (Nat × Operand)} {vs : List (Nat × Value)} {cs : List Value} (ho : o.op = .build t ps.toArray) (hv : evps l ps = some vs) (hb : ∀ w, (Instr.build t vs.toArray).run P w = .ok (.agg cs.toArray) w) :
    Val P n l G o (.agg cs.toArray) := Val.build ho (fun a hf => by rw [List.map_toArray, hf.evps hv]) hb
theorem Eff.mkSlice {t e : TypeId} {k by_ m : Nat} {ps : List (Nat × Operand)} {vs : List (Nat × Value)} {C : List Value} (ho : o.op = .buildSlice t m ps.toArray) (ht : slcE P t = some (e, k, by_)) (hv : evps l ps = some vs)
    (hb : ∀ w, (Instr.buildSlice t m vs.toArray).run P w = .ok (.slice (some ⟨w.heap.size, 0, none⟩) m m) (w.alloc (.cells C.toArray e))) : Eff P W Q n l L o (NewS e m m C L) :=
  Eff.buildSlice ho ht (fun a hf => by rw [List.map_toArray, hf.evps hv]) hb

theorem oc_int (k : IntKind) (z : Int) : (Value.int k z).oneCell' = true := rfl
theorem oc_str (x : ByteArray) : (Value.string x).oneCell' = true := rfl
theorem oc_bool (x : Bool) : (Value.bool x).oneCell' = true := rfl
theorem oc_ptr (x : Option Addr) : (Value.pointer x).oneCell' = true := rfl
theorem oc_slice (x : Option Addr) (m c : Nat) : (Value.slice x m c).oneCell' = true := rfl
theorem oc_iface (t : TypeId) (v : Value) : (Value.iface t v).oneCell' = true := rfl
theorem oc_map (x : Option Nat) : (Value.map x).oneCell' = true := rfl
/-! ## a row of one's own, which grows -/
/-- v is a slice of n elements (of k cells each) of one's own: nil, or the head of a block -/
def Own (e : TypeId) (k : Nat) (v : Value) (n : Nat) (xs : List Value) : HProp :=
  Ex fun q : Option (Nat × Nat × List Value) => match q with
    | none => Pure (v = .slice none 0 0 ∧ n = 0 ∧ xs = [])
    | some (b, cap, sp) => Sep [Pure (v = .slice (some ⟨b, 0, none⟩) n cap ∧ n ≤ cap ∧ xs.length = n * k ∧ sp.length = (cap - n) * k ∧ cap ≤ maxLen), Blk b (xs ++ sp) e]
theorem Sat.ownNil {w : World} {e : TypeId} {k : Nat} (h : Sat W L w) : Sat W (Own e k (.slice none 0 0) 0 [] :: L) w := Sat.ex_mk none (Sat.pure_mk ⟨rfl, rfl, rfl⟩ h)
theorem Sat.ownMk {w : World} {e : TypeId} {k b m cap : Nat} {xs sp : List Value} (h : Sat W (Blk b (xs ++ sp) e :: L) w) (h1 : m ≤ cap) (h2 : xs.length = m * k) (h3 : sp.length = (cap - m) * k) (h4 : cap ≤ maxLen) :
    Sat W (Own e k (.slice (some ⟨b, 0, none⟩) m cap) m xs :: L) w := Sat.ex_mk (some (b, cap, sp)) (Sat.sep_mk (Sat.pure_mk ⟨rfl, h1, h2, h3, h4⟩ h))
theorem Sat.own {w : World} {e : TypeId} {k m : Nat} {v : Value} {xs : List Value} (h : Sat W (Own e k v m xs :: L) w) :
    (v = .slice none 0 0 ∧ m = 0 ∧ xs = [] ∧ Sat W L w) ∨ ∃ b cap sp, v = .slice (some ⟨b, 0, none⟩) m cap ∧ m ≤ cap ∧ xs.length = m * k ∧ sp.length = (cap - m) * k ∧ cap ≤ maxLen ∧ Sat W (Blk b (xs ++ sp) e :: L) w := by
  obtain ⟨q, h⟩ := h.ex
  cases q with
  | none => exact .inl ⟨h.pure.1, h.pure.2.1, h.pure.2.2, h.drop⟩
  | some q =>
    obtain ⟨b, cap, sp⟩ := q
    have h2 := h.sep
    obtain ⟨e1, e2, e3, e4, e5⟩ := h2.pure
    exact .inr ⟨b, cap, sp, e1, e2, e3, e4, e5, h2.drop⟩
/-- what is appended -/
def Srcs (P : Program) (W : World) (L : List HProp) (k : Nat) (tx : TypeId) (x : Value) (m : Nat) (news : List Value) : Prop := ∀ w, Sat W L w → Src P k tx x m news w
theorem Srcs.slice {k m c : Nat} {tx e' : TypeId} {k' b' : Nat} {p : Addr} {news : List Value} (hk : slcE P tx = some (e', k', b')) (hl : news.length = m * k) (h1 : news.all (·.oneCell') = true)
    (hc : ∀ w, Sat W L w → ∀ j u, news[j]? = some u → w.cell? (p.add j) = some u) : Srcs P W L k tx (.slice (some p) m c) m news := fun w hs => by
  obtain ⟨inf, hu, -, -, -⟩ := slcE_of hk
  exact Src.ofSlice w hu p m c news hl (hc w hs) (by simpa using h1)
theorem Srcs.str {tx : TypeId} (hk : isStr P tx = true) (s : ByteArray) : Srcs P W L 1 tx (.string s) s.size (byteCells s) := fun w hs => by
  have hu : P.underlying tx = some .string := by
    unfold isStr at hk
    split at hk
    · assumption
    · cases hk
  exact Src.ofString w hu s
theorem Srcs.nil {k c : Nat} {tx e' : TypeId} {k' b' : Nat} (hk : slcE P tx = some (e', k', b')) : Srcs P W L k tx (.slice none 0 c) 0 [] := fun w hs => by
  obtain ⟨inf, hu, -, -, -⟩ := slcE_of hk
  exact Src.ofNil w hu c
theorem cells_range {w : World} {b i : Nat} {news : List Value} (h : w.rangeAt b i news) : ∀ j u, news[j]? = some u → w.cell? ((⟨b, i, none⟩ : Addr).add j) = some u := fun j u hj => by
  rw [Addr.add_mid]; exact h j u hj
def Grown (e : TypeId) (k n : Nat) (xs : List Value) (L : List HProp) : Value → List HProp → Prop := fun u M => u.oneCell' = true ∧ M = Own e k u n xs :: L
theorem zeroCells_list (z : Value) (C : List Value) (hz : z.cells = C.toArray) (m : Nat) : (Builtin.zeroCells z.cells m).toList.length = m * C.length := by
  simp [Builtin.zeroCells, hz]
theorem Eff.append {t tx e : TypeId} {k by_ m n0 : Nat} {s x : Operand} {vs vx : Value} {xs news : List Value} {C : List Value} (ho : o.op = .call { callee := .builtin .append, args := #[s, x], argTypes := #[t, tx] })
    (ht : slcE P t = some (e, k, by_)) (hz : zeroC P e = some C) (hC : C.length = k) (hs : ev l s = some vs) (hx : ev l x = some vx) (hsrc : Srcs P W (Own e k vs n0 xs :: L) k tx vx m news)
    (h63 : n0 + m ≤ 9223372036854775807) (hb : (n0 + m) * by_ ≤ 140737488355328) : Eff P W Q n l (Own e k vs n0 xs :: L) o (Grown e k (n0 + m) (xs ++ news) L) := fun a w hf hsat K hK => by
  obtain ⟨inf, hu, hi, rfl, rfl⟩ := slcE_of ht
  obtain ⟨i2, z, hi2, hz2, hcz⟩ := zeroC_of hz
  rw [hi] at hi2
  obtain rfl : inf = i2 := by simpa using hi2
  have hS := hsrc w hsat
  have goal : ∃ v' w', v'.oneCell' = true ∧ (Builtin.append_ #[t, tx] o.type #[vs, vx]).run P w = .ok v' w' ∧ Sat W (Own e inf.size v' (n0 + m) (xs ++ news) :: L) w' := by
    have grow : ∀ (base : Option Addr) (sCap : Nat), (Builtin.firstCells inf.size n0 (.slice base n0 sCap)).run P w.drew = .ok xs.toArray w.drew → xs.length = n0 * inf.size → sCap < n0 + m →
        ∃ v' w', v'.oneCell' = true ∧ (Builtin.append_ #[t, tx] o.type #[.slice base n0 sCap, vx]).run P w = .ok v' w' ∧ Sat W (Own e inf.size v' (n0 + m) (xs ++ news) :: L) w' := by
      intro base sCap hold hxl hg
      refine ⟨_, _, rfl, run_append_grow_src w t tx o.type e inf z hu hi hz2 base n0 sCap xs hold vx m news hS hg (by omega) (growslice_fits hg hb), ?_⟩
      have hge := grownCap_ge w (n0 + m) sCap e
      have hle := grownCap_le_maxLen w (n0 + m) sCap e (by unfold maxLen; omega)
      have h1 := (hsat.drop.drew).blk ((xs ++ news) ++ (Builtin.zeroCells z.cells (grownCap w (n0 + m) sCap e - (n0 + m))).toList) e
      have e1 : ((xs ++ news) ++ (Builtin.zeroCells z.cells (grownCap w (n0 + m) sCap e - (n0 + m))).toList).toArray = (xs ++ news).toArray ++ Builtin.zeroCells z.cells (grownCap w (n0 + m) sCap e - (n0 + m)) := by
        apply Array.ext'; simp
      rw [e1] at h1
      refine h1.ownMk hge (by rw [List.length_append, hxl, hS.newsLen, Nat.add_mul]) ?_ hle
      rw [zeroCells_list z C hcz, hC]
    rcases hsat.own with ⟨rfl, rfl, rfl, hL⟩ | ⟨b, cap, sp, rfl, hle, hxl, hspl, hcap, hL⟩
    · by_cases hm : m = 0
      · subst hm
        have hn0 : news = [] := List.eq_nil_of_length_eq_zero (by rw [hS.newsLen]; simp)
        subst hn0
        refine ⟨.slice none 0 0, w, rfl, ?_, hL.ownNil⟩
        rcases hS.kind with ⟨e', hk⟩ | hk <;> simp [Builtin.append_, run_underlying hu, run_underlying hk, sizeOf, typeInfo, hi, hS.len, hS.cells]
      · exact grow none 0 (run_firstCells_none _ _ _ _ _) (by simp) (by omega)
    · by_cases hroom : n0 + m ≤ cap
      · have hnl := hS.newsLen
        have hlen : (xs ++ sp).length = cap * inf.size := by
          rw [List.length_append, hxl, hspl, ← Nat.add_mul]; congr 1; omega
        have hfit : n0 * inf.size + news.length ≤ (xs ++ sp).length := by
          rw [hlen, hnl, ← Nat.add_mul]; exact Nat.mul_le_mul_right _ hroom
        refine ⟨_, _, rfl, run_append_room_src w t tx o.type e inf hu hi b 0 n0 cap vx m news hS hroom (fun j hj => ?_) (fun j hj => ?_), ?_⟩
        · rw [hL.head.cell, List.getElem?_eq_getElem (by omega)]; rfl
        · exact hL.head.free (by omega)
        · have h2 := setCells_blk news (xs ++ sp) (0 + n0 * inf.size) (by omega) hL
          have e2 : (xs ++ sp).take (0 + n0 * inf.size) ++ news ++ (xs ++ sp).drop (0 + n0 * inf.size + news.length) = (xs ++ news) ++ sp.drop (m * inf.size) := by
            rw [Nat.zero_add, ← hxl, List.take_left, List.drop_append, hnl]
            simp
          rw [e2] at h2
          refine h2.ownMk hroom (by rw [List.length_append, hxl, hnl, Nat.add_mul]) ?_ hcap
          rw [List.length_drop, hspl, ← Nat.sub_mul]; congr 1; omega
      · exact grow _ cap (run_firstCells_some _ inf.size n0 _ n0 cap xs hxl (fun j v hj => by
          show w.cell? _ = _
          rw [Addr.add_mid, Nat.zero_add, hL.head.cell, List.getElem?_append_left (List.getElem?_eq_some_iff.1 hj).1]; exact hj)) hxl (by omega)
  obtain ⟨v', w', h1', hr, hs'⟩ := goal
  unfold Oper.wp
  have e0 : (#[s, x].map a.eval) = #[vs, vx] := by simp [hf.ev hs, hf.ev hx]
  simp only [execOp, ho, resolve, e0, Sem.run_bind, Sem.run_pure, Result.andThen_ok, Go.invoke, builtin, hr]
  exact hK v' _ w' ⟨h1', rfl⟩ hs'

/-! ## copy -/
theorem run_copy_src {w : World} {dT sT ty e : TypeId} {inf : TypeInfo} {b i dLen dCap m : Nat} {x : Value} {cs : List Value} (hu : P.underlying dT = some (.slice e)) (hi : P.info? e = some inf)
    (hlen : ∀ w' : World, (Builtin.lenOf x).run P w' = .ok m w') (hcs : (Builtin.firstCells inf.size (Nat.min m dLen) x).run P w = .ok cs.toArray w)
    (hc : ∀ j, j < cs.length → (w.cell? ⟨b, i + j, none⟩).isSome = true) (hf : ∀ j, j < cs.length → w.frozen? ⟨b, i + j, none⟩ = false) (h1 : ∀ u ∈ cs, u.oneCell' = true) :
    (Builtin.copy_ #[dT, sT] ty #[.slice (some ⟨b, i, none⟩) dLen dCap, x]).run P w = .ok (.int .i64 (Nat.min m dLen : Nat)) (w.setCells b i cs) := by
  have hst := run_storeCells_cells (P := P) b i cs 0 w (by simpa using hc) (by simpa using hf) h1
  simp only [Nat.add_zero] at hst
  simp [Builtin.copy_, run_underlying hu, hlen, sizeOf, typeInfo, hi, hcs, hst, goInt]
theorem Eff.copy {dT sT e : TypeId} {k by_ b i dLen dCap m : Nat} {d x : Operand} {vx : Value} {cs C : List Value} {T : TypeId} (ho : o.op = .call { callee := .builtin .copy, args := #[d, x], argTypes := #[dT, sT] }) (ht : slcE P dT = some (e, k, by_))
    (hd : ev l d = some (.slice (some ⟨b, i, none⟩) dLen dCap)) (hx : ev l x = some vx) (hlen : ∀ w' : World, (Builtin.lenOf vx).run P w' = .ok m w')
    (hcs : ∀ w, Sat W (Blk b C T :: L) w → (Builtin.firstCells k (Nat.min m dLen) vx).run P w = .ok cs.toArray w) (h1 : cs.all (·.oneCell') = true) (hfit : i + cs.length ≤ C.length) :
    Eff P W Q n l (Blk b C T :: L) o (One (.int .i64 (Nat.min m dLen : Nat)) (Blk b (C.take i ++ cs ++ C.drop (i + cs.length)) T :: L)) := fun a w hf hs K hK => by
  obtain ⟨inf, hu, hi, rfl, rfl⟩ := slcE_of ht
  have c1 : ∀ j, j < cs.length → (w.cell? ⟨b, i + j, none⟩).isSome = true := fun j hj => by
    have hj2 : i + j < C.length := by omega
    rw [hs.head.cell, List.getElem?_eq_getElem hj2]
    rfl
  have hr := run_copy_src (P := P) (sT := sT) (ty := o.type) (dCap := dCap) hu hi hlen (hcs w hs) c1 (fun j hj => hs.head.free (by omega)) (by simpa using h1)
  unfold Oper.wp
  have e0 : (#[d, x].map a.eval) = #[.slice (some ⟨b, i, none⟩) dLen dCap, vx] := by simp [hf.ev hd, hf.ev hx]
  simp only [execOp, ho, resolve, e0, Sem.run_bind, Sem.run_pure, Result.andThen_ok, Go.invoke, builtin]
  rw [hr]
  exact hK _ _ _ ⟨rfl, rfl⟩ (setCells_blk cs C i hfit hs)

/-- copy out of a slice into one's own row (elements of one cell) -/
theorem Eff.copySl {dT sT e : TypeId} {by_ b i dLen dCap b' i' m c' : Nat} {d x : Operand} {cs C C' : List Value} {T : TypeId} (ho : o.op = .call { callee := .builtin .copy, args := #[d, x], argTypes := #[dT, sT] }) (ht : slcE P dT = some (e, 1, by_))
    (hd : ev l d = some (.slice (some ⟨b, i, none⟩) dLen dCap)) (hx : ev l x = some (.slice (some ⟨b', i', none⟩) m c')) (hr : ∀ w, Sat W (Blk b C T :: L) w → w.rangeAt b' i' cs) (hcs : cs.length = m) (hm : m ≤ dLen)
    (h1 : cs.all (·.oneCell') = true) (hfit : i + m ≤ C.length) (hC : C.take i ++ cs ++ C.drop (i + m) = C') :
    Eff P W Q n l (Blk b C T :: L) o (One (.int .i64 ((m : Nat) : Int)) (Blk b C' T :: L)) := by
  subst hC hcs
  have hmin : Nat.min cs.length dLen = cs.length := Nat.min_eq_left hm
  have := Eff.copy (P := P) (W := W) (n := n) (l := l) (L := L) (Q := Q) (m := cs.length) (cs := cs) (C := C) (T := T) (b := b) (i := i) (dLen := dLen) ho ht hd hx (fun w' => rfl) (fun w hs => by
    rw [hmin]
    exact run_firstCells_some w 1 cs.length _ cs.length c' cs (by simp) (cells_range (hr w hs))) h1 (by omega)
  rw [hmin] at this
  exact this
theorem own_oneCell {w : World} {e : TypeId} {k m : Nat} {v : Value} {xs : List Value} (h : Sat W (Own e k v m xs :: L) w) : v.oneCell' = true := by
  rcases h.own with ⟨rfl, _⟩ | ⟨b, c, sp, rfl, _⟩ <;> rfl

/-! ## strings and bytes -/
def isBytes (P : Program) (t : TypeId) : Option TypeId := match P.underlying t with | some (.slice e) => (match P.underlying e with | some (.int .u8) => (if e == 5 then some e else none) | _ => none) | _ => none
theorem isBytes_5 {t e : TypeId} (h : isBytes P t = some e) : e = 5 := by
  unfold isBytes at h
  split at h
  · split at h
    · split at h
      · rename_i h5
        simp only [Option.some.injEq] at h
        subst h
        exact beq_iff_eq.1 h5
      · cases h
    · cases h
  · cases h
theorem isBytes_of {t e : TypeId} (h : isBytes P t = some e) : P.underlying t = some (.slice e) ∧ P.underlying e = some (.int .u8) := by
  unfold isBytes at h
  split at h
  · rename_i e' he
    split at h
    · rename_i he2
      split at h
      · simp only [Option.some.injEq] at h
        subst h
        exact ⟨he, he2⟩
      · cases h
    · cases h
  · cases h
theorem isStr_of {t : TypeId} (ht : isStr P t = true) : P.underlying t = some .string := by
  unfold isStr at ht
  split at ht
  · assumption
  · cases ht
/-- '[]byte(s)' -/
theorem Eff.bytes {u t e : TypeId} {x : Operand} {s : ByteArray} (ho : o.op = .convert u t x) (hu : isStr P u = true) (ht : isBytes P t = some e) (hx : ev l x = some (.string s)) :
    Eff P W Q n l L o (fun v M => ∃ b cap sp, v = .slice (some ⟨b, 0, none⟩) s.size cap ∧ s.size ≤ cap ∧ sp.length = cap - s.size ∧ M = Blk b (byteCells s ++ sp) e :: L) := fun a w hf hs K hK => by
  obtain ⟨h1, h2⟩ := isBytes_of ht
  have hr := Lib.run_convert_string_bytes (P := P) w u t e s (isStr_of hu) h1 h2
  unfold Oper.wp
  simp only [execOp, ho, hf.ev hx, Sem.run_bind, hr]
  have hge := grownCap_ge w s.size 0 e
  refine hK _ _ _ ⟨w.heap.size, grownCap w s.size 0 e, List.replicate (grownCap w s.size 0 e - s.size) (Value.int .u8 0), rfl, hge, by simp, rfl⟩ ?_
  have hcells : (bytesCells w e s) = (byteCells s ++ List.replicate (grownCap w s.size 0 e - s.size) (Value.int .u8 0)).toArray := by
    apply Array.ext'
    simp [bytesCells, byteCells]
  have h3 := (hs.drew).alloc (.cells (bytesCells w e s) e)
  have hsz : (bytesCells w e s).size = grownCap w s.size 0 e := by
    rw [hcells]
    simp only [List.size_toArray, List.length_append, byteCells_length, List.length_replicate]
    omega
  have hb : (w.drew.alloc (.cells (bytesCells w e s) e)).heap[w.heap.size]? = some (.cells (bytesCells w e s) e (0, 0)) := heap_alloc_new w.drew _
  have h4 := h3.write (bytesWorld w e s) (o' := .cells (bytesCells w e s) e (grownCap w s.size 0 e, grownCap w s.size 0 e + 1)) rfl rfl rfl (by simp [bytesWorld, World.freeze]) (by
      show (bytesWorld w e s).heap[w.heap.size]? = _
      simp only [bytesWorld, World.freeze]
      rw [if_neg (by simp)]
      simp only [Array.getElem?_modify, hb, if_true, Option.map_some, hsz, beq_self_eq_true]) (fun k hk => by
      simp only [bytesWorld, World.freeze]
      rw [if_neg (by simp)]
      simp only [Array.getElem?_modify]
      rw [if_neg (fun e => hk e.symm)])
  refine h4.imp fun _ _ _ ⟨k1, k2⟩ => ⟨k1, _, by rw [← hcells]; exact k2, .inr ⟨isBytes_5 ht, fun i hi => ?_⟩⟩
  simp only [List.length_append, byteCells_length, List.length_replicate] at hi
  omega
theorem Val.bytesBack {u t e : TypeId} {x : Operand} {p : Addr} {cap : Nat} {bs : List UInt8} {len : Nat} (ho : o.op = .convert u t x) (hu : isBytes P u = some e) (ht : isStr P t = true) (hx : ev l x = some (.slice (some p) len cap)) (hl : bs.length = len)
    (hc : ∀ w, G w → ∀ j (hj : j < bs.length), w.cell? (p.add j) = some (.int .u8 (bs[j].toNat : Int))) : Val P n l G o (.string ⟨bs.toArray⟩) := fun a w hf hs => by
  subst hl
  obtain ⟨h1, h2⟩ := isBytes_of hu
  have hr := run_convert_bytes_back (P := P) w u t e p cap bs h1 h2 (isStr_of ht) (hc w hs)
  simp only [execOp, ho, hf.ev hx, Sem.run_bind, hr]
  rfl
end
end Go.Proofs.Ytbomnihiapjmpaa.Sl

namespace Go.Proofs.Ytbomnihiapjmpaa.Sl
open Go.RowKit Go.Lib
set_option linter.unusedVariables false

/-! ## what may be had twice -/
def Pers (A : HProp) : Prop := ∀ r s h, A.p r s h → A.p r (fun _ => False) h
theorem Pers.ro {A : HProp} : Pers (Ro A) := fun _ _ _ h => h
theorem Pers.pure {φ : Prop} : Pers (Pure φ) := fun _ _ _ h => h
theorem Pers.old {W : World} : Pers (Old W) := fun _ _ _ h => h
theorem Pers.ex {α : Type} {f : α → HProp} (hf : ∀ x, Pers (f x)) : Pers (Ex f) := fun _ _ _ ⟨x, hx⟩ => ⟨x, hf x _ _ _ hx⟩
theorem Pers.sep : ∀ {L : List HProp}, (∀ A ∈ L, Pers A) → Pers (Sep L)
  | [], _ => fun _ _ _ _ => True.intro
  | A :: L, hL => fun r s h ⟨s1, s2, h1, h2, hd, hA, hp⟩ =>
    ⟨fun _ => False, fun _ => False, fun _ h => h, fun _ h => h, fun _ h => h.elim, hL A List.mem_cons_self _ _ _ hA, Pers.sep (fun B hB => hL B (List.mem_cons_of_mem _ hB)) r s2 h hp⟩
theorem Sat.dup {W w : World} {A : HProp} {L : List HProp} (hp : Pers A) (h : Sat W (A :: L) w) : Sat W (A :: A :: L) w := by
  obtain ⟨r, s, hd, hlt, s1, s2, h1, h2, hs, hA, hL⟩ := h.mem
  exact ⟨h.os, h.tape, h.output, r, s, hd, hlt, fun _ => False, s, fun _ h => h.elim, fun _ h => h, fun _ h => h.elim, hp _ _ _ hA, s1, s2, h1, h2, hs, hA, hL⟩
/-- each of l -/
def AllP {α : Type} (f : α → HProp) (l : List α) : HProp := ⟨fun r _ h => ∀ x ∈ l, (f x).p r (fun _ => False) h, fun _ _ _ _ _ _ hr _ ha h x hx => (f x).mono _ _ _ _ _ _ hr (fun _ h => h) (fun b hb => ha b (hb.imp id False.elim)) (h x hx)⟩
theorem Pers.all {α : Type} {f : α → HProp} {l : List α} : Pers (AllP f l) := fun _ _ _ h => h
theorem Sat.allNil {W w : World} {α : Type} {f : α → HProp} {L : List HProp} (h : Sat W L w) : Sat W (AllP f [] :: L) w := by
  obtain ⟨r, s, hd, hlt, hm⟩ := h.mem
  exact ⟨h.os, h.tape, h.output, r, s, hd, hlt, fun _ => False, s, fun _ h => h.elim, fun _ h => h, fun _ h => h.elim, (fun _ h => by cases h), hm⟩
theorem Sat.allGet {W w : World} {α : Type} {f : α → HProp} {l : List α} {L : List HProp} {x : α} (hx : x ∈ l) (h : Sat W (AllP f l :: L) w) : Sat W (f x :: AllP f l :: L) w := by
  obtain ⟨r, s, hd, hlt, s1, s2, h1, h2, hs, hA, hL⟩ := h.mem
  exact ⟨h.os, h.tape, h.output, r, s, hd, hlt, fun _ => False, s, fun _ h => h.elim, fun _ h => h, fun _ h => h.elim, hA x hx, s1, s2, h1, h2, hs, hA, hL⟩
theorem Sat.allSub {W w : World} {α : Type} {f : α → HProp} {l l' : List α} {L : List HProp} (hl : ∀ x ∈ l', x ∈ l) (h : Sat W (AllP f l :: L) w) : Sat W (AllP f l' :: L) w := h.imp fun _ _ _ hA x hx => hA x (hl x hx)
theorem Sat.allAdd {W w : World} {α : Type} {f : α → HProp} {l l' : List α} {L : List HProp} {x : α} (hp : Pers (f x)) (hl : ∀ y ∈ l', y = x ∨ y ∈ l) (h : Sat W (f x :: AllP f l :: L) w) : Sat W (AllP f l' :: L) w := by
  obtain ⟨r, s, hd, hlt, s1, s2, h1, h2, hs, hA, t1, t2, k1, k2, kd, hB, hL⟩ := h.mem
  refine ⟨h.os, h.tape, h.output, r, s, hd, hlt, fun _ => False, t2, fun _ h => h.elim, fun b hb => h2 b (k2 b hb), fun _ h => h.elim, fun y hy => ?_, hL⟩
  rcases hl y hy with rfl | hy
  · exact hp _ _ _ hA
  · exact hB y hy

/-- a cell that nobody writes any more -/
def Cel (b i : Nat) (v : Value) : HProp := ⟨fun r _ h => r b ∧ ∃ C T fr, h[b]? = some (.cells C T fr) ∧ C[i]? = some v, fun _ _ _ _ _ _ hr _ ha ⟨h1, C, T, fr, h2, h3⟩ => ⟨hr _ h1, C, T, fr, (ha b (.inl h1)).trans h2, h3⟩⟩
theorem Pers.cel {b i : Nat} {v : Value} : Pers (Cel b i v) := fun _ _ _ h => h
theorem Holds.cel {b i : Nat} {v : Value} {w : World} (h : Holds (Cel b i v) w) : w.cell? ⟨b, i, none⟩ = some v := by
  obtain ⟨r, s, -, -, C, T, fr, h1, h2⟩ := h
  simp [World.cell?, h1, h2]
/-- behind a call that only made blocks: cells of a block that it made -/
theorem Sat.fresh {W w w' : World} {L : List HProp} (h : Sat W L w) (hb : Below w.heap.size w w') {b : Nat} (hge : w.heap.size ≤ b) {ps : List (Nat × Value)} (hc : ∀ p ∈ ps, w'.cell? ⟨b, p.1, none⟩ = some p.2) (hne : ps ≠ []) :
    Sat W (AllP (fun p : Nat × Value => Cel b p.1 p.2) ps :: L) w' := by
  obtain ⟨r, s, hd, hlt, hm⟩ := h.mem
  have hbs : b < w'.heap.size := by
    cases ps with
    | nil => exact absurd rfl hne
    | cons p ps => exact World.block_lt_of_cell? w' _ (hc p List.mem_cons_self)
  refine ⟨hb.os.trans h.os, hb.tape.trans h.tape, hb.output.trans h.output, fun k => r k ∨ k = b, s, ?_, ?_, fun _ => False, s, fun _ h => h.elim, fun _ h => h, fun _ h => h.elim, ?_, ?_⟩
  · rintro k (hk | rfl) hs
    · exact hd k hk hs
    · have := hlt _ (.inr hs); omega
  · rintro k ((hk | rfl) | hk)
    · exact Nat.lt_of_lt_of_le (hlt k (.inl hk)) hb.size
    · exact hbs
    · exact Nat.lt_of_lt_of_le (hlt k (.inr hk)) hb.size
  · intro p hp
    refine ⟨.inr rfl, ?_⟩
    have := hc p hp
    unfold World.cell? at this
    split at this
    · rename_i C T fr hC
      exact ⟨C, T, fr, hC, by simpa using this⟩
    · cases this
  · exact parts_mono L _ _ _ _ _ _ (fun _ h => .inl h) (fun _ h => h) (fun k hk => hb.block k (hlt k hk)) hm
theorem Sat.kept {W w w' : World} {L : List HProp} (h : Sat W L w) (hb : Below w.heap.size w w') : Sat W L w' := by
  obtain ⟨r, s, hd, hlt, hm⟩ := h.mem
  exact ⟨hb.os.trans h.os, hb.tape.trans h.tape, hb.output.trans h.output, r, s, hd, fun k hk => Nat.lt_of_lt_of_le (hlt k hk) hb.size, parts_mono L _ _ _ _ _ _ (fun _ h => h) (fun _ h => h) (fun k hk => hb.block k (hlt k hk)) hm⟩
theorem Holds.allGet {α : Type} {f : α → HProp} {l : List α} {w : World} (h : Holds (AllP f l) w) {x : α} (hx : x ∈ l) : Holds (f x) w := by
  obtain ⟨r, s, hlt, hA⟩ := h
  exact ⟨r, fun _ => False, fun b hb => hlt b (hb.imp id False.elim), hA x hx⟩

/-! ## bytes that nobody writes any more -/
def byt (l : List UInt8) : List Value := l.map fun c => .int .u8 c.toNat
@[simp] theorem byt_length (l : List UInt8) : (byt l).length = l.length := by simp [byt]
theorem byt_one (l : List UInt8) : (byt l).all (·.oneCell') = true := by
  rw [List.all_eq_true]; intro x hx; obtain ⟨_, _, rfl⟩ := List.mem_map.1 hx; rfl
theorem byteCells_eq (s : ByteArray) : byteCells s = byt s.data.toList := rfl
/-- the slice v reads as l, for good -/
def Byts (v : Value) (l : List UInt8) : HProp :=
  Ex fun q : Option (Nat × Nat × Nat × List Value × TypeId) => match q with
    | none => Pure (v = .slice none 0 0 ∧ l = [])
    | some (b, i, c, C, T) => Sep [Pure (v = .slice (some ⟨b, i, none⟩) l.length c ∧ l.length ≤ c ∧ (C.drop i).take l.length = byt l), Ro (Blk b C T)]
theorem Byts.pers {v : Value} {l : List UInt8} : Pers (Byts v l) := Pers.ex fun q => by
  cases q with
  | none => exact Pers.pure
  | some q => obtain ⟨b, i, c, C, T⟩ := q; exact Pers.sep (by simp only [List.mem_cons, List.not_mem_nil, or_false]; rintro A (rfl | rfl); exact Pers.pure; exact Pers.ro)
theorem Sat.byts {W w : World} {v : Value} {l : List UInt8} {L : List HProp} (h : Sat W (Byts v l :: L) w) :
    (v = .slice none 0 0 ∧ l = [] ∧ Sat W L w) ∨ ∃ b i c C T, v = .slice (some ⟨b, i, none⟩) l.length c ∧ l.length ≤ c ∧ (C.drop i).take l.length = byt l ∧ Sat W (Ro (Blk b C T) :: L) w := by
  obtain ⟨q, h⟩ := h.ex
  cases q with
  | none => exact .inl ⟨h.pure.1, h.pure.2, h.drop⟩
  | some q =>
    obtain ⟨b, i, c, C, T⟩ := q
    have h2 := h.sep
    exact .inr ⟨b, i, c, C, T, h2.pure.1, h2.pure.2.1, h2.pure.2.2, h2.drop⟩
theorem Sat.bytsMk {W w : World} {b i c : Nat} {C : List Value} {T : TypeId} {l : List UInt8} {L : List HProp} (h : Sat W (Ro (Blk b C T) :: L) w) (hc : l.length ≤ c) (hC : (C.drop i).take l.length = byt l) :
    Sat W (Byts (.slice (some ⟨b, i, none⟩) l.length c) l :: L) w := Sat.ex_mk (some (b, i, c, C, T)) (Sat.sep_mk (Sat.pure_mk ⟨rfl, hc, hC⟩ h))
theorem Sat.bytsNil {W w : World} {L : List HProp} (h : Sat W L w) : Sat W (Byts (.slice none 0 0) [] :: L) w := Sat.ex_mk none (Sat.pure_mk ⟨rfl, rfl⟩ h)
theorem Sat.bytsStr {W w : World} {b c : Nat} {sp : List Value} {T : TypeId} {s : ByteArray} {L : List HProp} (h : Sat W (Blk b (byteCells s ++ sp) T :: L) w) (hc : s.size ≤ c) :
    Sat W (Byts (.slice (some ⟨b, 0, none⟩) s.size c) s.data.toList :: L) w := by
  have e : s.data.toList.length = s.size := by rw [Array.length_toList]; rfl
  have := Sat.bytsMk (i := 0) (l := s.data.toList) (c := c) h.freeze (by omega) (by simp [byteCells_eq])
  rwa [e] at this
/-- 'string(b)' -/
theorem Val.str {P : Program} {n : Nat} {l : List (Nat × Value)} {G : World → Prop} {o : Oper} {u t e : TypeId} {x : Operand} {v : Value} {bs : List UInt8} (ho : o.op = .convert u t x) (hu : isBytes P u = some e) (ht : isStr P t = true) (hx : ev l x = some v)
    (hc : ∀ w, G w → Holds (Byts v bs) w) : Val P n l G o (.string ⟨bs.toArray⟩) := fun a w hf hs => by
  obtain ⟨h1, h2⟩ := isBytes_of hu
  obtain ⟨r, s, hlt, q, hq⟩ := hc w hs
  cases q with
  | none =>
    obtain ⟨rfl, rfl⟩ := hq
    have hr : (convert u t (.slice none 0 0)).run P w = .ok (.string ⟨#[]⟩) w := by
      simp [convert, run_underlying h1 w, run_underlying h2 w, run_underlying (isStr_of ht) w, Conv.bytesToString]
      rfl
    simp only [execOp, ho, hf.ev hx, Sem.run_bind, hr]
    rfl
  | some q =>
    obtain ⟨b, i, c, C, T⟩ := q
    obtain ⟨s1, s2, -, k2, -, ⟨rfl, -, hC⟩, t1, t2, -, -, -, hro, -⟩ := hq
    have hold : Holds (Ro (Blk b C T)) w := ⟨r, fun _ => False, fun b hb => hlt b (hb.imp id False.elim), hro⟩
    have hr := run_convert_bytes_back (P := P) w u t e ⟨b, i, none⟩ c bs h1 h2 (isStr_of ht) (fun j hj => by
      rw [Addr.add_mid, hold.ro.cell]
      have hj2 : (byt bs)[j]? = some (.int .u8 (bs[j].toNat : Int)) := by simp [byt, hj]
      rw [← hC, List.getElem?_take, if_pos hj] at hj2
      simpa using hj2)
    simp only [execOp, ho, hf.ev hx, Sem.run_bind, hr]
    rfl
theorem bytesAt {w : World} {b i : Nat} {bs : List UInt8} (h : w.rangeAt b i (byt bs)) : ∀ j (hj : j < bs.length), w.cell? ((⟨b, i, none⟩ : Addr).add j) = some (.int .u8 (bs[j].toNat : Int)) := fun j hj => by
  rw [Addr.add_mid]
  exact h j _ (by simp [byt, hj])
theorem rangeAt_drop {w : World} {b i k : Nat} {bs : List UInt8} (h : w.rangeAt b i (byt bs)) : w.rangeAt b (i + k) (byt (bs.drop k)) := fun j v hj => by
  rw [Nat.add_assoc]
  refine h (k + j) v ?_
  simpa [byt] using hj
theorem rangeAt_take {w : World} {b i k : Nat} {bs : List UInt8} (h : w.rangeAt b i (byt bs)) : w.rangeAt b i (byt (bs.take k)) := fun j v hj => by
  refine h j v ?_
  simp only [byt, List.map_take] at hj ⊢
  rw [List.getElem?_take] at hj
  split at hj
  · exact hj
  · cases hj
theorem rangeAt_cut {w : World} {b i c k : Nat} {bs : List UInt8} (h : w.rangeAt b i (byt bs)) (hc : bs.length ≤ c) : w.rangeAt b (if c = k then i else i + k) (byt (bs.drop k)) := by
  split
  · rename_i e
    have : bs.drop k = [] := List.drop_eq_nil_of_le (by omega)
    rw [this]
    intro j v hj
    simp [byt] at hj
  · exact rangeAt_drop h
theorem byt_copy {pend junk p : List UInt8} (h : p.length ≤ junk.length) : (byt pend ++ byt junk).take pend.length ++ byt p ++ (byt pend ++ byt junk).drop (pend.length + p.length) = byt (pend ++ p) ++ byt (junk.drop p.length) := by
  have e : pend.length = (byt pend).length := by simp
  rw [List.take_append_of_le_length (by simp), e, List.take_length, List.drop_append]
  simp [byt]
theorem byt_append (x y : List UInt8) : byt (x ++ y) = byt x ++ byt y := by simp [byt]
theorem seq_eq (x y : ByteArray) : seq x y = decide (x = y) := by
  have h : seq x y = true ↔ x = y := by
    unfold seq
    rw [beq_iff_eq]
    constructor
    · intro h
      rw [ByteArray.toList_eq, ByteArray.toList_eq] at h
      exact Go.WideShapes.bytes_inj h
    · rintro rfl; rfl
  by_cases hxy : x = y
  · rw [decide_eq_true hxy]; exact h.2 hxy
  · rw [decide_eq_false hxy]; exact Bool.eq_false_iff.2 (fun e => hxy (h.1 e))
end Go.Proofs.Ytbomnihiapjmpaa.Sl

namespace Go.Proofs.Ytbomnihiapjmpaa.SlRead
open Go.RowKit Go.Lib Go.ChangeShapes Go.WideShapes Go.Deep

/-- The cells read as data of a type, in some way of reading. -/
def Reads (P : Program) (w : World) (t : TypeId) (cs : List Value) : Prop :=
  ∃ (H : Type) (enc : TypeId × Value → H) (base : Nat) (spare : Nat → Bool) (held : Bool) (fuel : Nat) (x : DataW H × List MemPlace), DataW.trod enc P w base spare held fuel t cs = some x

section
variable {P : Program} {w : World}
theorem Reads.int {t : TypeId} {cs : List Value} {k : IntKind} (ht : P.underlying t = some (.int k)) (h : Reads P w t cs) : ∃ n, cs = [.int k n] ∧ (Lit.int k n).wf = true := by
  obtain ⟨H, enc, base, spare, held, fuel, x, h⟩ := h
  obtain ⟨n, h1, _, h2⟩ := DataW.trod_int ht h
  exact ⟨n, h1, h2⟩
theorem Reads.bool {t : TypeId} {cs : List Value} (ht : P.underlying t = some .bool) (h : Reads P w t cs) : ∃ b, cs = [.bool b] := by
  obtain ⟨H, enc, base, spare, held, fuel, x, h⟩ := h
  obtain ⟨n, h1, _⟩ := DataW.trod_bool ht h
  exact ⟨n, h1⟩
theorem Reads.string {t : TypeId} {cs : List Value} (ht : P.underlying t = some .string) (h : Reads P w t cs) : ∃ s : ByteArray, cs = [.string s] ∧ s.size ≤ maxLen := by
  obtain ⟨H, enc, base, spare, held, fuel, x, h⟩ := h
  obtain ⟨n, h1, _, h2⟩ := DataW.trod_string ht h
  exact ⟨n, h1, h2⟩
theorem Reads.struct {t : TypeId} {cs : List Value} {fs : Array Field} (ht : P.underlying t = some (.struct fs)) (h : Reads P w t cs) :
    cs.length = P.cellsOf t ∧ ∀ (i : Nat) (f : Field), fs[i]? = some f → Reads P w f.type ((cs.drop f.offset).take (P.cellsOf f.type)) := by
  obtain ⟨H, enc, base, spare, held, fuel, x, h⟩ := h
  obtain ⟨xs, n, _, _, h1, h2, h3⟩ := DataW.trod_struct ht h
  refine ⟨h1, fun i f hf => ?_⟩
  have := h3 i f hf
  have hi : i < xs.length := by rw [h2]; exact (Array.getElem?_eq_some_iff.1 hf).1
  rw [List.getElem?_eq_getElem hi] at this
  exact ⟨H, enc, base, spare, held, n, _, this⟩
/-- a struct of one-cell fields, field by field -/
theorem Reads.fields {t : TypeId} {cs : List Value} {fs : Array Field} (ht : P.underlying t = some (.struct fs)) (hone : oneCellFields P fs = true) (hC : P.cellsOf t = fs.size) (h : Reads P w t cs) :
    cs.length = fs.size ∧ ∀ (j : Nat) (f : Field), fs[j]? = some f → ∀ v, cs[j]? = some v → Reads P w f.type [v] := by
  obtain ⟨h1, h2⟩ := h.struct ht
  refine ⟨by rw [h1, hC], fun j f hj v hv => ?_⟩
  obtain ⟨ho, hk⟩ := hone_of hone j f hj
  have h3 := h2 j f hj
  rw [ho, hk] at h3
  have hjl : j < cs.length := (List.getElem?_eq_some_iff.1 hv).1
  have e : (cs.drop j).take 1 = [v] := by
    rw [List.drop_eq_getElem_cons hjl]
    have := (List.getElem?_eq_some_iff.1 hv).2
    simp [this]
  rw [e] at h3
  exact h3
/-- the row of cells at an address -/
def CellsAt (w : World) (a : Option Addr) (k : Nat) (cs : List Value) : Prop :=
  ∃ b o, a = some ⟨b, o, none⟩ ∧ b < w.heap.size ∧ ∀ j, j < cs.length → w.cell? ⟨b, o + (k + j), none⟩ = cs[j]?
theorem cell_lt {a : Addr} {v : Value} (h : w.cell? a = some v) : a.block < w.heap.size ∧ a.spot = none := by
  unfold World.cell? at h
  split at h
  · rename_i hb
    refine ⟨(Array.getElem?_eq_some_iff.1 hb).1, ?_⟩
    split at h
    · simp at h
    · rename_i hs; simpa using hs
  · simp at h
theorem Reads.slice {t e : TypeId} {cs : List Value} (ht : P.underlying t = some (.slice e)) (hc : 0 < P.cellsOf e) (h : Reads P w t cs) :
    ∃ a n c, cs = [.slice a n c] ∧ n ≤ c ∧ c ≤ maxLen ∧ (a = none → n = 0 ∧ c = 0) ∧ ∀ i, i < n → ∃ ds, ds.length = P.cellsOf e ∧ CellsAt w a (i * P.cellsOf e) ds ∧ Reads P w e ds := by
  obtain ⟨H, enc, base, spare, held, fuel, x, h⟩ := h
  rcases open_slice ht h with ⟨h1, _⟩ | ⟨a, len, cap, m, n, D, Pl, hcs, hb, hl, hm, hmm, hx, hi⟩
  · exact ⟨none, 0, 0, h1, Nat.le_refl _, Nat.zero_le _, fun _ => ⟨rfl, rfl⟩, fun i hi => by omega⟩
  · refine ⟨some a, len, cap, hcs, hl, hm, fun h => by simp at h, fun i him => ?_⟩
    have him' : i < m := by rw [hmm]; split <;> omega
    obtain ⟨cs', hc', ht'⟩ := hi i him'
    obtain ⟨_, hcl, hat⟩ := World.cells?_some hc'
    refine ⟨cs', hcl, ?_, H, enc, base, spare, held, n, _, ht'⟩
    have h0 := hat 0 hc
    have hv : cs'[0]? = some (cs'[0]'(by omega)) := List.getElem?_eq_getElem (by omega)
    rw [hv] at h0
    obtain ⟨hlt, hsp⟩ := cell_lt h0
    have hadd : ∀ j, ((a.add (i * P.cellsOf e)).add j).block = a.block := by intro j; unfold Addr.add; split <;> split <;> rfl
    have hsp' : a.spot = none ∨ i * P.cellsOf e ≠ 0 := by
      by_cases hz : i * P.cellsOf e = 0
      · left; simpa [Addr.add, hz] using hsp
      · exact .inr hz
    by_cases hsa : a.spot = none
    · obtain ⟨b, o, sp⟩ := a
      simp only at hsa
      subst hsa
      refine ⟨b, o, rfl, by rw [hadd] at hlt; exact hlt, fun j hj => ?_⟩
      rw [← hat j (by omega)]
      congr 1
      unfold Addr.add
      split <;> split <;> simp_all <;> omega
    · exfalso
      have hl0 : 0 < m := by omega
      obtain ⟨cs0, hc0, _⟩ := hi 0 hl0
      obtain ⟨_, hcl0, hat0⟩ := World.cells?_some hc0
      have h00 := hat0 0 hc
      have hv0 : cs0[0]? = some (cs0[0]'(by omega)) := List.getElem?_eq_getElem (by omega)
      rw [hv0] at h00
      have := (cell_lt h00).2
      simp [Addr.add] at this
      exact hsa this
end
/-- a slice of elements of k cells each, which reads as l -/
def RowsAt {α : Type} (w : World) (k : Nat) (cf : α → List Value) (a : Option Addr) (l : List α) : Prop := l = [] ∨ ∃ b o, a = some ⟨b, o, none⟩ ∧ b < w.heap.size ∧ ∀ i x, l[i]? = some x → w.rangeAt b (o + i * k) (cf x)
theorem Reads.rows {α : Type} {P : Program} {w : World} {t e : TypeId} {k : Nat} {cs : List Value} (cf : α → List Value) (p : α → Prop) (ht : P.underlying t = some (.slice e)) (hk : P.cellsOf e = k) (hk0 : 0 < k) (h : Reads P w t cs)
    (he : ∀ ds, Reads P w e ds → ∃ x, ds = cf x ∧ p x) : ∃ a n c l, cs = [.slice a n c] ∧ n ≤ c ∧ c ≤ maxLen ∧ (a = none → n = 0 ∧ c = 0) ∧ l.length = n ∧ RowsAt w k cf a l ∧ ∀ x ∈ l, p x := by
  obtain ⟨a, n, c, h1, h2, h3, h4, h5⟩ := h.slice ht (by omega)
  rw [hk] at h5
  have hx : ∀ i, i < n → ∃ x : α, (cf x).length = k ∧ CellsAt w a (i * k) (cf x) ∧ p x := by
    intro i hi
    obtain ⟨ds, hl, hat, hr⟩ := h5 i hi
    obtain ⟨x, rfl, hp⟩ := he ds hr
    exact ⟨x, hl, hat, hp⟩
  have : ∀ m, m ≤ n → ∃ l : List α, l.length = m ∧ (∀ i x, l[i]? = some x → (cf x).length = k ∧ CellsAt w a (i * k) (cf x)) ∧ ∀ x ∈ l, p x := by
    intro m
    induction m with
    | zero => intro _; exact ⟨[], rfl, by simp, by simp⟩
    | succ m ih =>
      intro hm
      obtain ⟨l, hl, hl2, hl3⟩ := ih (by omega)
      obtain ⟨x, hx1, hx2, hx3⟩ := hx m (by omega)
      refine ⟨l ++ [x], by simp [hl], fun i y hy => ?_, fun y hy => ?_⟩
      · rcases Nat.lt_or_ge i l.length with h | h
        · rw [List.getElem?_append_left h] at hy
          exact hl2 i y hy
        · rw [List.getElem?_append_right h] at hy
          have h0 : i - l.length = 0 := by
            rcases Nat.eq_zero_or_pos (i - l.length) with h | h
            · exact h
            · rw [List.getElem?_eq_none (by simp; omega)] at hy; cases hy
          rw [h0] at hy
          obtain rfl : x = y := by simpa using hy
          rw [show i = m by omega]
          exact ⟨hx1, hx2⟩
      · rcases List.mem_append.1 hy with h | h
        · exact hl3 y h
        · obtain rfl : y = x := by simpa using h
          exact hx3
  obtain ⟨l, hl, hl2, hl3⟩ := this n (Nat.le_refl _)
  refine ⟨a, n, c, l, h1, h2, h3, h4, hl, ?_, hl3⟩
  cases l with
  | nil => exact .inl rfl
  | cons x l =>
    obtain ⟨-, b, o, rfl, hb, -⟩ := hl2 0 x rfl
    refine .inr ⟨b, o, rfl, hb, fun i y hy j v hj => ?_⟩
    obtain ⟨-, b', o', he', hb', hat⟩ := hl2 i y hy
    cases he'
    have hjl : j < (cf y).length := (List.getElem?_eq_some_iff.1 hj).1
    rw [Nat.add_assoc, hat j hjl]
    exact hj
end Go.Proofs.Ytbomnihiapjmpaa.SlRead
namespace Go.Proofs.Ytbomnihiapjmpaa.Sl
open Go.Proofs.Ytbomnihiapjmpaa.SlRead
/-- the slice va reads as l as long as A holds -/
def Rd {α : Type} (A : HProp) (k : Nat) (cf : α → List Value) (va : Value) (l : List α) : Prop :=
  (∃ b o c, va = .slice (some ⟨b, o, none⟩) l.length c ∧ ∀ w, Holds A w → ∀ i x, l[i]? = some x → w.rangeAt b (o + i * k) (cf x)) ∨ (l = [] ∧ ∃ a c, va = .slice a 0 c)
theorem rd_old {α : Type} {W0 : World} {k c : Nat} {cf : α → List Value} {a : Option Addr} {l : List α} (h : RowsAt W0 k cf a l) : Rd (Old W0) k cf (.slice a l.length c) l := by
  rcases h with rfl | ⟨b, o, rfl, hb, h⟩
  · exact .inr ⟨rfl, a, c, rfl⟩
  · refine .inl ⟨b, o, c, rfl, fun w ho i x hx j v hj => ?_⟩
    exact (World.cell?_of_block (ho.old b hb)).trans (h i x hx j v hj)
def flatOf {α : Type} (cf : α → List Value) (l : List α) : List Value := l.flatMap cf
theorem flatOf_length {α : Type} {cf : α → List Value} {k : Nat} (hk : ∀ x, (cf x).length = k) : ∀ l : List α, (flatOf cf l).length = l.length * k
  | [] => by simp [flatOf]
  | x :: l => by
    have := flatOf_length hk l
    simp only [flatOf, List.flatMap_cons, List.length_append, List.length_cons, hk] at *
    rw [this, Nat.add_mul]; omega
theorem flatOf_snoc {α : Type} (cf : α → List Value) (l : List α) (x : α) : flatOf cf (l ++ [x]) = flatOf cf l ++ cf x := by simp [flatOf]
theorem flatOf_at {α : Type} {cf : α → List Value} {k : Nat} (hk : ∀ x, (cf x).length = k) : ∀ (l : List α) (i j : Nat) (x : α), l[i]? = some x → j < k → (flatOf cf l)[i * k + j]? = (cf x)[j]?
  | y :: l, 0, j, x, h, hj => by
    obtain rfl : y = x := by simpa using h
    simp only [flatOf, List.flatMap_cons, Nat.zero_mul, Nat.zero_add]
    rw [List.getElem?_append_left (by rw [hk]; exact hj)]
  | y :: l, i + 1, j, x, h, hj => by
    have ih := flatOf_at hk l i j x (by simpa using h) hj
    simp only [flatOf, List.flatMap_cons] at *
    rw [List.getElem?_append_right (by rw [hk, Nat.add_mul]; omega), ← ih, hk]
    congr 1
    rw [Nat.add_mul]; omega
theorem flatOf_range {α : Type} {cf : α → List Value} {k : Nat} (hk : ∀ x, (cf x).length = k) {l : List α} {sp : List Value} {i : Nat} {x : α} (hx : l[i]? = some x) : ((flatOf cf l ++ sp).drop (i * k)).take (cf x).length = cf x := by
  apply List.ext_getElem?
  intro j
  rw [List.getElem?_take]
  have hlt := (List.getElem?_eq_some_iff.1 hx).1
  split
  · rename_i hj
    rw [hk] at hj
    rw [List.getElem?_drop, List.getElem?_append_left (by
      rw [flatOf_length hk]
      have := Nat.mul_le_mul_right k (show i + 1 ≤ l.length by omega)
      rw [Nat.add_mul] at this; omega)]
    exact flatOf_at hk l i j x hx hj
  · rename_i hj
    rw [List.getElem?_eq_none (by omega)]
theorem rd_blk {α : Type} {cf : α → List Value} {k : Nat} (hk : ∀ x, (cf x).length = k) (b c : Nat) (T : TypeId) (l : List α) : Rd (Blk b (flatOf cf l) T) k cf (.slice (some ⟨b, 0, none⟩) l.length c) l := by
  refine .inl ⟨b, 0, c, rfl, fun w h i x hx => ?_⟩
  have := flatOf_range hk (sp := []) hx
  rw [List.append_nil] at this
  rw [Nat.zero_add]
  exact h.cell_range this
theorem Rd.len {α : Type} {P : Program} {n : Nat} {l0 : List (Nat × Value)} {G : World → Prop} {o : Oper} {x : Operand} {A : HProp} {k k' by_ : Nat} {t e : TypeId} {cf : α → List Value} {va : Value} {l : List α} (h : Rd A k cf va l) (ho : o.op = .call { callee := .builtin .len, args := #[x], argTypes := #[t] }) (ht : slcE P t = some (e, k', by_)) (hx : ev l0 x = some va) : Val P n l0 G o (.int .i64 ((l.length : Nat) : Int)) := by
  rcases h with ⟨b, o', c, rfl, -⟩ | ⟨rfl, a, c, rfl⟩
  · exact Val.len ho ht hx
  · exact Val.len ho ht hx
theorem take_more {α : Type} {l : List α} {i : Nat} {x : α} (h : l[i]? = some x) : l.take (i + 1) = l.take i ++ [x] := by
  rw [List.take_add_one, h]; rfl
/-- v is a slice of n elements, whose cells are xs, for good -/
def Seq (v : Value) (n : Nat) (xs : List Value) : HProp :=
  Ex fun q : Option (Nat × Nat × List Value × TypeId) => match q with
    | none => Pure (v = .slice none 0 0 ∧ n = 0 ∧ xs = [])
    | some (b, c, sp, T) => Sep [Pure (v = .slice (some ⟨b, 0, none⟩) n c ∧ n ≤ c), Ro (Blk b (xs ++ sp) T)]
theorem Seq.pers {v : Value} {n : Nat} {xs : List Value} : Pers (Seq v n xs) := Pers.ex fun q => by
  cases q with
  | none => exact Pers.pure
  | some q => obtain ⟨b, c, sp, T⟩ := q; exact Pers.sep (by simp only [List.mem_cons, List.not_mem_nil, or_false]; rintro A (rfl | rfl); exact Pers.pure; exact Pers.ro)
theorem Sat.seqMk {W w : World} {v : Value} {n k : Nat} {xs : List Value} {e : TypeId} {L : List HProp} (h : Sat W (Own e k v n xs :: L) w) : Sat W (Seq v n xs :: L) w := by
  rcases h.own with ⟨rfl, h1, h2, h3⟩ | ⟨b, cap, sp, rfl, h1, h2, h3, h4, h5⟩
  · exact Sat.ex_mk none (Sat.pure_mk ⟨rfl, h1, h2⟩ h3)
  · exact Sat.ex_mk (some (b, cap, sp, e)) (Sat.sep_mk (Sat.pure_mk ⟨rfl, h1⟩ h5.freeze))
theorem seq_oneCell {W w : World} {v : Value} {n : Nat} {xs : List Value} {L : List HProp} (h : Sat W (Seq v n xs :: L) w) : v.oneCell' = true := by
  obtain ⟨q, h⟩ := h.ex
  cases q with
  | none => rw [h.pure.1]; rfl
  | some q => rw [h.sep.pure.1]; rfl
/-- where there is an element, there is a row -/
theorem Sat.seqOpen {W w : World} {v : Value} {n : Nat} {xs : List Value} {L : List HProp} (hn : 0 < n) (h : Sat W (Seq v n xs :: L) w) :
    ∃ q : Nat × Nat × List Value × TypeId, Sat W (Pure (v = .slice (some ⟨q.1, 0, none⟩) n q.2.1 ∧ n ≤ q.2.1) :: Ro (Blk q.1 (xs ++ q.2.2.1) q.2.2.2) :: Seq v n xs :: L) w := by
  obtain ⟨q, h⟩ := (Sat.dup (A := Seq v n xs) Seq.pers h).ex
  cases q with
  | none => exact absurd h.pure.2.1 (by omega)
  | some q => exact ⟨q, h.sep⟩
theorem Val.lenSeq {P : Program} {n : Nat} {l : List (Nat × Value)} {G : World → Prop} {o : Oper} {t e : TypeId} {k by_ m : Nat} {x : Operand} {v : Value} {xs : List Value} (ho : o.op = .call { callee := .builtin .len, args := #[x], argTypes := #[t] }) (ht : slcE P t = some (e, k, by_)) (hx : ev l x = some v)
    (hc : ∀ w, G w → Holds (Seq v m xs) w) : Val P n l G o (.int .i64 ((m : Nat) : Int)) := fun a w hf hs => by
  obtain ⟨r, s, -, q, hq⟩ := hc w hs
  cases q with
  | none => obtain ⟨rfl, rfl, -⟩ := hq; exact Val.len (G := G) ho ht hx a w hf hs
  | some q =>
    obtain ⟨b, c, sp, T⟩ := q
    obtain ⟨s1, s2, -, -, -, ⟨rfl, -⟩, -⟩ := hq
    exact Val.len (G := G) ho ht hx a w hf hs
/-- a slice of strings, for good -/
abbrev Strs (v : Value) (ss : List ByteArray) : HProp := Seq v ss.length (ss.map .string)
end Go.Proofs.Ytbomnihiapjmpaa.Sl

namespace Go.Proofs.Ytbomnihiapjmpaa.Sl
open Go.RowKit Go.Lib
set_option linter.unusedSectionVars false
set_option linter.unusedVariables false
set_option linter.unusedSimpArgs false
section
variable [Dfs]
variable {P : Program} {W : World} {n : Nat} {l : List (Nat × Value)} {L : List HProp} {o : Oper} {Q : Exit → Act → World → Prop}
/-- 'append([]T(nil), make([]T, m)...)' -/
theorem Eff.appendZeros {t tx e : TypeId} {k by_ m : Nat} {ki kx : IntKind} {s x : Operand} {z : Int} {C : List Value} (ho : o.op = .call { callee := .builtin .append, args := #[s, x], argTypes := #[t, tx] })
    (ht : slcE P t = some (e, k, by_)) (hz : zeroC P e = some C) (hC : C.length = k) (hk : intK P tx = some kx) (hs : ev l s = some (.slice none 0 0)) (hx : ev l x = some (.int ki z)) (hm : z = (m : Int)) (h0 : 0 < m) (hk0 : 0 < k)
    (h63 : m ≤ 9223372036854775807) (hb : m * by_ ≤ 281474976710656) : Eff P W Q n l L o (fun v L' => ∃ b cap sp, v = .slice (some ⟨b, 0, none⟩) m cap ∧ m ≤ cap ∧ cap ≤ maxLen ∧ sp.length = cap * k ∧ L' = Blk b sp e :: L) := fun a w hf hsat K hK => by
  subst hm
  obtain ⟨inf, hu, hi, rfl, rfl⟩ := slcE_of ht
  obtain ⟨i2, z, hi2, hz2, hcz⟩ := zeroC_of hz
  rw [hi] at hi2
  obtain rfl : inf = i2 := by simpa using hi2
  have hkt : P.underlying tx = some (.int kx) := by
    unfold intK at hk
    split at hk
    · rename_i k' hk'; simp only [Option.some.injEq] at hk; subst hk; exact hk'
    · cases hk
  have hr := run_append_nil_zeros (P := P) w t tx o.type e inf z ki kx hu hkt hi hz2 m h0 hk0 (by omega) hb
  unfold Oper.wp
  have e0 : (#[s, x].map a.eval) = #[.slice none 0 0, .int ki (m : Int)] := by simp [hf.ev hs, hf.ev hx]
  simp only [execOp, ho, resolve, e0, Sem.run_bind, Sem.run_pure, Result.andThen_ok, Go.invoke, builtin, hr]
  have hge := grownCap_ge w m 0 e
  have hle := grownCap_le_maxLen w m 0 e (by unfold maxLen; omega)
  have h1 := (hsat.drew).blk ((Builtin.zeroCells z.cells m).toList ++ (Builtin.zeroCells z.cells (grownCap w m 0 e - m)).toList) e
  have e1 : ((Builtin.zeroCells z.cells m).toList ++ (Builtin.zeroCells z.cells (grownCap w m 0 e - m)).toList).toArray = Builtin.zeroCells z.cells m ++ Builtin.zeroCells z.cells (grownCap w m 0 e - m) := by
    apply Array.ext'; simp
  rw [e1] at h1
  refine hK _ _ _ ⟨w.heap.size, grownCap w m 0 e, _, rfl, hge, hle, ?_, rfl⟩ h1
  rw [List.length_append, zeroCells_list z C hcz, zeroCells_list z C hcz, hC, ← Nat.add_mul]
  congr 1; omega
theorem rd_cell {α : Type} {w : World} {b o : Nat} {k : Nat} {cf : α → List Value} (hk : ∀ x, (cf x).length = k) {l : List α} (h : ∀ i x, l[i]? = some x → w.rangeAt b (o + i * k) (cf x)) :
    ∀ j u, (flatOf cf l)[j]? = some u → w.cell? ⟨b, o + j, none⟩ = some u := by
  intro j u hj
  have hlt := (List.getElem?_eq_some_iff.1 hj).1
  rw [flatOf_length hk] at hlt
  have hk0 : 0 < k := by
    rcases Nat.eq_zero_or_pos k with h0 | h0
    · subst h0; omega
    · exact h0
  have hq : j / k < l.length := Nat.div_lt_of_lt_mul (by rw [Nat.mul_comm]; exact hlt)
  have hx : l[j / k]? = some l[j / k] := List.getElem?_eq_getElem hq
  have hm : j % k < k := Nat.mod_lt _ hk0
  have hdm : j / k * k + j % k = j := by rw [Nat.mul_comm]; exact Nat.div_add_mod j k
  have h1 := flatOf_at hk l (j / k) (j % k) _ hx hm
  rw [hdm, hj] at h1
  have h2 := h (j / k) _ hx (j % k) u h1.symm
  rw [Nat.add_assoc, hdm] at h2
  exact h2
/-- what is read as l is appended -/
theorem Srcs.rd {α : Type} {A : HProp} {k c : Nat} {tx e' : TypeId} {k' b' : Nat} {b o : Nat} {cf : α → List Value} {l : List α} (hk : slcE P tx = some (e', k', b')) (hcf : ∀ x, (cf x).length = k) (h1 : (flatOf cf l).all (·.oneCell') = true)
    (hr : ∀ w, Holds A w → ∀ i x, l[i]? = some x → w.rangeAt b (o + i * k) (cf x)) (i : Nat) (hi : L[i]? = some A) : Srcs P W L k tx (.slice (some ⟨b, o, none⟩) l.length c) l.length (flatOf cf l) :=
  Srcs.slice hk (flatOf_length hcf l) h1 fun w hs j u hj => by
    rw [Addr.add_mid]
    exact rd_cell hcf (hr w (hs.at i hi)) j u hj
theorem flat_set {α : Type} {cf : α → List Value} {k : Nat} (hk : ∀ x, (cf x).length = k) : ∀ (l : List α) (i : Nat) (x : α) (sp : List Value), i < l.length →
    (flatOf cf l ++ sp).take (i * k) ++ cf x ++ (flatOf cf l ++ sp).drop (i * k + k) = flatOf cf (l.set i x) ++ sp
  | [], i, x, sp, h => by simp at h
  | y :: l, 0, x, sp, h => by
    have : (cf y).length = k := hk y
    simp only [flatOf, List.flatMap_cons, Nat.zero_mul, List.take_zero, List.nil_append, Nat.zero_add, List.set_cons_zero, List.append_assoc]
    rw [← this, List.drop_left]
  | y :: l, i + 1, x, sp, h => by
    have hy : (cf y).length = k := hk y
    have ih := flat_set hk l i x sp (by simpa using h)
    simp only [flatOf, List.flatMap_cons, List.set_cons_succ, List.append_assoc] at ih ⊢
    have e1 : (i + 1) * k = (cf y).length + i * k := by rw [Nat.add_mul, hy]; omega
    rw [e1, List.take_length_add_append, Nat.add_assoc, List.drop_length_add_append, List.append_assoc, ih]
end
end Go.Proofs.Ytbomnihiapjmpaa.Sl

namespace Go.Proofs.Ytbomnihiapjmpaa.Sl
open Go.RowKit Go.Lib
set_option linter.unusedSectionVars false
set_option linter.unusedVariables false
set_option linter.unusedSimpArgs false
section
variable [Dfs]
variable {P : Program} {W : World} {ops : Array Oper} {Q : Exit → Act → World → Prop} {n : Nat} {l : List (Nat × Value)} {L : List HProp} {o : Oper}
theorem WPD.stepG {S : World → Prop} {fuel : Nat} {listed : Array Bool} {d : Tmp} {R : Value → List HProp → Prop} {g : Nat} {want : Bool} {t : Tmp} {b : Bool} (i : Nat) (hr : Region.ready .any ops listed = [i]) (hi : ops[i]? = some o) (hg : o.guard = some (g, want))
    (ht : slotAt ops g = some t) (hn : Nat.ble (t + 1) n = true) (hb : look l t = some (.bool b)) (hne : (b == want) = true) (hd : o.dst = some d) (hlt : Nat.ble (d + 1) n = true)
    (he : Eff P W Q n l L o R) (h : ∀ v L', R v L' → (∀ w, Sat W L' w → S w) ∧ WPD P W ops Q S fuel (listed.setIfInBounds i true) n ((d, v) :: l) L') : WPD P W ops Q S (fuel + 1) listed n l L := by
  intro a w hf hs
  refine wpF_all hr (by simp) fun j hj => ?_
  obtain rfl : j = i := by simpa using hj
  refine wpOp_step hi fun K hK => ?_
  rw [if_pos (by rw [wanted_of hg ht hn hf hb, hne])]
  refine he a w hf hs K fun v L' w' hR hs' => ?_
  rw [hd]
  exact hK _ _ ⟨S, .inl rfl, (h v L' hR).1 w' hs', (h v L' hR).2 _ _ (hf.put (Nat.le_of_ble_eq_true hlt) v) hs'⟩
theorem WPD.stepGC {S : World → Prop} {fuel : Nat} {listed : Array Bool} {d : Tmp} {R : Value → List HProp → Prop} {g : Nat} {want : Bool} {t : Tmp} {b : Bool} (i : Nat) (hr : Region.ready .any ops listed = [i]) (hi : ops[i]? = some o) (hg : o.guard = some (g, want))
    (ht : slotAt ops g = some t) (hn : Nat.ble (t + 1) n = true) (hb : look l t = some (.bool b)) (hne : (b == want) = true) (hd : o.dst = some d) (hlt : Nat.ble (d + 1) n = true) (hcut : cutB ops i = true)
    (he : Eff P W Q n l L o R) (h : ∀ v L', R v L' → ∃ S', (∀ w, Sat W L' w → S' w) ∧ WPD P W ops Q S' fuel (listed.setIfInBounds i true) n ((d, v) :: l) L') : WPD P W ops Q S (fuel + 1) listed n l L := by
  intro a w hf hs
  refine wpF_all hr (by simp) fun j hj => ?_
  obtain rfl : j = i := by simpa using hj
  refine wpOp_step hi fun K hK => ?_
  rw [if_pos (by rw [wanted_of hg ht hn hf hb, hne])]
  refine he a w hf hs K fun v L' w' hR hs' => ?_
  rw [hd]
  obtain ⟨S', h1, h2⟩ := h v L' hR
  exact hK _ _ ⟨S', .inr (.inl hcut), h1 w' hs', h2 _ _ (hf.put (Nat.le_of_ble_eq_true hlt) v) hs'⟩
theorem Sat.ownPos {w : World} {e : TypeId} {k m : Nat} {v : Value} {xs : List Value} (hm : 0 < m) (h : Sat W (Own e k v m xs :: L) w) :
    ∃ q : Nat × Nat × List Value, Sat W (Pure (v = .slice (some ⟨q.1, 0, none⟩) m q.2.1 ∧ m ≤ q.2.1 ∧ xs.length = m * k ∧ q.2.2.length = (q.2.1 - m) * k ∧ q.2.1 ≤ maxLen) :: Blk q.1 (xs ++ q.2.2) e :: L) w := by
  rcases h.own with ⟨rfl, h1, -⟩ | ⟨b, cap, sp, rfl, h1, h2, h3, h4, h5⟩
  · omega
  · exact ⟨(b, cap, sp), Sat.pure_mk ⟨rfl, h1, h2, h3, h4⟩ h5⟩
theorem Val.lenOwn {n : Nat} {l : List (Nat × Value)} {G : World → Prop} {o : Oper} {t e e' : TypeId} {k by_ m k' : Nat} {x : Operand} {v : Value} {xs : List Value} (ho : o.op = .call { callee := .builtin .len, args := #[x], argTypes := #[t] }) (ht : slcE P t = some (e, k, by_)) (hx : ev l x = some v)
    (hc : ∀ w, G w → Holds (Own e' k' v m xs) w) : Val P n l G o (.int .i64 ((m : Nat) : Int)) := fun a w hf hs => by
  obtain ⟨r, s, -, q, hq⟩ := hc w hs
  cases q with
  | none => obtain ⟨rfl, rfl, -⟩ := hq; exact Val.len (G := G) ho ht hx a w hf hs
  | some q =>
    obtain ⟨b, c, sp⟩ := q
    obtain ⟨s1, s2, -, -, -, ⟨rfl, -⟩, -⟩ := hq
    exact Val.len (G := G) ho ht hx a w hf hs
theorem Holds.sep2a {A B : HProp} {w : World} (h : Holds (Sep [A, B]) w) : Holds A w := by
  obtain ⟨r, s, hlt, s1, s2, h1, h2, -, hA, -⟩ := h
  exact ⟨r, s1, fun b hb => hlt b (hb.imp id (h1 b)), hA⟩
theorem Holds.sep2b {A B : HProp} {w : World} (h : Holds (Sep [A, B]) w) : Holds B w := by
  obtain ⟨r, s, hlt, s1, s2, h1, h2, -, hA, t1, t2, k1, k2, -, hB, -⟩ := h
  exact ⟨r, t1, fun b hb => hlt b (hb.imp id (fun x => h2 b (k1 b x))), hB⟩
theorem Rd.mono {α : Type} {A B : HProp} {k : Nat} {cf : α → List Value} {va : Value} {l : List α} (hi : ∀ w, Holds B w → Holds A w) (h : Rd A k cf va l) : Rd B k cf va l := by
  rcases h with ⟨b, o, c, e, h⟩ | h
  · exact .inl ⟨b, o, c, e, fun w hw => h w (hi w hw)⟩
  · exact .inr h
end
end Go.Proofs.Ytbomnihiapjmpaa.Sl

namespace Go.Proofs.Ytbomnihiapjmpaa.Sl
open Go.RowKit Go.Lib
set_option linter.unusedSectionVars false
set_option linter.unusedVariables false
set_option linter.unusedSimpArgs false
section
variable [Dfs]
variable {P : Program} {W : World} {n : Nat} {l : List (Nat × Value)} {L : List HProp} {o : Oper} {Q : Exit → Act → World → Prop} {G : World → Prop}
theorem equal_sameP {t : TypeId} (ht : isPtr P t = true) (hsz : ∃ e i, P.underlying t = some (.pointer e) ∧ P.info? e = some i) (p : Addr) (w : World) : (Op.equal t (.pointer (some p)) (.pointer (some p))).run P w = .ok true w := by
  obtain ⟨e, i, hu, hi⟩ := hsz
  have h : Op.maxDepth = 9999 + 1 := rfl
  unfold Op.equal
  rw [h]
  unfold Op.equalIn
  simp [run_underlying hu w, sizeOf, typeInfo, hi]
  intro _
  simp [run_sameAddr_same]
def ptrE (P : Program) (t : TypeId) : Bool := match P.underlying t with | some (.pointer e) => (P.info? e).isSome | _ => false
theorem ptrE_of {t : TypeId} (h : ptrE P t = true) : isPtr P t = true ∧ ∃ e i, P.underlying t = some (.pointer e) ∧ P.info? e = some i := by
  unfold ptrE at h
  split at h
  · rename_i e he
    obtain ⟨i, hi⟩ := Option.isSome_iff_exists.1 h
    exact ⟨by unfold isPtr; rw [he], e, i, he, hi⟩
  · cases h
/-- a pointer beside itself -/
theorem Val.eqSame {t u : TypeId} {x y : Operand} {p : Addr} (ho : o.op = .binOp .eql t x y u) (ht : ptrE P t = true) (hx : ev l x = some (.pointer (some p))) (hy : ev l y = some (.pointer (some p))) : Val P n l G o (.bool true) := fun a w hf hs => by
  obtain ⟨h1, h2⟩ := ptrE_of ht
  simp [execOp, ho, hf.ev hx, hf.ev hy, eqGuard, binOp, equal_sameP h1 h2 p w]
def mu0 (P : Program) (s : TypeId) (f : Nat) : Bool := match P.underlying s with
  | some (.struct fs) => (match fs[f]? with | some fl => (match P.info? fl.type with | some i => i.size == 0 | none => false) && fl.offset == 0 && fl.byteOffset == 0 && P.cellsOf s != 0 && byteOfCell P P.depth s 0 == some 0 | none => false)
  | _ => false
/-- the address of a field without bytes, at the head -/
theorem Val.mu {s : TypeId} {x : Operand} {f b : Nat} {C : List Value} (ho : o.op = .fieldAddr s x f) (ht : mu0 P s f = true) (hx : ev l x = some (.pointer (some ⟨b, 0, none⟩))) (hc : ∀ w, G w → Holds (Blk b C s) w) :
    Val P n l G o (.pointer (some ⟨b, 0, none⟩)) := fun a w hf hs => by
  obtain ⟨fr, hb, -⟩ := (hc w hs).blk
  unfold mu0 at ht
  split at ht
  · rename_i fs hu
    split at ht
    · rename_i fl hfl
      split at ht
      · rename_i i hi
        simp only [Bool.and_eq_true, beq_iff_eq, bne_iff_ne, ne_eq] at ht
        obtain ⟨⟨⟨⟨h1, h2⟩, h3⟩, h4⟩, h5⟩ := ht
        simp [execOp, ho, hf.ev hx, Instr.fieldAt, Instr.sureAddr, run_underlying hu w, hfl, fieldPlace, sizeOf, typeInfo, hi, h1, h2, h3, partAt, byteOf, noView, viewAt, World.shape?, hb, h4, h5]
      · simp at ht
    · cases ht
  · cases ht
/-- an append for which there is room -/
theorem Eff.appendIn {t tx e : TypeId} {k by_ m n0 cap b : Nat} {s x : Operand} {vx : Value} {xs sp news : List Value} (ho : o.op = .call { callee := .builtin .append, args := #[s, x], argTypes := #[t, tx] })
    (ht : slcE P t = some (e, k, by_)) (hs : ev l s = some (.slice (some ⟨b, 0, none⟩) n0 cap)) (hx : ev l x = some vx) (hsrc : Srcs P W (Blk b (xs ++ sp) e :: L) k tx vx m news) (hroom : n0 + m ≤ cap) (hxl : xs.length = n0 * k) (hspl : sp.length = (cap - n0) * k) :
    Eff P W Q n l (Blk b (xs ++ sp) e :: L) o (One (.slice (some ⟨b, 0, none⟩) (n0 + m) cap) (Blk b ((xs ++ news) ++ sp.drop (m * k)) e :: L)) := fun a w hf hsat K hK => by
  obtain ⟨inf, hu, hi, rfl, rfl⟩ := slcE_of ht
  have hS := hsrc w hsat
  have hnl := hS.newsLen
  have hlen : (xs ++ sp).length = cap * inf.size := by
    rw [List.length_append, hxl, hspl, ← Nat.add_mul]; congr 1; omega
  have hfit : n0 * inf.size + news.length ≤ (xs ++ sp).length := by
    rw [hlen, hnl, ← Nat.add_mul]; exact Nat.mul_le_mul_right _ hroom
  have hr := run_append_room_src w t tx o.type e inf hu hi b 0 n0 cap vx m news hS hroom (fun j hj => by rw [hsat.head.cell, List.getElem?_eq_getElem (by omega)]; rfl) (fun j hj => hsat.head.free (by omega))
  unfold Oper.wp
  have e0 : (#[s, x].map a.eval) = #[.slice (some ⟨b, 0, none⟩) n0 cap, vx] := by simp [hf.ev hs, hf.ev hx]
  simp only [execOp, ho, resolve, e0, Sem.run_bind, Sem.run_pure, Result.andThen_ok, Go.invoke, builtin, hr]
  have h2 := setCells_blk news (xs ++ sp) (0 + n0 * inf.size) (by omega) hsat
  have e2 : (xs ++ sp).take (0 + n0 * inf.size) ++ news ++ (xs ++ sp).drop (0 + n0 * inf.size + news.length) = (xs ++ news) ++ sp.drop (m * inf.size) := by
    rw [Nat.zero_add, ← hxl, List.take_left, List.drop_append, hnl]
    simp
  rw [e2] at h2
  exact hK _ _ _ ⟨rfl, rfl⟩ h2
/-- a row of one's own is appended -/
theorem Srcs.ownAt {k m : Nat} {tx e e' : TypeId} {k' b' : Nat} {v : Value} {news : List Value} (hk : slcE P tx = some (e', k', b')) (h1 : news.all (·.oneCell') = true) (i : Nat) (hi : L[i]? = some (Own e k v m news)) : Srcs P W L k tx v m news := fun w hs => by
  obtain ⟨r, s, hlt, q, hq⟩ := hs.at i hi
  cases q with
  | none => obtain ⟨rfl, rfl, rfl⟩ := hq; exact Srcs.nil (W := W) (L := L) hk w hs
  | some q =>
    obtain ⟨b, c, sp⟩ := q
    obtain ⟨s1, s2, q1, q2, q3, ⟨rfl, h2, h3, -⟩, t1, t2, p1, p2, p3, hB, -⟩ := hq
    have hb : Holds (Blk b (news ++ sp) e) w := ⟨r, t1, fun b hb => hlt b (hb.imp id (fun x => q2 b (p1 b x))), hB⟩
    obtain ⟨inf, hu, -, -, -⟩ := slcE_of hk
    exact Src.ofSlice w hu ⟨b, 0, none⟩ m c news h3 (cells_range (hb.cell_range (by simp))) (by simpa using h1)
/-! many parts of one kind -/
def Kds {α : Type} (R : α → HProp) (ks : List α) : HProp := Sep (ks.map R)
theorem Sat.kCons {w : World} {α : Type} {R : α → HProp} {x : α} {ks : List α} (h : Sat W (Kds R (x :: ks) :: L) w) : Sat W (R x :: Kds R ks :: L) w := by
  have h2 : Sat W ((R x :: ks.map R) ++ L) w := h.sep
  exact (Sat.sep_mk (M := ks.map R) (h2.perm (show List.Perm (R x :: (ks.map R ++ L)) (ks.map R ++ (R x :: L)) from List.perm_middle.symm))).perm (List.Perm.swap _ _ _)
theorem Sat.kConsMk {w : World} {α : Type} {R : α → HProp} {x : α} {ks : List α} (h : Sat W (R x :: Kds R ks :: L) w) : Sat W (Kds R (x :: ks) :: L) w := by
  have h1 : Sat W (ks.map R ++ (R x :: L)) w := (h.perm (List.Perm.swap _ _ _)).sep
  exact Sat.sep_mk (M := R x :: ks.map R) (h1.perm List.perm_middle)
theorem Sat.kPerm {w : World} {α : Type} {R : α → HProp} {ks ms : List α} (hp : ks.Perm ms) (h : Sat W (Kds R ks :: L) w) : Sat W (Kds R ms :: L) w :=
  Sat.sep_mk (h.sep.perm ((hp.map R).append_right L))
theorem Sat.kNil {w : World} {α : Type} {R : α → HProp} (h : Sat W L w) : Sat W (Kds R [] :: L) w := Sat.sep_mk (M := []) h
theorem Sat.kApp {w : World} {α : Type} {R : α → HProp} {ks ms : List α} (h : Sat W (Kds R (ks ++ ms) :: L) w) : Sat W (Kds R ks :: Kds R ms :: L) w := by
  have h1 : Sat W ((ks.map R ++ ms.map R) ++ L) w := by rw [← List.map_append]; exact h.sep
  rw [List.append_assoc] at h1
  have h2 := Sat.sep_mk (M := ks.map R) h1
  have h3 := h2.perm (show List.Perm (Sep (ks.map R) :: (ms.map R ++ L)) (ms.map R ++ (Sep (ks.map R) :: L)) from List.perm_middle.symm)
  exact (Sat.sep_mk (M := ms.map R) h3).perm (List.Perm.swap _ _ _)
theorem Sat.kAppMk {w : World} {α : Type} {R : α → HProp} {ks ms : List α} (h : Sat W (Kds R ks :: Kds R ms :: L) w) : Sat W (Kds R (ks ++ ms) :: L) w := by
  have h1 := (h.perm (List.Perm.swap _ _ _)).sep
  have h2 := (h1.perm (show List.Perm (ms.map R ++ (Kds R ks :: L)) (Kds R ks :: (ms.map R ++ L)) from List.perm_middle)).sep
  refine Sat.sep_mk (M := (ks ++ ms).map R) ?_
  rw [List.map_append, List.append_assoc]
  exact h2
theorem split_at {α : Type} {l : List α} {i : Nat} {x : α} (h : l[i]? = some x) : l = l.take i ++ x :: l.drop (i + 1) := by
  have hlt := (List.getElem?_eq_some_iff.1 h).1
  have he := (List.getElem?_eq_some_iff.1 h).2
  rw [← he, ← List.drop_eq_getElem_cons hlt, List.take_append_drop]
/-- one of them by itself -/
theorem Sat.kOut {w : World} {α : Type} {R : α → HProp} {ks : List α} {i : Nat} {x : α} (hx : ks[i]? = some x) (h : Sat W (Kds R ks :: L) w) : Sat W (R x :: Kds R (ks.take i ++ ks.drop (i + 1)) :: L) w :=
  (Sat.kPerm (by have := split_at hx; exact (this ▸ List.perm_middle : List.Perm (ks.take i ++ x :: ks.drop (i + 1)) _) |> fun q => (List.Perm.of_eq this).trans q) h).kCons
theorem Sat.kIn {w : World} {α : Type} {R : α → HProp} {ks : List α} {i : Nat} {x : α} (h : Sat W (R x :: Kds R (ks.take i ++ ks.drop (i + 1)) :: L) w) : Sat W (Kds R (ks.take i ++ x :: ks.drop (i + 1)) :: L) w := Sat.kPerm List.perm_middle.symm h.kConsMk
end
end Go.Proofs.Ytbomnihiapjmpaa.Sl

namespace Go.Proofs.Ytbomnihiapjmpaa.Sl
open Go.RowKit Go.Lib
set_option linter.unusedSectionVars false
set_option linter.unusedVariables false
section
variable [Dfs]
variable {P : Program} {W : World} {ops : Array Oper} {Q : Exit → Act → World → Prop} {rest : List Oper} {n : Nat} {l : List (Nat × Value)} {L : List HProp} {o : Oper}
/-! short forms of the rules, for walks that would grow too long -/
theorem WPc.c1 {c : Code} {A B : HProp} (hi : ∀ w, Sat W (A :: L) w → Sat W (B :: L) w) (h : WPc P W c Q n l (B :: L)) : WPc P W c Q n l (A :: L) := h.conv hi
theorem WP.c1 {A B : HProp} (hi : ∀ w, Sat W (A :: L) w → Sat W (B :: L) w) (h : WP P W ops Q rest n l (B :: L)) : WP P W ops Q rest n l (A :: L) := h.conv hi
theorem Out.c1 {e : Exit} {A B : HProp} (hi : ∀ w, Sat W (A :: L) w → Sat W (B :: L) w) (h : Out W Q e n l (B :: L)) : Out W Q e n l (A :: L) := h.conv hi
theorem WPD.c1 {S : World → Prop} {fuel : Nat} {listed : Array Bool} {A B : HProp} (hi : ∀ w, Sat W (A :: L) w → Sat W (B :: L) w) (h : WPD P W ops Q S fuel listed n l (B :: L)) : WPD P W ops Q S fuel listed n l (A :: L) := h.conv hi
theorem WPD.s0 {id : Nat} {ops : Array Oper} (hm : P.follows .mixedOrders = true) (h : WPD P W ops Q (Sat W L) ops.size (Array.replicate ops.size false) n l L) : WPc P W (.region id ops true) Q n l L := WPD.start _ hm h
theorem WPD.tM {S : World → Prop} {fuel : Nat} {listed : Array Bool} {d : Tmp} {v : Value} (i : Nat) (hi : ops[i]? = some o) (hg : o.guard = none) (hd : o.dst = some d) (hlt : Nat.ble (d + 1) n = true)
    (hv : Val P n l (fun _ => True) o v)
    (h : WPD P W ops Q S fuel (listed.setIfInBounds i true) n ((d, v) :: l) L)
    (hns : Region.noSelect ops = true := by kernel_rfl) (hfree : Region.free .any ops listed i = true := by kernel_rfl) (hcl : closedB ops listed = true := by kernel_rfl) (hr : (Region.ready .any ops listed).contains i = true := by kernel_rfl)
    (hQ : ∀ c a w, Q (.panic c) (a.put (some d) v) w → Q (.panic c) a w := by exact fun _ _ _ h => h) (hS : ∀ w, Sat W L w → S w := by exact fun _ h => h) : WPD P W ops Q S (fuel + 1) listed n l L :=
  WPD.takeM i hi hg hd hlt hns hfree hcl hr hQ hS hv h
theorem WPD.tS {S : World → Prop} {fuel : Nat} {listed : Array Bool} {d : Tmp} {v : Value} (i : Nat) (hi : ops[i]? = some o) (hg : o.guard = none) (hd : o.dst = some d) (hlt : Nat.ble (d + 1) n = true)
    (hS : ∀ w, Sat W L w → S w) (hv : Val P n l (fun _ => True) o v)
    (h : WPD P W ops Q S fuel (listed.setIfInBounds i true) n ((d, v) :: l) L)
    (hns : Region.noSelect ops = true := by kernel_rfl) (hfree : Region.free .any ops listed i = true := by kernel_rfl) (hcl : closedB ops listed = true := by kernel_rfl) (hr : (Region.ready .any ops listed).contains i = true := by kernel_rfl)
    (hQ : ∀ c a w, Q (.panic c) (a.put (some d) v) w → Q (.panic c) a w := by exact fun _ _ _ h => h) : WPD P W ops Q S (fuel + 1) listed n l L :=
  WPD.takeM i hi hg hd hlt hns hfree hcl hr hQ hS hv h
theorem WPD.tL {S : World → Prop} {fuel : Nat} {listed : Array Bool} {d : Tmp} {v : Value} (i : Nat) (hi : ops[i]? = some o) (hg : o.guard = none) (hd : o.dst = some d) (hlt : Nat.ble (d + 1) n = true)
    (hS : ∀ w, Sat W L w → S w) (hv : Val P n l S o v)
    (h : WPD P W ops Q S fuel (listed.setIfInBounds i true) n ((d, v) :: l) L)
    (hns : Region.noSelect ops = true := by kernel_rfl) (hfree : Region.free .any ops listed i = true := by kernel_rfl) (hcl : closedB ops listed = true := by kernel_rfl) (hr : (Region.ready .any ops listed).contains i = true := by kernel_rfl)
    (hQ : ∀ c a w, Q (.panic c) (a.put (some d) v) w → Q (.panic c) a w := by exact fun _ _ _ h => h) (hmf : memFree ops i = false := by kernel_rfl) : WPD P W ops Q S (fuel + 1) listed n l L :=
  WPD.take i hi hg hd hlt hns hfree hcl hr hQ hmf hS hv h
theorem WPc.sr {id : Nat} {l0 : List Oper} {y : Code} (h : WP P W l0.toArray (Exit.then (y.wp P Q) Q) l0 n l L) : WPc P W (.seq (.region id l0.toArray false) y) Q n l L := WPc.seq (WPc.region h)
theorem WP.nx {y : Code} (h : WPc P W y Q n l L) : WP P W ops (Exit.then (y.wp P Q) Q) [] n l L := WP.nil (Out.next h)
theorem WP.ns {x y : Code} (h : WPc P W x (Exit.then (y.wp P Q) Q) n l L) : WP P W ops (Exit.then ((Code.seq x y).wp P Q) Q) [] n l L := WP.nil (Out.next (WPc.seq h))
theorem Out.ns {x y : Code} (h : WPc P W x (Exit.then (y.wp P Q) Q) n l L) : Out W (Exit.then ((Code.seq x y).wp P Q) Q) .normal n l L := Out.next (WPc.seq h)
end
end Go.Proofs.Ytbomnihiapjmpaa.Sl

namespace Go.Proofs.Ytbomnihiapjmpaa.Sl
open Go.RowKit Go.Lib
set_option linter.unusedVariables false
set_option linter.unusedSectionVars false

/-! ## functions that defer calls of functions that do nothing (a lock that locks nothing) -/
section
variable {P : Program} {W : World} {ops : Array Oper} {Q : Exit → Act → World → Prop} {rest : List Oper} {n : Nat} {l : List (Nat × Value)} {L : List HProp} {o : Oper}
theorem Does.enterD {f : FuncId} {fn : Func} {c : Code} {args : List Value} {R : Value → List HProp → Prop} (n : Nat) (hf : P.funcs[f]? = some fn) (hb : fn.body = some c) (hn : fn.ntmps = n) (hle : Nat.ble args.length n = true)
    (h : ∀ (W : World) (F : List HProp), WPc P W c (bodyPostD P fn (Ends W F R)) n (argsFrom 0 args) (L ++ F)) : Does P f args L R := by
  intro W F w hs
  have hle' : args.length ≤ n := Nat.le_of_ble_eq_true hle
  refine calls_of_wp_defers hf hb (h W F _ w ⟨by simp [hn]; omega, rfl, fun t v hv => ?_⟩ hs)
  obtain ⟨-, h2⟩ := look_args args 0 t v hv
  have hlt := (List.getElem?_eq_some_iff.1 h2).1
  simp only [Nat.sub_zero] at h2 hlt
  rw [Array.getD_eq_getD_getElem?, Array.getElem?_append_left (by simpa using hlt)]
  simp [h2]
/-- a call of function k on v is put off -/
def putOff (k : FuncId) (v : Value) : Deferred := { target := .fn (.func k) #[], args := #[v] }
theorem WP.defer [E : Dfs] {k : FuncId} {x : Operand} {v : Value} {ts : Array TypeId} (ho : o.op = .defer { callee := .value (.func k), args := #[x], argTypes := ts }) (hg : o.guard = none) (hd : o.dst = none) (hx : ev l x = some v)
    (h : ∀ D : Dfs, D.ds = putOff k v :: E.ds → @WP D P W ops Q rest n l L) : WP P W ops Q (o :: rest) n l L := by
  intro a w hf hs
  refine wpList_plain hg fun K hK => ?_
  have e : (execOp a.eval o).run P w = .ok (.defer (putOff k v)) w := by
    have hx' : a.eval x = v := hf.ev hx
    have hk : a.eval (.func k) = .func (.func k) #[] #[] := rfl
    simp [execOp, ho, resolve, hk, hx', Deferred.ofValue, putOff]
  unfold Oper.wp
  rw [e, Oper.upon_defer, hd]
  have hf' : @Fr ⟨putOff k v :: E.ds⟩ n { a with defers := putOff k v :: a.defers } l := @Fr.mk ⟨putOff k v :: E.ds⟩ n { a with defers := putOff k v :: a.defers } l hf.size (by rw [hf.defers]; rfl) hf.at_
  exact hK _ _ (h ⟨putOff k v :: E.ds⟩ rfl _ _ hf' hs)
/-- function k does nothing -/
def Quiet (P : Program) (k : FuncId) : Prop := ∀ (v : Value) (u : FrameMode) (w : World), CallsD P k #[v] u w fun e u' w' => u' = u ∧ (e = .returned (.tuple #[]) ∧ w' = w)
theorem Out.retD1 {D : Dfs} {k : FuncId} {z : Value} {fn : Func} {F : List HProp} {R : Value → List HProp → Prop} {t : Tmp} {v : Value} {L' : List HProp} (hD : D.ds = [putOff k z]) (hq : Quiet P k) (hc : ∀ (as_ : Array Value) (w : World), (callFunc k as_).run P w = .ok (.enter k as_) w) (hr : fn.results = #[.tmp t]) (hv : look l t = some v) (hR : R v L') (hL : ∀ w, Sat W L w → Sat W (L' ++ F) w) :
    Out W (bodyPostD P fn (Ends W F R)) .ret n l L := fun a w hf hs => by
  show Leaves P fn a.tmps (Ends W F R) a.defers .returning w
  rw [hf.defers, hD]
  refine ⟨by simp, .func k, #[], k, #[z], rfl, hc #[z] w, fun c cs hc => ?_⟩
  obtain ⟨e, u', w', fr, ⟨hu, he, hw⟩, h2, h3, h4⟩ := hq z _ w c cs hc
  have hl : Leaves P fn a.tmps (Ends W F R) [] .returning w := ⟨v, by rw [results_tmp hr, hf.at_ t v hv], v, L', rfl, hR, hL _ hs⟩
  rw [he, hu, hw] at h2
  rw [he, hw] at h4
  exact ⟨.returned (.tuple #[]), .returning, w, fr, hl, h2, h3, h4⟩
theorem Out.retD0 {fn : Func} {F : List HProp} {R : Value → List HProp → Prop} {t : Tmp} {v : Value} {L' : List HProp} (hr : fn.results = #[.tmp t]) (hv : look l t = some v) (hR : R v L') (hL : ∀ w, Sat W L w → Sat W (L' ++ F) w) :
    Out W (bodyPostD P fn (Ends W F R)) .ret n l L := fun a w hf hs => by
  show Leaves P fn a.tmps (Ends W F R) a.defers .returning w
  rw [hf.defers]
  exact ⟨v, by rw [results_tmp hr, hf.at_ t v hv], v, L', rfl, hR, hL _ hs⟩
end
end Go.Proofs.Ytbomnihiapjmpaa.Sl

namespace Go.Proofs.Ytbomnihiapjmpaa.Sl
open Go.RowKit Go.Lib
set_option linter.unusedVariables false
set_option linter.unusedSectionVars false
section
variable {P : Program} {W : World} {n : Nat} {l : List (Nat × Value)} {L : List HProp} {o : Oper} {G : World → Prop}
/-- a known answer -/
theorem Val.intK [Dfs] {k : IntKind} {p z : Int} (h : Val P n l G o (.int k p)) (e : p = z) : Val P n l G o (.int k z) := e ▸ h
theorem Val.boolK [Dfs] {p q : Bool} (h : Val P n l G o (.bool p)) (e : p = q) : Val P n l G o (.bool q) := e ▸ h
theorem results_ttt {fn : Func} {t u s : Tmp} {v x y : Value} (hr : fn.results = #[.tmp t, .tmp u, .tmp s]) (hv : Sl.look l t = some v) (hx : Sl.look l u = some x) (hy : Sl.look l s = some y) : ∀ a w, Fr n a l → Sat W L w → (results fn a.tmps).run P w = .ok (.tuple #[v, x, y]) w := fun a w hf hs => by
  have e := hf.at_ t _ hv
  have e2 := hf.at_ u _ hx
  have e3 := hf.at_ s _ hy
  rw [Array.getD_eq_getD_getElem?] at e e2 e3
  simp [results, hr, e, e2, e3]
theorem results_ctt {fn : Func} {t u s : Tmp} {ty : TypeId} {v x : Value} {b k : Nat} {cs : List Value} (hr : fn.results = #[.cell u ty, .tmp t, .tmp s]) (hu : Sl.look l u = some (.pointer (some ⟨b, 0, none⟩))) (hv : Sl.look l t = some v) (hx : Sl.look l s = some x) (ht : aggS P ty = some k) (hk : cs.length = k)
    (hc : ∀ w, Sat W L w → w.rangeAt b 0 cs) : ∀ a w, Fr n a l → Sat W L w → (results fn a.tmps).run P w = .ok (.tuple #[.agg cs.toArray, v, x]) w := fun a w hf hs => by
  obtain ⟨d, h1, h2, h3⟩ := aggS_row ht
  have := run_loadVar_mid (P := P) w b 0 ty cs d (hc w hs) h1 h2 (by rw [h3, hk])
  have e := hf.at_ u _ hu
  have e2 := hf.at_ t _ hv
  have e3 := hf.at_ s _ hx
  rw [Array.getD_eq_getD_getElem?] at e e2 e3
  simp [results, hr, e, e2, e3, asAddr, this]
end

section
variable {P : Program} {W : World} {n : Nat} {l : List (Nat × Value)} {L : List HProp} {o : Oper} {G : World → Prop} {Q : Exit → Act → World → Prop}
/-- a walk that never panics -/
def noPan (Q : Exit → Act → World → Prop) : Exit → Act → World → Prop := fun e a w => match e with | .panic _ => False | e' => Q e' a w
theorem noPan_imp {Q : Exit → Act → World → Prop} : ∀ e a w, noPan Q e a w → Q e a w := fun e a w h => by
  cases e <;> first | exact h | exact h.elim
theorem Does.enterN {f : FuncId} {fn : Func} {c : Code} {args : List Value} {R : Value → List HProp → Prop} (n : Nat) (hf : P.funcs[f]? = some fn) (hb : fn.body = some c) (hn : fn.ntmps = n) (hle : Nat.ble args.length n = true)
    (h : ∀ (W : World) (F : List HProp), WPc P W c (noPan (bodyPostD P fn (Ends W F R))) n (argsFrom 0 args) (L ++ F)) : Does P f args L R :=
  Does.enterD n hf hb hn hle fun W F a w hfr hs => wp_mono (h W F a w hfr hs) noPan_imp
theorem Out.retN0 {fn : Func} {F : List HProp} {R : Value → List HProp → Prop} {t : Tmp} {v : Value} {L' : List HProp} (hr : fn.results = #[.tmp t]) (hv : look l t = some v) (hR : R v L') (hL : ∀ w, Sat W L w → Sat W (L' ++ F) w) :
    Out W (noPan (bodyPostD P fn (Ends W F R))) .ret n l L := fun a w hf hs => Out.retD0 (P := P) (F := F) (R := R) hr hv hR hL a w hf hs
theorem Out.retN1 {D : Dfs} {k : FuncId} {z : Value} {fn : Func} {F : List HProp} {R : Value → List HProp → Prop} {t : Tmp} {v : Value} {L' : List HProp} (hD : D.ds = [putOff k z]) (hq : Quiet P k) (hc : ∀ (as_ : Array Value) (w : World), (callFunc k as_).run P w = .ok (.enter k as_) w) (hr : fn.results = #[.tmp t]) (hv : look l t = some v) (hR : R v L') (hL : ∀ w, Sat W L w → Sat W (L' ++ F) w) :
    Out W (noPan (bodyPostD P fn (Ends W F R))) .ret n l L := fun a w hf hs => Out.retD1 (P := P) (F := F) (R := R) hD hq hc hr hv hR hL a w hf hs
end
section
variable [Dfs]
variable {P : Program} {W : World} {n : Nat} {l : List (Nat × Value)} {L : List HProp} {o : Oper} {G : World → Prop} {Q : Exit → Act → World → Prop}
/-- copy that fills a row of one's own out of a slice that is as long or longer -/
theorem Eff.copyFill {dT sT e : TypeId} {by_ b i dLen dCap b' i' m c' : Nat} {d x : Operand} {cs C C' : List Value} {T : TypeId} (ho : o.op = .call { callee := .builtin .copy, args := #[d, x], argTypes := #[dT, sT] }) (ht : slcE P dT = some (e, 1, by_))
    (hd : ev l d = some (.slice (some ⟨b, i, none⟩) dLen dCap)) (hx : ev l x = some (.slice (some ⟨b', i', none⟩) m c')) (hr : ∀ w, Sat W (Blk b C T :: L) w → w.rangeAt b' i' cs) (hcs : cs.length = dLen) (hm : dLen ≤ m)
    (h1 : cs.all (·.oneCell') = true) (hfit : i + dLen ≤ C.length) (hC : C.take i ++ cs ++ C.drop (i + dLen) = C') :
    Eff P W Q n l (Blk b C T :: L) o (One (.int .i64 ((dLen : Nat) : Int)) (Blk b C' T :: L)) := by
  subst hC hcs
  have hmin : Nat.min m cs.length = cs.length := Nat.min_eq_right hm
  have := Eff.copy (P := P) (W := W) (n := n) (l := l) (L := L) (Q := Q) (m := m) (cs := cs) (C := C) (T := T) (b := b) (i := i) (dLen := cs.length) ho ht hd hx (fun w' => rfl) (fun w hs => by
    rw [hmin]
    exact run_firstCells_some w 1 cs.length _ m c' cs (by simp) (cells_range (hr w hs))) h1 (by omega)
  rw [hmin] at this
  exact this
/-- the length of a slice that reads as bytes -/
theorem Val.lenByts {t e : TypeId} {k by_ : Nat} {x : Operand} {v : Value} {bs : List UInt8} (ho : o.op = .call { callee := .builtin .len, args := #[x], argTypes := #[t] }) (ht : slcE P t = some (e, k, by_)) (hx : ev l x = some v)
    (hc : ∀ w, G w → Holds (Byts v bs) w) : Val P n l G o (.int .i64 ((bs.length : Nat) : Int)) := fun a w hf hs => by
  obtain ⟨r, s, -, q, hq⟩ := hc w hs
  cases q with
  | none => obtain ⟨rfl, rfl⟩ := hq; exact Val.len (G := G) ho ht hx a w hf hs
  | some q =>
    obtain ⟨b, i, c, C, T⟩ := q
    obtain ⟨s1, s2, -, -, -, ⟨rfl, -⟩, -⟩ := hq
    exact Val.len (G := G) ho ht hx a w hf hs
/-- an array's address as a slice -/
theorem Val.sliceArr {t : TypeId} {x : Operand} {k b i len : Nat} (ho : o.op = .slice t x none none none) (ht : arrE P t = some (len, k)) (hx : ev l x = some (.pointer (some ⟨b, i, none⟩))) (hlen : 0 < len) : Val P n l G o (.slice (some ⟨b, i, none⟩) len len) := fun a w hf hs => by
  unfold arrE at ht
  cases hu : P.underlying t with
  | none => rw [hu] at ht; cases ht
  | some d =>
    rw [hu] at ht
    cases d with
    | array len' e =>
      simp only at ht
      cases hi : P.info? e with
      | none => rw [hi] at ht; cases ht
      | some inf =>
        rw [hi] at ht
        simp only [Option.map_some, Option.some.injEq, Prod.mk.injEq] at ht
        obtain ⟨rfl, rfl⟩ := ht
        have h0 : len' ≠ 0 := by omega
        simp [execOp, ho, hf.ev hx, Instr.sliceAt, run_underlying hu w, sizeOf, typeInfo, hi, Instr.sureAddr, Instr.sliceBounds, h0, Addr.add_mid]
    | _ => cases ht
/-- a method of values behind a pointer -/
def ptrM (P : Program) (t : TypeId) (name : String) : Bool := match P.info? t with
  | some i => (match i.methods.find? (·.name == name) with | some m => m.path.isEmpty && (match m.func with | some (_, true) => true | _ => false) | none => false)
  | none => false
theorem nilAhead_ptrM {t : TypeId} {name : String} (h : ptrM P t name = true) (v : Value) (k : Nat) (w : World) : (nilAhead (k + 1) t v name).run P w = .ok (some false) w := by
  unfold ptrM at h
  split at h
  · rename_i i hi
    split at h
    · rename_i m hm
      rw [Bool.and_eq_true] at h
      obtain ⟨h1, h2⟩ := h
      have hp : m.path.toList = [] := by simpa using h1
      split at h2
      · rename_i f hf
        unfold nilAhead
        simp [typeInfo, hi, hm, hp, followBlind, hf]
      · cases h2
    · cases h
  · cases h
theorem Val.nilCheckM {x : Operand} {name : String} {t : TypeId} {v : Value} {cs : Array Value} (ho : o.op = .nilCheck x) (hx : ev l x = some (.func (.method name) #[.iface t v] cs)) (hm : ptrM P t name = true) : Val P n l G o (.func (.method name) #[.iface t v] cs) := fun a w hf hs => by
  have hk : P.types.size + Made.depth = (P.types.size + (Made.depth - 1)) + 1 := rfl
  simp [execOp, ho, hf.ev hx, hk, nilAhead_ptrM hm]
/-- the address of a field without bytes, at the head of a block whose cells need not be known -/
theorem Val.muE {s : TypeId} {x : Operand} {f b : Nat} (ho : o.op = .fieldAddr s x f) (ht : mu0 P s f = true) (hx : ev l x = some (.pointer (some ⟨b, 0, none⟩))) (hc : ∀ w, G w → ∃ C, Holds (Blk b C s) w) :
    Val P n l G o (.pointer (some ⟨b, 0, none⟩)) := fun a w hf hs => by
  obtain ⟨C, h⟩ := hc w hs
  exact Val.mu (P := P) (n := n) (l := l) (G := fun w' => Holds (Blk b C s) w') ho ht hx (fun _ h => h) a w hf h
/-- two interface values with the same pointer -/
def ptrC (P : Program) (t : TypeId) : Bool := ptrE P t && match P.info? t with | some i => i.comparable | none => false
theorem equal_ifaceSame {t t1 : TypeId} (ht : isIfc P t = true) (h1 : ptrC P t1 = true) (p : Addr) (w : World) : (Op.equal t (.iface t1 (.pointer (some p))) (.iface t1 (.pointer (some p)))).run P w = .ok true w := by
  unfold ptrC at h1
  rw [Bool.and_eq_true] at h1
  obtain ⟨h1, h2⟩ := h1
  obtain ⟨-, e, i, hu, hi⟩ := ptrE_of h1
  unfold isIfc at ht
  split at ht
  · rename_i ms hm
    split at h2
    · rename_i inf hinf
      have h : Op.maxDepth = 9998 + 1 + 1 := rfl
      unfold Op.equal
      rw [h]
      unfold Op.equalIn
      simp only [Sem.run_bind, run_underlying hm w, Result.andThen_ok, ne_eq, not_true_eq_false, if_false, typeInfo, hinf, h2]
      unfold Op.equalIn
      simp [run_underlying hu w, sizeOf, typeInfo, hi, hinf, h2]
      intro _
      simp [run_sameAddr_same]
    · cases h2
  · cases ht
theorem equal_nilSome {t u : TypeId} {v : Value} (ht : isIfc P t = true) (w : World) : (Op.equal t .nilIface (.iface u v)).run P w = .ok false w := by
  unfold isIfc at ht
  split at ht
  · rename_i e hu
    have h : Op.maxDepth = 9999 + 1 := rfl
    unfold Op.equal
    rw [h]
    unfold Op.equalIn
    simp [run_underlying hu w]
  · cases ht
/-- one error beside itself -/
theorem Val.eqIface {t t1 u : TypeId} {x y : Operand} {p : Addr} (ho : o.op = .binOp .eql t x y u) (ht : isIfc P t = true) (h1 : ptrC P t1 = true) (hx : ev l x = some (.iface t1 (.pointer (some p)))) (hy : ev l y = some (.iface t1 (.pointer (some p)))) : Val P n l G o (.bool true) := fun a w hf hs => by
  simp [execOp, ho, hf.ev hx, hf.ev hy, eqGuard, binOp, equal_ifaceSame ht h1 p w]
theorem Val.eqNilSome {t s u : TypeId} {x y : Operand} {v : Value} (ho : o.op = .binOp .eql t x y u) (ht : isIfc P t = true) (hx : ev l x = some .nilIface) (hy : ev l y = some (.iface s v)) : Val P n l G o (.bool false) := fun a w hf hs => by
  simp [execOp, ho, hf.ev hx, hf.ev hy, eqGuard, binOp, equal_nilSome ht w]
end
/-- a pointer that is nil, or to a block of one cell -/
def PtrO (T : TypeId) (v : Value) (q : Option Value) : HProp := match q with
  | none => Pure (v = .pointer none)
  | some x => Ex fun b : Nat => Sep [Pure (v = .pointer (some ⟨b, 0, none⟩)), Blk b [x] T]
theorem Sat.ptrNil {W w : World} {T : TypeId} {L : List HProp} (h : Sat W L w) : Sat W (PtrO T (.pointer none) none :: L) w := Sat.pure_mk rfl h
theorem Sat.ptrMk {W w : World} {T : TypeId} {L : List HProp} {b : Nat} {x : Value} (h : Sat W (Blk b [x] T :: L) w) : Sat W (PtrO T (.pointer (some ⟨b, 0, none⟩)) (some x) :: L) w := Sat.ex_mk b (Sat.sep_mk (Sat.pure_mk rfl h))
theorem Sat.ptrNone {W w : World} {T : TypeId} {v : Value} {L : List HProp} (h : Sat W (PtrO T v none :: L) w) : v = .pointer none ∧ Sat W L w := ⟨h.pure, h.drop⟩
theorem Sat.ptrSome {W w : World} {T : TypeId} {v x : Value} {L : List HProp} (h : Sat W (PtrO T v (some x) :: L) w) : ∃ b : Nat, Sat W (Pure (v = .pointer (some ⟨b, 0, none⟩)) :: Blk b [x] T :: L) w := by
  obtain ⟨b, h⟩ := h.ex
  exact ⟨b, h.sep⟩
theorem ptr_oneCell {W w : World} {T : TypeId} {v : Value} {q : Option Value} {L : List HProp} (h : Sat W (PtrO T v q :: L) w) : v.oneCell' = true := by
  cases q with
  | none => rw [h.ptrNone.1]; rfl
  | some x => obtain ⟨b, h⟩ := h.ptrSome; rw [h.pure]; rfl
theorem own_slice {w : World} {W : World} {e : TypeId} {k m : Nat} {v : Value} {xs : List Value} {L : List HProp} (h : Sat W (Own e k v m xs :: L) w) : ∃ a c, v = .slice a m c := by
  rcases h.own with ⟨rfl, h1, -, -⟩ | ⟨b, cap, sp, rfl, -⟩
  · subst h1; exact ⟨_, _, rfl⟩
  · exact ⟨_, _, rfl⟩
end Go.Proofs.Ytbomnihiapjmpaa.Sl

namespace Go.Proofs.Ytbomnihiapjmpaa.Sl
open Go.RowKit Go.Lib
set_option linter.unusedSectionVars false
set_option linter.unusedVariables false
set_option linter.unusedSimpArgs false
section
variable [Dfs]
variable {P : Program} {W : World} {n : Nat} {l : List (Nat × Value)} {L : List HProp} {o : Oper} {Q : Exit → Act → World → Prop} {G : World → Prop}
/-! ## a store of blocks of one kind, and pointers into it beside each other -/
theorem Holds.kds {α : Type} {R : α → HProp} : ∀ {D : List α} {x : α} {w : World}, Holds (Kds R D) w → x ∈ D → Holds (R x) w
  | y :: D, x, w, ⟨r, s, hlt, s1, s2, h1, h2, hd, hA, hL⟩, hx => by
    rcases List.mem_cons.1 hx with rfl | hx
    · exact ⟨r, s1, fun b hb => hlt b (hb.imp id (h1 b)), hA⟩
    · exact Holds.kds (D := D) ⟨r, s2, fun b hb => hlt b (hb.imp id (h2 b)), hL⟩ hx
theorem parts_notin {f : Nat → List Value} {T : TypeId} {b : Nat} : ∀ {D : List Nat} {r s : Nat → Prop} {h : Array Obj}, parts (D.map fun j => Blk j (f j) T) r s h → b ∈ D → s b
  | y :: D, r, s, h, ⟨s1, s2, h1, h2, hd, hA, hL⟩, hb => by
    rcases List.mem_cons.1 hb with rfl | hb
    · exact h1 _ hA.1
    · exact h2 _ (parts_notin hL hb)
theorem Sat.kNot {w : World} {f : Nat → List Value} {T T' : TypeId} {b : Nat} {C : List Value} {D : List Nat} (h : Sat W (Blk b C T' :: Kds (fun j => Blk j (f j) T) D :: L) w) : b ∉ D := fun hb => by
  obtain ⟨r, s, hd, hlt, s1, s2, h1, h2, hs, hA, t1, t2, k1, k2, kd, hB, hL⟩ := h.mem
  exact hs b hA.1 (k1 b (parts_notin hB hb))
theorem Sat.kNodup {w : World} {f : Nat → List Value} {T : TypeId} : ∀ {D : List Nat} {L : List HProp}, Sat W (Kds (fun j => Blk j (f j) T) D :: L) w → D.Nodup
  | [], _, _ => List.nodup_nil
  | b :: D, L, h => List.nodup_cons.2 ⟨h.kCons.kNot, Sat.kNodup (L := Blk b (f b) T :: L) (h.kCons.perm (List.Perm.swap _ _ _))⟩
theorem kds_congr {f f' : Nat → List Value} {T : TypeId} {D : List Nat} (h : ∀ j ∈ D, f' j = f j) : Kds (fun j => Blk j (f j) T) D = Kds (fun j => Blk j (f' j) T) D := by
  unfold Kds
  congr 1
  exact List.map_congr_left fun j hj => by rw [h j hj]
/-- one block of the store is written -/
theorem Eff.storeK {t : TypeId} {x y : Operand} {b i : Nat} {v : Value} {f f' : Nat → List Value} {T : TypeId} {D : List Nat} (ho : o.op = .store t x y) (ht : scal P t = true) (hx : ev l x = some (.pointer (some ⟨b, i, none⟩))) (hy : ev l y = some v)
    (h1 : v.oneCell' = true) (hb : b ∈ D) (hi : i < (f b).length) (hf1 : f' b = (f b).set i v) (hf2 : ∀ j, j ≠ b → f' j = f j) :
    Eff P W Q n l (Kds (fun j => Blk j (f j) T) D :: L) o (Sets (Kds (fun j => Blk j (f' j) T) D :: L)) := fun a w hf hs K hK => by
  obtain ⟨D1, D2, rfl⟩ := List.append_of_mem hb
  have h2 := (Sat.kPerm (List.perm_middle (a := b) (l₁ := D1) (l₂ := D2)) hs).kCons
  refine Eff.store (C := f b) (T := T) (L := Kds (fun j => Blk j (f j) T) (D1 ++ D2) :: L) ho ht hx hy h1 hi hf1.symm a w hf h2 K fun v' L' w' hR hS => ?_
  obtain rfl := hR
  have hn := hS.kNot
  refine hK v' _ w' rfl ?_
  rw [kds_congr (f' := f') (fun j hj => hf2 j (fun e => hn (e ▸ hj)))] at hS
  exact Sat.kPerm List.perm_middle.symm hS.kConsMk
def ptrN (P : Program) (t : TypeId) : Bool := match P.underlying t with | some (.pointer e) => (match P.info? e with | some i => i.size != 0 | none => false) | _ => false
theorem ptrN_of {t : TypeId} (h : ptrN P t = true) : isPtr P t = true ∧ ∃ e i, P.underlying t = some (.pointer e) ∧ P.info? e = some i ∧ i.size ≠ 0 := by
  unfold ptrN at h
  split at h
  · rename_i e he
    split at h
    · rename_i i hi
      exact ⟨by unfold isPtr; rw [he], e, i, he, hi, by simpa using h⟩
    · cases h
  · cases h
theorem equal_ptrs {t : TypeId} (ht : ptrN P t = true) {a b : Nat} {C1 C2 : List Value} {T1 T2 : TypeId} {w : World} (ha : Holds (Blk a C1 T1) w) (hb : Holds (Blk b C2 T2) w) (h1 : (T1 == 5) = false) (h2 : (T2 == 5) = false) :
    (Op.equal t (.pointer (some ⟨a, 0, none⟩)) (.pointer (some ⟨b, 0, none⟩))).run P w = .ok (decide (a = b)) w := by
  obtain ⟨hp, e, i, hu, hi, hz⟩ := ptrN_of ht
  by_cases hab : a = b
  · subst hab
    rw [equal_sameP hp ⟨e, i, hu, hi⟩]
    simp
  · have h : Op.maxDepth = 9999 + 1 := rfl
    have hr := run_sameAddr_other (P := P) w (a := ⟨a, 0, none⟩) (b := ⟨b, 0, none⟩) (by simp [hab]) (ha.blk0 h1) (hb.blk0 h2)
    unfold Op.equal
    rw [h]
    unfold Op.equalIn
    simp [run_underlying hu w, sizeOf, typeInfo, hi, hz, samePointer, hr, hab]
theorem Val.eqP {t u : TypeId} {x y : Operand} {a b : Nat} {T1 T2 : TypeId} (ho : o.op = .binOp .eql t x y u) (ht : ptrN P t = true) (hx : ev l x = some (.pointer (some ⟨a, 0, none⟩))) (hy : ev l y = some (.pointer (some ⟨b, 0, none⟩)))
    (h1 : (T1 == 5) = false) (h2 : (T2 == 5) = false) (ha : ∀ w, G w → ∃ C, Holds (Blk a C T1) w) (hb : ∀ w, G w → ∃ C, Holds (Blk b C T2) w) : Val P n l G o (.bool (decide (a = b))) := fun ac w hf hs => by
  obtain ⟨C1, k1⟩ := ha w hs
  obtain ⟨C2, k2⟩ := hb w hs
  simp [execOp, ho, hf.ev hx, hf.ev hy, eqGuard, binOp, equal_ptrs ht k1 k2 h1 h2]
theorem Val.neqP {t u : TypeId} {x y : Operand} {a b : Nat} {T1 T2 : TypeId} (ho : o.op = .binOp .neq t x y u) (ht : ptrN P t = true) (hx : ev l x = some (.pointer (some ⟨a, 0, none⟩))) (hy : ev l y = some (.pointer (some ⟨b, 0, none⟩)))
    (h1 : (T1 == 5) = false) (h2 : (T2 == 5) = false) (ha : ∀ w, G w → ∃ C, Holds (Blk a C T1) w) (hb : ∀ w, G w → ∃ C, Holds (Blk b C T2) w) : Val P n l G o (.bool (decide (a ≠ b))) := fun ac w hf hs => by
  obtain ⟨C1, k1⟩ := ha w hs
  obtain ⟨C2, k2⟩ := hb w hs
  simp [execOp, ho, hf.ev hx, hf.ev hy, eqGuard, binOp, equal_ptrs ht k1 k2 h1 h2]
theorem bl_irrefl : ∀ l : List UInt8, Op.bytesLess l l = false
  | [] => rfl
  | a :: l => by simp [Op.bytesLess, bl_irrefl l]
theorem bl_cons (a b : UInt8) (x y : List UInt8) : Op.bytesLess (a :: x) (b :: y) = true ↔ a < b ∨ (a = b ∧ Op.bytesLess x y = true) := by simp [Op.bytesLess]
theorem bl_trans : ∀ {x y z : List UInt8}, Op.bytesLess x y = true → Op.bytesLess y z = true → Op.bytesLess x z = true
  | _, _, [], _, h => by simp [Op.bytesLess] at h
  | [], _, c :: z, _, _ => rfl
  | a :: x, [], c :: z, h, _ => by simp [Op.bytesLess] at h
  | a :: x, b :: y, c :: z, h1, h2 => by
    rw [bl_cons] at h1 h2 ⊢
    rcases h1 with h1 | ⟨rfl, h1⟩
    · rcases h2 with h2 | ⟨rfl, h2⟩
      · exact .inl (UInt8.lt_trans h1 h2)
      · exact .inl h1
    · rcases h2 with h2 | ⟨rfl, h2⟩
      · exact .inl h2
      · exact .inr ⟨rfl, bl_trans h1 h2⟩
theorem bl_tri : ∀ x y : List UInt8, Op.bytesLess x y = true ∨ x = y ∨ Op.bytesLess y x = true
  | [], [] => .inr (.inl rfl)
  | [], _ :: _ => .inl rfl
  | _ :: _, [] => .inr (.inr rfl)
  | a :: x, b :: y => by
    rw [bl_cons, bl_cons]
    by_cases h1 : a < b
    · exact .inl (.inl h1)
    · by_cases h2 : b < a
      · exact .inr (.inr (.inl h2))
      · have e : a = b := UInt8.le_antisymm (UInt8.not_lt.1 h2) (UInt8.not_lt.1 h1)
        subst e
        rcases bl_tri x y with h | rfl | h
        · exact .inl (.inr ⟨rfl, h⟩)
        · exact .inr (.inl rfl)
        · exact .inr (.inr (.inr ⟨rfl, h⟩))
theorem gtr_less (x y : List UInt8) : (!Op.bytesLess x y && !x == y) = Op.bytesLess y x := by
  rcases bl_tri x y with h | rfl | h
  · have h2 : Op.bytesLess y x = false := by
      cases h3 : Op.bytesLess y x with
      | false => rfl
      | true => have := bl_trans h h3; rw [bl_irrefl] at this; cases this
    simp [h, h2]
  · simp [bl_irrefl]
  · have h2 : Op.bytesLess x y = false := by
      cases h3 : Op.bytesLess x y with
      | false => rfl
      | true => have := bl_trans h h3; rw [bl_irrefl] at this; cases this
    have h3 : (x == y) = false := by
      rw [beq_eq_false_iff_ne]
      rintro rfl
      rw [bl_irrefl] at h; cases h
    simp [h, h2, h3]
theorem Val.gtrS {t u : TypeId} {x y : Operand} {p q : ByteArray} (ho : o.op = .binOp .gtr t x y u) (hx : ev l x = some (.string p)) (hy : ev l y = some (.string q)) : Val P n l G o (.bool (Op.bytesLess q.toList p.toList)) := fun a w hf hs => by
  simp [execOp, ho, hf.ev hx, hf.ev hy, eqGuard, binOp, Op.stringOp, gtr_less]
theorem cb_eq : ∀ x y : List UInt8, compareBytes x y = if Op.bytesLess x y = true then -1 else if Op.bytesLess y x = true then 1 else 0
  | [], [] => rfl
  | [], _ :: _ => rfl
  | _ :: _, [] => rfl
  | a :: x, b :: y => by
    unfold compareBytes Op.bytesLess
    by_cases h1 : a < b
    · simp [h1]
    · by_cases h2 : b < a
      · have h3 : ¬ a = b := fun e => by subst e; exact h1 h2
        simp [h1, h2, h3]
      · have e : a = b := UInt8.le_antisymm (UInt8.not_lt.1 h2) (UInt8.not_lt.1 h1)
        subst e
        simp [h1, cb_eq x y]
/-! ## bytes.Compare -/
theorem run_loadB {w : World} {b : Nat} : ∀ (l : List UInt8) (i : Nat) (acc : ByteArray), (∀ j x, l[j]? = some x → w.cell? ⟨b, i + j, none⟩ = some (.int .u8 (x.toNat : Int))) → (Extern.Bytes.loadBytes ⟨b, i, none⟩ l.length acc).run P w = .ok ⟨acc.data ++ l.toArray⟩ w
  | [], i, acc, _ => by simp [Extern.Bytes.loadBytes]
  | x :: l, i, acc, h => by
    have h0 : w.cell? ⟨b, i, none⟩ = some (.int .u8 (x.toNat : Int)) := h 0 x rfl
    have ih := run_loadB l (i + 1) (acc.push x) (fun j y hy => by
      have := h (j + 1) y (by simpa using hy)
      rwa [show i + (j + 1) = i + 1 + j from by omega] at this)
    have e : ((x.toNat : Int)).toNat.toUInt8 = x := by simp
    have e1 : (⟨b, i, none⟩ : Addr).add 1 = ⟨b, i + 1, none⟩ := Addr.add_mid b i 1
    simp only [List.length_cons, Extern.Bytes.loadBytes, Sem.run_bind, run_load, h0, Result.andThen, e, e1]
    rw [ih]
    simp
theorem bytesOf_byts {w : World} {v : Value} {bs : List UInt8} (h : Holds (Byts v bs) w) : (Extern.Bytes.bytesOf v).run P w = .ok ⟨bs.toArray⟩ w := by
  obtain ⟨r, s, hlt, q, hq⟩ := h
  cases q with
  | none => obtain ⟨rfl, rfl⟩ := hq; simp [Extern.Bytes.bytesOf]; rfl
  | some q =>
    obtain ⟨b, i, c, C, T⟩ := q
    obtain ⟨s1, s2, -, k2, -, ⟨rfl, -, hC⟩, t1, t2, -, -, -, hro, -⟩ := hq
    have hold : Holds (Ro (Blk b C T)) w := ⟨r, fun _ => False, fun b hb => hlt b (hb.imp id False.elim), hro⟩
    have hr := run_loadB (P := P) (w := w) (b := b) bs i .empty (fun j x hj => by
      rw [hold.ro.cell]
      have hlt := (List.getElem?_eq_some_iff.1 hj).1
      have hj2 : (byt bs)[j]? = some (.int .u8 (x.toNat : Int)) := by simp [byt, hj]
      rw [← hC, List.getElem?_take, if_pos hlt] at hj2
      simpa using hj2)
    simp only [Extern.Bytes.bytesOf]
    rw [hr]
    simp
theorem Val.cmpBytes {f : FuncId} {fn : Func} {x y : Operand} {ats : Array TypeId} {u v : Value} {l1 l2 : List UInt8} (ho : o.op = .call { callee := .value (.func f), args := #[x, y], argTypes := ats }) (hx : ev l x = some u) (hy : ev l y = some v)
    (hf1 : P.funcs[f]? = some fn) (hname : (fn.name == "runtime.NumGoroutine") = false) (hb : fn.body.isNone = true) (hn : Extern.findNext fn = none) (he : Extern.find fn = some Extern.BytealgCompare.compare)
    (h1 : ∀ w, G w → Holds (Byts u l1) w) (h2 : ∀ w, G w → Holds (Byts v l2) w) : Val P n l G o (.int .i64 (compareBytes l1 l2)) := fun a w hf hs => by
  have e : (#[x, y].map a.eval) = #[u, v] := by simp [hf.ev hx, hf.ev hy]
  have hr : (Extern.BytealgCompare.compare #[u, v]).run P w = .ok (.int .i64 (compareBytes l1 l2)) w := by
    change Sem.run P (do pure (goInt (Extern.BytealgCompare.cmp (← Extern.Bytes.bytesOf u) (← Extern.Bytes.bytesOf v)))) w = _
    simp only [Sem.run_bind, bytesOf_byts (h1 w hs), bytesOf_byts (h2 w hs), Sem.run_pure, Result.andThen]
    rw [cmp_eq]
    rfl
  simp only [execOp, ho, resolve, Act.eval, e, Sem.run_bind, Deferred.ofValue, Sem.run_pure, Result.andThen_ok, invoke]
  have e2 : (#[] ++ #[u, v] ++ #[] : Array Value) = #[u, v] := by simp
  rw [e2, run_callFunc_extern hf1 hname hb hn he, hr]
  rfl
end
end Go.Proofs.Ytbomnihiapjmpaa.Sl

