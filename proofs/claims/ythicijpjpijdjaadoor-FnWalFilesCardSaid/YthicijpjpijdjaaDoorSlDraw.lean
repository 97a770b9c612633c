import Derived.Orders
import Derived.OrdersHeld
import Derived.RegionTactic
namespace Go.Proofs.YthicijpjpijdjaaDoor.Sl
set_option linter.unusedVariables false

/-! ## a region that draws its order, once more: what is read need not stay behind an operation that waits for all others -/
/-- what an operation waits for -/
def direct (ops : Array Oper) (i : Nat) : List Nat :=
  match ops[i]? with
  | some o => (o.after.toList.filter fun e => Region.binds .any e).map (·.on)
  | none => []
/-- and what that waits for, and so on -/
def behind (ops : Array Oper) : Nat → List Nat → List Nat
  | 0, S => S
  | k + 1, S => behind ops k (S ++ S.flatMap (direct ops)).eraseDups
def Closed (ops : Array Oper) (listed : Array Bool) : Prop := ∀ j, listed.getD j false = true → ∀ k ∈ direct ops j, listed.getD k false = true
theorem behind_listed {ops : Array Oper} {L : Array Bool} (hcl : Closed ops L) : ∀ (k : Nat) (S : List Nat), (∀ j ∈ S, L.getD j false = true) → ∀ j ∈ behind ops k S, L.getD j false = true
  | 0, _, h => h
  | k + 1, S, h => behind_listed hcl k _ fun j hj => by
    rw [List.mem_eraseDups, List.mem_append, List.mem_flatMap] at hj
    rcases hj with hj | ⟨q, hq, hj⟩
    · exact h j hj
    · exact hcl q (h q hq) j hj
def closedB (ops : Array Oper) (listed : Array Bool) : Bool := decide (listed.size = ops.size) && (List.range ops.size).all fun j => !listed.getD j false || (direct ops j).all fun k => listed.getD k false
theorem closed_of {ops : Array Oper} {listed : Array Bool} (h : closedB ops listed = true) : Closed ops listed := by
  unfold closedB at h
  simp only [Bool.and_eq_true, decide_eq_true_eq] at h
  obtain ⟨hs, h⟩ := h
  intro j hj k hk
  have hlt : j < ops.size := by
    rw [← hs]
    rcases Nat.lt_or_ge j listed.size with h' | h'
    · exact h'
    · simp [Array.getElem?_eq_none h'] at hj
  have h1 := List.all_eq_true.1 h j (List.mem_range.2 hlt)
  rw [hj] at h1
  simp only [Bool.not_true, Bool.false_or] at h1
  exact List.all_eq_true.1 h1 k hk
/-- operations that do not look at memory -/
def memFree (ops : Array Oper) (k : Nat) : Bool := match ops[k]? with
  | some o => (match o.op with | .move _ | .assign _ | .fieldAddr .. | .indexAddr .. | .nilCheck _ | .pick .. | .slice .. | .binOp .. | .unOp .. | .extract .. | .field .. | .build .. => true | _ => false)
  | none => false
/-- each other operation that may look at memory is ahead of j, or waits for it -/
def cutB (ops : Array Oper) (j : Nat) : Bool := (List.range ops.size).all fun k => k == j || memFree ops k || (behind ops 12 (direct ops j)).contains k || (behind ops 12 (direct ops k)).contains j

variable {P : Program} {ops : Array Oper} {Q : Exit → Act → World → Prop} {S : World → Prop}
/-- Whatever order is picked: S holds behind each operation but those that part the others in two; behind such a one another S may hold. -/
def wpF (P : Program) (ops : Array Oper) (Q : Exit → Act → World → Prop) : Nat → (World → Prop) → Array Bool → Act → World → Prop
  | 0, _, listed, a, w => Region.ready .any ops listed = [] ∧ Q .normal a w
  | fuel + 1, S, listed, a, w =>
    (Region.ready .any ops listed = [] → Q .normal a w) ∧
    ∀ i ∈ Region.ready .any ops listed, wpOp P ops Q i (fun a' w' => ∃ S', (S' = S ∨ cutB ops i = true ∨ ∀ w, S' w → S w) ∧ S' w' ∧ wpF P ops Q fuel S' (listed.setIfInBounds i true) a' w') a w
theorem wpF_any : ∀ (fuel : Nat) (S : World → Prop) (listed : Array Bool) (a : Act) (w : World), wpF P ops Q fuel S listed a w → wpAny P .any ops Q fuel listed a w
  | 0, _, _, _, _, h => h
  | fuel + 1, S, _, _, _, h => ⟨h.1, fun i hi => wpOp_mono (fun a' w' ⟨S', _, _, h1⟩ => wpF_any fuel S' _ a' w' h1) (h.2 i hi)⟩
theorem ready_direct {listed : Array Bool} {j : Nat} (hj : j ∈ Region.ready .any ops listed) : ∀ k ∈ direct ops j, listed.getD k false = true := by
  obtain ⟨_, o, ho, hall⟩ := mem_ready.1 hj
  intro k hk
  simp only [direct, ho, List.mem_map, List.mem_filter] at hk
  obtain ⟨e, ⟨he, hb⟩, rfl⟩ := hk
  exact hall e (by simpa using he) hb
theorem closed_set {listed : Array Bool} {j : Nat} (hc : Closed ops listed) (hj : j ∈ Region.ready .any ops listed) : Closed ops (listed.setIfInBounds j true) := by
  intro i hi k hk
  refine getD_set_true ?_
  by_cases hij : j = i
  · subst hij; exact ready_direct hj k hk
  · rw [getD_set_ne false hij] at hi; exact hc i hi k hk
theorem getD_of_ready {listed : Array Bool} {i : Nat} (hi : i ∈ Region.ready .any ops listed) : listed.getD i false = false := by
  have h := (mem_ready.1 hi).1
  rcases Nat.lt_or_ge i listed.size with h' | h'
  · simpa [h'] using h
  · simp [Array.getElem?_eq_none h']
theorem not_cut {listed : Array Bool} {i j : Nat} (hc : Closed ops listed) (hi : i ∈ Region.ready .any ops listed) (hj : j ∈ Region.ready .any ops listed) (hne : j ≠ i) (hm : memFree ops i = false) : cutB ops j ≠ true := by
  intro h
  have hlt : i < ops.size := by
    obtain ⟨_, o, ho, _⟩ := mem_ready.1 hi
    exact (Array.getElem?_eq_some_iff.1 ho).1
  have h1 := List.all_eq_true.1 h i (List.mem_range.2 hlt)
  simp only [Bool.or_eq_true, beq_iff_eq, Ne.symm hne, false_or, List.contains_iff_mem, hm, Bool.false_eq_true] at h1
  rcases h1 with h1 | h1
  · have := behind_listed hc 12 _ (ready_direct hj) i h1
    rw [getD_of_ready hi] at this
    cases this
  · have := behind_listed hc 12 _ (ready_direct hi) j h1
    rw [getD_of_ready hj] at this
    cases this
/-- An operation that yields its value in every world that meets S may be taken first. (M: in every world at all.) -/
theorem wpF_first {i : Nat} {oi : Oper} {v : Value} (hi : ops[i]? = some oi) (hsel : ∀ (j : Nat) (o : Oper) cs b, ops[j]? = some o → o.op ≠ .select cs b)
    (hQ : ∀ c a w, Q (.panic c) (a.put oi.dst v) w → Q (.panic c) a w) :
    ∀ (fuel : Nat) (S : World → Prop) (listed : Array Bool) (a : Act) (w : World),
      (∀ j oj, ops[j]? = some oj → j ≠ i → listed.getD j true = false → (∀ e ∈ oj.after, Region.binds .any e = true → e.on ≠ i) → oi.apart ops oj = true) →
      Closed ops listed → i ∈ Region.ready .any ops listed → (YieldsIf P ops S oi v a ∧ memFree ops i = false ∨ YieldsIf P ops (fun _ => True) oi v a) → S w →
      wpF P ops Q fuel S (listed.setIfInBounds i true) (a.put oi.dst v) w → wpF P ops Q (fuel + 1) S listed a w := by
  intro fuel
  have own : ∀ (S : World → Prop) (a : Act) (w : World) (K : Act → World → Prop), (YieldsIf P ops S oi v a ∧ memFree ops i = false ∨ YieldsIf P ops (fun _ => True) oi v a) → S w → K (a.put oi.dst v) w → wpOp P ops Q i K a w := by
    intro S a w K hy hS hK
    rcases hy with hy | hy
    · exact hy.1.wpOp hi hS hK
    · exact hy.wpOp hi trivial hK
  induction fuel with
  | zero =>
    intro S listed a w _ _ hr hy hS H
    refine ⟨fun h => (by rw [h] at hr; cases hr), fun j hj => ?_⟩
    by_cases hji : j = i
    · subst hji; exact own S a w _ hy hS ⟨S, .inl rfl, hS, H⟩
    · have := ready_mono hj hji
      rw [H.1] at this
      cases this
  | succ fuel ih =>
    intro S listed a w hfree hcl hr hy hS H
    refine ⟨fun h => (by rw [h] at hr; cases hr), fun j hj => ?_⟩
    by_cases hji : j = i
    · subst hji; exact own S a w _ hy hS ⟨S, .inl rfl, hS, H⟩
    obtain ⟨hjun, oj, hoj, hall⟩ := mem_ready.1 hj
    have hnot : ∀ e ∈ oj.after, Region.binds .any e = true → e.on ≠ i := fun e he hb heq => by
      have h1 := hall e he hb
      rw [heq, getD_of_ready hr] at h1
      cases h1
    have hfree' : ∀ k ok, ops[k]? = some ok → k ≠ i → (listed.setIfInBounds j true).getD k true = false → (∀ e ∈ ok.after, Region.binds .any e = true → e.on ≠ i) → oi.apart ops ok = true := by
      intro k ok hk hki hun hno
      refine hfree k ok hk hki ?_ hno
      by_cases hjk : j = k
      · subst hjk; exact hjun
      · rw [getD_set_ne true hjk] at hun; exact hun
    rcases hy with hy | hy
    · have h2 := wpOp_putIf hoj (hfree j oj hoj hji hjun hnot) (fun cs b => hsel i oi cs b hi) (fun cs b => hsel j oj cs b hoj) hQ hy.1 (H.2 j (ready_mono hj hji))
      refine wpOp_mono (fun a' w' h3 => ?_) h2
      obtain ⟨hy', S', hS', hSw, hrest⟩ := h3
      refine ⟨S', hS', hSw, ih S' (listed.setIfInBounds j true) a' w' hfree' (closed_set hcl hj) (ready_mono hr (Ne.symm hji)) (.inl ⟨?_, hy.2⟩) hSw ?_⟩
      · rcases hS' with rfl | hc | hsub
        · exact hy'
        · exact absurd hc (not_cut hcl hr hj hji hy.2)
        · exact hy'.imp (fun ⟨hw, hv⟩ => ⟨hw, fun w h => hv w (hsub w h)⟩) id
      rw [Array.setIfInBounds_comm _ _ hji]; exact hrest
    · have h2 := wpOp_putIf hoj (hfree j oj hoj hji hjun hnot) (fun cs b => hsel i oi cs b hi) (fun cs b => hsel j oj cs b hoj) hQ hy (H.2 j (ready_mono hj hji))
      refine wpOp_mono (fun a' w' h3 => ?_) h2
      obtain ⟨hy', S', hS', hSw, hrest⟩ := h3
      refine ⟨S', hS', hSw, ih S' (listed.setIfInBounds j true) a' w' hfree' (closed_set hcl hj) (ready_mono hr (Ne.symm hji)) (.inr hy') hSw ?_⟩
      rw [Array.setIfInBounds_comm _ _ hji]; exact hrest
theorem wpF_take {i : Nat} {oi : Oper} {v : Value} {fuel : Nat} {listed : Array Bool} {a : Act} {w : World} (hi : ops[i]? = some oi)
    (hs : Region.noSelect ops = true) (hf : Region.free .any ops listed i = true) (hc : closedB ops listed = true) (hr : (Region.ready .any ops listed).contains i = true)
    (hQ : ∀ c a w, Q (.panic c) (a.put oi.dst v) w → Q (.panic c) a w) (hy : YieldsIf P ops S oi v a ∧ memFree ops i = false ∨ YieldsIf P ops (fun _ => True) oi v a) (hS : S w)
    (h : wpF P ops Q fuel S (listed.setIfInBounds i true) (a.put oi.dst v) w) : wpF P ops Q (fuel + 1) S listed a w :=
  wpF_first hi (Region.noSelect_spec hs) hQ fuel S listed a w (Region.free_spec hi hf) (closed_of hc) (by simpa using hr) hy hS h
theorem wpF_all {rs : List Nat} {fuel : Nat} {listed : Array Bool} {a : Act} {w : World} (hr : Region.ready .any ops listed = rs) (hne : rs ≠ [])
    (h : ∀ i ∈ rs, wpOp P ops Q i (fun a' w' => ∃ S', (S' = S ∨ cutB ops i = true ∨ ∀ w, S' w → S w) ∧ S' w' ∧ wpF P ops Q fuel S' (listed.setIfInBounds i true) a' w') a w) : wpF P ops Q (fuel + 1) S listed a w :=
  ⟨fun h0 => absurd (hr ▸ h0) hne, hr ▸ h⟩
theorem wpF_done {listed : Array Bool} {a : Act} {w : World} (hr : Region.ready .any ops listed = []) (h : Q .normal a w) : ∀ fuel, wpF P ops Q fuel S listed a w
  | 0 => ⟨hr, h⟩
  | _ + 1 => ⟨fun _ => h, by rw [hr]; simp⟩
theorem wpF_start {id : Nat} {a : Act} {w : World} (hm : P.follows .mixedOrders = true) (h : wpF P ops Q ops.size S (Array.replicate ops.size false) a { w with drawn := w.drawn + 1 }) : (Code.region id ops true).wp P Q a w :=
  wp_region_any hm (wpF_any _ _ _ _ _ h)
end Go.Proofs.YthicijpjpijdjaaDoor.Sl
