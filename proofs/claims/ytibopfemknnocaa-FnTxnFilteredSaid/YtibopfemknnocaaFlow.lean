import Derived.Orders
import Derived.OrdersHeld
import Derived.RegionTactic
import Derived.Deep.RegionHeld3
import Derived.Below
namespace Go.Proofs.Ytibopfemknnocaa.Flow

/-- no way out but the normal one -/
def NoQ : Exit → Act → World → Prop := fun _ _ _ => False
theorem not_letsOut : ¬ LetsOut NoQ := fun ⟨_, _, h⟩ => h

def slotOf (ops : Array Oper) (i : Nat) : Option Tmp := (ops[i]?).bind (·.dst)
/-- the frame in which the operations of l have left their values -/
def canon (ops : Array Oper) (a0 : Act) (l : List Nat) (ν : Nat → Value) : Act := l.foldl (fun a j => a.put (slotOf ops j) (ν j)) a0
/-- what an operation waits for, of what is still to come -/
def preds (ops : Array Oper) (listed : Array Bool) (i : Nat) : List Nat :=
  match ops[i]? with
  | some o => ((o.after.toList.filter fun e => Region.binds .any e && !listed.getD e.on false).map (·.on)).eraseDups
  | none => []

theorem put_size (a : Act) (d : Option Tmp) (v : Value) : (a.put d v).tmps.size = a.tmps.size := by cases d <;> simp [Act.put]
theorem put_defers (a : Act) (d : Option Tmp) (v : Value) : (a.put d v).defers = a.defers := by cases d <;> rfl
theorem canon_size {ops : Array Oper} {ν : Nat → Value} : ∀ (l : List Nat) (a0 : Act), (canon ops a0 l ν).tmps.size = a0.tmps.size
  | [], _ => rfl
  | j :: l, a0 => by
    show (canon ops (a0.put (slotOf ops j) (ν j)) l ν).tmps.size = _
    rw [canon_size l, put_size]
theorem canon_defers {ops : Array Oper} {ν : Nat → Value} : ∀ (l : List Nat) (a0 : Act), (canon ops a0 l ν).defers = a0.defers
  | [], _ => rfl
  | j :: l, a0 => by
    show (canon ops (a0.put (slotOf ops j) (ν j)) l ν).defers = _
    rw [canon_defers l, put_defers]
theorem put_at (a : Act) (d : Tmp) (v : Value) (t : Tmp) : (a.put (some d) v).tmps.getD t undef = if d = t then (if t < a.tmps.size then v else undef) else a.tmps.getD t undef := by
  by_cases h : d = t
  · subst h
    by_cases hs : d < a.tmps.size
    · simp [Act.put, hs]
    · simp [Act.put, hs]
  · simp [Act.put, h, Array.getElem?_setIfInBounds_ne h]
theorem canon_other {ops : Array Oper} {ν : Nat → Value} {t : Tmp} : ∀ (l : List Nat) (a0 : Act), (∀ j ∈ l, slotOf ops j ≠ some t) → (canon ops a0 l ν).tmps.getD t undef = a0.tmps.getD t undef
  | [], _, _ => rfl
  | j :: l, a0, h => by
    show (canon ops (a0.put (slotOf ops j) (ν j)) l ν).tmps.getD t undef = _
    rw [canon_other l _ (fun k hk => h k (List.mem_cons_of_mem _ hk))]
    have hj := h j List.mem_cons_self
    cases hd : slotOf ops j with
    | none => rfl
    | some d =>
      rw [hd] at hj
      rw [put_at, if_neg (fun e => hj (by rw [e]))]
theorem canon_at {ops : Array Oper} {ν : Nat → Value} {t : Tmp} {k : Nat} : ∀ (l : List Nat) (a0 : Act), k ∈ l → slotOf ops k = some t → (∀ j ∈ l, slotOf ops j = some t → j = k) →
    (canon ops a0 l ν).tmps.getD t undef = if t < a0.tmps.size then ν k else undef
  | [], _, h, _, _ => by cases h
  | j :: l, a0, hk, ht, hu => by
    show (canon ops (a0.put (slotOf ops j) (ν j)) l ν).tmps.getD t undef = _
    by_cases hin : k ∈ l
    · rw [canon_at l _ hin ht (fun i hi => hu i (List.mem_cons_of_mem _ hi)), put_size]
    · have hjk : j = k := by
        rcases List.mem_cons.1 hk with h | h
        · exact h.symm
        · exact absurd h hin
      subst hjk
      rw [canon_other l _ (fun i hi hs => hin (by rw [← hu i (List.mem_cons_of_mem _ hi) hs]; exact hi)), ht, put_at, if_pos rfl]

theorem act_ext {a b : Act} (hd : a.defers = b.defers) (hs : a.tmps.size = b.tmps.size) (h : ∀ t : Tmp, a.tmps.getD t undef = b.tmps.getD t undef) : a = b := by
  obtain ⟨x, dx⟩ := a
  obtain ⟨y, dy⟩ := b
  simp only at hd hs h
  subst hd
  congr 1
  apply Array.ext hs
  intro i h1 h2
  have := h i
  simpa [h1, h2] using this

theorem execOp_same {ops : Array Oper} (o : Oper) (hs : ∀ cs b, o.op ≠ .select cs b) {a b : Act} (h : ∀ t ∈ o.looksAt ops, a.tmps.getD t undef = b.tmps.getD t undef) :
    execOp a.eval o = execOp b.eval o :=
  execOp_congr o hs fun x hx => by
    cases x with
    | tmp t => exact h t (List.mem_append_left _ (List.mem_filterMap.2 ⟨.tmp t, by simpa using hx, rfl⟩))
    | _ => rfl
theorem wanted_same {ops : Array Oper} (o : Oper) {a b : Act} (h : ∀ t ∈ o.looksAt ops, a.tmps.getD t undef = b.tmps.getD t undef) (hs : a.tmps.size = b.tmps.size) :
    Region.wanted o (yielded ops a.tmps) = Region.wanted o (yielded ops b.tmps) := by
  unfold Region.wanted
  cases hg : o.guard with
  | none => rfl
  | some gw =>
    obtain ⟨g, want⟩ := gw
    have hy : yielded ops a.tmps g = yielded ops b.tmps g := by
      unfold yielded
      cases ht : (ops[g]?).bind (·.dst) with
      | none => rfl
      | some t =>
        have := h t (by simp [Oper.looksAt, hg, ht])
        by_cases hlt : t < a.tmps.size
        · have hlt' : t < b.tmps.size := hs ▸ hlt
          simp [hlt, hlt'] at this ⊢
          rw [this]
        · have hlt' : ¬ t < b.tmps.size := hs ▸ hlt
          simp [hlt, hlt']
    simp only [hy]

theorem put_inj {a b : Act} {d : Option Tmp} {u v : Value} (hs : a.tmps.size = b.tmps.size) (h : b.put d u = b.put d v) : a.put d u = a.put d v := by
  cases d with
  | none => rfl
  | some d =>
    by_cases hd : d < b.tmps.size
    · have := congrArg (fun x : Act => x.tmps.getD d undef) h
      simp only [put_at, if_true, hd] at this
      rw [this]
    · have hd' : ¬ d < a.tmps.size := hs ▸ hd
      simp [Act.put, Array.setIfInBounds, hd']

section
variable {P : Program} {ops : Array Oper} {Q : Exit → Act → World → Prop}

theorem transport {i : Nat} {o : Oper} (ho : ops[i]? = some o) (hsel : ∀ cs b, o.op ≠ .select cs b) {a b : Act} {w : World} {G : Value → World → Prop}
    (hsize : a.tmps.size = b.tmps.size) (h : ∀ t ∈ o.looksAt ops, a.tmps.getD t undef = b.tmps.getD t undef)
    (hh : wpOp P ops NoQ i (fun a' w' => ∃ v, a' = b.put o.dst v ∧ G v w') b w) :
    wpOp P ops Q i (fun a' w' => ∃ v, a' = a.put o.dst v ∧ G v w') a w := by
  have he := execOp_same (ops := ops) o hsel h
  have hw := wanted_same (ops := ops) o h hsize
  unfold wpOp at *
  simp only [ho] at *
  rw [hw]
  have back : ∀ (u : Value) (w' : World), (∃ v, b.put o.dst u = b.put o.dst v ∧ G v w') → ∃ v, a.put o.dst u = a.put o.dst v ∧ G v w' := by
    rintro u w' ⟨v, hv, hg⟩
    exact ⟨v, put_inj hsize hv, hg⟩
  split
  · rename_i hwt
    simp only [hwt, if_true] at hh
    rcases hh with hh | ⟨_, hl⟩
    · refine .inl ?_
      unfold Oper.wp at *
      rw [he]
      generalize (execOp b.eval o).run P w = r at *
      cases r with
      | ok n w' =>
        cases n <;> simp only [Oper.upon] at hh ⊢
        case value u => exact back _ _ hh
        case skip => exact back _ _ hh
        case defer d =>
          obtain ⟨v, hv, _⟩ := hh
          have := congrArg Act.defers hv
          rw [put_defers, put_defers] at this
          simp at this
        case enter f args =>
          refine Calls.mono hh fun e w'' hx => ?_
          cases e with
          | returned u => exact back _ _ hx
          | panicked c => exact hx.elim
          | outgrown => exact (not_letsOut hx).elim
        case row row args => exact Rows.mono hh fun u w'' hx => back _ _ hx
      | halt x w' => cases x <;> simp only [Oper.upon] at hh ⊢; exact hh.elim
    · exact (not_letsOut hl).elim
  · rename_i hwt
    simp only [hwt] at hh
    exact back _ _ hh

/-- what an operation waits for, and what that waits for -/
def direct (ops : Array Oper) (i : Nat) : List Nat :=
  match ops[i]? with
  | some o => (o.after.toList.filter fun e => Region.binds .any e).map (·.on)
  | none => []
def grow (ops : Array Oper) (pend : List Nat) : Nat → List Nat → List Nat
  | 0, S => S
  | k + 1, S => grow ops pend k (S ++ (S.filter fun j => pend.contains j).flatMap (direct ops)).eraseDups
theorem grow_done {ops : Array Oper} {pend : List Nat} {L : Array Bool} (hcl : ∀ j ∈ pend, L.getD j false = true → ∀ i ∈ direct ops j, L.getD i false = true) : ∀ (k : Nat) (S : List Nat), (∀ j ∈ S, L.getD j false = true) → ∀ j ∈ grow ops pend k S, L.getD j false = true
  | 0, _, h => h
  | k + 1, S, h => grow_done hcl k _ fun j hj => by
    rw [List.mem_eraseDups, List.mem_append, List.mem_flatMap] at hj
    rcases hj with hj | ⟨q, hq, hj⟩
    · exact h j hj
    · rw [List.mem_filter] at hq
      exact hcl q (by simpa using hq.2) (h q hq.1) j hj
/-- The closed facts of a region: they are reckoned by the kernel. -/
def flowOk (ops : Array Oper) (listed : Array Bool) (pend : List Nat) : Bool :=
  decide (listed.size = ops.size) && decide pend.Nodup && ((List.range ops.size).all fun j => listed.getD j true || pend.contains j || (match ops[j]? with
      | none => true
      | some o => (pend.all fun p => (grow ops pend 8 (direct ops j)).contains p) || (o.after.toList.any fun e => Region.binds .any e && !listed.getD e.on false && !pend.contains e.on))) && (pend.all fun j => !listed.getD j false) &&
  (pend.all fun i => pend.all fun j => i == j || (slotOf ops i).isNone || slotOf ops i != slotOf ops j) &&
  (pend.all fun i => match ops[i]? with
    | none => false
    | some o => (match o.op with | .select _ _ => false | _ => true) && (o.after.toList.all fun e => !Region.binds .any e || listed.getD e.on false || (pend.contains e.on && decide (e.on < i))) &&
      (pend.all fun k => (preds ops listed i).contains k || (match slotOf ops k with | some d => !(o.looksAt ops).contains d | none => true)))

/-- what is listed behind the operations of l -/
def markAll (listed : Array Bool) (l : List Nat) : Array Bool := l.foldl (fun L i => L.setIfInBounds i true) listed
theorem markAll_size : ∀ (l : List Nat) (L : Array Bool), (markAll L l).size = L.size
  | [], _ => rfl
  | i :: l, L => by
    show (markAll (L.setIfInBounds i true) l).size = _
    rw [markAll_size l]; simp
theorem markAll_get : ∀ (l : List Nat) (L : Array Bool) (j : Nat), j < L.size → (markAll L l).getD j false = (L.getD j false || l.contains j)
  | [], L, j, _ => by simp [markAll]
  | i :: l, L, j, h => by
    show (markAll (L.setIfInBounds i true) l).getD j false = _
    rw [markAll_get l _ j (by simpa using h)]
    by_cases hij : i = j
    · subst hij
      simp [h]
    · rw [getD_set_ne false hij]
      simp [Ne.symm hij]

/-- one operation's step -/
def Step (P : Program) (ops : Array Oper) (listed : Array Bool) (a0 : Act) (S : World → Prop) (R : World → World → Prop) (U : Nat → Value → World → Prop) (i : Nat) : Prop :=
  ∀ (ν : Nat → Value) (w : World), S w → (∀ j ∈ preds ops listed i, U j (ν j) w) →
    wpOp P ops NoQ i (fun a' w' => ∃ v, a' = (canon ops a0 (preds ops listed i) ν).put (slotOf ops i) v ∧ S w' ∧ R w w' ∧ U i v w') (canon ops a0 (preds ops listed i) ν) w

theorem wpAnyH_flow {listed : Array Bool} {a0 : Act} {w0 : World} {f0 : Nat} (pend : List Nat) (S : World → Prop) (R : World → World → Prop) (U : Nat → Value → World → Prop)
    (hok : flowOk ops listed pend = true) (hS : S w0) (hst : ∀ j v w w', U j v w → R w w' → U j v w')
    (hstep : ∀ i ∈ pend, Step P ops listed a0 S R U i)
    (hend : ∀ (ν : Nat → Value) (w : World), S w → (∀ j ∈ pend, U j (ν j) w) → wpAnyH P .any ops Q S f0 (markAll listed pend) (canon ops a0 pend ν) w) :
    wpAnyH P .any ops Q S (pend.length + f0) listed a0 w0 := by
  unfold flowOk at hok
  simp only [Bool.and_eq_true, List.all_eq_true, decide_eq_true_eq] at hok
  obtain ⟨⟨⟨⟨⟨hsz, hnodup⟩, hcov⟩, hnl⟩, hdst⟩, hops⟩ := hok
  have huniq : ∀ i ∈ pend, ∀ j ∈ pend, ∀ t, slotOf ops i = some t → slotOf ops j = some t → i = j := by
    intro i hi j hj t hti htj
    have := hdst i hi j hj
    simp [hti, htj] at this
    exact this
  suffices key : ∀ (n : Nat) (L : Array Bool) (a : Act) (w : World) (ν : Nat → Value), (pend.filter fun j => !L.getD j false).length = n → L.size = ops.size → S w →
      (∀ j, listed.getD j false = true → L.getD j false = true) → (∀ j, L.getD j false = true → listed.getD j false = true ∨ j ∈ pend) → (∀ j ∈ pend, L.getD j false = true → ∀ i ∈ direct ops j, L.getD i false = true) → (∀ j ∈ pend, L.getD j false = true → U j (ν j) w) →
      a = canon ops a0 (pend.filter fun j => L.getD j false) ν → wpAnyH P .any ops Q S (n + f0) L a w by
    have hlen : (pend.filter fun j => !listed.getD j false).length = pend.length := by
      congr 1
      rw [List.filter_eq_self]; intro j hj; exact hnl j hj
    rw [← hlen]
    refine key _ listed a0 w0 (fun _ => undef) rfl hsz hS (fun _ h => h) (fun _ h => .inl h) (fun j hj h => ?_) (fun j hj h => ?_) ?_
    · have := hnl j hj; simp [h] at this
    · have := hnl j hj; simp [h] at this
    · have : (pend.filter fun j => listed.getD j false) = [] := by
        rw [List.filter_eq_nil_iff]; intro j hj h; have := hnl j hj; simp [h] at this
      rw [this]; rfl
  intro n
  induction n with
  | zero =>
    intro L a w ν hn hLs hSw hmono hsub hcl hU ha
    have hall : ∀ j ∈ pend, L.getD j false = true := by
      intro j hj
      rw [List.length_eq_zero_iff, List.filter_eq_nil_iff] at hn
      simpa using hn j hj
    have hL : L = markAll listed pend := by
      apply Array.ext
      · rw [markAll_size, hLs, hsz]
      · intro j h1 h2
        have e1 := markAll_get pend listed j (by omega)
        have e2 : L.getD j false = (listed.getD j false || pend.contains j) := by
          rw [Bool.eq_iff_iff]
          simp only [Bool.or_eq_true]
          constructor
          · intro h
            rcases hsub j h with h | h
            · exact .inl h
            · exact .inr (by simpa using h)
          · rintro (h | h)
            · exact hmono j h
            · exact hall j (by simpa using h)
        rw [← e1] at e2
        simpa [h1, h2] using e2
    have hfin : (pend.filter fun j => L.getD j false) = pend := List.filter_eq_self.2 hall
    rw [hfin] at ha
    subst ha
    subst hL
    rw [Nat.zero_add]
    exact hend ν w hSw (fun j hj => hU j hj (hall j hj))
  | succ n ih =>
    intro L a w ν hn hLs hSw hmono hsub hcl hU ha
    rw [Nat.add_right_comm]
    have hget : ∀ i, i < ops.size → L.getD i true = L.getD i false := by
      intro i hi
      have hlt' : i < L.size := by omega
      simp [hlt']
    refine ⟨fun hr => ?_, fun i hi => ?_⟩
    · exfalso
      -- the least one that has not come up is ready
      have hex : ∃ j, j ∈ pend ∧ L.getD j false = false := by
        cases hl : pend.filter fun j => !L.getD j false with
        | nil => rw [hl] at hn; simp at hn
        | cons j l =>
          have : j ∈ pend.filter fun j => !L.getD j false := by rw [hl]; exact List.mem_cons_self
          rw [List.mem_filter] at this
          exact ⟨j, this.1, by simpa using this.2⟩
      have hmin : ∀ m j, j ∈ pend → L.getD j false = false → j ≤ m → False := by
        intro m
        induction m with
        | zero =>
          intro j hj hL0 hjm
          have hj0 : j = 0 := by omega
          subst hj0
          have ho := hops _ hj
          cases hoj : ops[0]? with
          | none => simp [hoj] at ho
          | some o =>
            simp only [hoj, Bool.and_eq_true, List.all_eq_true] at ho
            have hlt : 0 < ops.size := (Array.getElem?_eq_some_iff.1 hoj).1
            have : 0 ∈ Region.ready .any ops L := mem_ready.2 ⟨by rw [hget 0 hlt]; exact hL0, o, hoj, fun e he hb => by
              have := ho.1.2 e (by simpa using he)
              simp [hb] at this
              have hm := hmono e.on (by simpa using this)
              exact hm⟩
            rw [hr] at this; cases this
        | succ m ihm =>
          intro j hj hL0 hjm
          have ho := hops _ hj
          cases hoj : ops[j]? with
          | none => simp [hoj] at ho
          | some o =>
            simp only [hoj, Bool.and_eq_true, List.all_eq_true] at ho
            have hlt : j < ops.size := (Array.getElem?_eq_some_iff.1 hoj).1
            have : j ∈ Region.ready .any ops L := mem_ready.2 ⟨by rw [hget j hlt]; exact hL0, o, hoj, fun e he hb => by
              have h2 := ho.1.2 e (by simpa using he)
              simp only [hb, Bool.not_true, Bool.false_or, Bool.or_eq_true, Bool.and_eq_true, decide_eq_true_eq] at h2
              rcases h2 with h2 | ⟨h2, h3⟩
              · exact hmono e.on h2
              · cases hx : L.getD e.on false with
                | true => rfl
                | false => exact (ihm e.on (by simpa using h2) hx (by omega)).elim⟩
            rw [hr] at this; cases this
      obtain ⟨j, hj, hL⟩ := hex
      exact hmin j j hj hL (Nat.le_refl _)
    · obtain ⟨h0, o, ho, hafter⟩ := mem_ready.1 hi
      have hlt : i < ops.size := (Array.getElem?_eq_some_iff.1 ho).1
      have hiL : L.getD i false = false := by rw [← hget i hlt]; exact h0
      have hip : i ∈ pend := by
        have hc := hcov i (List.mem_range.2 hlt)
        simp only [Bool.or_eq_true, ho] at hc
        rcases hc with (h | h) | h
        · have hl : listed.getD i false = true := by
            have hlt' : i < listed.size := by omega
            simp [hlt'] at h ⊢; exact h
          have := hmono i hl
          rw [this] at hiL; cases hiL
        · simpa using h
        · exfalso
          simp only [List.all_eq_true, List.any_eq_true, Bool.and_eq_true] at h
          rcases h with h | ⟨e, he, ⟨hb, hnl'⟩, hnp⟩
          · -- all that wait are done
            have hall : ∀ j ∈ pend, L.getD j false = true := by
              intro j hj
              refine grow_done hcl 8 (direct ops i) (fun q hq => ?_) j (by simpa using h j hj)
              simp only [direct, ho, List.mem_map, List.mem_filter] at hq
              obtain ⟨e, ⟨he, hb⟩, rfl⟩ := hq
              exact hafter e (by simpa using he) hb
            have : (pend.filter fun j => !L.getD j false) = [] := by
              rw [List.filter_eq_nil_iff]; intro j hj; simp [hall j hj]
            rw [this] at hn; simp at hn
          · have := hafter e (by simpa using he) hb
            rcases hsub _ this with h | h
            · rw [h] at hnl'; simp at hnl'
            · have hc : pend.contains e.on = true := by simpa using h
              rw [hc] at hnp; simp at hnp
      have hoi := hops i hip
      simp only [ho, Bool.and_eq_true, List.all_eq_true] at hoi
      obtain ⟨⟨hsel, hedge⟩, hlook⟩ := hoi
      have hsel' : ∀ cs b, o.op ≠ .select cs b := by
        intro cs b e; rw [e] at hsel; simp at hsel
      have hslot : slotOf ops i = o.dst := by simp [slotOf, ho]
      have hpreds : ∀ j ∈ preds ops listed i, j ∈ pend ∧ L.getD j false = true := by
        intro j hj
        simp only [preds, ho, List.mem_eraseDups, List.mem_map, List.mem_filter, Bool.and_eq_true] at hj
        obtain ⟨e, ⟨he, hb, hnl'⟩, rfl⟩ := hj
        refine ⟨?_, hafter e (by simpa using he) hb⟩
        have h2 := hedge e (by simpa using he)
        have hx : listed.getD e.on false = false := by simpa using hnl'
        rw [hb, hx] at h2
        simp only [Bool.not_true, Bool.false_or, Bool.and_eq_true] at h2
        simpa using h2.1
      have hs := hstep i hip ν w hSw (fun j hj => hU j (hpreds j hj).1 (hpreds j hj).2)
      rw [hslot] at hs
      have hsz2 : a.tmps.size = (canon ops a0 (preds ops listed i) ν).tmps.size := by rw [ha, canon_size, canon_size]
      have hsame : ∀ t ∈ o.looksAt ops, a.tmps.getD t undef = (canon ops a0 (preds ops listed i) ν).tmps.getD t undef := by
        intro t ht
        by_cases hk : ∃ k, k ∈ pend ∧ slotOf ops k = some t
        · obtain ⟨k, hkp, hkt⟩ := hk
          have hkin : k ∈ preds ops listed i := by
            have h2 := hlook k hkp
            rw [hkt] at h2
            simp only [Bool.or_eq_true] at h2
            rcases h2 with h2 | h2
            · simpa using h2
            · exfalso
              have : (o.looksAt ops).contains t = true := by simpa using ht
              rw [this] at h2; simp at h2
          rw [ha, canon_at _ _ (List.mem_filter.2 ⟨hkp, (hpreds k hkin).2⟩) hkt (fun j hj hjt => huniq j (List.mem_filter.1 hj).1 k hkp t hjt hkt),
            canon_at _ _ hkin hkt (fun j hj hjt => huniq j (hpreds j hj).1 k hkp t hjt hkt)]
        · have hno : ∀ k ∈ pend, slotOf ops k ≠ some t := fun k hkp h => hk ⟨k, hkp, h⟩
          rw [ha, canon_other _ _ (fun j hj => hno j (List.mem_filter.1 hj).1), canon_other _ _ (fun j hj => hno j (hpreds j hj).1)]
      have hx := transport (Q := Q) ho hsel' hsz2 hsame hs
      refine wpOp_mono ?_ hx
      rintro a' w' ⟨v, rfl, hSw', hR, hUi⟩
      refine ⟨hSw', ih (L.setIfInBounds i true) _ w' (fun j => if j = i then v else ν j) ?_ (by simpa using hLs) hSw' ?_ ?_ ?_ ?_ ?_⟩
      · -- one fewer
        have hsplit : ∀ l : List Nat, l.Nodup → i ∈ l → (l.filter fun j => !(L.setIfInBounds i true).getD j false).length + 1 = (l.filter fun j => !L.getD j false).length := by
          intro l
          induction l with
          | nil => intro _ h; cases h
          | cons x l ihl =>
            intro hnd hin
            rw [List.nodup_cons] at hnd
            by_cases hxi : x = i
            · subst hxi
              have e1 : (L.setIfInBounds x true).getD x false = true := by
                have hlt' : x < L.size := by omega
                simp [hlt']
              have e2 : (l.filter fun j => !(L.setIfInBounds x true).getD j false) = (l.filter fun j => !L.getD j false) := by
                apply List.filter_congr
                intro j hj
                have : x ≠ j := fun e => hnd.1 (e ▸ hj)
                rw [getD_set_ne false this]
              rw [List.filter_cons, List.filter_cons, e1, hiL, e2]
              simp
            · have hin' : i ∈ l := by
                rcases List.mem_cons.1 hin with h | h
                · exact absurd h.symm hxi
                · exact h
              have := ihl hnd.2 hin'
              rw [List.filter_cons, List.filter_cons, getD_set_ne false (Ne.symm hxi)]
              split
              · simp only [List.length_cons]; omega
              · exact this
        have := hsplit pend hnodup hip
        omega
      · intro j hj; exact getD_set_true (hmono j hj)
      · intro j hj
        by_cases hji : j = i
        · subst hji; exact .inr hip
        · rw [getD_set_ne false (Ne.symm hji)] at hj
          exact hsub j hj
      · intro j hj hjL q hq
        by_cases hji : j = i
        · subst hji
          simp only [direct, ho, List.mem_map, List.mem_filter] at hq
          obtain ⟨e, ⟨he, hb⟩, rfl⟩ := hq
          exact getD_set_true (hafter e (by simpa using he) hb)
        · rw [getD_set_ne false (Ne.symm hji)] at hjL
          exact getD_set_true (hcl j hj hjL q hq)
      · intro j hj hjL
        by_cases hji : j = i
        · subst hji; simpa using hUi
        · simp only [hji, if_false]
          rw [getD_set_ne false (Ne.symm hji)] at hjL
          exact hst j _ w w' (hU j hj hjL) hR
      · -- the same frame, in whatever order
        have hmem : ∀ j, j ∈ (pend.filter fun j => (L.setIfInBounds i true).getD j false) ↔ j = i ∨ j ∈ pend.filter fun j => L.getD j false := by
          intro j
          rw [List.mem_filter, List.mem_filter]
          by_cases hji : j = i
          · subst hji
            have hlt' : j < L.size := by omega
            simp [hlt', hip]
          · rw [getD_set_ne false (Ne.symm hji)]
            simp [hji]
        refine act_ext ?_ ?_ ?_
        · rw [put_defers, ha, canon_defers, canon_defers]
        · rw [put_size, ha, canon_size, canon_size]
        · intro t
          by_cases hk : ∃ k, k ∈ (pend.filter fun j => (L.setIfInBounds i true).getD j false) ∧ slotOf ops k = some t
          · obtain ⟨k, hkin, hkt⟩ := hk
            rw [canon_at _ _ hkin hkt (fun j hj hjt => huniq j (List.mem_filter.1 hj).1 k (List.mem_filter.1 hkin).1 t hjt hkt)]
            by_cases hki : k = i
            · subst hki
              rw [← hslot, hkt, put_at, if_pos rfl, ha, canon_size]
              simp
            · have hko : o.dst ≠ some t := fun h => hki (huniq k (List.mem_filter.1 hkin).1 i hip t hkt (by rw [hslot]; exact h))
              have hkin' : k ∈ pend.filter fun j => L.getD j false := ((hmem k).1 hkin).resolve_left hki
              have hput : (a.put o.dst v).tmps.getD t undef = a.tmps.getD t undef := by
                cases hd : o.dst with
                | none => rfl
                | some d => rw [put_at, if_neg (fun e => hko (by rw [hd, e]))]
              rw [hput, ha, canon_at _ _ hkin' hkt (fun j hj hjt => huniq j (List.mem_filter.1 hj).1 k (List.mem_filter.1 hkin').1 t hjt hkt)]
              simp [hki]
          · have hno : ∀ k ∈ (pend.filter fun j => (L.setIfInBounds i true).getD j false), slotOf ops k ≠ some t := fun k hk' h => hk ⟨k, hk', h⟩
            have hko : o.dst ≠ some t := fun h => hno i ((hmem i).2 (.inl rfl)) (by rw [hslot]; exact h)
            have hput : (a.put o.dst v).tmps.getD t undef = a.tmps.getD t undef := by
              cases hd : o.dst with
              | none => rfl
              | some d => rw [put_at, if_neg (fun e => hko (by rw [hd, e]))]
            rw [hput, canon_other _ _ hno, ha, canon_other _ _ (fun j hj => hno j ((hmem j).2 (.inr hj)))]

/-! ### the rule in the form in which it is used: the operations that are still to come, each with those that it waits for and with its slot -/
def vAt (a : Act) : Option Tmp → Value
  | some t => a.tmps.getD t undef
  | none => undef
def canonL (a0 : Act) (ps : List (Nat × Option Tmp)) (ν : Nat → Value) : Act := ps.foldl (fun a p => a.put p.2 (ν p.1)) a0
def UAll (U : Nat → Value → World → Prop) (ν : Nat → Value) (w : World) : List (Nat × Option Tmp) → Prop
  | [] => True
  | p :: l => U p.1 (ν p.1) w ∧ UAll U ν w l
def Post (b : Act) (d : Option Tmp) (S : World → Prop) (R : World → World → Prop) (U : Value → World → Prop) (w : World) (a' : Act) (w' : World) : Prop :=
  a' = b.put d (vAt a' d) ∧ S w' ∧ R w w' ∧ U (vAt a' d) w'
def Steps (P : Program) (ops : Array Oper) (a0 : Act) (S : World → Prop) (R : World → World → Prop) (U : Nat → Value → World → Prop) : List (Nat × Option Tmp × List (Nat × Option Tmp)) → Prop
  | [] => True
  | x :: l => (∀ (ν : Nat → Value) (w : World), S w → UAll U ν w x.2.2 → ∀ K : Act → World → Prop, (∀ a' w', Post (canonL a0 x.2.2 ν) x.2.1 S R (U x.1) w a' w' → K a' w') →
      wpOp P ops NoQ x.1 K (canonL a0 x.2.2 ν) w) ∧ Steps P ops a0 S R U l

/-- The closed facts, with the list of what waits for what. -/
def flowOk2 (ops : Array Oper) (listed : Array Bool) (l : List (Nat × Option Tmp × List (Nat × Option Tmp))) : Bool :=
  flowOk ops listed (l.map (·.1)) && l.all fun x => slotOf ops x.1 == x.2.1 && (preds ops listed x.1 == x.2.2.map (·.1)) && x.2.2.all fun p => slotOf ops p.1 == p.2

theorem canonL_eq {a0 : Act} {ν : Nat → Value} : ∀ {ps : List (Nat × Option Tmp)}, (∀ p ∈ ps, slotOf ops p.1 = p.2) → canon ops a0 (ps.map (·.1)) ν = canonL a0 ps ν := by
  intro ps
  induction ps generalizing a0 with
  | nil => intro _; rfl
  | cons p l ih =>
    intro h
    show canon ops (a0.put (slotOf ops p.1) (ν p.1)) (l.map (·.1)) ν = canonL (a0.put p.2 (ν p.1)) l ν
    rw [h p List.mem_cons_self]
    exact ih (fun q hq => h q (List.mem_cons_of_mem _ hq))
theorem uAll_of {U : Nat → Value → World → Prop} {ν : Nat → Value} {w : World} : ∀ {ps : List (Nat × Option Tmp)}, (∀ j ∈ ps.map (·.1), U j (ν j) w) → UAll U ν w ps
  | [], _ => True.intro
  | p :: l, h => ⟨h p.1 (by simp), uAll_of fun j hj => h j (by simp at hj ⊢; exact .inr hj)⟩
theorem steps_at {a0 : Act} {S : World → Prop} {R : World → World → Prop} {U : Nat → Value → World → Prop} : ∀ {l : List (Nat × Option Tmp × List (Nat × Option Tmp))}, Steps P ops a0 S R U l → ∀ x ∈ l,
    ∀ (ν : Nat → Value) (w : World), S w → UAll U ν w x.2.2 → ∀ K : Act → World → Prop, (∀ a' w', Post (canonL a0 x.2.2 ν) x.2.1 S R (U x.1) w a' w' → K a' w') →
      wpOp P ops NoQ x.1 K (canonL a0 x.2.2 ν) w
  | [], _, _, h => by cases h
  | y :: l, hs, x, hx => by
    rcases List.mem_cons.1 hx with rfl | hx
    · exact hs.1
    · exact steps_at hs.2 x hx

theorem flow {listed : Array Bool} {a0 : Act} {w0 : World} {f0 : Nat} (l : List (Nat × Option Tmp × List (Nat × Option Tmp))) (S : World → Prop) (R : World → World → Prop) (U : Nat → Value → World → Prop)
    (hok : flowOk2 ops listed l = true) (hS : S w0) (hst : ∀ j v w w', U j v w → R w w' → U j v w')
    (hstep : Steps P ops a0 S R U l)
    (hend : ∀ (ν : Nat → Value) (w : World), S w → UAll U ν w (l.map fun x => (x.1, x.2.1)) → wpAnyH P .any ops Q S f0 (markAll listed (l.map (·.1))) (canonL a0 (l.map fun x => (x.1, x.2.1)) ν) w) :
    wpAnyH P .any ops Q S (l.length + f0) listed a0 w0 := by
  unfold flowOk2 at hok
  simp only [Bool.and_eq_true, List.all_eq_true, beq_iff_eq] at hok
  obtain ⟨hok, hl⟩ := hok
  rw [← List.length_map (f := fun x : Nat × Option Tmp × List (Nat × Option Tmp) => x.1) (as := l)]
  refine wpAnyH_flow (l.map (·.1)) S R U hok hS hst ?_ ?_
  · intro i hi
    rw [List.mem_map] at hi
    obtain ⟨x, hx, rfl⟩ := hi
    obtain ⟨⟨h1, h2⟩, h3⟩ := hl x hx
    intro ν w hSw hU
    rw [h2, canonL_eq h3]
    rw [h2] at hU
    refine steps_at hstep x hx ν w hSw (uAll_of hU) _ ?_
    rintro a' w' ⟨ha, hS', hR', hU'⟩
    exact ⟨_, by rw [h1]; exact ha, hS', hR', hU'⟩
  · intro ν w hSw hU
    have e : l.map (·.1) = (l.map fun x => (x.1, x.2.1)).map (·.1) := by rw [List.map_map]; rfl
    have hx : canon ops a0 (l.map (·.1)) ν = canonL a0 (l.map fun x => (x.1, x.2.1)) ν := by
      rw [e]
      exact canonL_eq (by
      intro p hp
      rw [List.mem_map] at hp
      obtain ⟨x, hx, rfl⟩ := hp
      exact (hl x hx).1.1)
    rw [hx]
    rw [e] at hU
    exact hend ν w hSw (uAll_of hU)

/-- An operation that yields its value in every world that meets S is taken first (its slot told apart). -/
theorem take {S : World → Prop} {i : Nat} {oi : Oper} {d : Option Tmp} {v : Value} {fuel : Nat} {listed : Array Bool} {a : Act} {w : World} (hi : ops[i]? = some oi) (hd : oi.dst = d)
    (hs : Region.noSelect ops = true) (hf : Region.free .any ops listed i = true) (hr : (Region.ready .any ops listed).contains i = true)
    (hQ : ∀ c a w, Q (.panic c) (a.put d v) w → Q (.panic c) a w) (hw : Region.wanted oi (yielded ops a.tmps) = true) (hy : ∀ w, S w → (execOp a.eval oi).run P w = .ok (.value v) w) (hS : S w)
    (h : wpAnyH P .any ops Q S fuel (listed.setIfInBounds i true) (a.put d v) w) : wpAnyH P .any ops Q S (fuel + 1) listed a w := by
  subst hd
  exact wpAnyH_take hi hs hf hr hQ (.inl ⟨hw, hy⟩) hS h

/-! ### the commonest case: nothing that was there is written -/
theorem start {id : Nat} {a : Act} {w : World} (hm : P.follows .mixedOrders = true)
    (h : RowKit.Below w.heap.size w w.drew → wpAnyH P .any ops Q (fun w' => RowKit.Below w.heap.size w w') ops.size (Array.replicate ops.size false) a w.drew) : (Code.region id ops true).wp P Q a w :=
  wp_region_held_drew hm (RowKit.Below.drew (RowKit.Below.refl _ _)) h
theorem flowB {W : World} {listed : Array Bool} {a0 : Act} {w0 : World} {f0 : Nat} (l : List (Nat × Option Tmp × List (Nat × Option Tmp))) (U : Nat → Value → World → Prop)
    (hok : flowOk2 ops listed l = true) (hS : RowKit.Below W.heap.size W w0) (hst : ∀ j v w w', U j v w → RowKit.Below w.heap.size w w' → U j v w')
    (hstep : Steps P ops a0 (fun w' => RowKit.Below W.heap.size W w') (fun a b => RowKit.Below a.heap.size a b) U l)
    (hend : ∀ (ν : Nat → Value) (w : World), RowKit.Below W.heap.size W w → UAll U ν w (l.map fun x => (x.1, x.2.1)) →
      wpAnyH P .any ops Q (fun w' => RowKit.Below W.heap.size W w') f0 (markAll listed (l.map (·.1))) (canonL a0 (l.map fun x => (x.1, x.2.1)) ν) w) :
    wpAnyH P .any ops Q (fun w' => RowKit.Below W.heap.size W w') (l.length + f0) listed a0 w0 := flow l _ _ U hok hS hst hstep hend
/-- a value that is known to be so, and stays so -/
theorem postB {W : World} {b : Act} {d : Option Tmp} {U : Value → World → Prop} {w w' : World} {a' : Act} (ha : a' = b.put d (vAt a' d)) (hS : RowKit.Below W.heap.size W w) (hb : RowKit.Below w.heap.size w w') (hU : U (vAt a' d) w') :
    Post b d (fun w' => RowKit.Below W.heap.size W w') (fun a b => RowKit.Below a.heap.size a b) U w a' w' :=
  ⟨ha, hS.trans (hb.mono hS.size), hb, hU⟩
/-- the one operation that may come up -/
theorem stepB {S : World → Prop} {listed : Array Bool} {a : Act} {w : World} {fuel : Nat} (i : Nat) {o : Oper} (hr : Region.ready .any ops listed = [i]) (ho : ops[i]? = some o)
    (h : ∀ K : Act → World → Prop, (∀ a' w', S w' → (S w' → wpAnyH P .any ops Q S fuel (listed.setIfInBounds i true) a' w') → K a' w') → if Region.wanted o (yielded ops a.tmps) = true then o.wp P a w K Q else K (a.put o.dst undef) w) :
    wpAnyH P .any ops Q S (fuel + 1) listed a w :=
  wpAnyH_all hr (by simp) fun j hj => by
    have : j = i := by simpa using hj
    subst this
    exact wpOp_step ho fun K hK => h K fun a' w' h1 h2 => hK a' w' ⟨h1, h2 h1⟩
theorem doneB {S : World → Prop} {listed : Array Bool} {a : Act} {w : World} {fuel : Nat} (hr : Region.ready .any ops listed = []) (h : Q .normal a w) : wpAnyH P .any ops Q S fuel listed a w := wpAnyH_done hr h fuel
end
end Go.Proofs.Ytibopfemknnocaa.Flow
