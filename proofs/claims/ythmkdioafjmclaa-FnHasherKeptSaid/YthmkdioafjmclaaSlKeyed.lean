import Derived.Test.YthmkdioafjmclaaSlMap
import Derived.Maps.Keyed
import Derived.DeepKeys4
namespace Go.Proofs.Ythmkdioafjmclaa.Sl
open Go.RowKit Go.MapKept Go.Lib Go.Maps
set_option linter.unusedVariables false
set_option linter.unusedSimpArgs false

/-! ## sets of keys: maps whose values are all one -/
def mapK (P : Program) (t : TypeId) : Option (TypeId × TypeId) := match P.underlying t with | some (.map k e) => some (k, e) | _ => none
theorem mapK_of {P : Program} {t k e : TypeId} (h : mapK P t = some (k, e)) : P.underlying t = some (.map k e) := by
  unfold mapK at h
  split at h
  · simp only [Option.some.injEq, Prod.mk.injEq] at h
    obtain ⟨rfl, rfl⟩ := h
    assumption
  · cases h
def KIs (P : Program) (kt : TypeId) (v0 : Value) (es : Array MapEntry) (clock : Nat) (S : List Value) : Prop :=
  es.toList.map (·.key) = S ∧ Stamped es clock ∧ (∀ x ∈ es.toList, ∃ l, keyOf P kt x.key = some l) ∧ ∀ x ∈ es.toList, x.val = v0
def KSet (P : Program) (b : Nat) (kt : TypeId) (v0 : Value) (S : List Value) : HProp := Ex fun p : Array MapEntry × Nat => Sep [Pure (KIs P kt v0 p.1 p.2 S), Mpk b p.1 p.2]
open Classical in
noncomputable def kput (S : List Value) (k : Value) : List Value := if k ∈ S then S else S ++ [k]
open Classical in
noncomputable def kin (S : List Value) (k : Value) : Bool := decide (k ∈ S)
theorem kin_eq {S S' : List Value} {k : Value} (h : k ∈ S ↔ k ∈ S') : kin S k = kin S' k := by
  unfold kin
  exact decide_eq_decide.2 h
open Classical in
theorem kin_false {S : List Value} {k : Value} (h : k ∉ S) : kin S k = false := by unfold kin; exact decide_eq_false h
open Classical in
theorem kin_true {S : List Value} {k : Value} (h : k ∈ S) : kin S k = true := by unfold kin; exact decide_eq_true h
theorem mem_kput {S : List Value} {k x : Value} : x ∈ kput S k ↔ x = k ∨ x ∈ S := by
  unfold kput
  split
  · rename_i h
    exact ⟨.inr, fun h2 => h2.elim (fun e => e ▸ h) id⟩
  · simp only [List.mem_append, List.mem_singleton]; exact or_comm
section
variable {P : Program} {W : World} {Q : Exit → Act → World → Prop} {n : Nat} {l : List (Nat × Value)} {L : List HProp} {o : Oper} {G : World → Prop}
theorem Sat.kset {w : World} {b : Nat} {kt : TypeId} {v0 : Value} {S : List Value} (h : Sat W (KSet P b kt v0 S :: L) w) : ∃ es clock, KIs P kt v0 es clock S ∧ Sat W (Obk b (.map es clock) :: L) w := by
  obtain ⟨p, h⟩ := h.ex
  have h2 := h.sep
  exact ⟨p.1, p.2, h2.pure, h2.drop⟩
theorem Sat.ksetMk {w : World} {b : Nat} {kt : TypeId} {v0 : Value} {S : List Value} {es : Array MapEntry} {clock : Nat} (hm : KIs P kt v0 es clock S) (h : Sat W (Obk b (.map es clock) :: L) w) : Sat W (KSet P b kt v0 S :: L) w :=
  Sat.ex_mk (es, clock) (Sat.sep_mk (Sat.pure_mk hm h))
theorem Holds.kset {w : World} {b : Nat} {kt : TypeId} {v0 : Value} {S : List Value} (h : Holds (KSet P b kt v0 S) w) : ∃ es clock, KIs P kt v0 es clock S ∧ w.heap[b]? = some (.map es clock) := by
  obtain ⟨r, s, hb, p, hq⟩ := h
  obtain ⟨s1, s2, h1, h2, h3, h4, s3, s4, h5, h6, h7, h8, h9⟩ := hq
  exact ⟨p.1, p.2, h4, h8.2⟩
theorem KIs.find {kt : TypeId} {v0 : Value} {es : Array MapEntry} {clock : Nat} {S : List Value} (K : Keyed P kt) (h : KIs P kt v0 es clock S) {k : Value} {lk : Lit} (hk : keyOf P kt k = some lk) (w : World) :
    ((Instr.findKey kt k es.toList).run P w = .ok none w ∧ k ∉ S) ∨ ∃ j e, (Instr.findKey kt k es.toList).run P w = .ok (some (j, v0)) w ∧ es[j]? = some e ∧ e.key = k ∧ k ∈ S := by
  obtain ⟨rfl, h2, h3, h4⟩ := h
  rcases K.find w hk es.toList h3 with ⟨h5, h6⟩ | ⟨j, e, h5, h6, h7⟩
  · refine .inl ⟨h5, fun hm => ?_⟩
    obtain ⟨x, hx, he⟩ := List.mem_map.1 hm
    exact h6 x hx he
  · have hm := List.mem_of_getElem? h6
    refine .inr ⟨j, e, by rw [h5, h4 e hm], by simpa using h6, h7, List.mem_map.2 ⟨e, hm, h7⟩⟩
theorem Val.ksLook {t kt et : TypeId} {x ix : Operand} {b : Nat} {k v0 : Value} {S : List Value} {lk : Lit} (K : Keyed P kt) (ho : o.op = .lookup t x ix true) (ht : mapK P t = some (kt, et)) (hz : zeroV P et = some v0) (hx : ev l x = some (.map (some b))) (hi : ev l ix = some k)
    (hk : keyOf P kt k = some lk) (hc : ∀ w, G w → Holds (KSet P b kt v0 S) w) : Val P n l G o (.tuple #[v0, .bool (kin S k)]) := fun a w hf hs => by
  obtain ⟨es, clock, h, hb⟩ := (hc w hs).kset
  have h1 := mapK_of ht
  rcases h.find K hk w with ⟨h2, h3⟩ | ⟨j, e, h2, h3, h4, h5⟩
  · have hr : (Instr.lookup t (.map (some b)) k true).run P w = .ok (.tuple #[v0, .bool false]) w := by
      simp [Instr.lookup, run_underlying h1, MapKept.run_getObj_map hb, K.check w _ hk, h2, run_zeroV hz, Result.andThen]
    simp only [execOp, ho, hf.ev hx, hf.ev hi, Sem.run_bind, hr, kin_false h3]
    rfl
  · have hr : (Instr.lookup t (.map (some b)) k true).run P w = .ok (.tuple #[v0, .bool true]) w := by
      simp [Instr.lookup, run_underlying h1, MapKept.run_getObj_map hb, K.check w _ hk, h2, Result.andThen]
    simp only [execOp, ho, hf.ev hx, hf.ev hi, Sem.run_bind, hr, kin_true h5]
    rfl
theorem Val.ksLen {t kt et : TypeId} {x : Operand} {b : Nat} {kt' : TypeId} {v0 : Value} {S : List Value} (ho : o.op = .call { callee := .builtin .len, args := #[x], argTypes := #[t] }) (ht : mapK P t = some (kt, et)) (hx : ev l x = some (.map (some b)))
    (hc : ∀ w, G w → Holds (KSet P b kt' v0 S) w) : Val P n l G o (.int .i64 ((S.length : Nat) : Int)) := fun a w hf hs => by
  obtain ⟨es, clock, h, hb⟩ := (hc w hs).kset
  have hz : es.size = S.length := by rw [← h.1]; simp
  rw [← hz]
  simp [execOp, ho, hf.ev hx, resolve, Go.invoke, Go.builtin, Builtin.len_, run_underlying (mapK_of ht), MapKept.run_getObj_map hb, Result.andThen, goInt]
def NewK (P : Program) (kt : TypeId) (v0 : Value) (L : List HProp) : Value → List HProp → Prop := fun u M => ∃ b, u = .map (some b) ∧ M = KSet P b kt v0 [] :: L
theorem Eff.ksMake {t : TypeId} (kt : TypeId) (v0 : Value) (ho : o.op = .makeMap t none) : Eff P W Q n l L o (NewK P kt v0 L) := fun a w hf hs K hK => by
  unfold Oper.wp
  have e : (execOp a.eval o).run P w = .ok (.value (.map (some w.heap.size))) (w.alloc (.map #[] 0)) := by
    simp [execOp, ho, Instr.makeMap, Result.andThen]
  rw [e, Oper.upon_value]
  exact hK _ _ _ ⟨_, rfl, rfl⟩ (Sat.ksetMk (es := #[]) (clock := 0) ⟨rfl, stamped_empty 0, by simp, by simp⟩ (hs.alloc _))
theorem Eff.ksPut {t kt et : TypeId} {x ix iv : Operand} {b : Nat} {k v0 : Value} {S : List Value} {lk : Lit} (K : Keyed P kt) (ho : o.op = .mapUpdate t x ix iv) (ht : mapK P t = some (kt, et)) (hx : ev l x = some (.map (some b))) (hi : ev l ix = some k) (hv : ev l iv = some v0)
    (hk : keyOf P kt k = some lk) : Eff P W Q n l (KSet P b kt v0 S :: L) o (Sets (KSet P b kt v0 (kput S k) :: L)) := fun a w hf hs Kc hK => by
  obtain ⟨es, clock, h, hs2⟩ := hs.kset
  have hb := hs2.head.obk
  have h1 := mapK_of ht
  rcases h.find K hk w with ⟨h2, h3⟩ | ⟨j, e, h2, h3, h4, h5⟩
  · have hr : (Instr.mapUpdate t (.map (some b)) k v0).run P w = .ok () { w with heap := w.heap.setIfInBounds b (.map (es.push { key := k, val := v0, born := clock }) (clock + 1)) } := by
      simp [Instr.mapUpdate, run_underlying h1, MapKept.run_getObj_map hb, K.check w _ hk, h2, MapKept.run_setObj_map _ hb, Result.andThen]
    have hne : ∀ x ∈ es.toList, x.key ≠ k := fun x hx e => h3 (by rw [← h.1]; exact List.mem_map.2 ⟨x, hx, e⟩)
    unfold Oper.wp
    simp only [execOp, ho, hf.ev hx, hf.ev hi, hf.ev hv, Sem.run_bind, hr]
    have hh := heap_set (o' := .map (es.push { key := k, val := v0, born := clock }) (clock + 1)) hb
    refine hK undef _ _ rfl (Sat.ksetMk ?_ (hs2.write _ rfl rfl rfl (by simp) hh.1 hh.2))
    refine ⟨?_, stamped_push h.2.1 hne, fun y hy => ?_, fun y hy => ?_⟩
    · unfold kput
      rw [if_neg h3, ← h.1]; simp
    · simp only [Array.toList_push, List.mem_append, List.mem_singleton] at hy
      rcases hy with hy | rfl
      · exact h.2.2.1 y hy
      · exact ⟨lk, hk⟩
    · simp only [Array.toList_push, List.mem_append, List.mem_singleton] at hy
      rcases hy with hy | rfl
      · exact h.2.2.2 y hy
      · rfl
  · have hv2 : e.val = v0 := h.2.2.2 e (List.mem_of_getElem? (by simpa using h3))
    have hr : (Instr.mapUpdate t (.map (some b)) k v0).run P w = .ok () { w with heap := w.heap.setIfInBounds b (.map (es.modify j fun e => { e with key := k, val := v0 }) clock) } := by
      simp [Instr.mapUpdate, run_underlying h1, MapKept.run_getObj_map hb, K.check w _ hk, h2, h3, h4, K.stays w hk, MapKept.run_setObj_map _ hb, Result.andThen]
    have hsame : (es.modify j fun e => { e with key := k, val := v0 }) = es := by
      apply Array.ext_getElem?
      intro i
      rw [Array.getElem?_modify]
      split
      · rename_i e2
        subst e2
        rw [h3, ← h4, ← hv2]
        rfl
      · rfl
    unfold Oper.wp
    simp only [execOp, ho, hf.ev hx, hf.ev hi, hf.ev hv, Sem.run_bind, hr]
    have hh := heap_set (o' := .map es clock) hb
    refine hK undef _ _ rfl (Sat.ksetMk (es := es) (clock := clock) ?_ (hs2.write _ rfl rfl rfl (by simp) (by rw [hsame]; exact hh.1) (by rw [hsame]; exact hh.2)))
    unfold kput
    rw [if_pos h5]
    exact h
end
end Go.Proofs.Ythmkdioafjmclaa.Sl
