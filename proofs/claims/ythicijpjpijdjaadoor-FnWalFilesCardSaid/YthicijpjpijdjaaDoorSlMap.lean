import Derived.Test.YthicijpjpijdjaaDoorSlRead
import Derived.MapKept
namespace Go.Proofs.YthicijpjpijdjaaDoor.Sl
open Go.RowKit Go.MapKept Go.Lib
set_option linter.unusedSectionVars false
set_option linter.unusedVariables false
set_option linter.unusedSimpArgs false

/-! ## maps whose keys are numbers, texts or truths -/
def mapT (P : Program) (t : TypeId) : Option (TypeId × TypeId × TypeDesc) := match P.underlying t with | some (.map k e) => (P.underlying k).map fun d => (k, e, d) | _ => none
theorem mapT_of {P : Program} {t k e : TypeId} {d : TypeDesc} (h : mapT P t = some (k, e, d)) : P.underlying t = some (.map k e) ∧ P.underlying k = some d := by
  unfold mapT at h
  cases hu : P.underlying t with
  | none => rw [hu] at h; cases h
  | some q =>
    rw [hu] at h
    cases q <;> first | (cases h; done) | skip
    rename_i k' e'
    cases hk : P.underlying k' with
    | none => simp [hk] at h
    | some d' =>
      simp only [hk, Option.map_some, Option.some.injEq, Prod.mk.injEq] at h
      obtain ⟨rfl, rfl, rfl⟩ := h
      exact ⟨rfl, hk⟩
def MapIs (d : TypeDesc) (es : Array MapEntry) (clock : Nat) (kvs : List (Value × Value)) : Prop :=
  es.toList.map (fun e => (e.key, e.val)) = kvs ∧ Stamped es clock ∧ ∀ x ∈ es.toList, IsKey d x.key
def Mapk (b : Nat) (d : TypeDesc) (kvs : List (Value × Value)) : HProp := Ex fun p : Array MapEntry × Nat => Sep [Pure (MapIs d p.1 p.2 kvs), Mpk b p.1 p.2]
theorem Sat.mapk {W w : World} {b : Nat} {d : TypeDesc} {kvs : List (Value × Value)} {L : List HProp} (h : Sat W (Mapk b d kvs :: L) w) : ∃ es clock, MapIs d es clock kvs ∧ Sat W (Obk b (.map es clock) :: L) w := by
  obtain ⟨p, h⟩ := h.ex
  have h2 := h.sep
  exact ⟨p.1, p.2, h2.pure, h2.drop⟩
theorem Sat.mapkMk {W w : World} {b : Nat} {d : TypeDesc} {es : Array MapEntry} {clock : Nat} {kvs : List (Value × Value)} {L : List HProp} (hm : MapIs d es clock kvs) (h : Sat W (Obk b (.map es clock) :: L) w) : Sat W (Mapk b d kvs :: L) w :=
  Sat.ex_mk (es, clock) (Sat.sep_mk (Sat.pure_mk hm h))
theorem Holds.mapk {w : World} {b : Nat} {d : TypeDesc} {kvs : List (Value × Value)} (h : Holds (Mapk b d kvs) w) : ∃ es clock, MapIs d es clock kvs ∧ w.heap[b]? = some (.map es clock) := by
  obtain ⟨r, s, hb, p, hq⟩ := h
  obtain ⟨s1, s2, h1, h2, h3, h4, s3, s4, h5, h6, h7, h8, h9⟩ := hq
  exact ⟨p.1, p.2, h4, h8.2⟩
/-- a map's keys differ -/
theorem MapIs.nodup {d : TypeDesc} {es : Array MapEntry} {clock : Nat} {kvs : List (Value × Value)} (h : MapIs d es clock kvs) : (kvs.map (·.1)).Nodup := by
  obtain ⟨rfl, h2, -⟩ := h
  have := h2.2.2
  rw [List.map_map]
  exact this
theorem MapIs.find {d : TypeDesc} {es : Array MapEntry} {clock : Nat} {kvs : List (Value × Value)} (h : MapIs d es clock kvs) {k : Value} (hk : IsKey d k) :
    (Instr.findNow d k es.toList 0 = some none ∧ ∀ p ∈ kvs, p.1 ≠ k) ∨ ∃ j e, Instr.findNow d k es.toList 0 = some (some (j, e.val)) ∧ es[j]? = some e ∧ e.key = k ∧ kvs[j]? = some (k, e.val) := by
  obtain ⟨rfl, h2, h3⟩ := h
  rcases findNow_spec hk es.toList 0 h3 with ⟨h4, h5⟩ | ⟨j, e, h4, h5, h6⟩
  · refine .inl ⟨h4, fun p hp => ?_⟩
    obtain ⟨x, hx, rfl⟩ := List.mem_map.1 hp
    exact h5 x hx
  · refine .inr ⟨j, e, by simpa using h4, by simpa using h5, h6, ?_⟩
    rw [List.getElem?_map, h5]
    simp [h6]
theorem nodup_at {α β : Type} {l : List (α × β)} (h : (l.map (·.1)).Nodup) {i j : Nat} {k : α} {u v : β} (hi : l[i]? = some (k, u)) (hj : l[j]? = some (k, v)) : i = j := by
  have h1 : (l.map (·.1))[i]? = some k := by rw [List.getElem?_map, hi]; rfl
  have h2 : (l.map (·.1))[j]? = some k := by rw [List.getElem?_map, hj]; rfl
  obtain ⟨a1, a2⟩ := List.getElem?_eq_some_iff.1 h1
  obtain ⟨b1, b2⟩ := List.getElem?_eq_some_iff.1 h2
  exact (List.getElem_inj h).1 (a2.trans b2.symm)
theorem map_erase {α β : Type} (f : α → β) (l : List α) (j : Nat) : (l.eraseIdx j).map f = (l.map f).eraseIdx j := by
  apply List.ext_getElem?
  intro i
  rw [List.getElem?_map, List.getElem?_eraseIdx, List.getElem?_eraseIdx]
  split <;> rw [List.getElem?_map]
section
variable [Dfs]
variable {P : Program} {W : World} {ops : Array Oper} {Q : Exit → Act → World → Prop} {n : Nat} {l : List (Nat × Value)} {L : List HProp} {o : Oper} {G : World → Prop}
theorem run_look {w : World} {t kt et : TypeId} {d : TypeDesc} {b : Nat} {es : Array MapEntry} {clock : Nat} {k : Value} {a : Option (Nat × Value)} (ht : mapT P t = some (kt, et, d)) (hb : w.heap[b]? = some (.map es clock)) (hk : IsKey d k) (hf : Instr.findNow d k es.toList 0 = some a) {z : Value} (hz : (zeroValue et).run P w = .ok z w) (c : Bool) :
    (Instr.lookup t (.map (some b)) k c).run P w = .ok (match a with | some (_, v) => (if c then .tuple #[v, .bool true] else v) | none => (if c then .tuple #[z, .bool false] else z)) w := by
  obtain ⟨h1, h2⟩ := mapT_of ht
  cases a with
  | none => cases c <;> simp [Instr.lookup, run_underlying h1, MapKept.run_getObj_map hb, run_checkKey h2 hk, run_findKey h2 hf, hz, Result.andThen]
  | some q => cases c <;> simp [Instr.lookup, run_underlying h1, MapKept.run_getObj_map hb, run_checkKey h2 hk, run_findKey h2 hf, Result.andThen]
def zeroV (P : Program) (t : TypeId) : Option Value := (P.info? t).bind (·.zero)
theorem run_zeroV {t : TypeId} {z : Value} (h : zeroV P t = some z) (w : World) : (zeroValue t).run P w = .ok z w := by
  unfold zeroV at h
  cases hi : P.info? t with
  | none => rw [hi] at h; cases h
  | some i =>
    rw [hi] at h
    simp only [Option.bind_some] at h
    simp [zeroValue, typeInfo, hi, h, Result.andThen]
theorem Val.lookHit {t kt et : TypeId} {d : TypeDesc} {x ix : Operand} {b : Nat} {k v z : Value} {kvs : List (Value × Value)} {c : Bool} (ho : o.op = .lookup t x ix c) (ht : mapT P t = some (kt, et, d)) (hz : zeroV P et = some z) (hx : ev l x = some (.map (some b))) (hi : ev l ix = some k)
    (hk : IsKey d k) (hc : ∀ w, G w → Holds (Mapk b d kvs) w) (hm : (k, v) ∈ kvs) : Val P n l G o (if c then .tuple #[v, .bool true] else v) := fun a w hf hs => by
  obtain ⟨es, clock, h, hb⟩ := (hc w hs).mapk
  rcases h.find hk with ⟨h1, h2⟩ | ⟨j, e, h1, h2, h3, h4⟩
  · exact absurd rfl (h2 _ hm)
  · obtain ⟨i, hi'⟩ := List.getElem?_of_mem hm
    have := nodup_at h.nodup hi' h4
    subst this
    rw [h4] at hi'
    have e2 : e.val = v := by simpa using hi'
    simp only [execOp, ho, hf.ev hx, hf.ev hi, Sem.run_bind, run_look ht hb hk h1 (run_zeroV hz w), Result.andThen_ok, e2]
    rfl
theorem Val.lookMiss {t kt et : TypeId} {d : TypeDesc} {x ix : Operand} {b : Nat} {k z : Value} {kvs : List (Value × Value)} {c : Bool} (ho : o.op = .lookup t x ix c) (ht : mapT P t = some (kt, et, d)) (hz : zeroV P et = some z) (hx : ev l x = some (.map (some b))) (hi : ev l ix = some k)
    (hk : IsKey d k) (hc : ∀ w, G w → Holds (Mapk b d kvs) w) (hm : ∀ p ∈ kvs, p.1 ≠ k) : Val P n l G o (if c then .tuple #[z, .bool false] else z) := fun a w hf hs => by
  obtain ⟨es, clock, h, hb⟩ := (hc w hs).mapk
  rcases h.find hk with ⟨h1, h2⟩ | ⟨j, e, h1, h2, h3, h4⟩
  · simp only [execOp, ho, hf.ev hx, hf.ev hi, Sem.run_bind, run_look ht hb hk h1 (run_zeroV hz w), Result.andThen_ok]
    rfl
  · exact absurd rfl (hm _ (List.mem_of_getElem? h4))
theorem Val.lenMap {t kt et : TypeId} {d d' : TypeDesc} {x : Operand} {b : Nat} {kvs : List (Value × Value)} (ho : o.op = .call { callee := .builtin .len, args := #[x], argTypes := #[t] }) (ht : mapT P t = some (kt, et, d')) (hx : ev l x = some (.map (some b)))
    (hc : ∀ w, G w → Holds (Mapk b d kvs) w) : Val P n l G o (.int .i64 ((kvs.length : Nat) : Int)) := fun a w hf hs => by
  obtain ⟨es, clock, h, hb⟩ := (hc w hs).mapk
  have hz : es.size = kvs.length := by rw [← h.1]; simp
  have hr : ∀ ty, (Builtin.len_ #[t] ty #[.map (some b)]).run P w = .ok (goInt es.size) w := fun ty => by
    simp [Builtin.len_, run_underlying (mapT_of ht).1, MapKept.run_getObj_map hb, Result.andThen]
  rw [← hz]
  simp [execOp, ho, hf.ev hx, resolve, Go.invoke, Go.builtin, Builtin.len_, run_underlying (mapT_of ht).1, MapKept.run_getObj_map hb, Result.andThen, goInt]
def NewM (d : TypeDesc) (L : List HProp) : Value → List HProp → Prop := fun u M => ∃ b, u = .map (some b) ∧ M = Mapk b d [] :: L
theorem Eff.makeMap {t : TypeId} (d : TypeDesc) (ho : o.op = .makeMap t none) : Eff P W Q n l L o (NewM d L) := fun a w hf hs K hK => by
  unfold Oper.wp
  have e : (execOp a.eval o).run P w = .ok (.value (.map (some w.heap.size))) (w.alloc (.map #[] 0)) := by
    simp [execOp, ho, Instr.makeMap, Result.andThen]
  rw [e, Oper.upon_value]
  exact hK _ _ _ ⟨_, rfl, rfl⟩ (Sat.mapkMk (es := #[]) (clock := 0) ⟨rfl, stamped_empty 0, by simp⟩ (hs.alloc _))
theorem Sat.setMap {w : World} {b : Nat} {d : TypeDesc} {es es' : Array MapEntry} {clock clock' : Nat} {kvs' : List (Value × Value)} (h : Sat W (Obk b (.map es clock) :: L) w) (hm : MapIs d es' clock' kvs') :
    Sat W (Mapk b d kvs' :: L) { w with heap := w.heap.setIfInBounds b (.map es' clock') } := by
  have hb := h.head.obk
  have hh := heap_set (o' := .map es' clock') hb
  exact Sat.mapkMk hm (h.write _ rfl rfl rfl (by simp) hh.1 hh.2)
theorem mod_list {es : Array MapEntry} {j : Nat} {f : MapEntry → MapEntry} : (es.modify j f).toList = es.toList.modify j f := by simp
theorem Eff.mapSet {t kt et : TypeId} {d : TypeDesc} {x ix iv : Operand} {b j : Nat} {k v v0 : Value} {kvs : List (Value × Value)} (ho : o.op = .mapUpdate t x ix iv) (ht : mapT P t = some (kt, et, d)) (hx : ev l x = some (.map (some b))) (hi : ev l ix = some k) (hv : ev l iv = some v)
    (hk : IsKey d k) (hm : kvs[j]? = some (k, v0)) : Eff P W Q n l (Mapk b d kvs :: L) o (Sets (Mapk b d (kvs.set j (k, v)) :: L)) := fun a w hf hs K hK => by
  obtain ⟨es, clock, h, hs2⟩ := hs.mapk
  have hb := hs2.head.obk
  obtain ⟨h1, h2⟩ := mapT_of ht
  rcases h.find hk with ⟨f1, f2⟩ | ⟨i, e, f1, f2, f3, f4⟩
  · exact absurd rfl (f2 _ (List.mem_of_getElem? hm))
  · have := nodup_at h.nodup hm f4
    subst this
    have hr : (Instr.mapUpdate t (.map (some b)) k v).run P w = .ok () { w with heap := w.heap.setIfInBounds b (.map (es.modify j fun e => { e with key := k, val := v }) clock) } := by
      simp [Instr.mapUpdate, run_underlying h1, MapKept.run_getObj_map hb, run_checkKey h2 hk, run_findKey h2 f1, f2, f3, run_keyThatStays hk, MapKept.run_setObj_map _ hb, Result.andThen]
    unfold Oper.wp
    simp only [execOp, ho, hf.ev hx, hf.ev hi, hf.ev hv, Sem.run_bind, hr]
    refine hK undef _ _ rfl (hs2.setMap ⟨?_, ?_, ?_⟩)
    · rw [mod_list, ← h.1]
      apply List.ext_getElem?
      intro i
      rw [List.getElem?_map, List.getElem?_modify, List.getElem?_set]
      by_cases hij : j = i
      · subst hij
        have f2' : es.toList[j]? = some e := by simpa using f2
        simp [f2', (List.getElem?_eq_some_iff.1 f2').1, (Array.getElem?_eq_some_iff.1 f2).1]
      · simp [hij]
    · exact stamped_modify h.2.1 _ _ (fun _ _ => rfl) (fun e' _ he' => by rw [f2] at he'; cases he'; exact f3.symm)
    · intro y hy
      rw [mod_list] at hy
      obtain ⟨i, hi'⟩ := List.getElem?_of_mem hy
      rw [List.getElem?_modify] at hi'
      by_cases hij : j = i
      · subst hij
        have f2' : es.toList[j]? = some e := by simpa using f2
        simp [f2'] at hi'
        rw [← hi']
        exact hk
      · simp [hij] at hi'
        exact h.2.2 y (List.mem_of_getElem? (by simpa using hi'))
theorem Eff.mapNew {t kt et : TypeId} {d : TypeDesc} {x ix iv : Operand} {b : Nat} {k v : Value} {kvs : List (Value × Value)} (ho : o.op = .mapUpdate t x ix iv) (ht : mapT P t = some (kt, et, d)) (hx : ev l x = some (.map (some b))) (hi : ev l ix = some k) (hv : ev l iv = some v)
    (hk : IsKey d k) (hm : ∀ p ∈ kvs, p.1 ≠ k) : Eff P W Q n l (Mapk b d kvs :: L) o (Sets (Mapk b d (kvs ++ [(k, v)]) :: L)) := fun a w hf hs K hK => by
  obtain ⟨es, clock, h, hs2⟩ := hs.mapk
  have hb := hs2.head.obk
  obtain ⟨h1, h2⟩ := mapT_of ht
  rcases h.find hk with ⟨f1, f2⟩ | ⟨i, e, f1, f2, f3, f4⟩
  · have hr : (Instr.mapUpdate t (.map (some b)) k v).run P w = .ok () { w with heap := w.heap.setIfInBounds b (.map (es.push { key := k, val := v, born := clock }) (clock + 1)) } := by
      simp [Instr.mapUpdate, run_underlying h1, MapKept.run_getObj_map hb, run_checkKey h2 hk, run_findKey h2 f1, MapKept.run_setObj_map _ hb, Result.andThen]
    have hne : ∀ x ∈ es.toList, x.key ≠ k := fun x hx => f2 (x.key, x.val) (by rw [← h.1]; exact List.mem_map.2 ⟨x, hx, rfl⟩)
    unfold Oper.wp
    simp only [execOp, ho, hf.ev hx, hf.ev hi, hf.ev hv, Sem.run_bind, hr]
    refine hK undef _ _ rfl (hs2.setMap ⟨?_, stamped_push h.2.1 hne, ?_⟩)
    · rw [← h.1]; simp
    · intro y hy
      simp only [Array.toList_push, List.mem_append, List.mem_singleton] at hy
      rcases hy with hy | rfl
      · exact h.2.2 y hy
      · exact hk
  · exact absurd rfl (hm _ (List.mem_of_getElem? f4))
theorem Eff.mapDel {t kt et : TypeId} {d : TypeDesc} {x ix : Operand} {b j : Nat} {k v0 : Value} {kvs : List (Value × Value)} (ho : o.op = .call { callee := .builtin .delete, args := #[x, ix], argTypes := #[t, kt] }) (ht : mapT P t = some (kt, et, d)) (hx : ev l x = some (.map (some b))) (hi : ev l ix = some k)
    (hk : IsKey d k) (hm : kvs[j]? = some (k, v0)) : Eff P W Q n l (Mapk b d kvs :: L) o (Sets (Mapk b d (kvs.eraseIdx j) :: L)) := fun a w hf hs K hK => by
  obtain ⟨es, clock, h, hs2⟩ := hs.mapk
  have hb := hs2.head.obk
  obtain ⟨h1, h2⟩ := mapT_of ht
  rcases h.find hk with ⟨f1, f2⟩ | ⟨i, e, f1, f2, f3, f4⟩
  · exact absurd rfl (f2 _ (List.mem_of_getElem? hm))
  · have := nodup_at h.nodup hm f4
    subst this
    have hj : j < es.size := (Array.getElem?_eq_some_iff.1 f2).1
    have hel : (es.eraseIdxIfInBounds j).toList = es.toList.eraseIdx j := by
      simp [Array.eraseIdxIfInBounds, hj]
    have e2 : (execOp a.eval o).run P w = .ok (.value (.tuple #[])) { w with heap := w.heap.setIfInBounds b (.map (es.eraseIdxIfInBounds j) clock) } := by
      simp [execOp, ho, resolve, hf.ev hx, hf.ev hi, Go.invoke, Go.builtin, Builtin.delete_, run_underlying h1, MapKept.run_getObj_map hb, run_checkKey h2 hk, run_findKey h2 f1, MapKept.run_setObj_map _ hb, Result.andThen]
    unfold Oper.wp
    rw [e2, Oper.upon_value]
    refine hK _ _ _ rfl (hs2.setMap ⟨?_, stamped_erase h.2.1 j, ?_⟩)
    · rw [hel, ← h.1]
      exact map_erase _ _ _
    · intro y hy
      rw [hel] at hy
      exact h.2.2 y (List.mem_of_mem_eraseIdx hy)
def isBool (P : Program) (t : TypeId) : Bool := match P.underlying t with | some .bool => true | _ => false
theorem isBool_of {t : TypeId} (h : isBool P t = true) : P.underlying t = some .bool := by
  unfold isBool at h
  split at h
  · assumption
  · cases h
theorem run_eqB {t : TypeId} (ht : P.underlying t = some .bool) (p q : Bool) (w : World) : (Op.equalIn Op.maxDepth t (.bool p) (.bool q)).run P w = .ok (p == q) w := by
  have h : Op.maxDepth = 9999 + 1 := rfl
  rw [h]
  unfold Op.equalIn
  simp [run_underlying ht, Result.andThen]
theorem Val.eqlB {t u : TypeId} {x y : Operand} {p q : Bool} (ho : o.op = .binOp .eql t x y u) (ht : isBool P t = true) (hx : ev l x = some (.bool p)) (hy : ev l y = some (.bool q)) : Val P n l G o (.bool (p == q)) := fun a w hf hs => by
  have := isBool_of ht
  simp [execOp, ho, hf.ev hx, hf.ev hy, eqGuard, binOp, Op.equal, run_eqB this, Result.andThen]
theorem Val.neqB {t u : TypeId} {x y : Operand} {p q : Bool} (ho : o.op = .binOp .neq t x y u) (ht : isBool P t = true) (hx : ev l x = some (.bool p)) (hy : ev l y = some (.bool q)) : Val P n l G o (.bool (!(p == q))) := fun a w hf hs => by
  have := isBool_of ht
  simp [execOp, ho, hf.ev hx, hf.ev hy, eqGuard, binOp, Op.equal, run_eqB this, Result.andThen]
/-! ## type assertions, methods of values behind a pointer -/
theorem Val.assertC {x : Operand} {xt t : TypeId} {v : Value} (ho : o.op = .typeAssert x xt t false) (ht : (match P.underlying t with | some (.interface _) => false | none => false | _ => true) = true) (hx : ev l x = some (.iface t v)) : Val P n l G o v := fun a w hf hs => by
  cases hu : P.underlying t with
  | none => rw [hu] at ht; cases ht
  | some q =>
    rw [hu] at ht
    cases q <;> first | (cases ht; done) | simp [execOp, ho, hf.ev hx, Instr.typeAssert, run_underlying hu, Result.andThen]
def mthV (P : Program) (t : TypeId) (nm : String) : Option (FuncId × TypeId) :=
  match P.underlying t, (P.info? t).bind (fun i => i.methods.find? (·.name == nm)) with
  | some (.pointer e), some m => if m.path.isEmpty then (match m.func with | some (f, false) => if scal P e then some (f, e) else none | _ => none) else none
  | _, _ => none
theorem run_wrapChk (t : TypeId) (p : Addr) (x y : String) (w : World) : (Builtin.ssaWrapNilChk_ #[t] t #[.pointer (some p), strVal x, strVal y]).run P w = .ok (.pointer (some p)) w := rfl
theorem run_mthV {t e : TypeId} {nm : String} {f : FuncId} {k : Nat} (h : mthV P t nm = some (f, e)) {p : Addr} {u : Value} {w : World} (hc : w.cell? p = some u) : (method (k + 1) t (.pointer (some p)) nm).run P w = .ok (f, u) w := by
  unfold mthV at h
  split at h <;> try (cases h; done)
  rename_i e' m hu hm
  split at h <;> try (cases h; done)
  rename_i hp
  split at h <;> try (cases h; done)
  rename_i f' hf
  split at h <;> try (cases h; done)
  rename_i hsc
  simp only [Option.some.injEq, Prod.mk.injEq] at h
  obtain ⟨rfl, rfl⟩ := h
  cases hi : P.info? t with
  | none => rw [hi] at hm; cases hm
  | some i =>
    rw [hi] at hm
    simp only [Option.bind_some] at hm
    have hpe : m.path = #[] := by simpa using hp
    simp [method, typeInfo, hi, hm, hpe, follow, hf, receiverAt, run_underlying hu, Place.get, run_wrapChk, asAddr, loadVar, scal_agg hsc, Go.load, Sem.run, hc, Result.andThen]
theorem Eff.invokeP {f : FuncId} {x : Operand} {nm : String} {xs : List Operand} {ats : Array TypeId} {t e : TypeId} {p : Addr} {u : Value} {args : List Value} {L0 F : List HProp} {R : Value → List HProp → Prop} (ho : o.op = .call { callee := .invoke x nm, args := xs.toArray, argTypes := ats })
    (hv : ev l x = some (.iface t (.pointer (some p)))) (hx : evs l xs = some args) (hm : mthV P t nm = some (f, e)) (hu : ∀ w, Sat W (L0 ++ F) w → w.cell? p = some u) (hc : ∀ (as : Array Value) (w : World), (callFunc f as).run P w = .ok (.enter f as) w)
    (h : Does P f (u :: args) L0 R) : Eff P W Q n l (L0 ++ F) o (After R F) :=
  Eff.enter h fun a w hf hs => by
    have e : (xs.toArray.map a.eval) = args.toArray := by rw [List.map_toArray, hf.evs hx]
    simp only [execOp, ho, resolve, hf.ev hv, e, Sem.run_bind, Sem.run_pure, Result.andThen_ok, Go.invoke]
    have e1 : (#[Value.iface t (.pointer (some p))] ++ args.toArray)[0]? = some (.iface t (.pointer (some p))) := by simp
    have e2 : (#[Value.iface t (.pointer (some p))] ++ args.toArray).extract 1 (#[Value.iface t (.pointer (some p))] ++ args.toArray).size = args.toArray := by
      apply Array.ext'
      simp
    have hd : P.types.size + Made.depth = (P.types.size + (Made.depth - 1)) + 1 := by
      have : 0 < Made.depth := by decide
      omega
    simp only [e1, e2, callMethod, Sem.run_bind, program, Sem.run, Result.andThen_ok, hd, run_mthV hm (hu w hs)]
    have e3 : #[u] ++ args.toArray = (u :: args).toArray := by simp
    rw [e3, hc]
end
end Go.Proofs.YthicijpjpijdjaaDoor.Sl
