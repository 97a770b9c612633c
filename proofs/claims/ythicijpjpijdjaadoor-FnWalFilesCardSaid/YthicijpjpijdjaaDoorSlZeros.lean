import Derived.Test.YthicijpjpijdjaaDoorSlMore
import Derived.Test.YthicijpjpijdjaaDoorSlRead
import Derived.Lib.AppendZeros
namespace Go.Proofs.YthicijpjpijdjaaDoor.Sl
open Go.RowKit Go.Lib
set_option linter.unusedSectionVars false
set_option linter.unusedVariables false
set_option linter.unusedSimpArgs false
section
variable [Dfs]
variable {P : Program} {W : World} {n : Nat} {l : List (Nat × Value)} {L : List HProp} {o : Oper} {Q : Exit → Act → World → Prop}
/-- 'append([]T(nil), make([]T, m)...)' -/
theorem Eff.appendZeros {t tx e : TypeId} {k by_ m : Nat} {ki kx : IntKind} {s x : Operand} {z : Int} {C : List Value} (ho : o.op = .call { callee := .builtin .append, args := #[s, x], argTypes := #[t, tx] })
    (ht : slcE P t = some (e, k, by_)) (hz : zeroC P e = some C) (hC : C.length = k) (hk : intK P tx = some kx) (hs : ev l s = some (.slice none 0 0)) (hx : ev l x = some (.int ki z)) (hm : z = (m : Int)) (h0 : 0 < m) (hk0 : 0 < k)
    (h63 : m ≤ 9223372036854775807) (hb : m * by_ ≤ 281474976710656) : Eff P W Q n l L o (fun v L' => ∃ b cap sp, v = .slice (some ⟨b, 0, none⟩) m cap ∧ m ≤ cap ∧ cap ≤ maxLen ∧ sp.length = cap * k ∧ L' = Blk b sp e :: L) := fun a w hf hsat K hK => by
  subst hm
  obtain ⟨inf, hu, hi, rfl, rfl⟩ := slcE_of ht
  obtain ⟨i2, z, hi2, hz2, hcz⟩ := zeroC_of hz
  rw [hi] at hi2
  obtain rfl : inf = i2 := by simpa using hi2
  have hkt : P.underlying tx = some (.int kx) := by
    unfold intK at hk
    split at hk
    · rename_i k' hk'; simp only [Option.some.injEq] at hk; subst hk; exact hk'
    · cases hk
  have hr := run_append_nil_zeros (P := P) w t tx o.type e inf z ki kx hu hkt hi hz2 m h0 hk0 (by omega) hb
  unfold Oper.wp
  have e0 : (#[s, x].map a.eval) = #[.slice none 0 0, .int ki (m : Int)] := by simp [hf.ev hs, hf.ev hx]
  simp only [execOp, ho, resolve, e0, Sem.run_bind, Sem.run_pure, Result.andThen_ok, Go.invoke, builtin, hr]
  have hge := grownCap_ge w m 0 e
  have hle := grownCap_le_maxLen w m 0 e (by unfold maxLen; omega)
  have h1 := (hsat.drew).blk ((Builtin.zeroCells z.cells m).toList ++ (Builtin.zeroCells z.cells (grownCap w m 0 e - m)).toList) e
  have e1 : ((Builtin.zeroCells z.cells m).toList ++ (Builtin.zeroCells z.cells (grownCap w m 0 e - m)).toList).toArray = Builtin.zeroCells z.cells m ++ Builtin.zeroCells z.cells (grownCap w m 0 e - m) := by
    apply Array.ext'; simp
  rw [e1] at h1
  refine hK _ _ _ ⟨w.heap.size, grownCap w m 0 e, _, rfl, hge, hle, ?_, rfl⟩ h1
  rw [List.length_append, zeroCells_list z C hcz, zeroCells_list z C hcz, hC, ← Nat.add_mul]
  congr 1; omega
theorem rd_cell {α : Type} {w : World} {b o : Nat} {k : Nat} {cf : α → List Value} (hk : ∀ x, (cf x).length = k) {l : List α} (h : ∀ i x, l[i]? = some x → w.rangeAt b (o + i * k) (cf x)) :
    ∀ j u, (flatOf cf l)[j]? = some u → w.cell? ⟨b, o + j, none⟩ = some u := by
  intro j u hj
  have hlt := (List.getElem?_eq_some_iff.1 hj).1
  rw [flatOf_length hk] at hlt
  have hk0 : 0 < k := by
    rcases Nat.eq_zero_or_pos k with h0 | h0
    · subst h0; omega
    · exact h0
  have hq : j / k < l.length := Nat.div_lt_of_lt_mul (by rw [Nat.mul_comm]; exact hlt)
  have hx : l[j / k]? = some l[j / k] := List.getElem?_eq_getElem hq
  have hm : j % k < k := Nat.mod_lt _ hk0
  have hdm : j / k * k + j % k = j := by rw [Nat.mul_comm]; exact Nat.div_add_mod j k
  have h1 := flatOf_at hk l (j / k) (j % k) _ hx hm
  rw [hdm, hj] at h1
  have h2 := h (j / k) _ hx (j % k) u h1.symm
  rw [Nat.add_assoc, hdm] at h2
  exact h2
/-- what is read as l is appended -/
theorem Srcs.rd {α : Type} {A : HProp} {k c : Nat} {tx e' : TypeId} {k' b' : Nat} {b o : Nat} {cf : α → List Value} {l : List α} (hk : slcE P tx = some (e', k', b')) (hcf : ∀ x, (cf x).length = k) (h1 : (flatOf cf l).all (·.oneCell') = true)
    (hr : ∀ w, Holds A w → ∀ i x, l[i]? = some x → w.rangeAt b (o + i * k) (cf x)) (i : Nat) (hi : L[i]? = some A) : Srcs P W L k tx (.slice (some ⟨b, o, none⟩) l.length c) l.length (flatOf cf l) :=
  Srcs.slice hk (flatOf_length hcf l) h1 fun w hs j u hj => by
    rw [Addr.add_mid]
    exact rd_cell hcf (hr w (hs.at i hi)) j u hj
theorem flat_set {α : Type} {cf : α → List Value} {k : Nat} (hk : ∀ x, (cf x).length = k) : ∀ (l : List α) (i : Nat) (x : α) (sp : List Value), i < l.length →
    (flatOf cf l ++ sp).take (i * k) ++ cf x ++ (flatOf cf l ++ sp).drop (i * k + k) = flatOf cf (l.set i x) ++ sp
  | [], i, x, sp, h => by simp at h
  | y :: l, 0, x, sp, h => by
    have : (cf y).length = k := hk y
    simp only [flatOf, List.flatMap_cons, Nat.zero_mul, List.take_zero, List.nil_append, Nat.zero_add, List.set_cons_zero, List.append_assoc]
    rw [← this, List.drop_left]
  | y :: l, i + 1, x, sp, h => by
    have hy : (cf y).length = k := hk y
    have ih := flat_set hk l i x sp (by simpa using h)
    simp only [flatOf, List.flatMap_cons, List.set_cons_succ, List.append_assoc] at ih ⊢
    have e1 : (i + 1) * k = (cf y).length + i * k := by rw [Nat.add_mul, hy]; omega
    rw [e1, List.take_length_add_append, Nat.add_assoc, List.drop_length_add_append, List.append_assoc, ih]
end
end Go.Proofs.YthicijpjpijdjaaDoor.Sl
