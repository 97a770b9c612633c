import Derived.Test.YthicijpjpijdjaaDoorSlZeros
import Derived.Lib.AppendZerosOnto
namespace Go.Proofs.YthicijpjpijdjaaDoor.Sl
open Go.RowKit Go.Lib
set_option linter.unusedVariables false
set_option linter.unusedSectionVars false

/-! ## 'append(s, make([]T, m)...)' onto an own row -/
section
variable [Dfs]
variable {P : Program} {W : World} {n : Nat} {l : List (Nat × Value)} {L : List HProp} {o : Oper} {Q : Exit → Act → World → Prop}
theorem zeroCells_flat (z : Value) (C : List Value) (hz : z.cells = C.toArray) (m : Nat) : (Builtin.zeroCells z.cells m).toList = (List.replicate m C).flatten := by
  have h : (madeCells C.toArray (m * C.length)).toList = (List.replicate m C).flatten := by rw [madeCells_list C C.length m rfl]
  rw [← h]
  simp [Builtin.zeroCells, madeCells, hz]
theorem run_append_room_zeros (w : World) (t tn ty e : TypeId) (i : TypeInfo) (z : Value) (kq kn : IntKind) (ht : P.underlying t = some (.slice e)) (htn : P.underlying tn = some (.int kn)) (hi : P.info? e = some i) (hz : i.zero = some z)
    (b sLen sCap k : Nat) (h0 : 0 < k) (hs : 0 < i.size) (hroom : sLen + k ≤ sCap) (h63 : (k : Int) ≤ 9223372036854775807) (h48 : k * i.bytes ≤ 281474976710656)
    (hc : ∀ j, j < (Builtin.zeroCells z.cells k).toList.length → (w.cell? ⟨b, sLen * i.size + j, none⟩).isSome = true) (hf : ∀ j, j < (Builtin.zeroCells z.cells k).toList.length → w.frozen? ⟨b, sLen * i.size + j, none⟩ = false)
    (h1 : ∀ u ∈ (Builtin.zeroCells z.cells k).toList, u.oneCell' = true) :
    (Builtin.append_ #[t, tn] ty #[.slice (some ⟨b, 0, none⟩) sLen sCap, .int kq k]).run P w = .ok (.slice (some ⟨b, 0, none⟩) (sLen + k) sCap) (w.setCells b (sLen * i.size) (Builtin.zeroCells z.cells k).toList) := by
  have hk : k ≠ 0 := by omega
  have hw : IntKind.i64.wrap (k : Int) = k := by rw [IntKind.wrap_i64]; omega
  have h48i : ¬ (281474976710656 < (k : Int) * (i.bytes : Int)) := by
    rw [← Int.natCast_mul]
    omega
  have hneg : ¬ ((k : Int) < 0) := by omega
  have hns : ¬ (k * i.size = 0) := Nat.mul_ne_zero hk (by omega)
  have hst := run_storeCells_cells (P := P) b (sLen * i.size) (Builtin.zeroCells z.cells k).toList 0 w (by simpa using hc) (by simpa using hf) h1
  simp only [Nat.add_zero] at hst
  simp [Builtin.append_, run_underlying ht, run_underlying htn, sizeOf, typeInfo, zeroValue, hi, hz, asInt, asIntOf, hw, hroom, hneg, hns, h48i, Addr.add_lit, hst]
theorem Eff.appendZap {t tx e : TypeId} {k by_ m n0 : Nat} {ki kx : IntKind} {s x : Operand} {vs : Value} {z : Int} {xs C : List Value} (ho : o.op = .call { callee := .builtin .append, args := #[s, x], argTypes := #[t, tx] })
    (ht : slcE P t = some (e, k, by_)) (hz : zeroC P e = some C) (hC : C.length = k) (hC1 : C.all (·.oneCell') = true) (hk : intK P tx = some kx) (hs : ev l s = some vs) (hx : ev l x = some (.int ki z)) (hm : z = (m : Int)) (h0 : 0 < m) (hk0 : 0 < k)
    (h63 : n0 + m ≤ 9223372036854775807) (hb : (n0 + m) * by_ ≤ 140737488355328) : Eff P W Q n l (Own e k vs n0 xs :: L) o (Grown e k (n0 + m) (xs ++ (List.replicate m C).flatten) L) := fun a w hf hsat K hK => by
  subst hm
  obtain ⟨inf, hu, hi, rfl, rfl⟩ := slcE_of ht
  obtain ⟨i2, z, hi2, hz2, hcz⟩ := zeroC_of hz
  rw [hi] at hi2
  obtain rfl : inf = i2 := by simpa using hi2
  have hkt : P.underlying tx = some (.int kx) := by
    unfold intK at hk
    split at hk
    · rename_i k' hk'; simp only [Option.some.injEq] at hk; subst hk; exact hk'
    · cases hk
  have hzl := zeroCells_flat z C hcz m
  have hzn : (List.replicate m C).flatten.length = m * inf.size := by simp [hC]
  have hb1 : m * inf.bytes ≤ 281474976710656 := by
    have : m * inf.bytes ≤ (n0 + m) * inf.bytes := Nat.mul_le_mul_right _ (by omega)
    omega
  have goal : ∃ v' w', v'.oneCell' = true ∧ (Builtin.append_ #[t, tx] o.type #[vs, .int ki (m : Int)]).run P w = .ok v' w' ∧ Sat W (Own e inf.size v' (n0 + m) (xs ++ (List.replicate m C).flatten) :: L) w' := by
    have grow : ∀ (base : Option Addr) (sCap : Nat), (Builtin.firstCells inf.size n0 (.slice base n0 sCap)).run P w.drew = .ok xs.toArray w.drew → xs.length = n0 * inf.size → sCap < n0 + m →
        ∃ v' w', v'.oneCell' = true ∧ (Builtin.append_ #[t, tx] o.type #[.slice base n0 sCap, .int ki (m : Int)]).run P w = .ok v' w' ∧ Sat W (Own e inf.size v' (n0 + m) (xs ++ (List.replicate m C).flatten) :: L) w' := by
      intro base sCap hold hxl hg
      refine ⟨_, _, rfl, run_append_grow_zeros w t tx o.type e inf z ki kx hu hkt hi hz2 base n0 sCap xs hold m h0 hk0 hg (by omega) hb1 (growslice_fits hg hb), ?_⟩
      have hge := grownCap_ge w (n0 + m) sCap e
      have hle := grownCap_le_maxLen w (n0 + m) sCap e (by unfold maxLen; omega)
      have h1 := (hsat.drop.drew).blk ((xs ++ (List.replicate m C).flatten) ++ (Builtin.zeroCells z.cells (grownCap w (n0 + m) sCap e - (n0 + m))).toList) e
      have e1 : ((xs ++ (List.replicate m C).flatten) ++ (Builtin.zeroCells z.cells (grownCap w (n0 + m) sCap e - (n0 + m))).toList).toArray = xs.toArray ++ Builtin.zeroCells z.cells m ++ Builtin.zeroCells z.cells (grownCap w (n0 + m) sCap e - (n0 + m)) := by
        apply Array.ext'; simp [hzl]
      rw [e1] at h1
      refine h1.ownMk hge (by rw [List.length_append, hxl, hzn, Nat.add_mul]) ?_ hle
      rw [zeroCells_list z C hcz, hC]
    rcases hsat.own with ⟨rfl, rfl, rfl, hL⟩ | ⟨b, cap, sp, rfl, hle, hxl, hspl, hcap, hL⟩
    · exact grow none 0 (run_firstCells_none _ _ _ _ _) (by simp) (by omega)
    · by_cases hroom : n0 + m ≤ cap
      · have hlen : (xs ++ sp).length = cap * inf.size := by
          rw [List.length_append, hxl, hspl, ← Nat.add_mul]; congr 1; omega
        have hfit : n0 * inf.size + (List.replicate m C).flatten.length ≤ (xs ++ sp).length := by
          rw [hlen, hzn, ← Nat.add_mul]; exact Nat.mul_le_mul_right _ hroom
        refine ⟨_, _, rfl, run_append_room_zeros w t tx o.type e inf z ki kx hu hkt hi hz2 b n0 cap m h0 hk0 hroom (by omega) hb1 (fun j hj => ?_) (fun j hj => ?_) (fun u hu' => ?_), ?_⟩
        · rw [hzl] at hj
          rw [hL.head.cell, List.getElem?_eq_getElem (by omega)]; rfl
        · rw [hzl] at hj
          exact hL.head.free (by omega)
        · rw [hzl, List.mem_flatten] at hu'
          obtain ⟨l', hl', hu'⟩ := hu'
          obtain rfl := List.eq_of_mem_replicate hl'
          exact List.all_eq_true.1 hC1 u hu'
        · rw [hzl]
          have h2 := setCells_blk (List.replicate m C).flatten (xs ++ sp) (n0 * inf.size) (by omega) hL
          have e2 : (xs ++ sp).take (n0 * inf.size) ++ (List.replicate m C).flatten ++ (xs ++ sp).drop (n0 * inf.size + (List.replicate m C).flatten.length) = (xs ++ (List.replicate m C).flatten) ++ sp.drop (m * inf.size) := by
            rw [← hxl, List.take_left, List.drop_append, hzn]
            simp
          rw [e2] at h2
          refine h2.ownMk hroom (by rw [List.length_append, hxl, hzn, Nat.add_mul]) ?_ hcap
          rw [List.length_drop, hspl, ← Nat.sub_mul]; congr 1; omega
      · exact grow _ cap (run_firstCells_some _ inf.size n0 _ n0 cap xs hxl (fun j v hj => by
          show w.cell? _ = _
          rw [Addr.add_mid, Nat.zero_add, hL.head.cell, List.getElem?_append_left (List.getElem?_eq_some_iff.1 hj).1]; exact hj)) hxl (by omega)
  obtain ⟨v', w', h1', hr, hs'⟩ := goal
  unfold Oper.wp
  have e0 : (#[s, x].map a.eval) = #[vs, .int ki (m : Int)] := by simp [hf.ev hs, hf.ev hx]
  simp only [execOp, ho, resolve, e0, Sem.run_bind, Sem.run_pure, Result.andThen_ok, Go.invoke, builtin, hr]
  exact hK v' _ w' ⟨h1', rfl⟩ hs'
end
end Go.Proofs.YthicijpjpijdjaaDoor.Sl
