import Derived.Test.YthicijpjpijdjaaDoorSlConv
import Derived.Test.YthicijpjpijdjaaDoorSlPtr
namespace Go.Proofs.YthicijpjpijdjaaDoor.Sl
open Go.RowKit Go.Lib
set_option linter.unusedSectionVars false
set_option linter.unusedVariables false
set_option linter.unusedSimpArgs false
section
variable [Dfs]
variable {P : Program} {W : World} {n : Nat} {l : List (Nat × Value)} {L : List HProp} {o : Oper} {Q : Exit → Act → World → Prop}
/-- v is a slice of n elements (of k cells each) of one's own: nil, or a part of a block that goes on to the block's end -/
def OwnO (e : TypeId) (k : Nat) (v : Value) (n : Nat) (xs : List Value) : HProp :=
  Ex fun q : Option (Nat × Nat × List Value × List Value) => match q with
    | none => Pure (v = .slice none 0 0 ∧ n = 0 ∧ xs = [])
    | some (b, cap, pre, sp) => Sep [Pure (v = .slice (some ⟨b, pre.length, none⟩) n cap ∧ n ≤ cap ∧ xs.length = n * k ∧ sp.length = (cap - n) * k ∧ cap ≤ maxLen), Blk b (pre ++ xs ++ sp) e]
theorem Sat.ownONil {w : World} {e : TypeId} {k : Nat} (h : Sat W L w) : Sat W (OwnO e k (.slice none 0 0) 0 [] :: L) w := Sat.ex_mk none (Sat.pure_mk ⟨rfl, rfl, rfl⟩ h)
theorem Sat.ownOMk {w : World} {e : TypeId} {k b m cap : Nat} {pre xs sp : List Value} (h : Sat W (Blk b (pre ++ xs ++ sp) e :: L) w) (h1 : m ≤ cap) (h2 : xs.length = m * k) (h3 : sp.length = (cap - m) * k) (h4 : cap ≤ maxLen) {off : Nat} (ho : pre.length = off) :
    Sat W (OwnO e k (.slice (some ⟨b, off, none⟩) m cap) m xs :: L) w := by
  subst ho
  exact Sat.ex_mk (some (b, cap, pre, sp)) (Sat.sep_mk (Sat.pure_mk ⟨rfl, h1, h2, h3, h4⟩ h))
theorem Sat.ownO {w : World} {e : TypeId} {k m : Nat} {v : Value} {xs : List Value} (h : Sat W (OwnO e k v m xs :: L) w) :
    (v = .slice none 0 0 ∧ m = 0 ∧ xs = [] ∧ Sat W L w) ∨ ∃ b cap pre sp, v = .slice (some ⟨b, pre.length, none⟩) m cap ∧ m ≤ cap ∧ xs.length = m * k ∧ sp.length = (cap - m) * k ∧ cap ≤ maxLen ∧ Sat W (Blk b (pre ++ xs ++ sp) e :: L) w := by
  obtain ⟨q, h⟩ := h.ex
  cases q with
  | none => exact .inl ⟨h.pure.1, h.pure.2.1, h.pure.2.2, h.drop⟩
  | some q =>
    obtain ⟨b, cap, pre, sp⟩ := q
    have h2 := h.sep
    obtain ⟨e1, e2, e3, e4, e5⟩ := h2.pure
    exact .inr ⟨b, cap, pre, sp, e1, e2, e3, e4, e5, h2.drop⟩
theorem Sat.ownToO {w : World} {e : TypeId} {k m : Nat} {v : Value} {xs : List Value} (h : Sat W (Own e k v m xs :: L) w) : Sat W (OwnO e k v m xs :: L) w := by
  rcases h.own with ⟨rfl, rfl, rfl, hL⟩ | ⟨b, cap, sp, rfl, hle, hxl, hspl, hcap, hL⟩
  · exact hL.ownONil
  · exact Sat.ownOMk (pre := []) hL hle hxl hspl hcap rfl
theorem ownO_oneCell {w : World} {e : TypeId} {k m : Nat} {v : Value} {xs : List Value} (h : Sat W (OwnO e k v m xs :: L) w) : v.oneCell' = true := by
  rcases h.ownO with ⟨rfl, _⟩ | ⟨b, c, pre, sp, rfl, _⟩ <;> rfl
theorem ownO_slice {w : World} {e : TypeId} {k m : Nat} {v : Value} {xs : List Value} (h : Sat W (OwnO e k v m xs :: L) w) : ∃ a c, v = .slice a m c := by
  rcases h.ownO with ⟨rfl, rfl, _⟩ | ⟨b, c, pre, sp, rfl, _⟩ <;> exact ⟨_, _, rfl⟩
theorem Eff.appendO {t tx e : TypeId} {k by_ m n0 : Nat} {s x : Operand} {vs vx : Value} {xs news : List Value} {C : List Value} (ho : o.op = .call { callee := .builtin .append, args := #[s, x], argTypes := #[t, tx] })
    (ht : slcE P t = some (e, k, by_)) (hz : zeroC P e = some C) (hC : C.length = k) (hs : ev l s = some vs) (hx : ev l x = some vx) (hsrc : Srcs P W (OwnO e k vs n0 xs :: L) k tx vx m news)
    (h63 : n0 + m ≤ 9223372036854775807) (hb : (n0 + m) * by_ ≤ 140737488355328) : Eff P W Q n l (OwnO e k vs n0 xs :: L) o (fun u M => u.oneCell' = true ∧ M = OwnO e k u (n0 + m) (xs ++ news) :: L) := fun a w hf hsat K hK => by
  obtain ⟨inf, hu, hi, rfl, rfl⟩ := slcE_of ht
  obtain ⟨i2, z, hi2, hz2, hcz⟩ := zeroC_of hz
  rw [hi] at hi2
  obtain rfl : inf = i2 := by simpa using hi2
  have hS := hsrc w hsat
  have goal : ∃ v' w', v'.oneCell' = true ∧ (Builtin.append_ #[t, tx] o.type #[vs, vx]).run P w = .ok v' w' ∧ Sat W (OwnO e inf.size v' (n0 + m) (xs ++ news) :: L) w' := by
    have grow : ∀ (base : Option Addr) (sCap : Nat), (Builtin.firstCells inf.size n0 (.slice base n0 sCap)).run P w.drew = .ok xs.toArray w.drew → xs.length = n0 * inf.size → sCap < n0 + m →
        ∃ v' w', v'.oneCell' = true ∧ (Builtin.append_ #[t, tx] o.type #[.slice base n0 sCap, vx]).run P w = .ok v' w' ∧ Sat W (OwnO e inf.size v' (n0 + m) (xs ++ news) :: L) w' := by
      intro base sCap hold hxl hg
      refine ⟨_, _, rfl, run_append_grow_src w t tx o.type e inf z hu hi hz2 base n0 sCap xs hold vx m news hS hg (by omega) (growslice_fits hg hb), ?_⟩
      have hge := grownCap_ge w (n0 + m) sCap e
      have hle := grownCap_le_maxLen w (n0 + m) sCap e (by unfold maxLen; omega)
      have h1 := (hsat.drop.drew).blk ((xs ++ news) ++ (Builtin.zeroCells z.cells (grownCap w (n0 + m) sCap e - (n0 + m))).toList) e
      have e1 : ((xs ++ news) ++ (Builtin.zeroCells z.cells (grownCap w (n0 + m) sCap e - (n0 + m))).toList).toArray = (xs ++ news).toArray ++ Builtin.zeroCells z.cells (grownCap w (n0 + m) sCap e - (n0 + m)) := by
        apply Array.ext'; simp
      rw [e1] at h1
      refine (h1.ownMk hge (by rw [List.length_append, hxl, hS.newsLen, Nat.add_mul]) ?_ hle).ownToO
      rw [zeroCells_list z C hcz, hC]
    rcases hsat.ownO with ⟨rfl, rfl, rfl, hL⟩ | ⟨b, cap, pre, sp, rfl, hle, hxl, hspl, hcap, hL⟩
    · by_cases hm : m = 0
      · subst hm
        have hn0 : news = [] := List.eq_nil_of_length_eq_zero (by rw [hS.newsLen]; simp)
        subst hn0
        refine ⟨.slice none 0 0, w, rfl, ?_, hL.ownONil⟩
        rcases hS.kind with ⟨e', hk⟩ | hk <;> simp [Builtin.append_, run_underlying hu, run_underlying hk, sizeOf, typeInfo, hi, hS.len, hS.cells]
      · exact grow none 0 (run_firstCells_none _ _ _ _ _) (by simp) (by omega)
    · by_cases hroom : n0 + m ≤ cap
      · have hnl := hS.newsLen
        have hlen : xs.length + sp.length = cap * inf.size := by
          rw [hxl, hspl, ← Nat.add_mul]; congr 1; omega
        have hfit : n0 * inf.size + news.length ≤ xs.length + sp.length := by
          rw [hlen, hnl, ← Nat.add_mul]; exact Nat.mul_le_mul_right _ hroom
        have hall : (pre ++ xs ++ sp).length = pre.length + (xs.length + sp.length) := by rw [List.length_append, List.length_append]; omega
        refine ⟨_, _, rfl, run_append_room_src w t tx o.type e inf hu hi b pre.length n0 cap vx m news hS hroom (fun j hj => ?_) (fun j hj => ?_), ?_⟩
        · rw [hL.head.cell, List.getElem?_eq_getElem (by omega)]; rfl
        · exact hL.head.free (by omega)
        · have h2 := setCells_blk news (pre ++ xs ++ sp) (pre.length + n0 * inf.size) (by omega) hL
          have e2 : (pre ++ xs ++ sp).take (pre.length + n0 * inf.size) ++ news ++ (pre ++ xs ++ sp).drop (pre.length + n0 * inf.size + news.length) = pre ++ (xs ++ news) ++ sp.drop (m * inf.size) := by
            rw [← hxl, ← List.length_append, List.take_left, List.drop_append, hnl]
            simp
          rw [e2] at h2
          refine Sat.ownOMk h2 hroom (by rw [List.length_append, hxl, hnl, Nat.add_mul]) ?_ hcap rfl
          rw [List.length_drop, hspl, ← Nat.sub_mul]; congr 1; omega
      · exact grow _ cap (run_firstCells_some _ inf.size n0 _ n0 cap xs hxl (fun j v hj => by
          show w.cell? _ = _
          rw [Addr.add_mid, hL.head.cell, List.append_assoc, List.getElem?_append_right (by omega), Nat.add_sub_cancel_left, List.getElem?_append_left (List.getElem?_eq_some_iff.1 hj).1]; exact hj)) hxl (by omega)
  obtain ⟨v', w', h1', hr, hs'⟩ := goal
  unfold Oper.wp
  have e0 : (#[s, x].map a.eval) = #[vs, vx] := by simp [hf.ev hs, hf.ev hx]
  simp only [execOp, ho, resolve, e0, Sem.run_bind, Sem.run_pure, Result.andThen_ok, Go.invoke, builtin, hr]
  exact hK v' _ w' ⟨h1', rfl⟩ hs'
/-- a row of which there is something, with its block -/
theorem Sat.ownOPos {w : World} {e : TypeId} {k m : Nat} {v : Value} {xs : List Value} (hm : 0 < m) (h : Sat W (OwnO e k v m xs :: L) w) :
    ∃ q : Nat × Nat × List Value × List Value, Sat W (Pure (v = .slice (some ⟨q.1, q.2.2.1.length, none⟩) m q.2.1 ∧ m ≤ q.2.1 ∧ xs.length = m * k ∧ q.2.2.2.length = (q.2.1 - m) * k ∧ q.2.1 ≤ maxLen) :: Blk q.1 (q.2.2.1 ++ xs ++ q.2.2.2) e :: L) w := by
  rcases h.ownO with ⟨rfl, h1, -⟩ | ⟨b, cap, pre, sp, rfl, h1, h2, h3, h4, h5⟩
  · omega
  · exact ⟨(b, cap, pre, sp), Sat.pure_mk ⟨rfl, h1, h2, h3, h4⟩ h5⟩
theorem Val.lenOwnO {G : World → Prop} {t e e' : TypeId} {k by_ m k' : Nat} {x : Operand} {v : Value} {xs : List Value} (ho : o.op = .call { callee := .builtin .len, args := #[x], argTypes := #[t] }) (ht : slcE P t = some (e, k, by_)) (hx : ev l x = some v)
    (hc : ∀ w, G w → Holds (OwnO e' k' v m xs) w) : Val P n l G o (.int .i64 ((m : Nat) : Int)) := fun a w hf hs => by
  obtain ⟨r, s, -, q, hq⟩ := hc w hs
  cases q with
  | none => obtain ⟨rfl, rfl, -⟩ := hq; exact Val.len (G := G) ho ht hx a w hf hs
  | some q =>
    obtain ⟨b, c, pre, sp⟩ := q
    obtain ⟨s1, s2, -, -, -, ⟨rfl, -⟩, -⟩ := hq
    exact Val.len (G := G) ho ht hx a w hf hs
/-- an own row can be read, and stays one's own -/
theorem ownO_rdB {α : Type} {w : World} {e : TypeId} {k : Nat} {v : Value} {cf : α → List Value} {l : List α} (hk : ∀ x, (cf x).length = k) (h : Sat W (OwnO e k v l.length (flatOf cf l) :: L) w) : ∃ A : HProp, Rd A k cf v l ∧ Sat W (A :: L) w ∧ ∀ w L, Sat W (A :: L) w → Sat W (OwnO e k v l.length (flatOf cf l) :: L) w := by
  rcases h.ownO with ⟨rfl, h0, h1, h2⟩ | ⟨b, cap, pre, sp, rfl, h1, h2, h3, h4, h5⟩
  · obtain rfl := List.eq_nil_of_length_eq_zero h0
    exact ⟨Pure True, .inr ⟨rfl, none, 0, rfl⟩, Sat.pure_mk trivial h2, fun w L h => h.drop.ownONil⟩
  · refine ⟨Blk b (pre ++ flatOf cf l ++ sp) e, .inl ⟨b, pre.length, cap, rfl, fun w hw i x hx => ?_⟩, h5, fun w L h => Sat.ownOMk h h1 h2 h3 h4 rfl⟩
    have h6 := flatOf_range hk (sp := sp) hx
    refine hw.cell_range ?_
    rw [List.append_assoc, List.drop_append, List.drop_eq_nil_of_le (by omega), List.nil_append, Nat.add_sub_cancel_left]
    exact h6
end
end Go.Proofs.YthicijpjpijdjaaDoor.Sl
