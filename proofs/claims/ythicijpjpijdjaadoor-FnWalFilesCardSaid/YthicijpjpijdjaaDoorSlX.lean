import Derived.Test.YthicijpjpijdjaaDoorSlZeros
namespace Go.Proofs.YthicijpjpijdjaaDoor.Sl
open Go.RowKit Go.Lib
set_option linter.unusedSectionVars false
set_option linter.unusedVariables false
set_option linter.unusedSimpArgs false
section
variable [Dfs]
variable {P : Program} {W : World} {ops : Array Oper} {Q : Exit → Act → World → Prop} {n : Nat} {l : List (Nat × Value)} {L : List HProp} {o : Oper}
theorem WPD.stepG {S : World → Prop} {fuel : Nat} {listed : Array Bool} {d : Tmp} {R : Value → List HProp → Prop} {g : Nat} {want : Bool} {t : Tmp} {b : Bool} (i : Nat) (hr : Region.ready .any ops listed = [i]) (hi : ops[i]? = some o) (hg : o.guard = some (g, want))
    (ht : slotAt ops g = some t) (hn : Nat.ble (t + 1) n = true) (hb : look l t = some (.bool b)) (hne : (b == want) = true) (hd : o.dst = some d) (hlt : Nat.ble (d + 1) n = true)
    (he : Eff P W Q n l L o R) (h : ∀ v L', R v L' → (∀ w, Sat W L' w → S w) ∧ WPD P W ops Q S fuel (listed.setIfInBounds i true) n ((d, v) :: l) L') : WPD P W ops Q S (fuel + 1) listed n l L := by
  intro a w hf hs
  refine wpF_all hr (by simp) fun j hj => ?_
  obtain rfl : j = i := by simpa using hj
  refine wpOp_step hi fun K hK => ?_
  rw [if_pos (by rw [wanted_of hg ht hn hf hb, hne])]
  refine he a w hf hs K fun v L' w' hR hs' => ?_
  rw [hd]
  exact hK _ _ ⟨S, .inl rfl, (h v L' hR).1 w' hs', (h v L' hR).2 _ _ (hf.put (Nat.le_of_ble_eq_true hlt) v) hs'⟩
theorem WPD.stepGC {S : World → Prop} {fuel : Nat} {listed : Array Bool} {d : Tmp} {R : Value → List HProp → Prop} {g : Nat} {want : Bool} {t : Tmp} {b : Bool} (i : Nat) (hr : Region.ready .any ops listed = [i]) (hi : ops[i]? = some o) (hg : o.guard = some (g, want))
    (ht : slotAt ops g = some t) (hn : Nat.ble (t + 1) n = true) (hb : look l t = some (.bool b)) (hne : (b == want) = true) (hd : o.dst = some d) (hlt : Nat.ble (d + 1) n = true) (hcut : cutB ops i = true)
    (he : Eff P W Q n l L o R) (h : ∀ v L', R v L' → ∃ S', (∀ w, Sat W L' w → S' w) ∧ WPD P W ops Q S' fuel (listed.setIfInBounds i true) n ((d, v) :: l) L') : WPD P W ops Q S (fuel + 1) listed n l L := by
  intro a w hf hs
  refine wpF_all hr (by simp) fun j hj => ?_
  obtain rfl : j = i := by simpa using hj
  refine wpOp_step hi fun K hK => ?_
  rw [if_pos (by rw [wanted_of hg ht hn hf hb, hne])]
  refine he a w hf hs K fun v L' w' hR hs' => ?_
  rw [hd]
  obtain ⟨S', h1, h2⟩ := h v L' hR
  exact hK _ _ ⟨S', .inr (.inl hcut), h1 w' hs', h2 _ _ (hf.put (Nat.le_of_ble_eq_true hlt) v) hs'⟩
theorem Sat.ownPos {w : World} {e : TypeId} {k m : Nat} {v : Value} {xs : List Value} (hm : 0 < m) (h : Sat W (Own e k v m xs :: L) w) :
    ∃ q : Nat × Nat × List Value, Sat W (Pure (v = .slice (some ⟨q.1, 0, none⟩) m q.2.1 ∧ m ≤ q.2.1 ∧ xs.length = m * k ∧ q.2.2.length = (q.2.1 - m) * k ∧ q.2.1 ≤ maxLen) :: Blk q.1 (xs ++ q.2.2) e :: L) w := by
  rcases h.own with ⟨rfl, h1, -⟩ | ⟨b, cap, sp, rfl, h1, h2, h3, h4, h5⟩
  · omega
  · exact ⟨(b, cap, sp), Sat.pure_mk ⟨rfl, h1, h2, h3, h4⟩ h5⟩
theorem Val.lenOwn {n : Nat} {l : List (Nat × Value)} {G : World → Prop} {o : Oper} {t e e' : TypeId} {k by_ m k' : Nat} {x : Operand} {v : Value} {xs : List Value} (ho : o.op = .call { callee := .builtin .len, args := #[x], argTypes := #[t] }) (ht : slcE P t = some (e, k, by_)) (hx : ev l x = some v)
    (hc : ∀ w, G w → Holds (Own e' k' v m xs) w) : Val P n l G o (.int .i64 ((m : Nat) : Int)) := fun a w hf hs => by
  obtain ⟨r, s, -, q, hq⟩ := hc w hs
  cases q with
  | none => obtain ⟨rfl, rfl, -⟩ := hq; exact Val.len (G := G) ho ht hx a w hf hs
  | some q =>
    obtain ⟨b, c, sp⟩ := q
    obtain ⟨s1, s2, -, -, -, ⟨rfl, -⟩, -⟩ := hq
    exact Val.len (G := G) ho ht hx a w hf hs
theorem Holds.sep2a {A B : HProp} {w : World} (h : Holds (Sep [A, B]) w) : Holds A w := by
  obtain ⟨r, s, hlt, s1, s2, h1, h2, -, hA, -⟩ := h
  exact ⟨r, s1, fun b hb => hlt b (hb.imp id (h1 b)), hA⟩
theorem Holds.sep2b {A B : HProp} {w : World} (h : Holds (Sep [A, B]) w) : Holds B w := by
  obtain ⟨r, s, hlt, s1, s2, h1, h2, -, hA, t1, t2, k1, k2, -, hB, -⟩ := h
  exact ⟨r, t1, fun b hb => hlt b (hb.imp id (fun x => h2 b (k1 b x))), hB⟩
theorem Rd.mono {α : Type} {A B : HProp} {k : Nat} {cf : α → List Value} {va : Value} {l : List α} (hi : ∀ w, Holds B w → Holds A w) (h : Rd A k cf va l) : Rd B k cf va l := by
  rcases h with ⟨b, o, c, e, h⟩ | h
  · exact .inl ⟨b, o, c, e, fun w hw => h w (hi w hw)⟩
  · exact .inr h
end
end Go.Proofs.YthicijpjpijdjaaDoor.Sl
