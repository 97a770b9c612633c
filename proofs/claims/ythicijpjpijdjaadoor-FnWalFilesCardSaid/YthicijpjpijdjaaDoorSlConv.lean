import Derived.Test.YthicijpjpijdjaaDoorSlK
namespace Go.Proofs.YthicijpjpijdjaaDoor.Sl
open Go.RowKit Go.Lib
set_option linter.unusedSectionVars false
set_option linter.unusedVariables false
set_option linter.unusedSimpArgs false
section
variable [Dfs]
variable {P : Program} {W : World} {n : Nat} {l : List (Nat × Value)} {L : List HProp} {o : Oper} {Q : Exit → Act → World → Prop}
/-- a literal's row, of which it is known that it is new -/
theorem Eff.mkSliceO {t e : TypeId} {m : Nat} {ps : List (Nat × Operand)} {vs : List (Nat × Value)} {C : List Value} (ho : o.op = .buildSlice t m ps.toArray) (hv : evps l ps = some vs)
    (hb : ∀ w, (Instr.buildSlice t m vs.toArray).run P w = .ok (.slice (some ⟨w.heap.size, 0, none⟩) m m) (w.alloc (.cells C.toArray e))) : Eff P W Q n l L o (fun u M => ∃ b, u = .slice (some ⟨b, 0, none⟩) m m ∧ M = Obk b (.cells C.toArray e (0, 0)) :: L) := fun a w hf hs K hK => by
  have e1 : (ps.toArray.map fun x => match x with | (i, y) => (i, a.eval y)) = vs.toArray := by
    have := hf.evps hv
    rw [← this, List.map_toArray]
  unfold Oper.wp
  simp only [execOp, ho, e1, Sem.run_bind, hb w]
  exact hK _ _ _ ⟨w.heap.size, rfl, rfl⟩ (hs.alloc (.cells C.toArray e))
/-- bytes of a literal, turned into their own type: the row keeps a mark behind its end -/
theorem Eff.convRow {t e : TypeId} {x : Operand} {b m c : Nat} {C : List Value} (ho : o.op = .convert t t x) (ht : isBytes P t = some e) (hx : ev l x = some (.slice (some ⟨b, 0, none⟩) m c)) :
    Eff P W Q n l (Obk b (.cells C.toArray e (0, 0)) :: L) o (fun u M => u = .slice (some ⟨b, 0, none⟩) m c ∧ M = Blk b C e :: L) := fun a w hf hs K hK => by
  obtain ⟨h1, h2⟩ := isBytes_of ht
  have hb := hs.head.obk
  have hsh : w.shape? b = some (e, C.length) := by
    unfold World.shape?
    rw [hb]
    simp
  have hr : (convert t t (.slice (some ⟨b, 0, none⟩) m c)).run P w = .ok (.slice (some ⟨b, 0, none⟩) m c) (w.freeze ⟨b, C.length, none⟩ 1) := by
    simp [convert, run_underlying h1 w, run_underlying h2 w, markStringish, hsh]
  unfold Oper.wp
  simp only [execOp, ho, hf.ev hx, Sem.run_bind, hr]
  refine hK _ _ _ ⟨rfl, rfl⟩ ?_
  have h3 := hs.write (w.freeze ⟨b, C.length, none⟩ 1) (o' := .cells C.toArray e (C.length, C.length + 1)) (by simp [World.freeze]) (by simp [World.freeze]) (by simp [World.freeze]) (by simp [World.freeze]) (by
    simp only [World.freeze]
    rw [if_neg (by simp)]
    simp [Array.getElem?_modify, hb]) (fun k hk => by
    simp only [World.freeze]
    rw [if_neg (by simp)]
    simp only [Array.getElem?_modify]
    rw [if_neg (fun e => hk e.symm)])
  exact h3.imp fun _ _ _ ⟨k1, k2⟩ => ⟨k1, _, k2, fun i hi => by show ¬ (C.length ≤ i ∧ i < C.length + 1); omega⟩
end
end Go.Proofs.YthicijpjpijdjaaDoor.Sl
