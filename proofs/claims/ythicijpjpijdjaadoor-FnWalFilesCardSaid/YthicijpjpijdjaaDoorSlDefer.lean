import Derived.Test.YthicijpjpijdjaaDoorSlX
import Derived.Defers
namespace Go.Proofs.YthicijpjpijdjaaDoor.Sl
open Go.RowKit Go.Lib
set_option linter.unusedVariables false
set_option linter.unusedSectionVars false

/-! ## functions that defer calls of functions that do nothing (a lock that locks nothing) -/
section
variable {P : Program} {W : World} {ops : Array Oper} {Q : Exit → Act → World → Prop} {rest : List Oper} {n : Nat} {l : List (Nat × Value)} {L : List HProp} {o : Oper}
theorem Does.enterD {f : FuncId} {fn : Func} {c : Code} {args : List Value} {R : Value → List HProp → Prop} (n : Nat) (hf : P.funcs[f]? = some fn) (hb : fn.body = some c) (hn : fn.ntmps = n) (hle : Nat.ble args.length n = true)
    (h : ∀ (W : World) (F : List HProp), WPc P W c (bodyPostD P fn (Ends W F R)) n (argsFrom 0 args) (L ++ F)) : Does P f args L R := by
  intro W F w hs
  have hle' : args.length ≤ n := Nat.le_of_ble_eq_true hle
  refine calls_of_wp_defers hf hb (h W F _ w ⟨by simp [hn]; omega, rfl, fun t v hv => ?_⟩ hs)
  obtain ⟨-, h2⟩ := look_args args 0 t v hv
  have hlt := (List.getElem?_eq_some_iff.1 h2).1
  simp only [Nat.sub_zero] at h2 hlt
  rw [Array.getD_eq_getD_getElem?, Array.getElem?_append_left (by simpa using hlt)]
  simp [h2]
/-- a call of function k on v is put off -/
def putOff (k : FuncId) (v : Value) : Deferred := { target := .fn (.func k) #[], args := #[v] }
theorem WP.defer [E : Dfs] {k : FuncId} {x : Operand} {v : Value} {ts : Array TypeId} (ho : o.op = .defer { callee := .value (.func k), args := #[x], argTypes := ts }) (hg : o.guard = none) (hd : o.dst = none) (hx : ev l x = some v)
    (h : ∀ D : Dfs, D.ds = putOff k v :: E.ds → @WP D P W ops Q rest n l L) : WP P W ops Q (o :: rest) n l L := by
  intro a w hf hs
  refine wpList_plain hg fun K hK => ?_
  have e : (execOp a.eval o).run P w = .ok (.defer (putOff k v)) w := by
    have hx' : a.eval x = v := hf.ev hx
    have hk : a.eval (.func k) = .func (.func k) #[] #[] := rfl
    simp [execOp, ho, resolve, hk, hx', Deferred.ofValue, putOff]
  unfold Oper.wp
  rw [e, Oper.upon_defer, hd]
  have hf' : @Fr ⟨putOff k v :: E.ds⟩ n { a with defers := putOff k v :: a.defers } l := @Fr.mk ⟨putOff k v :: E.ds⟩ n { a with defers := putOff k v :: a.defers } l hf.size (by rw [hf.defers]; rfl) hf.at_
  exact hK _ _ (h ⟨putOff k v :: E.ds⟩ rfl _ _ hf' hs)
/-- function k does nothing -/
def Quiet (P : Program) (k : FuncId) : Prop := ∀ (v : Value) (u : FrameMode) (w : World), CallsD P k #[v] u w fun e u' w' => u' = u ∧ (e = .returned (.tuple #[]) ∧ w' = w)
theorem Out.retD1 {D : Dfs} {k : FuncId} {z : Value} {fn : Func} {F : List HProp} {R : Value → List HProp → Prop} {t : Tmp} {v : Value} {L' : List HProp} (hD : D.ds = [putOff k z]) (hq : Quiet P k) (hc : ∀ (as : Array Value) (w : World), (callFunc k as).run P w = .ok (.enter k as) w) (hr : fn.results = #[.tmp t]) (hv : look l t = some v) (hR : R v L') (hL : ∀ w, Sat W L w → Sat W (L' ++ F) w) :
    Out W (bodyPostD P fn (Ends W F R)) .ret n l L := fun a w hf hs => by
  show Leaves P fn a.tmps (Ends W F R) a.defers .returning w
  rw [hf.defers, hD]
  refine ⟨by simp, .func k, #[], k, #[z], rfl, hc #[z] w, fun c cs hc => ?_⟩
  obtain ⟨e, u', w', fr, ⟨hu, he, hw⟩, h2, h3, h4⟩ := hq z _ w c cs hc
  have hl : Leaves P fn a.tmps (Ends W F R) [] .returning w := ⟨v, by rw [results_tmp hr, hf.at_ t v hv], v, L', rfl, hR, hL _ hs⟩
  rw [he, hu, hw] at h2
  rw [he, hw] at h4
  exact ⟨.returned (.tuple #[]), .returning, w, fr, hl, h2, h3, h4⟩
theorem Out.retD0 {fn : Func} {F : List HProp} {R : Value → List HProp → Prop} {t : Tmp} {v : Value} {L' : List HProp} (hr : fn.results = #[.tmp t]) (hv : look l t = some v) (hR : R v L') (hL : ∀ w, Sat W L w → Sat W (L' ++ F) w) :
    Out W (bodyPostD P fn (Ends W F R)) .ret n l L := fun a w hf hs => by
  show Leaves P fn a.tmps (Ends W F R) a.defers .returning w
  rw [hf.defers]
  exact ⟨v, by rw [results_tmp hr, hf.at_ t v hv], v, L', rfl, hR, hL _ hs⟩
end
end Go.Proofs.YthicijpjpijdjaaDoor.Sl
