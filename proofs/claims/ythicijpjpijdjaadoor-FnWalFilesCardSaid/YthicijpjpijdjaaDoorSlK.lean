import Derived.Test.YthicijpjpijdjaaDoorSlTerse
namespace Go.Proofs.YthicijpjpijdjaaDoor.Sl
open Go.RowKit Go.Lib
set_option linter.unusedVariables false
/-- a test whose answer is known -/
theorem Val.eqlK {P : Program} {n : Nat} {l : List (Nat × Value)} {G : World → Prop} {o : Oper} {t u : TypeId} {x y : Operand} {k : IntKind} {p q : Int} {b : Bool} (ho : o.op = .binOp .eql t x y u) (hx : ev l x = some (.int k p)) (hy : ev l y = some (.int k q)) (hb : decide (p = q) = b) : Val P n l G o (.bool b) := hb ▸ Val.eql ho hx hy
theorem flatOf_append {α : Type} (cf : α → List Value) (l m : List α) : flatOf cf (l ++ m) = flatOf cf l ++ flatOf cf m := by simp [flatOf]
theorem flatOf_one {α : Type} (cf : α → List Value) (x : α) : flatOf cf [x] = cf x := by simp [flatOf]
theorem results_ct {P : Program} {W : World} {fn : Func} {n : Nat} {l : List (Nat × Value)} {L : List HProp} {t u : Tmp} {ty : TypeId} {v : Value} {b k : Nat} {cs : List Value} (hr : fn.results = #[.cell u ty, .tmp t]) (hv : Sl.look l t = some v) (ht : aggS P ty = some k) (hu : Sl.look l u = some (.pointer (some ⟨b, 0, none⟩))) (hk : cs.length = k)
    (hc : ∀ w, Sat W L w → w.rangeAt b 0 cs) : ∀ a w, Fr n a l → Sat W L w → (results fn a.tmps).run P w = .ok (.tuple #[.agg cs.toArray, v]) w := fun a w hf hs => by
  obtain ⟨d, h1, h2, h3⟩ := aggS_row ht
  have := run_loadVar_mid (P := P) w b 0 ty cs d (hc w hs) h1 h2 (by rw [h3, hk])
  have e := hf.at_ u _ hu
  have e2 := hf.at_ t _ hv
  rw [Array.getD_eq_getD_getElem?] at e e2
  simp [results, hr, e, e2, asAddr, this]
end Go.Proofs.YthicijpjpijdjaaDoor.Sl
