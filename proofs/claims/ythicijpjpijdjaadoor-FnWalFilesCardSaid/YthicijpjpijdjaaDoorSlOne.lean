import Derived.Test.YthicijpjpijdjaaDoorSlMap
import Derived.Great.BuildSlice
namespace Go.Proofs.YthicijpjpijdjaaDoor.Sl
open Go.RowKit Go.Lib
set_option linter.unusedVariables false
set_option linter.unusedSimpArgs false
/-! ## a slice of one value that is known by name alone -/
theorem Eff.mkSlice1 {P : Program} {W : World} {Q : Exit → Act → World → Prop} {n : Nat} {l : List (Nat × Value)} {L : List HProp} {o : Oper} {t e : TypeId} {by_ : Nat} {x : Operand} {v z : Value} (ho : o.op = .buildSlice t 1 #[(0, x)]) (ht : slcE P t = some (e, 1, by_)) (hz : zeroC P e = some [z]) (hx : ev l x = some v) (h1 : v.oneCell' = true) :
    Eff P W Q n l L o (NewS e 1 1 [v] L) :=
  Eff.buildSlice (vs := #[(0, v)]) (by_ := by_) ho ht (fun a hf => by simp [hf.ev hx]) fun w => by
    obtain ⟨inf, hu, hi, hk, -⟩ := slcE_of ht
    obtain ⟨i2, z2, hi2, hz2, hc2⟩ := zeroC_of hz
    rw [hi] at hi2
    obtain rfl : inf = i2 := by simpa using hi2
    refine run_buildSlice w t e 1 _ #[v] inf z2 hu hi hz2 (by rw [hk]; decide) (by rw [hk]; decide) ?_
    rw [hk, hc2]
    simp [Instr.fill, one_cell h1]
    apply Array.ext'
    simp [List.range_succ]
end Go.Proofs.YthicijpjpijdjaaDoor.Sl
