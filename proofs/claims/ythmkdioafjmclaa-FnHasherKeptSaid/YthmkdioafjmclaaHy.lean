import Derived.Test.YthmkdioafjmclaaHr
import Derived.Test.YthmkdioafjmclaaTy3
namespace Go.Proofs.Ythmkdioafjmclaa.Hy
open Go.RowKit Go.Proofs.Ythmkdioafjmclaa
set_option linter.unusedVariables false
set_option linter.unusedSimpArgs false
theorem size_pos : ∃ d, Try.prog.types.size + 1 = d + 1 + 1 := ⟨Try.prog.types.size - 1, by
  have : 0 < Try.prog.types.size := of_decide_eq_true (by kernel_rfl)
  omega⟩
theorem kt144 : Try.prog.keyType 144 = true := by kernel_rfl
theorem co144 : Try.prog.cellsOf 144 = 2 := by kernel_rfl
theorem co2 : Try.prog.cellsOf 2 = 1 := by kernel_rfl
theorem rev_key {m s : Int} (hm : (Lit.int .i64 m).wf = true) (hs : (Lit.int .i64 s).wf = true) : ∃ lk, keyOf Try.prog 144 (.agg #[.int .i64 m, .int .i64 s]) = some lk := by
  obtain ⟨d, hd⟩ := size_pos
  unfold keyOf
  rw [Try.underlying144]
  simp only [kt144, Value.formed, Try.underlying144, co144, hd]
  simp [Program.keyLits, Try.underlying144, Try.underlying2, co144, co2, hm, hs, Value.cells]
end Go.Proofs.Ythmkdioafjmclaa.Hy
