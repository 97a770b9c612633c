import Derived.Test.YthmkdioafjmclaaSlKeyed
import Derived.Test.YthmkdioafjmclaaTy2
namespace Go.Proofs.Ythmkdioafjmclaa.Ty3
open Go.Proofs.Ythmkdioafjmclaa.Sl Go
set_option maxRecDepth 100000
theorem laidOut : laidOutB Try.prog = true := by kernel_rfl
theorem mk143 : mapK Try.prog 143 = some (144, 145) := by kernel_rfl
theorem zv145 : zeroV Try.prog 145 = some (.agg #[]) := by kernel_rfl
theorem ky144 : Maps.Keyed Try.prog 144 := Maps.Keyed.of_law (deep_law_laid laidOut (m := 4) (by decide) (k := 144) (of_decide_eq_true (by kernel_rfl)) (by kernel_rfl) (by kernel_rfl))
end Go.Proofs.Ythmkdioafjmclaa.Ty3
