import Derived.Test.YthmkdioafjmclaaSlMap
import Derived.Test.YthmkdioafjmclaaTy
namespace Go.Proofs.Ythmkdioafjmclaa.Ty2
open Go.Proofs.Ythmkdioafjmclaa.Sl
set_option maxRecDepth 100000
theorem bo4 : isBool Try.prog 4 = true := by kernel_rfl
theorem mp128 : mapT Try.prog 128 = some (92, 90, .int .i64) := by kernel_rfl
theorem mv136_Len : mthV Try.prog 136 "Len" = some (164, 130) := by kernel_rfl
theorem mv136_Less : mthV Try.prog 136 "Less" = some (165, 130) := by kernel_rfl
theorem mv136_Swap : mthV Try.prog 136 "Swap" = some (166, 130) := by kernel_rfl
theorem zv90 : zeroV Try.prog 90 = some (.pointer none) := by kernel_rfl
end Go.Proofs.Ythmkdioafjmclaa.Ty2
