import Derived.Test.YthicijpjpijdjaaSlMap
import Derived.Test.YthicijpjpijdjaaTy
namespace Go.Proofs.Ythicijpjpijdjaa.Ty2
open Go.Proofs.Ythicijpjpijdjaa.Sl
set_option maxRecDepth 100000
theorem bo4 : isBool Try.prog 4 = true := by kernel_rfl
theorem mp173 : mapT Try.prog 173 = some (9, 215, .string) := by kernel_rfl
theorem zv215 : zeroV Try.prog 215 = some (.agg #[]) := by kernel_rfl
end Go.Proofs.Ythicijpjpijdjaa.Ty2
