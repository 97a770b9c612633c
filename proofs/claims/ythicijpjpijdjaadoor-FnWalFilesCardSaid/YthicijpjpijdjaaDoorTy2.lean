import Derived.Test.YthicijpjpijdjaaDoorSlMap
import Derived.Test.YthicijpjpijdjaaDoorTy
namespace Go.Proofs.YthicijpjpijdjaaDoor.Ty2
open Go.Proofs.YthicijpjpijdjaaDoor.Sl
set_option maxRecDepth 100000
theorem bo4 : isBool Tryd.prog 4 = true := by kernel_rfl
end Go.Proofs.YthicijpjpijdjaaDoor.Ty2
