/-
  spec.field: the other cases, and all of it.
-/
import Derived.Test.YtedconnhligkeaaDoorSpecE
namespace Go.Proofs.YtedconnhligkeaaDoor
open Go.ChangeShapes Go.WideShapes Go.ChangeAt Go.RowKit

end Go.Proofs.YtedconnhligkeaaDoor
