/-
  FnDefaultControlledShutdownRequest: what the kernel reckons of the program for its card.
-/
import Derived.Test.YtdklogmmfnddiaaDoorMB21
import Derived.SevenTiedAt
namespace Go.Proofs.YtdklogmmfnddiaaDoor.fnDefaultControlledShutdownRequest
open Go.ChangeShapes Go.WideShapes Go.ChangeAt Go.RowKit

theorem j_main : Program.mainIs Tryd.pinned.checked.prog = some (Rows.fnDefaultControlledShutdownRequestCard.stood.harness.1, Rows.fnDefaultControlledShutdownRequestCard.stood.harness.2.toList) := by kernel_rfl
theorem j_goes : false = Rows.fnDefaultControlledShutdownRequestRow.goesBy Tryd.pinned.checked.prog := by kernel_rfl
end Go.Proofs.YtdklogmmfnddiaaDoor.fnDefaultControlledShutdownRequest
