/-
  FnUnsafeAlterClientQuotasRequest: what the kernel reckons of the program for its card.
-/
import Derived.Test.YtodbdecpacdgiaaDoorMB19
import Derived.SevenTiedAt
namespace Go.Proofs.YtodbdecpacdgiaaDoor.fnUnsafeAlterClientQuotasRequest
open Go.ChangeShapes Go.WideShapes Go.ChangeAt Go.RowKit

theorem j_main : Program.mainIs Tryd.pinned.checked.prog = some (Rows.fnUnsafeAlterClientQuotasRequestCard.stood.harness.1, Rows.fnUnsafeAlterClientQuotasRequestCard.stood.harness.2.toList) := by kernel_rfl
theorem j_goes : false = Rows.fnUnsafeAlterClientQuotasRequestRow.goesBy Tryd.pinned.checked.prog := by kernel_rfl
end Go.Proofs.YtodbdecpacdgiaaDoor.fnUnsafeAlterClientQuotasRequest
