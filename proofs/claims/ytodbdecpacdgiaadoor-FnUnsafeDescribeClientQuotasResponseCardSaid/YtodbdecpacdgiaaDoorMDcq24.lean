/-
  FnUnsafeDescribeClientQuotasResponse: what the kernel reckons of the program for its card.
-/
import Derived.Test.YtodbdecpacdgiaaDoorMB19
import Derived.SevenTiedAt
namespace Go.Proofs.YtodbdecpacdgiaaDoor.fnUnsafeDescribeClientQuotasResponse
open Go.ChangeShapes Go.WideShapes Go.ChangeAt Go.RowKit

theorem j_main : Program.mainIs Tryd.pinned.checked.prog = some (Rows.fnUnsafeDescribeClientQuotasResponseCard.stood.harness.1, Rows.fnUnsafeDescribeClientQuotasResponseCard.stood.harness.2.toList) := by kernel_rfl
theorem j_goes : false = Rows.fnUnsafeDescribeClientQuotasResponseRow.goesBy Tryd.pinned.checked.prog := by kernel_rfl
end Go.Proofs.YtodbdecpacdgiaaDoor.fnUnsafeDescribeClientQuotasResponse
