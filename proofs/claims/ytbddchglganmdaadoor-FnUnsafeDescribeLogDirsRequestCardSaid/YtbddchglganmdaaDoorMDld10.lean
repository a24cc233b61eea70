/-
  FnUnsafeDescribeLogDirsRequest: what the kernel reckons of the program for its card.
-/
import Derived.Test.YtbddchglganmdaaDoorMB17
import Derived.SevenTiedAt
namespace Go.Proofs.YtbddchglganmdaaDoor.fnUnsafeDescribeLogDirsRequest
open Go.ChangeShapes Go.WideShapes Go.ChangeAt Go.RowKit

theorem j_main : Program.mainIs Tryd.pinned.checked.prog = some (Rows.fnUnsafeDescribeLogDirsRequestCard.stood.harness.1, Rows.fnUnsafeDescribeLogDirsRequestCard.stood.harness.2.toList) := by kernel_rfl
theorem j_goes : false = Rows.fnUnsafeDescribeLogDirsRequestRow.goesBy Tryd.pinned.checked.prog := by kernel_rfl
end Go.Proofs.YtbddchglganmdaaDoor.fnUnsafeDescribeLogDirsRequest
