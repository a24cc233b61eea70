/-
  FnUnsafeDescribeProducersResponse: what the kernel reckons of the function for its row.
-/
import Derived.Test.YtodbdecpacdgiaaDoorMB19
namespace Go.Proofs.YtodbdecpacdgiaaDoor.fnUnsafeDescribeProducersResponse
open Go.ChangeShapes Go.WideShapes Go.ChangeAt Go.RowKit

theorem j_place : (Rows.fnUnsafeDescribeProducersResponseRow.inPlace == Tryd.pinned.checked.prog.inPlace 4) = true := by kernel_rfl
theorem j_unf : (Rows.fnUnsafeDescribeProducersResponseRow.unfollowed == Tryd.pinned.checked.prog.unfollowed 4) = true := by kernel_rfl
theorem j_rec : (Rows.fnUnsafeDescribeProducersResponseRow.recurses == Tryd.pinned.checked.prog.recurses 4) = true := by kernel_rfl
theorem j_named : (Rows.fnUnsafeDescribeProducersResponseRow.named == Tryd.pinned.checked.prog.varsNamed 4) = true := by kernel_rfl
theorem facts : joinedFacts Tryd.pinned.checked.prog 4 Tryd.f4 (OpenSpec.ofChange Rows.fnUnsafeDescribeProducersResponseSpec).bare Rows.fnUnsafeDescribeProducersResponseRow = true := by
  unfold joinedFacts
  rw [j_laid, j_rowed, j_place, j_unf, j_rec, j_named, j_heard, j_enter]
  kernel_rfl
end Go.Proofs.YtodbdecpacdgiaaDoor.fnUnsafeDescribeProducersResponse
