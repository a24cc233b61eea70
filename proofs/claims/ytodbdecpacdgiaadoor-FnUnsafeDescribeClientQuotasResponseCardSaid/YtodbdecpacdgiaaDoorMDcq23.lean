/-
  FnUnsafeDescribeClientQuotasResponse: what the kernel reckons of the function for its row.
-/
import Derived.Test.YtodbdecpacdgiaaDoorMB19
namespace Go.Proofs.YtodbdecpacdgiaaDoor.fnUnsafeDescribeClientQuotasResponse
open Go.ChangeShapes Go.WideShapes Go.ChangeAt Go.RowKit

theorem j_place : (Rows.fnUnsafeDescribeClientQuotasResponseRow.inPlace == Tryd.pinned.checked.prog.inPlace 7) = true := by kernel_rfl
theorem j_unf : (Rows.fnUnsafeDescribeClientQuotasResponseRow.unfollowed == Tryd.pinned.checked.prog.unfollowed 7) = true := by kernel_rfl
theorem j_rec : (Rows.fnUnsafeDescribeClientQuotasResponseRow.recurses == Tryd.pinned.checked.prog.recurses 7) = true := by kernel_rfl
theorem j_named : (Rows.fnUnsafeDescribeClientQuotasResponseRow.named == Tryd.pinned.checked.prog.varsNamed 7) = true := by kernel_rfl
theorem facts : joinedFacts Tryd.pinned.checked.prog 7 Tryd.f7 (OpenSpec.ofChange Rows.fnUnsafeDescribeClientQuotasResponseSpec).bare Rows.fnUnsafeDescribeClientQuotasResponseRow = true := by
  unfold joinedFacts
  rw [j_laid, j_rowed, j_place, j_unf, j_rec, j_named, j_heard, j_enter]
  kernel_rfl
end Go.Proofs.YtodbdecpacdgiaaDoor.fnUnsafeDescribeClientQuotasResponse
