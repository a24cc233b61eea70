/-
  FnUnsafeDescribeLogDirsRequest: what the kernel reckons of the function for its row.
-/
import Derived.Test.YtbddchglganmdaaDoorMB17
namespace Go.Proofs.YtbddchglganmdaaDoor.fnUnsafeDescribeLogDirsRequest
open Go.ChangeShapes Go.WideShapes Go.ChangeAt Go.RowKit

theorem j_place : (Rows.fnUnsafeDescribeLogDirsRequestRow.inPlace == Tryd.pinned.checked.prog.inPlace 6) = true := by kernel_rfl
theorem j_unf : (Rows.fnUnsafeDescribeLogDirsRequestRow.unfollowed == Tryd.pinned.checked.prog.unfollowed 6) = true := by kernel_rfl
theorem j_rec : (Rows.fnUnsafeDescribeLogDirsRequestRow.recurses == Tryd.pinned.checked.prog.recurses 6) = true := by kernel_rfl
theorem j_named : (Rows.fnUnsafeDescribeLogDirsRequestRow.named == Tryd.pinned.checked.prog.varsNamed 6) = true := by kernel_rfl
theorem facts : joinedFacts Tryd.pinned.checked.prog 6 Tryd.f6 (OpenSpec.ofChange Rows.fnUnsafeDescribeLogDirsRequestSpec).bare Rows.fnUnsafeDescribeLogDirsRequestRow = true := by
  unfold joinedFacts
  rw [j_laid, j_rowed, j_place, j_unf, j_rec, j_named, j_heard, j_enter]
  kernel_rfl
end Go.Proofs.YtbddchglganmdaaDoor.fnUnsafeDescribeLogDirsRequest
