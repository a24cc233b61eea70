/-
  FnUnsafeAlterConfigsResponse: what the kernel reckons of the function for its row.
-/
import Derived.Test.YtbddchglganmdaaDoorMB17
namespace Go.Proofs.YtbddchglganmdaaDoor.fnUnsafeAlterConfigsResponse
open Go.ChangeShapes Go.WideShapes Go.ChangeAt Go.RowKit

theorem j_place : (Rows.fnUnsafeAlterConfigsResponseRow.inPlace == Tryd.pinned.checked.prog.inPlace 3) = true := by kernel_rfl
theorem j_unf : (Rows.fnUnsafeAlterConfigsResponseRow.unfollowed == Tryd.pinned.checked.prog.unfollowed 3) = true := by kernel_rfl
theorem j_rec : (Rows.fnUnsafeAlterConfigsResponseRow.recurses == Tryd.pinned.checked.prog.recurses 3) = true := by kernel_rfl
theorem j_named : (Rows.fnUnsafeAlterConfigsResponseRow.named == Tryd.pinned.checked.prog.varsNamed 3) = true := by kernel_rfl
theorem facts : joinedFacts Tryd.pinned.checked.prog 3 Tryd.f3 (OpenSpec.ofChange Rows.fnUnsafeAlterConfigsResponseSpec).bare Rows.fnUnsafeAlterConfigsResponseRow = true := by
  unfold joinedFacts
  rw [j_laid, j_rowed, j_place, j_unf, j_rec, j_named, j_heard, j_enter]
  kernel_rfl
end Go.Proofs.YtbddchglganmdaaDoor.fnUnsafeAlterConfigsResponse
