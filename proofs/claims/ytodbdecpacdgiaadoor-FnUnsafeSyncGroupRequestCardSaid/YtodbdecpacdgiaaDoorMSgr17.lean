/-
  FnUnsafeSyncGroupRequest: what the kernel reckons of the function for its row.
-/
import Derived.Test.YtodbdecpacdgiaaDoorMB19
namespace Go.Proofs.YtodbdecpacdgiaaDoor.fnUnsafeSyncGroupRequest
open Go.ChangeShapes Go.WideShapes Go.ChangeAt Go.RowKit

theorem j_place : (Rows.fnUnsafeSyncGroupRequestRow.inPlace == Tryd.pinned.checked.prog.inPlace 5) = true := by kernel_rfl
theorem j_unf : (Rows.fnUnsafeSyncGroupRequestRow.unfollowed == Tryd.pinned.checked.prog.unfollowed 5) = true := by kernel_rfl
theorem j_rec : (Rows.fnUnsafeSyncGroupRequestRow.recurses == Tryd.pinned.checked.prog.recurses 5) = true := by kernel_rfl
theorem j_named : (Rows.fnUnsafeSyncGroupRequestRow.named == Tryd.pinned.checked.prog.varsNamed 5) = true := by kernel_rfl
theorem facts : joinedFacts Tryd.pinned.checked.prog 5 Tryd.f5 (OpenSpec.ofChange Rows.fnUnsafeSyncGroupRequestSpec).bare Rows.fnUnsafeSyncGroupRequestRow = true := by
  unfold joinedFacts
  rw [j_laid, j_rowed, j_place, j_unf, j_rec, j_named, j_heard, j_enter]
  kernel_rfl
end Go.Proofs.YtodbdecpacdgiaaDoor.fnUnsafeSyncGroupRequest
