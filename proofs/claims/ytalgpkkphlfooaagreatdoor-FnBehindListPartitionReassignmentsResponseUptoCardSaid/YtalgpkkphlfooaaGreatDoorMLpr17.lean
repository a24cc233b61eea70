/-
  FnBehindListPartitionReassignmentsResponse: what the kernel reckons of the function for its row.
-/
import Derived.Test.YtalgpkkphlfooaaGreatDoorMB18
namespace Go.Proofs.YtalgpkkphlfooaaGreatDoor.fnBehindListPartitionReassignmentsResponse
open Go.ChangeShapes Go.WideShapes Go.ChangeAt Go.RowKit

theorem j_place : (Rows.fnBehindListPartitionReassignmentsResponseUptoRow.inPlace == Tryz.pinned.checked.prog.inPlace 3) = true := by kernel_rfl
theorem j_unf : (Rows.fnBehindListPartitionReassignmentsResponseUptoRow.unfollowed == Tryz.pinned.checked.prog.unfollowed 3) = true := by kernel_rfl
theorem j_rec : (Rows.fnBehindListPartitionReassignmentsResponseUptoRow.recurses == Tryz.pinned.checked.prog.recurses 3) = true := by kernel_rfl
theorem j_named : (Rows.fnBehindListPartitionReassignmentsResponseUptoRow.named == Tryz.pinned.checked.prog.varsNamed 3) = true := by kernel_rfl
theorem facts : joinedFacts Tryz.pinned.checked.prog 3 Tryz.f3 (Rows.OpenSpec.upto Rows.fnBehindListPartitionReassignmentsResponseSpec).bare Rows.fnBehindListPartitionReassignmentsResponseUptoRow = true := by
  unfold joinedFacts
  rw [j_laid, j_rowed, j_place, j_unf, j_rec, j_named, j_heard, j_enter]
  kernel_rfl
end Go.Proofs.YtalgpkkphlfooaaGreatDoor.fnBehindListPartitionReassignmentsResponse
