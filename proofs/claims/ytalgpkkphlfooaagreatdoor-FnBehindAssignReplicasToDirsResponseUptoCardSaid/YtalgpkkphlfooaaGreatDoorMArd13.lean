/-
  FnBehindAssignReplicasToDirsResponse: what the kernel reckons of the function for its row.
-/
import Derived.Test.YtalgpkkphlfooaaGreatDoorMB18
namespace Go.Proofs.YtalgpkkphlfooaaGreatDoor.fnBehindAssignReplicasToDirsResponse
open Go.ChangeShapes Go.WideShapes Go.ChangeAt Go.RowKit

theorem j_place : (Rows.fnBehindAssignReplicasToDirsResponseUptoRow.inPlace == Tryz.pinned.checked.prog.inPlace 6) = true := by kernel_rfl
theorem j_unf : (Rows.fnBehindAssignReplicasToDirsResponseUptoRow.unfollowed == Tryz.pinned.checked.prog.unfollowed 6) = true := by kernel_rfl
theorem j_rec : (Rows.fnBehindAssignReplicasToDirsResponseUptoRow.recurses == Tryz.pinned.checked.prog.recurses 6) = true := by kernel_rfl
theorem j_named : (Rows.fnBehindAssignReplicasToDirsResponseUptoRow.named == Tryz.pinned.checked.prog.varsNamed 6) = true := by kernel_rfl
theorem facts : joinedFacts Tryz.pinned.checked.prog 6 Tryz.f6 (Rows.OpenSpec.upto Rows.fnBehindAssignReplicasToDirsResponseSpec).bare Rows.fnBehindAssignReplicasToDirsResponseUptoRow = true := by
  unfold joinedFacts
  rw [j_laid, j_rowed, j_place, j_unf, j_rec, j_named, j_heard, j_enter]
  kernel_rfl
end Go.Proofs.YtalgpkkphlfooaaGreatDoor.fnBehindAssignReplicasToDirsResponse
