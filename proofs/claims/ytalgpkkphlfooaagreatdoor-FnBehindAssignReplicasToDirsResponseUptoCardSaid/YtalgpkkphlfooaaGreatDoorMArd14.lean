/-
  FnBehindAssignReplicasToDirsResponse: what the kernel reckons of the program for its card.
-/
import Derived.Test.YtalgpkkphlfooaaGreatDoorMB18
import Derived.SevenTiedAt
namespace Go.Proofs.YtalgpkkphlfooaaGreatDoor.fnBehindAssignReplicasToDirsResponse
open Go.ChangeShapes Go.WideShapes Go.ChangeAt Go.RowKit

theorem j_main : Program.mainIs Tryz.pinned.checked.prog = some (Rows.fnBehindAssignReplicasToDirsResponseUptoCard.stood.harness.1, Rows.fnBehindAssignReplicasToDirsResponseUptoCard.stood.harness.2.toList) := by kernel_rfl
theorem j_goes : false = Rows.fnBehindAssignReplicasToDirsResponseUptoRow.goesBy Tryz.pinned.checked.prog := by kernel_rfl
end Go.Proofs.YtalgpkkphlfooaaGreatDoor.fnBehindAssignReplicasToDirsResponse
