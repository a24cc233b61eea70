/-
  FnBehindMetadataRequest: what the kernel reckons of the program for its card.
-/
import Derived.Test.YtalogafpnfnohaaGreatDoorMB18
import Derived.SevenTiedAt
namespace Go.Proofs.YtalogafpnfnohaaGreatDoor.fnBehindMetadataRequest
open Go.ChangeShapes Go.WideShapes Go.ChangeAt Go.RowKit

theorem j_main : Program.mainIs Tryz.pinned.checked.prog = some (Rows.fnBehindMetadataRequestCard.stood.harness.1, Rows.fnBehindMetadataRequestCard.stood.harness.2.toList) := by kernel_rfl
theorem j_goes : false = Rows.fnBehindMetadataRequestRow.goesBy Tryz.pinned.checked.prog := by kernel_rfl
end Go.Proofs.YtalogafpnfnohaaGreatDoor.fnBehindMetadataRequest
