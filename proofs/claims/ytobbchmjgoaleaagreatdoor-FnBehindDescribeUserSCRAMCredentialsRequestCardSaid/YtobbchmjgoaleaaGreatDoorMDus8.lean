/-
  FnBehindDescribeUserSCRAMCredentialsRequest: what the kernel reckons of the program for its card.
-/
import Derived.Test.YtobbchmjgoaleaaGreatDoorMB18
import Derived.SevenTiedAt
namespace Go.Proofs.YtobbchmjgoaleaaGreatDoor.fnBehindDescribeUserSCRAMCredentialsRequest
open Go.ChangeShapes Go.WideShapes Go.ChangeAt Go.RowKit

theorem j_main : Program.mainIs Tryz.pinned.checked.prog = some (Rows.fnBehindDescribeUserSCRAMCredentialsRequestCard.stood.harness.1, Rows.fnBehindDescribeUserSCRAMCredentialsRequestCard.stood.harness.2.toList) := by kernel_rfl
theorem j_goes : false = Rows.fnBehindDescribeUserSCRAMCredentialsRequestRow.goesBy Tryz.pinned.checked.prog := by kernel_rfl
end Go.Proofs.YtobbchmjgoaleaaGreatDoor.fnBehindDescribeUserSCRAMCredentialsRequest
