/-
  FnTellAlterUserSCRAMCredentialsRequest: what the kernel reckons of the program for its card.
-/
import Derived.Test.YtdklogmmfnddiaaGreatDoorMB21
import Derived.SevenTiedAt
namespace Go.Proofs.YtdklogmmfnddiaaGreatDoor.fnTellAlterUserSCRAMCredentialsRequest
open Go.ChangeShapes Go.WideShapes Go.ChangeAt Go.RowKit

theorem j_main : Program.mainIs Tryz.pinned.checked.prog = some (Rows.fnTellAlterUserSCRAMCredentialsRequestUptoCard.stood.harness.1, Rows.fnTellAlterUserSCRAMCredentialsRequestUptoCard.stood.harness.2.toList) := by kernel_rfl
theorem j_goes : false = Rows.fnTellAlterUserSCRAMCredentialsRequestUptoRow.goesBy Tryz.pinned.checked.prog := by kernel_rfl
end Go.Proofs.YtdklogmmfnddiaaGreatDoor.fnTellAlterUserSCRAMCredentialsRequest
