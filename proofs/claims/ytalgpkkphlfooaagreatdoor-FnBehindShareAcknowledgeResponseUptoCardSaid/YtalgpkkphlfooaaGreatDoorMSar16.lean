/-
  FnBehindShareAcknowledgeResponse: what the kernel reckons of the program for its card.
-/
import Derived.Test.YtalgpkkphlfooaaGreatDoorMB18
import Derived.SevenTiedAt
namespace Go.Proofs.YtalgpkkphlfooaaGreatDoor.fnBehindShareAcknowledgeResponse
open Go.ChangeShapes Go.WideShapes Go.ChangeAt Go.RowKit

theorem j_main : Program.mainIs Tryz.pinned.checked.prog = some (Rows.fnBehindShareAcknowledgeResponseUptoCard.stood.harness.1, Rows.fnBehindShareAcknowledgeResponseUptoCard.stood.harness.2.toList) := by kernel_rfl
theorem j_goes : false = Rows.fnBehindShareAcknowledgeResponseUptoRow.goesBy Tryz.pinned.checked.prog := by kernel_rfl
end Go.Proofs.YtalgpkkphlfooaaGreatDoor.fnBehindShareAcknowledgeResponse
