/-
  FnBehindDeleteACLsRequest: what the kernel reckons of the program for its card.
-/
import Derived.Test.YtbdlilalihgdeaaGreatDoorMB18
import Derived.SevenTiedAt
namespace Go.Proofs.YtbdlilalihgdeaaGreatDoor.fnBehindDeleteACLsRequest
open Go.ChangeShapes Go.WideShapes Go.ChangeAt Go.RowKit

theorem j_main : Program.mainIs Tryz.pinned.checked.prog = some (Rows.fnBehindDeleteACLsRequestCard.stood.harness.1, Rows.fnBehindDeleteACLsRequestCard.stood.harness.2.toList) := by kernel_rfl
theorem j_goes : false = Rows.fnBehindDeleteACLsRequestRow.goesBy Tryz.pinned.checked.prog := by kernel_rfl
end Go.Proofs.YtbdlilalihgdeaaGreatDoor.fnBehindDeleteACLsRequest
