/-
  FnBehindEndTxnRequest: what the kernel reckons of the program for its card.
-/
import Derived.Test.YtobbchmjgoaleaaGreatDoorMEtr28
import Derived.SevenTiedAt
namespace Go.Proofs.YtobbchmjgoaleaaGreatDoor.fnBehindEndTxnRequest
open Go.ChangeShapes Go.WideShapes Go.ChangeAt Go.RowKit

theorem j_main : Program.mainIs Tryz.pinned.checked.prog = some (Rows.fnBehindEndTxnRequestCard.stood.harness.1, Rows.fnBehindEndTxnRequestCard.stood.harness.2.toList) := by kernel_rfl
theorem j_goes : false = Rows.fnBehindEndTxnRequestRow.goesBy Tryz.pinned.checked.prog := by kernel_rfl
end Go.Proofs.YtobbchmjgoaleaaGreatDoor.fnBehindEndTxnRequest
