/-
  FnTellWriteTxnMarkersRequest: what the kernel reckons of the program for its card.
-/
import Derived.Test.YtdebdgofomnpoaaGreatDoorMB19
import Derived.SevenTiedAt
namespace Go.Proofs.YtdebdgofomnpoaaGreatDoor.fnTellWriteTxnMarkersRequest
open Go.ChangeShapes Go.WideShapes Go.ChangeAt Go.RowKit

theorem j_main : Program.mainIs Tryz.pinned.checked.prog = some (Rows.fnTellWriteTxnMarkersRequestUptoCard.stood.harness.1, Rows.fnTellWriteTxnMarkersRequestUptoCard.stood.harness.2.toList) := by kernel_rfl
theorem j_goes : false = Rows.fnTellWriteTxnMarkersRequestUptoRow.goesBy Tryz.pinned.checked.prog := by kernel_rfl
end Go.Proofs.YtdebdgofomnpoaaGreatDoor.fnTellWriteTxnMarkersRequest
