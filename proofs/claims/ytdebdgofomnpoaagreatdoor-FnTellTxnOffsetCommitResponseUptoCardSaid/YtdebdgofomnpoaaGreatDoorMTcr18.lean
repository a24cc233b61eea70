/-
  FnTellTxnOffsetCommitResponse: what the kernel reckons of the program for its card.
-/
import Derived.Test.YtdebdgofomnpoaaGreatDoorMB19
import Derived.SevenTiedAt
namespace Go.Proofs.YtdebdgofomnpoaaGreatDoor.fnTellTxnOffsetCommitResponse
open Go.ChangeShapes Go.WideShapes Go.ChangeAt Go.RowKit

theorem j_main : Program.mainIs Tryz.pinned.checked.prog = some (Rows.fnTellTxnOffsetCommitResponseUptoCard.stood.harness.1, Rows.fnTellTxnOffsetCommitResponseUptoCard.stood.harness.2.toList) := by kernel_rfl
theorem j_goes : false = Rows.fnTellTxnOffsetCommitResponseUptoRow.goesBy Tryz.pinned.checked.prog := by kernel_rfl
end Go.Proofs.YtdebdgofomnpoaaGreatDoor.fnTellTxnOffsetCommitResponse
