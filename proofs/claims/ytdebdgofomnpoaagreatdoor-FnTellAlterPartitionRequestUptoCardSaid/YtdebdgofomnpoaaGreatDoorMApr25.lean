/-
  FnTellAlterPartitionRequest: what the kernel reckons of the program for its card.
-/
import Derived.Test.YtdebdgofomnpoaaGreatDoorMB19
import Derived.SevenTiedAt
namespace Go.Proofs.YtdebdgofomnpoaaGreatDoor.fnTellAlterPartitionRequest
open Go.ChangeShapes Go.WideShapes Go.ChangeAt Go.RowKit

theorem j_main : Program.mainIs Tryz.pinned.checked.prog = some (Rows.fnTellAlterPartitionRequestUptoCard.stood.harness.1, Rows.fnTellAlterPartitionRequestUptoCard.stood.harness.2.toList) := by kernel_rfl
theorem j_goes : false = Rows.fnTellAlterPartitionRequestUptoRow.goesBy Tryz.pinned.checked.prog := by kernel_rfl
end Go.Proofs.YtdebdgofomnpoaaGreatDoor.fnTellAlterPartitionRequest
