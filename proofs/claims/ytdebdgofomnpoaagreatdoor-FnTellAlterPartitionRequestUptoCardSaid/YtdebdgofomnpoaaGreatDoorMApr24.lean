/-
  FnTellAlterPartitionRequest: what the kernel reckons of the function for its row.
-/
import Derived.Test.YtdebdgofomnpoaaGreatDoorMB19
namespace Go.Proofs.YtdebdgofomnpoaaGreatDoor.fnTellAlterPartitionRequest
open Go.ChangeShapes Go.WideShapes Go.ChangeAt Go.RowKit

theorem j_place : (Rows.fnTellAlterPartitionRequestUptoRow.inPlace == Tryz.pinned.checked.prog.inPlace 12) = true := by kernel_rfl
theorem j_unf : (Rows.fnTellAlterPartitionRequestUptoRow.unfollowed == Tryz.pinned.checked.prog.unfollowed 12) = true := by kernel_rfl
theorem j_rec : (Rows.fnTellAlterPartitionRequestUptoRow.recurses == Tryz.pinned.checked.prog.recurses 12) = true := by kernel_rfl
theorem j_named : (Rows.fnTellAlterPartitionRequestUptoRow.named == Tryz.pinned.checked.prog.varsNamed 12) = true := by kernel_rfl
theorem facts : joinedFacts Tryz.pinned.checked.prog 12 Tryz.f12 (Rows.OpenSpec.upto Rows.fnTellAlterPartitionRequestSpec).bare Rows.fnTellAlterPartitionRequestUptoRow = true := by
  unfold joinedFacts
  rw [j_laid, j_rowed, j_place, j_unf, j_rec, j_named, j_heard, j_enter]
  kernel_rfl
end Go.Proofs.YtdebdgofomnpoaaGreatDoor.fnTellAlterPartitionRequest
