/-
  FnTellTxnOffsetCommitResponse: what the kernel reckons of the function for its row.
-/
import Derived.Test.YtdebdgofomnpoaaGreatDoorMB19
namespace Go.Proofs.YtdebdgofomnpoaaGreatDoor.fnTellTxnOffsetCommitResponse
open Go.ChangeShapes Go.WideShapes Go.ChangeAt Go.RowKit

theorem j_place : (Rows.fnTellTxnOffsetCommitResponseUptoRow.inPlace == Tryz.pinned.checked.prog.inPlace 4) = true := by kernel_rfl
theorem j_unf : (Rows.fnTellTxnOffsetCommitResponseUptoRow.unfollowed == Tryz.pinned.checked.prog.unfollowed 4) = true := by kernel_rfl
theorem j_rec : (Rows.fnTellTxnOffsetCommitResponseUptoRow.recurses == Tryz.pinned.checked.prog.recurses 4) = true := by kernel_rfl
theorem j_named : (Rows.fnTellTxnOffsetCommitResponseUptoRow.named == Tryz.pinned.checked.prog.varsNamed 4) = true := by kernel_rfl
theorem facts : joinedFacts Tryz.pinned.checked.prog 4 Tryz.f4 (Rows.OpenSpec.upto Rows.fnTellTxnOffsetCommitResponseSpec).bare Rows.fnTellTxnOffsetCommitResponseUptoRow = true := by
  unfold joinedFacts
  rw [j_laid, j_rowed, j_place, j_unf, j_rec, j_named, j_heard, j_enter]
  kernel_rfl
end Go.Proofs.YtdebdgofomnpoaaGreatDoor.fnTellTxnOffsetCommitResponse
