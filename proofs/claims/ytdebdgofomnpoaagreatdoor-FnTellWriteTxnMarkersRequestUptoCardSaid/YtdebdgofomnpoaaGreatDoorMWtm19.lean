/-
  FnTellWriteTxnMarkersRequest: what the kernel reckons of the function for its row.
-/
import Derived.Test.YtdebdgofomnpoaaGreatDoorMB19
namespace Go.Proofs.YtdebdgofomnpoaaGreatDoor.fnTellWriteTxnMarkersRequest
open Go.ChangeShapes Go.WideShapes Go.ChangeAt Go.RowKit

theorem j_place : (Rows.fnTellWriteTxnMarkersRequestUptoRow.inPlace == Tryz.pinned.checked.prog.inPlace 9) = true := by kernel_rfl
theorem j_unf : (Rows.fnTellWriteTxnMarkersRequestUptoRow.unfollowed == Tryz.pinned.checked.prog.unfollowed 9) = true := by kernel_rfl
theorem j_rec : (Rows.fnTellWriteTxnMarkersRequestUptoRow.recurses == Tryz.pinned.checked.prog.recurses 9) = true := by kernel_rfl
theorem j_named : (Rows.fnTellWriteTxnMarkersRequestUptoRow.named == Tryz.pinned.checked.prog.varsNamed 9) = true := by kernel_rfl
theorem facts : joinedFacts Tryz.pinned.checked.prog 9 Tryz.f9 (Rows.OpenSpec.upto Rows.fnTellWriteTxnMarkersRequestSpec).bare Rows.fnTellWriteTxnMarkersRequestUptoRow = true := by
  unfold joinedFacts
  rw [j_laid, j_rowed, j_place, j_unf, j_rec, j_named, j_heard, j_enter]
  kernel_rfl
end Go.Proofs.YtdebdgofomnpoaaGreatDoor.fnTellWriteTxnMarkersRequest
