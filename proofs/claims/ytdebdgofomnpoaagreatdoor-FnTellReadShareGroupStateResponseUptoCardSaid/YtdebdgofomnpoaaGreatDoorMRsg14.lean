/-
  FnTellReadShareGroupStateResponse: what the kernel reckons of the function for its row.
-/
import Derived.Test.YtdebdgofomnpoaaGreatDoorMB19
namespace Go.Proofs.YtdebdgofomnpoaaGreatDoor.fnTellReadShareGroupStateResponse
open Go.ChangeShapes Go.WideShapes Go.ChangeAt Go.RowKit

theorem j_place : (Rows.fnTellReadShareGroupStateResponseUptoRow.inPlace == Tryz.pinned.checked.prog.inPlace 11) = true := by kernel_rfl
theorem j_unf : (Rows.fnTellReadShareGroupStateResponseUptoRow.unfollowed == Tryz.pinned.checked.prog.unfollowed 11) = true := by kernel_rfl
theorem j_rec : (Rows.fnTellReadShareGroupStateResponseUptoRow.recurses == Tryz.pinned.checked.prog.recurses 11) = true := by kernel_rfl
theorem j_named : (Rows.fnTellReadShareGroupStateResponseUptoRow.named == Tryz.pinned.checked.prog.varsNamed 11) = true := by kernel_rfl
theorem facts : joinedFacts Tryz.pinned.checked.prog 11 Tryz.f11 (Rows.OpenSpec.upto Rows.fnTellReadShareGroupStateResponseSpec).bare Rows.fnTellReadShareGroupStateResponseUptoRow = true := by
  unfold joinedFacts
  rw [j_laid, j_rowed, j_place, j_unf, j_rec, j_named, j_heard, j_enter]
  kernel_rfl
end Go.Proofs.YtdebdgofomnpoaaGreatDoor.fnTellReadShareGroupStateResponse
