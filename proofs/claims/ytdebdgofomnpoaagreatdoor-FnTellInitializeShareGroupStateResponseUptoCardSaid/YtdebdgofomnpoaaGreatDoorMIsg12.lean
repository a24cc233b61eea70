/-
  FnTellInitializeShareGroupStateResponse: what the kernel reckons of the function for its row.
-/
import Derived.Test.YtdebdgofomnpoaaGreatDoorMB19
namespace Go.Proofs.YtdebdgofomnpoaaGreatDoor.fnTellInitializeShareGroupStateResponse
open Go.ChangeShapes Go.WideShapes Go.ChangeAt Go.RowKit

theorem j_place : (Rows.fnTellInitializeShareGroupStateResponseUptoRow.inPlace == Tryz.pinned.checked.prog.inPlace 5) = true := by kernel_rfl
theorem j_unf : (Rows.fnTellInitializeShareGroupStateResponseUptoRow.unfollowed == Tryz.pinned.checked.prog.unfollowed 5) = true := by kernel_rfl
theorem j_rec : (Rows.fnTellInitializeShareGroupStateResponseUptoRow.recurses == Tryz.pinned.checked.prog.recurses 5) = true := by kernel_rfl
theorem j_named : (Rows.fnTellInitializeShareGroupStateResponseUptoRow.named == Tryz.pinned.checked.prog.varsNamed 5) = true := by kernel_rfl
theorem facts : joinedFacts Tryz.pinned.checked.prog 5 Tryz.f5 (Rows.OpenSpec.upto Rows.fnTellInitializeShareGroupStateResponseSpec).bare Rows.fnTellInitializeShareGroupStateResponseUptoRow = true := by
  unfold joinedFacts
  rw [j_laid, j_rowed, j_place, j_unf, j_rec, j_named, j_heard, j_enter]
  kernel_rfl
end Go.Proofs.YtdebdgofomnpoaaGreatDoor.fnTellInitializeShareGroupStateResponse
