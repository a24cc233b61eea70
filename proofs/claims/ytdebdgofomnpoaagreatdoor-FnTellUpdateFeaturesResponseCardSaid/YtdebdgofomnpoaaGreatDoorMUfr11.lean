/-
  FnTellUpdateFeaturesResponse: what the kernel reckons of the function for its row.
-/
import Derived.Test.YtdebdgofomnpoaaGreatDoorMB19
namespace Go.Proofs.YtdebdgofomnpoaaGreatDoor.fnTellUpdateFeaturesResponse
open Go.ChangeShapes Go.WideShapes Go.ChangeAt Go.RowKit

theorem j_place : (Rows.fnTellUpdateFeaturesResponseRow.inPlace == Tryz.pinned.checked.prog.inPlace 8) = true := by kernel_rfl
theorem j_unf : (Rows.fnTellUpdateFeaturesResponseRow.unfollowed == Tryz.pinned.checked.prog.unfollowed 8) = true := by kernel_rfl
theorem j_rec : (Rows.fnTellUpdateFeaturesResponseRow.recurses == Tryz.pinned.checked.prog.recurses 8) = true := by kernel_rfl
theorem j_named : (Rows.fnTellUpdateFeaturesResponseRow.named == Tryz.pinned.checked.prog.varsNamed 8) = true := by kernel_rfl
theorem facts : joinedFacts Tryz.pinned.checked.prog 8 Tryz.f8 (OpenSpec.ofChange Rows.fnTellUpdateFeaturesResponseSpec).bare Rows.fnTellUpdateFeaturesResponseRow = true := by
  unfold joinedFacts
  rw [j_laid, j_rowed, j_place, j_unf, j_rec, j_named, j_heard, j_enter]
  kernel_rfl
end Go.Proofs.YtdebdgofomnpoaaGreatDoor.fnTellUpdateFeaturesResponse
