/-
  FnTellUpdateRaftVoterRequest: what the kernel reckons of the function for its row.
-/
import Derived.Test.YtdebdgofomnpoaaGreatDoorMB19
namespace Go.Proofs.YtdebdgofomnpoaaGreatDoor.fnTellUpdateRaftVoterRequest
open Go.ChangeShapes Go.WideShapes Go.ChangeAt Go.RowKit

theorem j_place : (Rows.fnTellUpdateRaftVoterRequestRow.inPlace == Tryz.pinned.checked.prog.inPlace 10) = true := by kernel_rfl
theorem j_unf : (Rows.fnTellUpdateRaftVoterRequestRow.unfollowed == Tryz.pinned.checked.prog.unfollowed 10) = true := by kernel_rfl
theorem j_rec : (Rows.fnTellUpdateRaftVoterRequestRow.recurses == Tryz.pinned.checked.prog.recurses 10) = true := by kernel_rfl
theorem j_named : (Rows.fnTellUpdateRaftVoterRequestRow.named == Tryz.pinned.checked.prog.varsNamed 10) = true := by kernel_rfl
theorem facts : joinedFacts Tryz.pinned.checked.prog 10 Tryz.f10 (OpenSpec.ofChange Rows.fnTellUpdateRaftVoterRequestSpec).bare Rows.fnTellUpdateRaftVoterRequestRow = true := by
  unfold joinedFacts
  rw [j_laid, j_rowed, j_place, j_unf, j_rec, j_named, j_heard, j_enter]
  kernel_rfl
end Go.Proofs.YtdebdgofomnpoaaGreatDoor.fnTellUpdateRaftVoterRequest
