/-
  FnTellAlterUserSCRAMCredentialsRequest: what the kernel reckons of the function for its row.
-/
import Derived.Test.YtdklogmmfnddiaaGreatDoorMB21
namespace Go.Proofs.YtdklogmmfnddiaaGreatDoor.fnTellAlterUserSCRAMCredentialsRequest
open Go.ChangeShapes Go.WideShapes Go.ChangeAt Go.RowKit

theorem j_place : (Rows.fnTellAlterUserSCRAMCredentialsRequestUptoRow.inPlace == Tryz.pinned.checked.prog.inPlace 4) = true := by kernel_rfl
theorem j_unf : (Rows.fnTellAlterUserSCRAMCredentialsRequestUptoRow.unfollowed == Tryz.pinned.checked.prog.unfollowed 4) = true := by kernel_rfl
theorem j_rec : (Rows.fnTellAlterUserSCRAMCredentialsRequestUptoRow.recurses == Tryz.pinned.checked.prog.recurses 4) = true := by kernel_rfl
theorem j_named : (Rows.fnTellAlterUserSCRAMCredentialsRequestUptoRow.named == Tryz.pinned.checked.prog.varsNamed 4) = true := by kernel_rfl
theorem facts : joinedFacts Tryz.pinned.checked.prog 4 Tryz.f4 (Rows.OpenSpec.upto Rows.fnTellAlterUserSCRAMCredentialsRequestSpec).bare Rows.fnTellAlterUserSCRAMCredentialsRequestUptoRow = true := by
  unfold joinedFacts
  rw [j_laid, j_rowed, j_place, j_unf, j_rec, j_named, j_heard, j_enter]
  kernel_rfl
end Go.Proofs.YtdklogmmfnddiaaGreatDoor.fnTellAlterUserSCRAMCredentialsRequest
