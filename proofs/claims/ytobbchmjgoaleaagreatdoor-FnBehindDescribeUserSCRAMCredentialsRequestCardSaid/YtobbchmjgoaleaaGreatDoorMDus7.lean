/-
  FnBehindDescribeUserSCRAMCredentialsRequest: what the kernel reckons of the function for its row.
-/
import Derived.Test.YtobbchmjgoaleaaGreatDoorMB18
namespace Go.Proofs.YtobbchmjgoaleaaGreatDoor.fnBehindDescribeUserSCRAMCredentialsRequest
open Go.ChangeShapes Go.WideShapes Go.ChangeAt Go.RowKit

theorem j_place : (Rows.fnBehindDescribeUserSCRAMCredentialsRequestRow.inPlace == Tryz.pinned.checked.prog.inPlace 7) = true := by kernel_rfl
theorem j_unf : (Rows.fnBehindDescribeUserSCRAMCredentialsRequestRow.unfollowed == Tryz.pinned.checked.prog.unfollowed 7) = true := by kernel_rfl
theorem j_rec : (Rows.fnBehindDescribeUserSCRAMCredentialsRequestRow.recurses == Tryz.pinned.checked.prog.recurses 7) = true := by kernel_rfl
theorem j_named : (Rows.fnBehindDescribeUserSCRAMCredentialsRequestRow.named == Tryz.pinned.checked.prog.varsNamed 7) = true := by kernel_rfl
theorem facts : joinedFacts Tryz.pinned.checked.prog 7 Tryz.f7 (OpenSpec.ofChange Rows.fnBehindDescribeUserSCRAMCredentialsRequestSpec).bare Rows.fnBehindDescribeUserSCRAMCredentialsRequestRow = true := by
  unfold joinedFacts
  rw [j_laid, j_rowed, j_place, j_unf, j_rec, j_named, j_heard, j_enter]
  kernel_rfl
end Go.Proofs.YtobbchmjgoaleaaGreatDoor.fnBehindDescribeUserSCRAMCredentialsRequest
