/-
  FnBehindDescribeACLsRequest: what the kernel reckons of the function for its row.
-/
import Derived.Test.YtobbchmjgoaleaaGreatDoorMB18
namespace Go.Proofs.YtobbchmjgoaleaaGreatDoor.fnBehindDescribeACLsRequest
open Go.ChangeShapes Go.WideShapes Go.ChangeAt Go.RowKit

theorem j_place : (Rows.fnBehindDescribeACLsRequestRow.inPlace == Tryz.pinned.checked.prog.inPlace 10) = true := by kernel_rfl
theorem j_unf : (Rows.fnBehindDescribeACLsRequestRow.unfollowed == Tryz.pinned.checked.prog.unfollowed 10) = true := by kernel_rfl
theorem j_rec : (Rows.fnBehindDescribeACLsRequestRow.recurses == Tryz.pinned.checked.prog.recurses 10) = true := by kernel_rfl
theorem j_named : (Rows.fnBehindDescribeACLsRequestRow.named == Tryz.pinned.checked.prog.varsNamed 10) = true := by kernel_rfl
theorem facts : joinedFacts Tryz.pinned.checked.prog 10 Tryz.f10 (OpenSpec.ofChange Rows.fnBehindDescribeACLsRequestSpec).bare Rows.fnBehindDescribeACLsRequestRow = true := by
  unfold joinedFacts
  rw [j_laid, j_rowed, j_place, j_unf, j_rec, j_named, j_heard, j_enter]
  kernel_rfl
end Go.Proofs.YtobbchmjgoaleaaGreatDoor.fnBehindDescribeACLsRequest
