/-
  FnBehindShareGroupDescribeRequest: what the kernel reckons of the function for its row.
-/
import Derived.Test.YtobbchmjgoaleaaGreatDoorMB18
namespace Go.Proofs.YtobbchmjgoaleaaGreatDoor.fnBehindShareGroupDescribeRequest
open Go.ChangeShapes Go.WideShapes Go.ChangeAt Go.RowKit

theorem j_place : (Rows.fnBehindShareGroupDescribeRequestRow.inPlace == Tryz.pinned.checked.prog.inPlace 6) = true := by kernel_rfl
theorem j_unf : (Rows.fnBehindShareGroupDescribeRequestRow.unfollowed == Tryz.pinned.checked.prog.unfollowed 6) = true := by kernel_rfl
theorem j_rec : (Rows.fnBehindShareGroupDescribeRequestRow.recurses == Tryz.pinned.checked.prog.recurses 6) = true := by kernel_rfl
theorem j_named : (Rows.fnBehindShareGroupDescribeRequestRow.named == Tryz.pinned.checked.prog.varsNamed 6) = true := by kernel_rfl
theorem facts : joinedFacts Tryz.pinned.checked.prog 6 Tryz.f6 (OpenSpec.ofChange Rows.fnBehindShareGroupDescribeRequestSpec).bare Rows.fnBehindShareGroupDescribeRequestRow = true := by
  unfold joinedFacts
  rw [j_laid, j_rowed, j_place, j_unf, j_rec, j_named, j_heard, j_enter]
  kernel_rfl
end Go.Proofs.YtobbchmjgoaleaaGreatDoor.fnBehindShareGroupDescribeRequest
