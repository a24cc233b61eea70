/-
  FnBehindDescribeShareGroupOffsetsRequest: what the kernel reckons of the function for its row.
-/
import Derived.Test.YtobbchmjgoaleaaGreatDoorMB18
namespace Go.Proofs.YtobbchmjgoaleaaGreatDoor.fnBehindDescribeShareGroupOffsetsRequest
open Go.ChangeShapes Go.WideShapes Go.ChangeAt Go.RowKit

theorem j_place : (Rows.fnBehindDescribeShareGroupOffsetsRequestUptoRow.inPlace == Tryz.pinned.checked.prog.inPlace 14) = true := by kernel_rfl
theorem j_unf : (Rows.fnBehindDescribeShareGroupOffsetsRequestUptoRow.unfollowed == Tryz.pinned.checked.prog.unfollowed 14) = true := by kernel_rfl
theorem j_rec : (Rows.fnBehindDescribeShareGroupOffsetsRequestUptoRow.recurses == Tryz.pinned.checked.prog.recurses 14) = true := by kernel_rfl
theorem j_named : (Rows.fnBehindDescribeShareGroupOffsetsRequestUptoRow.named == Tryz.pinned.checked.prog.varsNamed 14) = true := by kernel_rfl
theorem facts : joinedFacts Tryz.pinned.checked.prog 14 Tryz.f14 (Rows.OpenSpec.upto Rows.fnBehindDescribeShareGroupOffsetsRequestSpec).bare Rows.fnBehindDescribeShareGroupOffsetsRequestUptoRow = true := by
  unfold joinedFacts
  rw [j_laid, j_rowed, j_place, j_unf, j_rec, j_named, j_heard, j_enter]
  kernel_rfl
end Go.Proofs.YtobbchmjgoaleaaGreatDoor.fnBehindDescribeShareGroupOffsetsRequest
