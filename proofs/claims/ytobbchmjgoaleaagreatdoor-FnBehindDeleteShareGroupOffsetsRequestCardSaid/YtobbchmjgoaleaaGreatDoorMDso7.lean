/-
  FnBehindDeleteShareGroupOffsetsRequest: what the kernel reckons of the function for its row.
-/
import Derived.Test.YtobbchmjgoaleaaGreatDoorMB18
namespace Go.Proofs.YtobbchmjgoaleaaGreatDoor.fnBehindDeleteShareGroupOffsetsRequest
open Go.ChangeShapes Go.WideShapes Go.ChangeAt Go.RowKit

theorem j_place : (Rows.fnBehindDeleteShareGroupOffsetsRequestRow.inPlace == Tryz.pinned.checked.prog.inPlace 9) = true := by kernel_rfl
theorem j_unf : (Rows.fnBehindDeleteShareGroupOffsetsRequestRow.unfollowed == Tryz.pinned.checked.prog.unfollowed 9) = true := by kernel_rfl
theorem j_rec : (Rows.fnBehindDeleteShareGroupOffsetsRequestRow.recurses == Tryz.pinned.checked.prog.recurses 9) = true := by kernel_rfl
theorem j_named : (Rows.fnBehindDeleteShareGroupOffsetsRequestRow.named == Tryz.pinned.checked.prog.varsNamed 9) = true := by kernel_rfl
theorem facts : joinedFacts Tryz.pinned.checked.prog 9 Tryz.f9 (OpenSpec.ofChange Rows.fnBehindDeleteShareGroupOffsetsRequestSpec).bare Rows.fnBehindDeleteShareGroupOffsetsRequestRow = true := by
  unfold joinedFacts
  rw [j_laid, j_rowed, j_place, j_unf, j_rec, j_named, j_heard, j_enter]
  kernel_rfl
end Go.Proofs.YtobbchmjgoaleaaGreatDoor.fnBehindDeleteShareGroupOffsetsRequest
