/-
  FnBehindCreatePartitionsResponse: what the kernel reckons of the function for its row.
-/
import Derived.Test.YtobbchmjgoaleaaGreatDoorMB18
namespace Go.Proofs.YtobbchmjgoaleaaGreatDoor.fnBehindCreatePartitionsResponse
open Go.ChangeShapes Go.WideShapes Go.ChangeAt Go.RowKit

theorem j_place : (Rows.fnBehindCreatePartitionsResponseRow.inPlace == Tryz.pinned.checked.prog.inPlace 11) = true := by kernel_rfl
theorem j_unf : (Rows.fnBehindCreatePartitionsResponseRow.unfollowed == Tryz.pinned.checked.prog.unfollowed 11) = true := by kernel_rfl
theorem j_rec : (Rows.fnBehindCreatePartitionsResponseRow.recurses == Tryz.pinned.checked.prog.recurses 11) = true := by kernel_rfl
theorem j_named : (Rows.fnBehindCreatePartitionsResponseRow.named == Tryz.pinned.checked.prog.varsNamed 11) = true := by kernel_rfl
theorem facts : joinedFacts Tryz.pinned.checked.prog 11 Tryz.f11 (OpenSpec.ofChange Rows.fnBehindCreatePartitionsResponseSpec).bare Rows.fnBehindCreatePartitionsResponseRow = true := by
  unfold joinedFacts
  rw [j_laid, j_rowed, j_place, j_unf, j_rec, j_named, j_heard, j_enter]
  kernel_rfl
end Go.Proofs.YtobbchmjgoaleaaGreatDoor.fnBehindCreatePartitionsResponse
