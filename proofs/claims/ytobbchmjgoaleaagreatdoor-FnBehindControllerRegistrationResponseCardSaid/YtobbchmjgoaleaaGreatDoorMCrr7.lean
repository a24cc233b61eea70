/-
  FnBehindControllerRegistrationResponse: what the kernel reckons of the function for its row.
-/
import Derived.Test.YtobbchmjgoaleaaGreatDoorMB18
namespace Go.Proofs.YtobbchmjgoaleaaGreatDoor.fnBehindControllerRegistrationResponse
open Go.ChangeShapes Go.WideShapes Go.ChangeAt Go.RowKit

theorem j_place : (Rows.fnBehindControllerRegistrationResponseRow.inPlace == Tryz.pinned.checked.prog.inPlace 3) = true := by kernel_rfl
theorem j_unf : (Rows.fnBehindControllerRegistrationResponseRow.unfollowed == Tryz.pinned.checked.prog.unfollowed 3) = true := by kernel_rfl
theorem j_rec : (Rows.fnBehindControllerRegistrationResponseRow.recurses == Tryz.pinned.checked.prog.recurses 3) = true := by kernel_rfl
theorem j_named : (Rows.fnBehindControllerRegistrationResponseRow.named == Tryz.pinned.checked.prog.varsNamed 3) = true := by kernel_rfl
theorem facts : joinedFacts Tryz.pinned.checked.prog 3 Tryz.f3 (OpenSpec.ofChange Rows.fnBehindControllerRegistrationResponseSpec).bare Rows.fnBehindControllerRegistrationResponseRow = true := by
  unfold joinedFacts
  rw [j_laid, j_rowed, j_place, j_unf, j_rec, j_named, j_heard, j_enter]
  kernel_rfl
end Go.Proofs.YtobbchmjgoaleaaGreatDoor.fnBehindControllerRegistrationResponse
