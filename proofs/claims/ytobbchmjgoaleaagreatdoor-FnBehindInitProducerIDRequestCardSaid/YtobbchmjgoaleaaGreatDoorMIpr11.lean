/-
  FnBehindInitProducerIDRequest: what the kernel reckons of the function for its row.
-/
import Derived.Test.YtobbchmjgoaleaaGreatDoorMB18
namespace Go.Proofs.YtobbchmjgoaleaaGreatDoor.fnBehindInitProducerIDRequest
open Go.ChangeShapes Go.WideShapes Go.ChangeAt Go.RowKit

theorem j_place : (Rows.fnBehindInitProducerIDRequestRow.inPlace == Tryz.pinned.checked.prog.inPlace 5) = true := by kernel_rfl
theorem j_unf : (Rows.fnBehindInitProducerIDRequestRow.unfollowed == Tryz.pinned.checked.prog.unfollowed 5) = true := by kernel_rfl
theorem j_rec : (Rows.fnBehindInitProducerIDRequestRow.recurses == Tryz.pinned.checked.prog.recurses 5) = true := by kernel_rfl
theorem j_named : (Rows.fnBehindInitProducerIDRequestRow.named == Tryz.pinned.checked.prog.varsNamed 5) = true := by kernel_rfl
theorem facts : joinedFacts Tryz.pinned.checked.prog 5 Tryz.f5 (OpenSpec.ofChange Rows.fnBehindInitProducerIDRequestSpec).bare Rows.fnBehindInitProducerIDRequestRow = true := by
  unfold joinedFacts
  rw [j_laid, j_rowed, j_place, j_unf, j_rec, j_named, j_heard, j_enter]
  kernel_rfl
end Go.Proofs.YtobbchmjgoaleaaGreatDoor.fnBehindInitProducerIDRequest
