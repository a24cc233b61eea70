/-
  FnBehindDeleteShareGroupStateResponse: what the kernel reckons of the function for its row.
-/
import Derived.Test.YtalgpkkphlfooaaGreatDoorMB18
namespace Go.Proofs.YtalgpkkphlfooaaGreatDoor.fnBehindDeleteShareGroupStateResponse
open Go.ChangeShapes Go.WideShapes Go.ChangeAt Go.RowKit

theorem j_place : (Rows.fnBehindDeleteShareGroupStateResponseUptoRow.inPlace == Tryz.pinned.checked.prog.inPlace 5) = true := by kernel_rfl
theorem j_unf : (Rows.fnBehindDeleteShareGroupStateResponseUptoRow.unfollowed == Tryz.pinned.checked.prog.unfollowed 5) = true := by kernel_rfl
theorem j_rec : (Rows.fnBehindDeleteShareGroupStateResponseUptoRow.recurses == Tryz.pinned.checked.prog.recurses 5) = true := by kernel_rfl
theorem j_named : (Rows.fnBehindDeleteShareGroupStateResponseUptoRow.named == Tryz.pinned.checked.prog.varsNamed 5) = true := by kernel_rfl
theorem facts : joinedFacts Tryz.pinned.checked.prog 5 Tryz.f5 (Rows.OpenSpec.upto Rows.fnBehindDeleteShareGroupStateResponseSpec).bare Rows.fnBehindDeleteShareGroupStateResponseUptoRow = true := by
  unfold joinedFacts
  rw [j_laid, j_rowed, j_place, j_unf, j_rec, j_named, j_heard, j_enter]
  kernel_rfl
end Go.Proofs.YtalgpkkphlfooaaGreatDoor.fnBehindDeleteShareGroupStateResponse
