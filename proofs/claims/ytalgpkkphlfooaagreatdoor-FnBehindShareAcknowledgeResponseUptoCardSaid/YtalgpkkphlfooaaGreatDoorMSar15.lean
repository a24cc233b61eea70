/-
  FnBehindShareAcknowledgeResponse: what the kernel reckons of the function for its row.
-/
import Derived.Test.YtalgpkkphlfooaaGreatDoorMB18
namespace Go.Proofs.YtalgpkkphlfooaaGreatDoor.fnBehindShareAcknowledgeResponse
open Go.ChangeShapes Go.WideShapes Go.ChangeAt Go.RowKit

theorem j_place : (Rows.fnBehindShareAcknowledgeResponseUptoRow.inPlace == Tryz.pinned.checked.prog.inPlace 7) = true := by kernel_rfl
theorem j_unf : (Rows.fnBehindShareAcknowledgeResponseUptoRow.unfollowed == Tryz.pinned.checked.prog.unfollowed 7) = true := by kernel_rfl
theorem j_rec : (Rows.fnBehindShareAcknowledgeResponseUptoRow.recurses == Tryz.pinned.checked.prog.recurses 7) = true := by kernel_rfl
theorem j_named : (Rows.fnBehindShareAcknowledgeResponseUptoRow.named == Tryz.pinned.checked.prog.varsNamed 7) = true := by kernel_rfl
theorem facts : joinedFacts Tryz.pinned.checked.prog 7 Tryz.f7 (Rows.OpenSpec.upto Rows.fnBehindShareAcknowledgeResponseSpec).bare Rows.fnBehindShareAcknowledgeResponseUptoRow = true := by
  unfold joinedFacts
  rw [j_laid, j_rowed, j_place, j_unf, j_rec, j_named, j_heard, j_enter]
  kernel_rfl
end Go.Proofs.YtalgpkkphlfooaaGreatDoor.fnBehindShareAcknowledgeResponse
