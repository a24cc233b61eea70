/-
  FnBehindDeleteACLsRequest: what the kernel reckons of the function for its row.
-/
import Derived.Test.YtbdlilalihgdeaaGreatDoorMB18
namespace Go.Proofs.YtbdlilalihgdeaaGreatDoor.fnBehindDeleteACLsRequest
open Go.ChangeShapes Go.WideShapes Go.ChangeAt Go.RowKit

theorem j_place : (Rows.fnBehindDeleteACLsRequestRow.inPlace == Tryz.pinned.checked.prog.inPlace 5) = true := by kernel_rfl
theorem j_unf : (Rows.fnBehindDeleteACLsRequestRow.unfollowed == Tryz.pinned.checked.prog.unfollowed 5) = true := by kernel_rfl
theorem j_rec : (Rows.fnBehindDeleteACLsRequestRow.recurses == Tryz.pinned.checked.prog.recurses 5) = true := by kernel_rfl
theorem j_named : (Rows.fnBehindDeleteACLsRequestRow.named == Tryz.pinned.checked.prog.varsNamed 5) = true := by kernel_rfl
theorem facts : joinedFacts Tryz.pinned.checked.prog 5 Tryz.f5 (OpenSpec.ofChange Rows.fnBehindDeleteACLsRequestSpec).bare Rows.fnBehindDeleteACLsRequestRow = true := by
  unfold joinedFacts
  rw [j_laid, j_rowed, j_place, j_unf, j_rec, j_named, j_heard, j_enter]
  kernel_rfl
end Go.Proofs.YtbdlilalihgdeaaGreatDoor.fnBehindDeleteACLsRequest
