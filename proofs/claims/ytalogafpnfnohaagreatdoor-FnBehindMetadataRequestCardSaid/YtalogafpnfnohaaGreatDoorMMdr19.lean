/-
  FnBehindMetadataRequest: what the kernel reckons of the function for its row.
-/
import Derived.Test.YtalogafpnfnohaaGreatDoorMB18
namespace Go.Proofs.YtalogafpnfnohaaGreatDoor.fnBehindMetadataRequest
open Go.ChangeShapes Go.WideShapes Go.ChangeAt Go.RowKit

theorem j_place : (Rows.fnBehindMetadataRequestRow.inPlace == Tryz.pinned.checked.prog.inPlace 5) = true := by kernel_rfl
theorem j_unf : (Rows.fnBehindMetadataRequestRow.unfollowed == Tryz.pinned.checked.prog.unfollowed 5) = true := by kernel_rfl
theorem j_rec : (Rows.fnBehindMetadataRequestRow.recurses == Tryz.pinned.checked.prog.recurses 5) = true := by kernel_rfl
theorem j_named : (Rows.fnBehindMetadataRequestRow.named == Tryz.pinned.checked.prog.varsNamed 5) = true := by kernel_rfl
theorem facts : joinedFacts Tryz.pinned.checked.prog 5 Tryz.f5 (OpenSpec.ofChange Rows.fnBehindMetadataRequestSpec).bare Rows.fnBehindMetadataRequestRow = true := by
  unfold joinedFacts
  rw [j_laid, j_rowed, j_place, j_unf, j_rec, j_named, j_heard, j_enter]
  kernel_rfl
end Go.Proofs.YtalogafpnfnohaaGreatDoor.fnBehindMetadataRequest
