/-
  FnBehindEndTxnRequest: what the kernel reckons of the function for its row.
-/
import Derived.Test.YtobbchmjgoaleaaGreatDoorMEtr28
namespace Go.Proofs.YtobbchmjgoaleaaGreatDoor.fnBehindEndTxnRequest
open Go.ChangeShapes Go.WideShapes Go.ChangeAt Go.RowKit

theorem j_place : (Rows.fnBehindEndTxnRequestRow.inPlace == Tryz.pinned.checked.prog.inPlace 4) = true := by kernel_rfl
theorem j_unf : (Rows.fnBehindEndTxnRequestRow.unfollowed == Tryz.pinned.checked.prog.unfollowed 4) = true := by kernel_rfl
theorem j_rec : (Rows.fnBehindEndTxnRequestRow.recurses == Tryz.pinned.checked.prog.recurses 4) = true := by kernel_rfl
theorem j_named : (Rows.fnBehindEndTxnRequestRow.named == Tryz.pinned.checked.prog.varsNamed 4) = true := by kernel_rfl
theorem facts : joinedFacts Tryz.pinned.checked.prog 4 Tryz.f4 (OpenSpec.ofChange Rows.fnBehindEndTxnRequestSpec).bare Rows.fnBehindEndTxnRequestRow = true := by
  unfold joinedFacts
  rw [j_laid, j_rowed, j_place, j_unf, j_rec, j_named, j_heard, j_enter]
  kernel_rfl
end Go.Proofs.YtobbchmjgoaleaaGreatDoor.fnBehindEndTxnRequest
