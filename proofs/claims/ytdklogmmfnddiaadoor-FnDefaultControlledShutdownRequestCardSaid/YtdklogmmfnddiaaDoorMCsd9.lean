/-
  FnDefaultControlledShutdownRequest: what the kernel reckons of the function for its row.
-/
import Derived.Test.YtdklogmmfnddiaaDoorMB21
namespace Go.Proofs.YtdklogmmfnddiaaDoor.fnDefaultControlledShutdownRequest
open Go.ChangeShapes Go.WideShapes Go.ChangeAt Go.RowKit

theorem j_place : (Rows.fnDefaultControlledShutdownRequestRow.inPlace == Tryd.pinned.checked.prog.inPlace 3) = true := by kernel_rfl
theorem j_unf : (Rows.fnDefaultControlledShutdownRequestRow.unfollowed == Tryd.pinned.checked.prog.unfollowed 3) = true := by kernel_rfl
theorem j_rec : (Rows.fnDefaultControlledShutdownRequestRow.recurses == Tryd.pinned.checked.prog.recurses 3) = true := by kernel_rfl
theorem j_named : (Rows.fnDefaultControlledShutdownRequestRow.named == Tryd.pinned.checked.prog.varsNamed 3) = true := by kernel_rfl
theorem facts : joinedFacts Tryd.pinned.checked.prog 3 Tryd.f3 (OpenSpec.ofChange Rows.fnDefaultControlledShutdownRequestSpec).bare Rows.fnDefaultControlledShutdownRequestRow = true := by
  unfold joinedFacts
  rw [j_laid, j_rowed, j_place, j_unf, j_rec, j_named, j_heard, j_enter]
  kernel_rfl
end Go.Proofs.YtdklogmmfnddiaaDoor.fnDefaultControlledShutdownRequest
