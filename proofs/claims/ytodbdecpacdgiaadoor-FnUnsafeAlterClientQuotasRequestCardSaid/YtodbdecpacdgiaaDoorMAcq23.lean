/-
  FnUnsafeAlterClientQuotasRequest: what the kernel reckons of the function for its row.
-/
import Derived.Test.YtodbdecpacdgiaaDoorMB19
namespace Go.Proofs.YtodbdecpacdgiaaDoor.fnUnsafeAlterClientQuotasRequest
open Go.ChangeShapes Go.WideShapes Go.ChangeAt Go.RowKit

theorem j_place : (Rows.fnUnsafeAlterClientQuotasRequestRow.inPlace == Tryd.pinned.checked.prog.inPlace 6) = true := by kernel_rfl
theorem j_unf : (Rows.fnUnsafeAlterClientQuotasRequestRow.unfollowed == Tryd.pinned.checked.prog.unfollowed 6) = true := by kernel_rfl
theorem j_rec : (Rows.fnUnsafeAlterClientQuotasRequestRow.recurses == Tryd.pinned.checked.prog.recurses 6) = true := by kernel_rfl
theorem j_named : (Rows.fnUnsafeAlterClientQuotasRequestRow.named == Tryd.pinned.checked.prog.varsNamed 6) = true := by kernel_rfl
theorem facts : joinedFacts Tryd.pinned.checked.prog 6 Tryd.f6 (OpenSpec.ofChange Rows.fnUnsafeAlterClientQuotasRequestSpec).bare Rows.fnUnsafeAlterClientQuotasRequestRow = true := by
  unfold joinedFacts
  rw [j_laid, j_rowed, j_place, j_unf, j_rec, j_named, j_heard, j_enter]
  kernel_rfl
end Go.Proofs.YtodbdecpacdgiaaDoor.fnUnsafeAlterClientQuotasRequest
