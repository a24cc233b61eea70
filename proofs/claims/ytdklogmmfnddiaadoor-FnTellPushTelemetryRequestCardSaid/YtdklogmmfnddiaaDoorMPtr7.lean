/-
  FnTellPushTelemetryRequest: what the kernel reckons of the function for its row.
-/
import Derived.Test.YtdklogmmfnddiaaDoorMB21
namespace Go.Proofs.YtdklogmmfnddiaaDoor.fnTellPushTelemetryRequest
open Go.ChangeShapes Go.WideShapes Go.ChangeAt Go.RowKit

theorem j_place : (Rows.fnTellPushTelemetryRequestRow.inPlace == Tryd.pinned.checked.prog.inPlace 4) = true := by kernel_rfl
theorem j_unf : (Rows.fnTellPushTelemetryRequestRow.unfollowed == Tryd.pinned.checked.prog.unfollowed 4) = true := by kernel_rfl
theorem j_rec : (Rows.fnTellPushTelemetryRequestRow.recurses == Tryd.pinned.checked.prog.recurses 4) = true := by kernel_rfl
theorem j_named : (Rows.fnTellPushTelemetryRequestRow.named == Tryd.pinned.checked.prog.varsNamed 4) = true := by kernel_rfl
theorem facts : joinedFacts Tryd.pinned.checked.prog 4 Tryd.f4 (OpenSpec.ofChange Rows.fnTellPushTelemetryRequestSpec).bare Rows.fnTellPushTelemetryRequestRow = true := by
  unfold joinedFacts
  rw [j_laid, j_rowed, j_place, j_unf, j_rec, j_named, j_heard, j_enter]
  kernel_rfl
end Go.Proofs.YtdklogmmfnddiaaDoor.fnTellPushTelemetryRequest
