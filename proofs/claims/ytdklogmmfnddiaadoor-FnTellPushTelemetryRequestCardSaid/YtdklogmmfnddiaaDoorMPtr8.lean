/-
  FnTellPushTelemetryRequest: what the kernel reckons of the program for its card.
-/
import Derived.Test.YtdklogmmfnddiaaDoorMB21
import Derived.SevenTiedAt
namespace Go.Proofs.YtdklogmmfnddiaaDoor.fnTellPushTelemetryRequest
open Go.ChangeShapes Go.WideShapes Go.ChangeAt Go.RowKit

theorem j_main : Program.mainIs Tryd.pinned.checked.prog = some (Rows.fnTellPushTelemetryRequestCard.stood.harness.1, Rows.fnTellPushTelemetryRequestCard.stood.harness.2.toList) := by kernel_rfl
theorem j_goes : false = Rows.fnTellPushTelemetryRequestRow.goesBy Tryd.pinned.checked.prog := by kernel_rfl
end Go.Proofs.YtdklogmmfnddiaaDoor.fnTellPushTelemetryRequest
