/-
  The fields of PushTelemetryRequest, as plain lists.
-/
import Derived.Test.YtdklogmmfnddiaaDoorMB1
import Derived.Test.YtdklogmmfnddiaaDoorMB13
import Derived.Test.YtdklogmmfnddiaaDoorMB14
import Derived.Test.YtdklogmmfnddiaaDoorMB18
import Derived.Deep.CutBlock
import Derived.Deep.DeepCutAuto
namespace Go.Proofs.YtdklogmmfnddiaaDoor

def q_PushTelemetryRequest : List F := [.mk 7 0 (-1) (-1) (-1) 0 0 [], .mk 3 0 (-1) (-1) (-1) 0 0 [], .mk 0 0 (-1) (-1) (-1) 0 0 [], .mk 1 0 (-1) (-1) (-1) 0 0 [], .mk 9 0 (-1) (-1) (-1) 0 0 []]
end Go.Proofs.YtdklogmmfnddiaaDoor
/-
  PushTelemetryRequest: reading.
-/
namespace Go.Proofs.YtdklogmmfnddiaaDoor
open Go.ChangeShapes Go.WideShapes Go.ChangeAt Go.RowKit

set_option maxRecDepth 100000 in
theorem d_PushTelemetryRequest (w : World) (x : Value) : Calls Tryd.prog 48 #[x] w fun e w' => e = .returned (.tuple #[]) ∧ w = w' := by
  go_enter Tryd.func48, Tryd.ntmps48
  go_wp2
  refine bodyPost_end (v := .tuple #[]) (by simp [results, Tryd.results48, go_sem]) rfl ?_
  exact ⟨rfl, rfl⟩
end Go.Proofs.YtdklogmmfnddiaaDoor
