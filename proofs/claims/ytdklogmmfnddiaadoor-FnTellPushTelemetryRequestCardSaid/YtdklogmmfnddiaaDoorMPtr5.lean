/-
  spec.PushTelemetryRequest and its parts, as constants.
-/
import Derived.Test.YtdklogmmfnddiaaDoorMB12
namespace Go.Proofs.YtdklogmmfnddiaaDoor
open Go.ChangeShapes Go.WideShapes Go.ChangeAt Go.RowKit

def m_PushTelemetryRequest : Msg := ⟨[.mk 7 0 (-1) (-1) (-1) 0 0 [], .mk 3 0 (-1) (-1) (-1) 0 0 [], .mk 0 0 (-1) (-1) (-1) 0 0 [], .mk 1 0 (-1) (-1) (-1) 0 0 [], .mk 9 0 (-1) (-1) (-1) 0 0 []], 0⟩
set_option maxHeartbeats 1600000 in
set_option maxRecDepth 100000 in
theorem c_PushTelemetryRequest (w : World) : Calls Tryd.prog 14 #[] w fun e w' => ∃ c, e = .returned (.agg c.toArray) ∧ HM w' (fun k => w.heap.size ≤ k ∧ k < w'.heap.size) m_PushTelemetryRequest c ∧ Keep [] w w' := by
  go_enter Tryd.func14, Tryd.ntmps14
  go_wp2
  refine bodyPost_ret (v := .agg #[.slice (some ⟨w.heap.size + 1, 0, none⟩) 5 5, .int .i64 0]) (by simp [results, Tryd.results14, go_sem]) rfl ⟨[_, _], rfl, ⟨_, _, rfl, ?_⟩, ?_⟩
  · exact HFs.block (cs := [fcl8 7 0 (-1) (-1) (-1) 0 0 (.slice none 0 0), fcl8 3 0 (-1) (-1) (-1) 0 0 (.slice none 0 0), fcl8 0 0 (-1) (-1) (-1) 0 0 (.slice none 0 0), fcl8 1 0 (-1) (-1) (-1) 0 0 (.slice none 0 0), fcl8 9 0 (-1) (-1) (-1) 0 0 (.slice none 0 0)]) (alloc_at2 w _ _) (.cons (HF.flat _ _ _ _ _ _ _ _ _) (.cons (HF.flat _ _ _ _ _ _ _ _ _) (.cons (HF.flat _ _ _ _ _ _ _ _ _) (.cons (HF.flat _ _ _ _ _ _ _ _ _) (.cons (HF.flat _ _ _ _ _ _ _ _ _) .nil))))) rfl (by simp) rfl (by simp [m_PushTelemetryRequest])
  · exact (keep_box _).alloc _
end Go.Proofs.YtdklogmmfnddiaaDoor
