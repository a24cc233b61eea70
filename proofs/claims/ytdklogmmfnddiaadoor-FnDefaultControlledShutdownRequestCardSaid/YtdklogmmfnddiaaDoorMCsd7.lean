/-
  spec.ControlledShutdownRequest and its parts, as constants.
-/
import Derived.Test.YtdklogmmfnddiaaDoorMB12
namespace Go.Proofs.YtdklogmmfnddiaaDoor
open Go.ChangeShapes Go.WideShapes Go.ChangeAt Go.RowKit

def m_ControlledShutdownRequest : Msg := ⟨[.mk 3 0 (-1) (-1) (-1) 0 0 [], .mk 4 2 (-1) (-1) (-1) (-1) 0 []], 3⟩
set_option maxHeartbeats 1600000 in
set_option maxRecDepth 100000 in
theorem c_ControlledShutdownRequest (w : World) : Calls Tryd.prog 7 #[] w fun e w' => ∃ c, e = .returned (.agg c.toArray) ∧ HM w' (fun k => w.heap.size ≤ k ∧ k < w'.heap.size) m_ControlledShutdownRequest c ∧ Keep [] w w' := by
  go_enter Tryd.func7, Tryd.ntmps7
  go_wp2
  refine bodyPost_ret (v := .agg #[.slice (some ⟨w.heap.size + 1, 0, none⟩) 2 2, .int .i64 3]) (by simp [results, Tryd.results7, go_sem]) rfl ⟨[_, _], rfl, ⟨_, _, rfl, ?_⟩, ?_⟩
  · exact HFs.block (cs := [fcl8 3 0 (-1) (-1) (-1) 0 0 (.slice none 0 0), fcl8 4 2 (-1) (-1) (-1) (-1) 0 (.slice none 0 0)]) (alloc_at2 w _ _) (.cons (HF.flat _ _ _ _ _ _ _ _ _) (.cons (HF.flat _ _ _ _ _ _ _ _ _) .nil)) rfl (by simp) rfl (by simp [m_ControlledShutdownRequest])
  · exact (keep_box _).alloc _
end Go.Proofs.YtdklogmmfnddiaaDoor
