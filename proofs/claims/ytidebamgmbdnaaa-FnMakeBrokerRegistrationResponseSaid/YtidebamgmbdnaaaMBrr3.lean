/-
  spec.BrokerRegistrationResponse and its parts, as constants.
-/
import Derived.Test.YtidebamgmbdnaaaMB12
namespace Go.Proofs.Ytidebamgmbdnaaa
open Go.ChangeShapes Go.WideShapes Go.ChangeAt Go.RowKit

def m_BrokerRegistrationResponse : Msg := ⟨[.mk 3 0 (-1) (-1) (-1) 0 0 [], .mk 2 0 (-1) (-1) (-1) 0 0 [], .mk 4 0 (-1) (-1) (-1) (-1) 0 []], 0⟩
set_option maxHeartbeats 1600000 in
set_option maxRecDepth 100000 in
theorem c_BrokerRegistrationResponse (w : World) : Calls Try.prog 10 #[] w fun e w' => ∃ c, e = .returned (.agg c.toArray) ∧ HM w' (fun k => w.heap.size ≤ k ∧ k < w'.heap.size) m_BrokerRegistrationResponse c ∧ Keep [] w w' := by
  go_enter Try.func10, Try.ntmps10
  go_wp2
  refine bodyPost_ret (v := .agg #[.slice (some ⟨w.heap.size + 1, 0, none⟩) 3 3, .int .i64 0]) (by simp [results, Try.results10, go_sem]) rfl ⟨[_, _], rfl, ⟨_, _, rfl, ?_⟩, ?_⟩
  · exact HFs.block (cs := [fcl8 3 0 (-1) (-1) (-1) 0 0 (.slice none 0 0), fcl8 2 0 (-1) (-1) (-1) 0 0 (.slice none 0 0), fcl8 4 0 (-1) (-1) (-1) (-1) 0 (.slice none 0 0)]) (alloc_at2 w _ _) (.cons (HF.flat _ _ _ _ _ _ _ _ _) (.cons (HF.flat _ _ _ _ _ _ _ _ _) (.cons (HF.flat _ _ _ _ _ _ _ _ _) .nil))) rfl (by simp) rfl (by simp [m_BrokerRegistrationResponse])
  · exact (keep_box _).alloc _
end Go.Proofs.Ytidebamgmbdnaaa
