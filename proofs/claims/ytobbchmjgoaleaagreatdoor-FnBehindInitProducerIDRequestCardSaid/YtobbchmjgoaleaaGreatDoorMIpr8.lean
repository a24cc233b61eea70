/-
  spec.InitProducerIDRequest and its parts, as constants.
-/
import Derived.Test.YtobbchmjgoaleaaGreatDoorMB5
namespace Go.Proofs.YtobbchmjgoaleaaGreatDoor
open Go.ChangeShapes Go.WideShapes Go.ChangeAt Go.RowKit

def m_InitProducerIDRequest : Msg := ⟨[.mk 8 0 (-1) 0 (-1) 0 0 [], .mk 3 0 (-1) (-1) (-1) 0 0 [], .mk 4 3 (-1) (-1) (-1) (-1) 0 [], .mk 2 3 (-1) (-1) (-1) (-1) 0 []], 2⟩
set_option maxHeartbeats 1600000 in
set_option maxRecDepth 100000 in
theorem c_InitProducerIDRequest (w : World) : Calls Tryz.prog 26 #[] w fun e w' => ∃ c, e = .returned (.agg c.toArray) ∧ HM w' (fun k => w.heap.size ≤ k ∧ k < w'.heap.size) m_InitProducerIDRequest c ∧ Keep [] w w' := by
  go_enter Tryz.func26, Tryz.ntmps26
  go_wp2
  refine bodyPost_ret (v := .agg #[.slice (some ⟨w.heap.size + 1, 0, none⟩) 4 4, .int .i64 2]) (by simp [results, Tryz.results26, go_sem]) rfl ⟨[_, _], rfl, ⟨_, _, rfl, ?_⟩, ?_⟩
  · exact HFs.block (cs := [fcl8 8 0 (-1) 0 (-1) 0 0 (.slice none 0 0), fcl8 3 0 (-1) (-1) (-1) 0 0 (.slice none 0 0), fcl8 4 3 (-1) (-1) (-1) (-1) 0 (.slice none 0 0), fcl8 2 3 (-1) (-1) (-1) (-1) 0 (.slice none 0 0)]) (alloc_at2 w _ _) (.cons (HF.flat _ _ _ _ _ _ _ _ _) (.cons (HF.flat _ _ _ _ _ _ _ _ _) (.cons (HF.flat _ _ _ _ _ _ _ _ _) (.cons (HF.flat _ _ _ _ _ _ _ _ _) .nil)))) rfl (by simp) rfl (by simp [m_InitProducerIDRequest])
  · exact (keep_box _).alloc _
end Go.Proofs.YtobbchmjgoaleaaGreatDoor
