/-
  spec.StreamsGroupDescribeRequest and its parts, as constants.
-/
import Derived.Test.YtobbchmjgoaleaaGreatDoorMB12
namespace Go.Proofs.YtobbchmjgoaleaaGreatDoor
open Go.ChangeShapes Go.WideShapes Go.ChangeAt Go.RowKit

def m_StreamsGroupDescribeRequest : Msg := ⟨[.mk 11 0 (-1) (-1) (-1) 0 8 [], .mk 0 0 (-1) (-1) (-1) 0 0 [], .mk 0 1 (-1) (-1) (-1) 0 0 []], 0⟩
set_option maxHeartbeats 1600000 in
set_option maxRecDepth 100000 in
theorem c_StreamsGroupDescribeRequest (w : World) : Calls Tryz.prog 35 #[] w fun e w' => ∃ c, e = .returned (.agg c.toArray) ∧ HM w' (fun k => w.heap.size ≤ k ∧ k < w'.heap.size) m_StreamsGroupDescribeRequest c ∧ Keep [] w w' := by
  go_enter Tryz.func35, Tryz.ntmps35
  go_wp2
  refine bodyPost_ret (v := .agg #[.slice (some ⟨w.heap.size + 1, 0, none⟩) 3 3, .int .i64 0]) (by simp [results, Tryz.results35, go_sem]) rfl ⟨[_, _], rfl, ⟨_, _, rfl, ?_⟩, ?_⟩
  · exact HFs.block (cs := [fcl8 11 0 (-1) (-1) (-1) 0 8 (.slice none 0 0), fcl8 0 0 (-1) (-1) (-1) 0 0 (.slice none 0 0), fcl8 0 1 (-1) (-1) (-1) 0 0 (.slice none 0 0)]) (alloc_at2 w _ _) (.cons (HF.flat _ _ _ _ _ _ _ _ _) (.cons (HF.flat _ _ _ _ _ _ _ _ _) (.cons (HF.flat _ _ _ _ _ _ _ _ _) .nil))) rfl (by simp) rfl (by simp [m_StreamsGroupDescribeRequest])
  · exact (keep_box _).alloc _
end Go.Proofs.YtobbchmjgoaleaaGreatDoor
