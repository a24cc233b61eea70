/-
  spec.DescribeACLsRequest and its parts, as constants.
-/
import Derived.Test.YtobbchmjgoaleaaGreatDoorMB5
namespace Go.Proofs.YtobbchmjgoaleaaGreatDoor
open Go.ChangeShapes Go.WideShapes Go.ChangeAt Go.RowKit

def m_DescribeACLsRequest : Msg := ⟨[.mk 1 0 (-1) (-1) (-1) 0 0 [], .mk 8 0 (-1) 0 (-1) 0 0 [], .mk 1 1 (-1) (-1) (-1) 3 0 [], .mk 8 0 (-1) 0 (-1) 0 0 [], .mk 8 0 (-1) 0 (-1) 0 0 [], .mk 1 0 (-1) (-1) (-1) 0 0 [], .mk 1 0 (-1) (-1) (-1) 0 0 []], 2⟩
set_option maxHeartbeats 1600000 in
set_option maxRecDepth 100000 in
theorem c_DescribeACLsRequest (w : World) : Calls Tryz.prog 41 #[] w fun e w' => ∃ c, e = .returned (.agg c.toArray) ∧ HM w' (fun k => w.heap.size ≤ k ∧ k < w'.heap.size) m_DescribeACLsRequest c ∧ Keep [] w w' := by
  go_enter Tryz.func41, Tryz.ntmps41
  go_wp2
  refine bodyPost_ret (v := .agg #[.slice (some ⟨w.heap.size + 1, 0, none⟩) 7 7, .int .i64 2]) (by simp [results, Tryz.results41, go_sem]) rfl ⟨[_, _], rfl, ⟨_, _, rfl, ?_⟩, ?_⟩
  · exact HFs.block (cs := [fcl8 1 0 (-1) (-1) (-1) 0 0 (.slice none 0 0), fcl8 8 0 (-1) 0 (-1) 0 0 (.slice none 0 0), fcl8 1 1 (-1) (-1) (-1) 3 0 (.slice none 0 0), fcl8 8 0 (-1) 0 (-1) 0 0 (.slice none 0 0), fcl8 8 0 (-1) 0 (-1) 0 0 (.slice none 0 0), fcl8 1 0 (-1) (-1) (-1) 0 0 (.slice none 0 0), fcl8 1 0 (-1) (-1) (-1) 0 0 (.slice none 0 0)]) (alloc_at2 w _ _) (.cons (HF.flat _ _ _ _ _ _ _ _ _) (.cons (HF.flat _ _ _ _ _ _ _ _ _) (.cons (HF.flat _ _ _ _ _ _ _ _ _) (.cons (HF.flat _ _ _ _ _ _ _ _ _) (.cons (HF.flat _ _ _ _ _ _ _ _ _) (.cons (HF.flat _ _ _ _ _ _ _ _ _) (.cons (HF.flat _ _ _ _ _ _ _ _ _) .nil))))))) rfl (by simp) rfl (by simp [m_DescribeACLsRequest])
  · exact (keep_box _).alloc _
end Go.Proofs.YtobbchmjgoaleaaGreatDoor
