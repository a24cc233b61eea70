/-
  spec.EndTxnRequest and its parts, as constants.
-/
import Derived.Test.YtobbchmjgoaleaaGreatDoorMEtr20
namespace Go.Proofs.YtobbchmjgoaleaaGreatDoor
open Go.ChangeShapes Go.WideShapes Go.ChangeAt Go.RowKit

def m_EndTxnRequest : Msg := ⟨[.mk 8 0 (-1) (-1) (-1) 0 0 [], .mk 4 0 (-1) (-1) (-1) 0 0 [], .mk 2 0 (-1) (-1) (-1) 0 0 [], .mk 0 0 (-1) (-1) (-1) 0 0 []], 3⟩
set_option maxHeartbeats 1600000 in
set_option maxRecDepth 100000 in
theorem c_EndTxnRequest (w : World) : Calls Tryz.prog 23 #[] w fun e w' => ∃ c, e = .returned (.agg c.toArray) ∧ HM w' (fun k => w.heap.size ≤ k ∧ k < w'.heap.size) m_EndTxnRequest c ∧ Keep [] w w' := by
  go_enter Tryz.func23, Tryz.ntmps23
  go_wp2
  refine bodyPost_ret (v := .agg #[.slice (some ⟨w.heap.size + 1, 0, none⟩) 4 4, .int .i64 3]) (by simp [results, Tryz.results23, go_sem]) rfl ⟨[_, _], rfl, ⟨_, _, rfl, ?_⟩, ?_⟩
  · exact HFs.block (cs := [fcl8 8 0 (-1) (-1) (-1) 0 0 (.slice none 0 0), fcl8 4 0 (-1) (-1) (-1) 0 0 (.slice none 0 0), fcl8 2 0 (-1) (-1) (-1) 0 0 (.slice none 0 0), fcl8 0 0 (-1) (-1) (-1) 0 0 (.slice none 0 0)]) (alloc_at2 w _ _) (.cons (HF.flat _ _ _ _ _ _ _ _ _) (.cons (HF.flat _ _ _ _ _ _ _ _ _) (.cons (HF.flat _ _ _ _ _ _ _ _ _) (.cons (HF.flat _ _ _ _ _ _ _ _ _) .nil)))) rfl (by simp) rfl (by simp [m_EndTxnRequest])
  · exact (keep_box _).alloc _
end Go.Proofs.YtobbchmjgoaleaaGreatDoor
