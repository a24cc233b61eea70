/-
  spec.ListGroupsRequest and its parts, as constants.
-/
import Derived.Test.YtidebamgmbdnaaaMB12
namespace Go.Proofs.Ytidebamgmbdnaaa
open Go.ChangeShapes Go.WideShapes Go.ChangeAt Go.RowKit

def m_ListGroupsRequest : Msg := ⟨[.mk 11 4 (-1) (-1) (-1) 0 8 [], .mk 11 5 (-1) (-1) (-1) 0 8 []], 3⟩
set_option maxHeartbeats 1600000 in
set_option maxRecDepth 100000 in
theorem c_ListGroupsRequest (w : World) : Calls Try.prog 18 #[] w fun e w' => ∃ c, e = .returned (.agg c.toArray) ∧ HM w' (fun k => w.heap.size ≤ k ∧ k < w'.heap.size) m_ListGroupsRequest c ∧ Keep [] w w' := by
  go_enter Try.func18, Try.ntmps18
  go_wp2
  refine bodyPost_ret (v := .agg #[.slice (some ⟨w.heap.size + 1, 0, none⟩) 2 2, .int .i64 3]) (by simp [results, Try.results18, go_sem]) rfl ⟨[_, _], rfl, ⟨_, _, rfl, ?_⟩, ?_⟩
  · exact HFs.block (cs := [fcl8 11 4 (-1) (-1) (-1) 0 8 (.slice none 0 0), fcl8 11 5 (-1) (-1) (-1) 0 8 (.slice none 0 0)]) (alloc_at2 w _ _) (.cons (HF.flat _ _ _ _ _ _ _ _ _) (.cons (HF.flat _ _ _ _ _ _ _ _ _) .nil)) rfl (by simp) rfl (by simp [m_ListGroupsRequest])
  · exact (keep_box _).alloc _
end Go.Proofs.Ytidebamgmbdnaaa
