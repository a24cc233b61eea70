/-
  spec.SASLHandshakeRequest and its parts, as constants.
-/
import Derived.Test.YtbdlilalihgdeaaDoorMB12
namespace Go.Proofs.YtbdlilalihgdeaaDoor
open Go.ChangeShapes Go.WideShapes Go.ChangeAt Go.RowKit

def m_SASLHandshakeRequest : Msg := ⟨[.mk 8 0 (-1) (-1) (-1) 0 0 []], (-1)⟩
set_option maxHeartbeats 1600000 in
set_option maxRecDepth 100000 in
theorem c_SASLHandshakeRequest (w : World) : Calls Tryd.prog 6 #[] w fun e w' => ∃ c, e = .returned (.agg c.toArray) ∧ HM w' (fun k => w.heap.size ≤ k ∧ k < w'.heap.size) m_SASLHandshakeRequest c ∧ Keep [] w w' := by
  go_enter Tryd.func6, Tryd.ntmps6
  go_wp2
  refine bodyPost_ret (v := .agg #[.slice (some ⟨w.heap.size + 1, 0, none⟩) 1 1, .int .i64 (-1)]) (by simp [results, Tryd.results6, go_sem]) rfl ⟨[_, _], rfl, ⟨_, _, rfl, ?_⟩, ?_⟩
  · exact HFs.block (cs := [fcl8 8 0 (-1) (-1) (-1) 0 0 (.slice none 0 0)]) (alloc_at2 w _ _) (.cons (HF.flat _ _ _ _ _ _ _ _ _) .nil) rfl (by simp) rfl (by simp [m_SASLHandshakeRequest])
  · exact (keep_box _).alloc _
end Go.Proofs.YtbdlilalihgdeaaDoor
