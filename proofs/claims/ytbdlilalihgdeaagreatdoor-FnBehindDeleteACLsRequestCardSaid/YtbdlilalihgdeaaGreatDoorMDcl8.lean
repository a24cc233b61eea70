/-
  spec.DeleteACLsRequest and its parts, as constants.
-/
import Derived.Test.YtbdlilalihgdeaaGreatDoorMB12
namespace Go.Proofs.YtbdlilalihgdeaaGreatDoor
open Go.ChangeShapes Go.WideShapes Go.ChangeAt Go.RowKit

def p_DeleteACLsRequestFilter : List F := [.mk 1 0 (-1) (-1) (-1) 0 0 [], .mk 8 0 (-1) 0 (-1) 0 0 [], .mk 1 1 (-1) (-1) (-1) 3 0 [], .mk 8 0 (-1) 0 (-1) 0 0 [], .mk 8 0 (-1) 0 (-1) 0 0 [], .mk 1 0 (-1) (-1) (-1) 0 0 [], .mk 1 0 (-1) (-1) (-1) 0 0 []]
set_option maxHeartbeats 1600000 in
set_option maxRecDepth 100000 in
theorem c_DeleteACLsRequestFilter (w : World) : Calls Tryz.prog 58 #[] w fun e w' => ∃ v, e = .returned v ∧ HFs w' (fun k => w.heap.size ≤ k ∧ k < w'.heap.size) v p_DeleteACLsRequestFilter ∧ (∃ b, v = .slice (some ⟨b, 0, none⟩) 7 7) ∧ Keep [] w w' := by
  go_enter Tryz.func58, Tryz.ntmps58
  go_wp2
  go_ret
  refine ⟨_, rfl, ?_, ⟨_, rfl⟩, ?_⟩
  · exact HFs.block (cs := [fcl8 1 0 (-1) (-1) (-1) 0 0 (.slice none 0 0), fcl8 8 0 (-1) 0 (-1) 0 0 (.slice none 0 0), fcl8 1 1 (-1) (-1) (-1) 3 0 (.slice none 0 0), fcl8 8 0 (-1) 0 (-1) 0 0 (.slice none 0 0), fcl8 8 0 (-1) 0 (-1) 0 0 (.slice none 0 0), fcl8 1 0 (-1) (-1) (-1) 0 0 (.slice none 0 0), fcl8 1 0 (-1) (-1) (-1) 0 0 (.slice none 0 0)]) (heap_alloc_new w _) (.cons (HF.flat _ _ _ _ _ _ _ _ _) (.cons (HF.flat _ _ _ _ _ _ _ _ _) (.cons (HF.flat _ _ _ _ _ _ _ _ _) (.cons (HF.flat _ _ _ _ _ _ _ _ _) (.cons (HF.flat _ _ _ _ _ _ _ _ _) (.cons (HF.flat _ _ _ _ _ _ _ _ _) (.cons (HF.flat _ _ _ _ _ _ _ _ _) .nil))))))) rfl (by simp) rfl (by simp)
  · exact keep_box _
def m_DeleteACLsRequest : Msg := ⟨[.mk 11 0 (-1) (-1) (-1) 0 10 p_DeleteACLsRequestFilter], 2⟩
set_option maxHeartbeats 1600000 in
set_option maxRecDepth 100000 in
theorem c_DeleteACLsRequest (w : World) : Calls Tryz.prog 23 #[] w fun e w' => ∃ c, e = .returned (.agg c.toArray) ∧ HM w' (fun k => w.heap.size ≤ k ∧ k < w'.heap.size) m_DeleteACLsRequest c ∧ Keep [] w w' := by
  go_enter Tryz.func23, Tryz.ntmps23
  go_wp2_with (first
    | (go_at_call 58; go_loud (refine (c_DeleteACLsRequestFilter (w.alloc (.cells #[.slice none 0 0, .int .i64 0] 31))).mono ?_; rintro e w1 ⟨v1, rfl, g1, ⟨b1, rfl⟩, k1⟩; have K1 : Keep [] w w1 := (keep_box (A := []) _).trans k1; have hb1 : w1.heap[w.heap.size]? = some (.cells #[.slice none 0 0, .int .i64 0] 31) := (k1.block w.heap.size (by simp) (by simp)).trans (heap_alloc_new w _); have cA1 : w1.cell? ⟨w.heap.size, 0, none⟩ = some (.slice none 0 0) := cellOf hb1 0 _ rfl; have cB1 : w1.cell? ⟨w.heap.size, 1, none⟩ = some (.int .i64 0) := cellOf hb1 1 _ rfl; have fA1 := freeOf hb1 0; have fB1 := freeOf hb1 1; have lt1 : w.heap.size < w1.heap.size := World.heap_lt hb1; have ne1 : ¬ w.heap.size = w1.heap.size := Nat.ne_of_lt lt1)))
  refine bodyPost_ret (v := .agg #[.slice (some ⟨w1.heap.size, 0, none⟩) 1 1, .int .i64 2]) (by simp [results, Tryz.results23, go_sem, *]) rfl ⟨[_, _], rfl, ⟨_, _, rfl, ?_⟩, ?_⟩
  · have KF : Keep [w.heap.size] w1 ((w1.setCell ⟨w.heap.size, 0, none⟩ (.slice (some ⟨w1.heap.size, 0, none⟩) 1 1)).setCell ⟨w.heap.size, 1, none⟩ (.int .i64 2)) := ((Keep.refl _ _).setCell (.inl (by simp)) _).setCell (.inl (by simp)) _
    have hS : ((w1.setCell ⟨w.heap.size, 0, none⟩ (.slice (some ⟨w1.heap.size, 0, none⟩) 1 1)).setCell ⟨w.heap.size, 1, none⟩ (.int .i64 2)).heap.size = w1.heap.size := by simp
    have hN := heap_alloc_new ((w1.setCell ⟨w.heap.size, 0, none⟩ (.slice (some ⟨w1.heap.size, 0, none⟩) 1 1)).setCell ⟨w.heap.size, 1, none⟩ (.int .i64 2)) (.cells ([fcl8 11 0 (-1) (-1) (-1) 0 10 (.slice (some ⟨b1, 0, none⟩) 7 7)]).flatten.toArray 45)
    rw [hS] at hN
    exact HFs.block (cs := [fcl8 11 0 (-1) (-1) (-1) 0 10 (.slice (some ⟨b1, 0, none⟩) 7 7)]) hN (.cons (HF.deep _ _ _ _ _ _ _ (g1.keepF (fun q hq => ((((Keep.refl [w.heap.size] _)).trans KF).alloc _).block q hq.2 (by have h1 := hq.1; simp at h1 ⊢; omega)) (fun q hq => ⟨by have h1 := hq.1; simp at h1; omega, by have h2 := hq.2; have s1 := k1.size; simp; omega⟩))) .nil) rfl ⟨by have := K1.size; omega, by simp⟩ rfl (by simp [m_DeleteACLsRequest])
  · exact Keep.fresh (B := []) ((((K1.weaken (B := [w.heap.size]) (by simp)).setCell (.inl (by simp)) _).setCell (.inl (by simp)) _).alloc _) (by simp)
end Go.Proofs.YtbdlilalihgdeaaGreatDoor
