/-
  spec.DeleteShareGroupStateResponse and its parts, as constants.
-/
import Derived.Test.YtalgpkkphlfooaaGreatDoorMB12
namespace Go.Proofs.YtalgpkkphlfooaaGreatDoor
open Go.ChangeShapes Go.WideShapes Go.ChangeAt Go.RowKit

def p_DeleteShareGroupStateResponseTopicPartition : List F := [.mk 3 0 (-1) (-1) (-1) 0 0 [], .mk 2 0 (-1) (-1) (-1) 0 0 [], .mk 8 0 (-1) 0 (-1) 0 0 []]
set_option maxHeartbeats 1600000 in
set_option maxRecDepth 100000 in
theorem c_DeleteShareGroupStateResponseTopicPartition (w : World) : Calls Tryz.prog 90 #[] w fun e w' => ∃ v, e = .returned v ∧ HFs w' (fun k => w.heap.size ≤ k ∧ k < w'.heap.size) v p_DeleteShareGroupStateResponseTopicPartition ∧ (∃ b, v = .slice (some ⟨b, 0, none⟩) 3 3) ∧ Keep [] w w' := by
  go_enter Tryz.func90, Tryz.ntmps90
  go_wp2
  go_ret
  refine ⟨_, rfl, ?_, ⟨_, rfl⟩, ?_⟩
  · exact HFs.block (cs := [fcl8 3 0 (-1) (-1) (-1) 0 0 (.slice none 0 0), fcl8 2 0 (-1) (-1) (-1) 0 0 (.slice none 0 0), fcl8 8 0 (-1) 0 (-1) 0 0 (.slice none 0 0)]) (heap_alloc_new w _) (.cons (HF.flat _ _ _ _ _ _ _ _ _) (.cons (HF.flat _ _ _ _ _ _ _ _ _) (.cons (HF.flat _ _ _ _ _ _ _ _ _) .nil))) rfl (by simp) rfl (by simp)
  · exact keep_box _
def p_DeleteShareGroupStateResponseTopic : List F := [.mk 7 0 (-1) (-1) (-1) 0 0 [], .mk 11 0 (-1) (-1) (-1) 0 10 p_DeleteShareGroupStateResponseTopicPartition]
set_option maxHeartbeats 1600000 in
set_option maxRecDepth 100000 in
theorem c_DeleteShareGroupStateResponseTopic (w : World) : Calls Tryz.prog 44 #[] w fun e w' => ∃ v, e = .returned v ∧ HFs w' (fun k => w.heap.size ≤ k ∧ k < w'.heap.size) v p_DeleteShareGroupStateResponseTopic ∧ (∃ b, v = .slice (some ⟨b, 0, none⟩) 2 2) ∧ Keep [] w w' := by
  go_enter Tryz.func44, Tryz.ntmps44
  go_wp2_with (first
    | (go_at_call 90; go_loud (refine (c_DeleteShareGroupStateResponseTopicPartition w).mono ?_; rintro e w1 ⟨v1, rfl, g1, ⟨b1, rfl⟩, k1⟩)))
  go_ret
  refine ⟨_, rfl, ?_, ⟨_, rfl⟩, ?_⟩
  · exact HFs.block (cs := [fcl8 7 0 (-1) (-1) (-1) 0 0 (.slice none 0 0), fcl8 11 0 (-1) (-1) (-1) 0 10 (.slice (some ⟨b1, 0, none⟩) 3 3)]) (heap_alloc_new _ _) (.cons (HF.flat _ _ _ _ _ _ _ _ _) (.cons (HF.deep _ _ _ _ _ _ _ (g1.keepF (fun q hq => (((Keep.refl [] _)).alloc _).block q hq.2 (by simp)) (fun q hq => ⟨by have h1 := hq.1; have s1 := k1.size; omega, by have h1 := hq.2; have s1 := k1.size; simp; omega⟩))) .nil)) rfl ⟨by have s1 := k1.size; omega, by simp⟩ rfl (by simp)
  · exact k1.alloc _
def m_DeleteShareGroupStateResponse : Msg := ⟨[.mk 11 0 (-1) (-1) (-1) 0 10 p_DeleteShareGroupStateResponseTopic], 0⟩
set_option maxHeartbeats 1600000 in
set_option maxRecDepth 100000 in
theorem c_DeleteShareGroupStateResponse (w : World) : Calls Tryz.prog 19 #[] w fun e w' => ∃ c, e = .returned (.agg c.toArray) ∧ HM w' (fun k => w.heap.size ≤ k ∧ k < w'.heap.size) m_DeleteShareGroupStateResponse c ∧ Keep [] w w' := by
  go_enter Tryz.func19, Tryz.ntmps19
  go_wp2_with (first
    | (go_at_call 44; go_loud (refine (c_DeleteShareGroupStateResponseTopic (w.alloc (.cells #[.slice none 0 0, .int .i64 0] 31))).mono ?_; rintro e w1 ⟨v1, rfl, g1, ⟨b1, rfl⟩, k1⟩; have K1 : Keep [] w w1 := (keep_box (A := []) _).trans k1; have hb1 : w1.heap[w.heap.size]? = some (.cells #[.slice none 0 0, .int .i64 0] 31) := (k1.block w.heap.size (by simp) (by simp)).trans (heap_alloc_new w _); have cA1 : w1.cell? ⟨w.heap.size, 0, none⟩ = some (.slice none 0 0) := cellOf hb1 0 _ rfl; have cB1 : w1.cell? ⟨w.heap.size, 1, none⟩ = some (.int .i64 0) := cellOf hb1 1 _ rfl; have fA1 := freeOf hb1 0; have fB1 := freeOf hb1 1; have lt1 : w.heap.size < w1.heap.size := World.heap_lt hb1; have ne1 : ¬ w.heap.size = w1.heap.size := Nat.ne_of_lt lt1)))
  refine bodyPost_ret (v := .agg #[.slice (some ⟨w1.heap.size, 0, none⟩) 1 1, .int .i64 0]) (by simp [results, Tryz.results19, go_sem, *]) rfl ⟨[_, _], rfl, ⟨_, _, rfl, ?_⟩, ?_⟩
  · have KF : Keep [w.heap.size] w1 ((w1.setCell ⟨w.heap.size, 0, none⟩ (.slice (some ⟨w1.heap.size, 0, none⟩) 1 1)).setCell ⟨w.heap.size, 1, none⟩ (.int .i64 0)) := ((Keep.refl _ _).setCell (.inl (by simp)) _).setCell (.inl (by simp)) _
    have hS : ((w1.setCell ⟨w.heap.size, 0, none⟩ (.slice (some ⟨w1.heap.size, 0, none⟩) 1 1)).setCell ⟨w.heap.size, 1, none⟩ (.int .i64 0)).heap.size = w1.heap.size := by simp
    have hN := heap_alloc_new ((w1.setCell ⟨w.heap.size, 0, none⟩ (.slice (some ⟨w1.heap.size, 0, none⟩) 1 1)).setCell ⟨w.heap.size, 1, none⟩ (.int .i64 0)) (.cells ([fcl8 11 0 (-1) (-1) (-1) 0 10 (.slice (some ⟨b1, 0, none⟩) 2 2)]).flatten.toArray 45)
    rw [hS] at hN
    exact HFs.block (cs := [fcl8 11 0 (-1) (-1) (-1) 0 10 (.slice (some ⟨b1, 0, none⟩) 2 2)]) hN (.cons (HF.deep _ _ _ _ _ _ _ (g1.keepF (fun q hq => ((((Keep.refl [w.heap.size] _)).trans KF).alloc _).block q hq.2 (by have h1 := hq.1; simp at h1 ⊢; omega)) (fun q hq => ⟨by have h1 := hq.1; (try simp at h1); omega, by have h2 := hq.2; have s1 := k1.size; simp; omega⟩))) .nil) rfl ⟨by have := K1.size; omega, by simp⟩ rfl (by simp [m_DeleteShareGroupStateResponse])
  · exact Keep.fresh (B := []) ((((K1.weaken (B := [w.heap.size]) (by simp)).setCell (.inl (by simp)) _).setCell (.inl (by simp)) _).alloc _) (by simp)
end Go.Proofs.YtalgpkkphlfooaaGreatDoor
