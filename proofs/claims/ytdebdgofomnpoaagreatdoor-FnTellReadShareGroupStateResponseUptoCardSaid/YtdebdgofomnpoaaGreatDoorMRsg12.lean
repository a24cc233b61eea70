/-
  spec.ReadShareGroupStateResponse and its parts, as constants.
-/
import Derived.Test.YtdebdgofomnpoaaGreatDoorMB12
namespace Go.Proofs.YtdebdgofomnpoaaGreatDoor
open Go.ChangeShapes Go.WideShapes Go.ChangeAt Go.RowKit

def p_ReadShareGroupStateResponseTopicPartitionStateBatch : List F := [.mk 4 0 (-1) (-1) (-1) 0 0 [], .mk 4 0 (-1) (-1) (-1) 0 0 [], .mk 1 0 (-1) (-1) (-1) 0 0 [], .mk 2 0 (-1) (-1) (-1) 0 0 []]
set_option maxHeartbeats 1600000 in
set_option maxRecDepth 100000 in
theorem c_ReadShareGroupStateResponseTopicPartitionStateBatch (w : World) : Calls Tryz.prog 264 #[] w fun e w' => ∃ v, e = .returned v ∧ HFs w' (fun k => w.heap.size ≤ k ∧ k < w'.heap.size) v p_ReadShareGroupStateResponseTopicPartitionStateBatch ∧ (∃ b, v = .slice (some ⟨b, 0, none⟩) 4 4) ∧ Keep [] w w' := by
  go_enter Tryz.func264, Tryz.ntmps264
  go_wp2
  go_ret
  refine ⟨_, rfl, ?_, ⟨_, rfl⟩, ?_⟩
  · exact HFs.block (cs := [fcl8 4 0 (-1) (-1) (-1) 0 0 (.slice none 0 0), fcl8 4 0 (-1) (-1) (-1) 0 0 (.slice none 0 0), fcl8 1 0 (-1) (-1) (-1) 0 0 (.slice none 0 0), fcl8 2 0 (-1) (-1) (-1) 0 0 (.slice none 0 0)]) (heap_alloc_new w _) (.cons (HF.flat _ _ _ _ _ _ _ _ _) (.cons (HF.flat _ _ _ _ _ _ _ _ _) (.cons (HF.flat _ _ _ _ _ _ _ _ _) (.cons (HF.flat _ _ _ _ _ _ _ _ _) .nil)))) rfl (by simp) rfl (by simp)
  · exact keep_box _
def p_ReadShareGroupStateResponseTopicPartition : List F := [.mk 3 0 (-1) (-1) (-1) 0 0 [], .mk 2 0 (-1) (-1) (-1) 0 0 [], .mk 8 0 (-1) 0 (-1) 0 0 [], .mk 3 0 (-1) (-1) (-1) 0 0 [], .mk 4 0 (-1) (-1) (-1) 0 0 [], .mk 11 0 (-1) (-1) (-1) 0 10 p_ReadShareGroupStateResponseTopicPartitionStateBatch]
set_option maxHeartbeats 1600000 in
set_option maxRecDepth 100000 in
theorem c_ReadShareGroupStateResponseTopicPartition (w : World) : Calls Tryz.prog 193 #[] w fun e w' => ∃ v, e = .returned v ∧ HFs w' (fun k => w.heap.size ≤ k ∧ k < w'.heap.size) v p_ReadShareGroupStateResponseTopicPartition ∧ (∃ b, v = .slice (some ⟨b, 0, none⟩) 6 6) ∧ Keep [] w w' := by
  go_enter Tryz.func193, Tryz.ntmps193
  go_wp2_with (first
    | (go_at_call 264; go_loud (refine (c_ReadShareGroupStateResponseTopicPartitionStateBatch w).mono ?_; rintro e w1 ⟨v1, rfl, g1, ⟨b1, rfl⟩, k1⟩)))
  go_ret
  refine ⟨_, rfl, ?_, ⟨_, rfl⟩, ?_⟩
  · exact HFs.block (cs := [fcl8 3 0 (-1) (-1) (-1) 0 0 (.slice none 0 0), fcl8 2 0 (-1) (-1) (-1) 0 0 (.slice none 0 0), fcl8 8 0 (-1) 0 (-1) 0 0 (.slice none 0 0), fcl8 3 0 (-1) (-1) (-1) 0 0 (.slice none 0 0), fcl8 4 0 (-1) (-1) (-1) 0 0 (.slice none 0 0), fcl8 11 0 (-1) (-1) (-1) 0 10 (.slice (some ⟨b1, 0, none⟩) 4 4)]) (heap_alloc_new _ _) (.cons (HF.flat _ _ _ _ _ _ _ _ _) (.cons (HF.flat _ _ _ _ _ _ _ _ _) (.cons (HF.flat _ _ _ _ _ _ _ _ _) (.cons (HF.flat _ _ _ _ _ _ _ _ _) (.cons (HF.flat _ _ _ _ _ _ _ _ _) (.cons (HF.deep _ _ _ _ _ _ _ (g1.keepF (fun q hq => (((Keep.refl [] _)).alloc _).block q hq.2 (by simp)) (fun q hq => ⟨by have h1 := hq.1; have s1 := k1.size; omega, by have h1 := hq.2; have s1 := k1.size; simp; omega⟩))) .nil)))))) rfl ⟨by have s1 := k1.size; omega, by simp⟩ rfl (by simp)
  · exact k1.alloc _
def p_ReadShareGroupStateResponseTopic : List F := [.mk 7 0 (-1) (-1) (-1) 0 0 [], .mk 11 0 (-1) (-1) (-1) 0 10 p_ReadShareGroupStateResponseTopicPartition]
set_option maxHeartbeats 1600000 in
set_option maxRecDepth 100000 in
theorem c_ReadShareGroupStateResponseTopic (w : World) : Calls Tryz.prog 118 #[] w fun e w' => ∃ v, e = .returned v ∧ HFs w' (fun k => w.heap.size ≤ k ∧ k < w'.heap.size) v p_ReadShareGroupStateResponseTopic ∧ (∃ b, v = .slice (some ⟨b, 0, none⟩) 2 2) ∧ Keep [] w w' := by
  go_enter Tryz.func118, Tryz.ntmps118
  go_wp2_with (first
    | (go_at_call 193; go_loud (refine (c_ReadShareGroupStateResponseTopicPartition w).mono ?_; rintro e w1 ⟨v1, rfl, g1, ⟨b1, rfl⟩, k1⟩)))
  go_ret
  refine ⟨_, rfl, ?_, ⟨_, rfl⟩, ?_⟩
  · exact HFs.block (cs := [fcl8 7 0 (-1) (-1) (-1) 0 0 (.slice none 0 0), fcl8 11 0 (-1) (-1) (-1) 0 10 (.slice (some ⟨b1, 0, none⟩) 6 6)]) (heap_alloc_new _ _) (.cons (HF.flat _ _ _ _ _ _ _ _ _) (.cons (HF.deep _ _ _ _ _ _ _ (g1.keepF (fun q hq => (((Keep.refl [] _)).alloc _).block q hq.2 (by simp)) (fun q hq => ⟨by have h1 := hq.1; have s1 := k1.size; omega, by have h1 := hq.2; have s1 := k1.size; simp; omega⟩))) .nil)) rfl ⟨by have s1 := k1.size; omega, by simp⟩ rfl (by simp)
  · exact k1.alloc _
def m_ReadShareGroupStateResponse : Msg := ⟨[.mk 11 0 (-1) (-1) (-1) 0 10 p_ReadShareGroupStateResponseTopic], 0⟩
set_option maxHeartbeats 1600000 in
set_option maxRecDepth 100000 in
theorem c_ReadShareGroupStateResponse (w : World) : Calls Tryz.prog 46 #[] w fun e w' => ∃ c, e = .returned (.agg c.toArray) ∧ HM w' (fun k => w.heap.size ≤ k ∧ k < w'.heap.size) m_ReadShareGroupStateResponse c ∧ Keep [] w w' := by
  go_enter Tryz.func46, Tryz.ntmps46
  go_wp2_with (first
    | (go_at_call 118; go_loud (refine (c_ReadShareGroupStateResponseTopic (w.alloc (.cells #[.slice none 0 0, .int .i64 0] 31))).mono ?_; rintro e w1 ⟨v1, rfl, g1, ⟨b1, rfl⟩, k1⟩; have K1 : Keep [] w w1 := (keep_box (A := []) _).trans k1; have hb1 : w1.heap[w.heap.size]? = some (.cells #[.slice none 0 0, .int .i64 0] 31) := (k1.block w.heap.size (by simp) (by simp)).trans (heap_alloc_new w _); have cA1 : w1.cell? ⟨w.heap.size, 0, none⟩ = some (.slice none 0 0) := cellOf hb1 0 _ rfl; have cB1 : w1.cell? ⟨w.heap.size, 1, none⟩ = some (.int .i64 0) := cellOf hb1 1 _ rfl; have fA1 := freeOf hb1 0; have fB1 := freeOf hb1 1; have lt1 : w.heap.size < w1.heap.size := World.heap_lt hb1; have ne1 : ¬ w.heap.size = w1.heap.size := Nat.ne_of_lt lt1)))
  refine bodyPost_ret (v := .agg #[.slice (some ⟨w1.heap.size, 0, none⟩) 1 1, .int .i64 0]) (by simp [results, Tryz.results46, go_sem, *]) rfl ⟨[_, _], rfl, ⟨_, _, rfl, ?_⟩, ?_⟩
  · have KF : Keep [w.heap.size] w1 ((w1.setCell ⟨w.heap.size, 0, none⟩ (.slice (some ⟨w1.heap.size, 0, none⟩) 1 1)).setCell ⟨w.heap.size, 1, none⟩ (.int .i64 0)) := ((Keep.refl _ _).setCell (.inl (by simp)) _).setCell (.inl (by simp)) _
    have hS : ((w1.setCell ⟨w.heap.size, 0, none⟩ (.slice (some ⟨w1.heap.size, 0, none⟩) 1 1)).setCell ⟨w.heap.size, 1, none⟩ (.int .i64 0)).heap.size = w1.heap.size := by simp
    have hN := heap_alloc_new ((w1.setCell ⟨w.heap.size, 0, none⟩ (.slice (some ⟨w1.heap.size, 0, none⟩) 1 1)).setCell ⟨w.heap.size, 1, none⟩ (.int .i64 0)) (.cells ([fcl8 11 0 (-1) (-1) (-1) 0 10 (.slice (some ⟨b1, 0, none⟩) 2 2)]).flatten.toArray 51)
    rw [hS] at hN
    exact HFs.block (cs := [fcl8 11 0 (-1) (-1) (-1) 0 10 (.slice (some ⟨b1, 0, none⟩) 2 2)]) hN (.cons (HF.deep _ _ _ _ _ _ _ (g1.keepF (fun q hq => ((((Keep.refl [w.heap.size] _)).trans KF).alloc _).block q hq.2 (by have h1 := hq.1; simp at h1 ⊢; omega)) (fun q hq => ⟨by have h1 := hq.1; (try simp at h1); omega, by have h2 := hq.2; have s1 := k1.size; simp; omega⟩))) .nil) rfl ⟨by have := K1.size; omega, by simp⟩ rfl (by simp [m_ReadShareGroupStateResponse])
  · exact Keep.fresh (B := []) ((((K1.weaken (B := [w.heap.size]) (by simp)).setCell (.inl (by simp)) _).setCell (.inl (by simp)) _).alloc _) (by simp)
end Go.Proofs.YtdebdgofomnpoaaGreatDoor
