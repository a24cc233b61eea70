/-
  spec.DescribeDelegationTokenResponse and its parts, as constants.
-/
import Derived.Test.YtdklogmmfnddiaaGreatDoorMB12
namespace Go.Proofs.YtdklogmmfnddiaaGreatDoor
open Go.ChangeShapes Go.WideShapes Go.ChangeAt Go.RowKit

def p_DescribeDelegationTokenResponseTokenDetailRenewer : List F := [.mk 8 0 (-1) (-1) (-1) 0 0 [], .mk 8 0 (-1) (-1) (-1) 0 0 []]
set_option maxHeartbeats 1600000 in
set_option maxRecDepth 100000 in
theorem c_DescribeDelegationTokenResponseTokenDetailRenewer (w : World) : Calls Tryz.prog 72 #[] w fun e w' => ∃ v, e = .returned v ∧ HFs w' (fun k => w.heap.size ≤ k ∧ k < w'.heap.size) v p_DescribeDelegationTokenResponseTokenDetailRenewer ∧ (∃ b, v = .slice (some ⟨b, 0, none⟩) 2 2) ∧ Keep [] w w' := by
  go_enter Tryz.func72, Tryz.ntmps72
  go_wp2
  go_ret
  refine ⟨_, rfl, ?_, ⟨_, rfl⟩, ?_⟩
  · exact HFs.block (cs := [fcl8 8 0 (-1) (-1) (-1) 0 0 (.slice none 0 0), fcl8 8 0 (-1) (-1) (-1) 0 0 (.slice none 0 0)]) (heap_alloc_new w _) (.cons (HF.flat _ _ _ _ _ _ _ _ _) (.cons (HF.flat _ _ _ _ _ _ _ _ _) .nil)) rfl (by simp) rfl (by simp)
  · exact keep_box _
def p_DescribeDelegationTokenResponseTokenDetail : List F := [.mk 8 0 (-1) (-1) (-1) 0 0 [], .mk 8 0 (-1) (-1) (-1) 0 0 [], .mk 8 3 (-1) (-1) (-1) 0 0 [], .mk 8 3 (-1) (-1) (-1) 0 0 [], .mk 4 0 (-1) (-1) (-1) 0 0 [], .mk 4 0 (-1) (-1) (-1) 0 0 [], .mk 4 0 (-1) (-1) (-1) 0 0 [], .mk 8 0 (-1) (-1) (-1) 0 0 [], .mk 9 0 (-1) (-1) (-1) 0 0 [], .mk 11 0 (-1) (-1) (-1) 0 10 p_DescribeDelegationTokenResponseTokenDetailRenewer]
set_option maxHeartbeats 1600000 in
set_option maxRecDepth 100000 in
theorem c_DescribeDelegationTokenResponseTokenDetail (w : World) : Calls Tryz.prog 46 #[] w fun e w' => ∃ v, e = .returned v ∧ HFs w' (fun k => w.heap.size ≤ k ∧ k < w'.heap.size) v p_DescribeDelegationTokenResponseTokenDetail ∧ (∃ b, v = .slice (some ⟨b, 0, none⟩) 10 10) ∧ Keep [] w w' := by
  go_enter Tryz.func46, Tryz.ntmps46
  go_wp2_with (first
    | (go_at_call 72; go_loud (refine (c_DescribeDelegationTokenResponseTokenDetailRenewer w).mono ?_; rintro e w1 ⟨v1, rfl, g1, ⟨b1, rfl⟩, k1⟩)))
  go_ret
  refine ⟨_, rfl, ?_, ⟨_, rfl⟩, ?_⟩
  · exact HFs.block (cs := [fcl8 8 0 (-1) (-1) (-1) 0 0 (.slice none 0 0), fcl8 8 0 (-1) (-1) (-1) 0 0 (.slice none 0 0), fcl8 8 3 (-1) (-1) (-1) 0 0 (.slice none 0 0), fcl8 8 3 (-1) (-1) (-1) 0 0 (.slice none 0 0), fcl8 4 0 (-1) (-1) (-1) 0 0 (.slice none 0 0), fcl8 4 0 (-1) (-1) (-1) 0 0 (.slice none 0 0), fcl8 4 0 (-1) (-1) (-1) 0 0 (.slice none 0 0), fcl8 8 0 (-1) (-1) (-1) 0 0 (.slice none 0 0), fcl8 9 0 (-1) (-1) (-1) 0 0 (.slice none 0 0), fcl8 11 0 (-1) (-1) (-1) 0 10 (.slice (some ⟨b1, 0, none⟩) 2 2)]) (heap_alloc_new _ _) (.cons (HF.flat _ _ _ _ _ _ _ _ _) (.cons (HF.flat _ _ _ _ _ _ _ _ _) (.cons (HF.flat _ _ _ _ _ _ _ _ _) (.cons (HF.flat _ _ _ _ _ _ _ _ _) (.cons (HF.flat _ _ _ _ _ _ _ _ _) (.cons (HF.flat _ _ _ _ _ _ _ _ _) (.cons (HF.flat _ _ _ _ _ _ _ _ _) (.cons (HF.flat _ _ _ _ _ _ _ _ _) (.cons (HF.flat _ _ _ _ _ _ _ _ _) (.cons (HF.deep _ _ _ _ _ _ _ (g1.keepF (fun q hq => (((Keep.refl [] _)).alloc _).block q hq.2 (by simp)) (fun q hq => ⟨by have h1 := hq.1; have s1 := k1.size; omega, by have h1 := hq.2; have s1 := k1.size; simp; omega⟩))) .nil)))))))))) rfl ⟨by have s1 := k1.size; omega, by simp⟩ rfl (by simp)
  · exact k1.alloc _
def m_DescribeDelegationTokenResponse : Msg := ⟨[.mk 2 0 (-1) (-1) (-1) 0 0 [], .mk 11 0 (-1) (-1) (-1) 0 10 p_DescribeDelegationTokenResponseTokenDetail, .mk 3 0 (-1) (-1) (-1) 0 0 []], 2⟩
set_option maxHeartbeats 1600000 in
set_option maxRecDepth 100000 in
theorem c_DescribeDelegationTokenResponse (w : World) : Calls Tryz.prog 19 #[] w fun e w' => ∃ c, e = .returned (.agg c.toArray) ∧ HM w' (fun k => w.heap.size ≤ k ∧ k < w'.heap.size) m_DescribeDelegationTokenResponse c ∧ Keep [] w w' := by
  go_enter Tryz.func19, Tryz.ntmps19
  go_wp2_with (first
    | (go_at_call 46; go_loud (refine (c_DescribeDelegationTokenResponseTokenDetail (w.alloc (.cells #[.slice none 0 0, .int .i64 0] 31))).mono ?_; rintro e w1 ⟨v1, rfl, g1, ⟨b1, rfl⟩, k1⟩; have K1 : Keep [] w w1 := (keep_box (A := []) _).trans k1; have hb1 : w1.heap[w.heap.size]? = some (.cells #[.slice none 0 0, .int .i64 0] 31) := (k1.block w.heap.size (by simp) (by simp)).trans (heap_alloc_new w _); have cA1 : w1.cell? ⟨w.heap.size, 0, none⟩ = some (.slice none 0 0) := cellOf hb1 0 _ rfl; have cB1 : w1.cell? ⟨w.heap.size, 1, none⟩ = some (.int .i64 0) := cellOf hb1 1 _ rfl; have fA1 := freeOf hb1 0; have fB1 := freeOf hb1 1; have lt1 : w.heap.size < w1.heap.size := World.heap_lt hb1; have ne1 : ¬ w.heap.size = w1.heap.size := Nat.ne_of_lt lt1)))
  refine bodyPost_ret (v := .agg #[.slice (some ⟨w1.heap.size, 0, none⟩) 3 3, .int .i64 2]) (by simp [results, Tryz.results19, go_sem, *]) rfl ⟨[_, _], rfl, ⟨_, _, rfl, ?_⟩, ?_⟩
  · have KF : Keep [w.heap.size] w1 ((w1.setCell ⟨w.heap.size, 0, none⟩ (.slice (some ⟨w1.heap.size, 0, none⟩) 3 3)).setCell ⟨w.heap.size, 1, none⟩ (.int .i64 2)) := ((Keep.refl _ _).setCell (.inl (by simp)) _).setCell (.inl (by simp)) _
    have hS : ((w1.setCell ⟨w.heap.size, 0, none⟩ (.slice (some ⟨w1.heap.size, 0, none⟩) 3 3)).setCell ⟨w.heap.size, 1, none⟩ (.int .i64 2)).heap.size = w1.heap.size := by simp
    have hN := heap_alloc_new ((w1.setCell ⟨w.heap.size, 0, none⟩ (.slice (some ⟨w1.heap.size, 0, none⟩) 3 3)).setCell ⟨w.heap.size, 1, none⟩ (.int .i64 2)) (.cells ([fcl8 2 0 (-1) (-1) (-1) 0 0 (.slice none 0 0), fcl8 11 0 (-1) (-1) (-1) 0 10 (.slice (some ⟨b1, 0, none⟩) 10 10), fcl8 3 0 (-1) (-1) (-1) 0 0 (.slice none 0 0)]).flatten.toArray 52)
    rw [hS] at hN
    exact HFs.block (cs := [fcl8 2 0 (-1) (-1) (-1) 0 0 (.slice none 0 0), fcl8 11 0 (-1) (-1) (-1) 0 10 (.slice (some ⟨b1, 0, none⟩) 10 10), fcl8 3 0 (-1) (-1) (-1) 0 0 (.slice none 0 0)]) hN (.cons (HF.flat _ _ _ _ _ _ _ _ _) (.cons (HF.deep _ _ _ _ _ _ _ (g1.keepF (fun q hq => ((((Keep.refl [w.heap.size] _)).trans KF).alloc _).block q hq.2 (by have h1 := hq.1; simp at h1 ⊢; omega)) (fun q hq => ⟨by have h1 := hq.1; (try simp at h1); omega, by have h2 := hq.2; have s1 := k1.size; simp; omega⟩))) (.cons (HF.flat _ _ _ _ _ _ _ _ _) .nil))) rfl ⟨by have := K1.size; omega, by simp⟩ rfl (by simp [m_DescribeDelegationTokenResponse])
  · exact Keep.fresh (B := []) ((((K1.weaken (B := [w.heap.size]) (by simp)).setCell (.inl (by simp)) _).setCell (.inl (by simp)) _).alloc _) (by simp)
end Go.Proofs.YtdklogmmfnddiaaGreatDoor
