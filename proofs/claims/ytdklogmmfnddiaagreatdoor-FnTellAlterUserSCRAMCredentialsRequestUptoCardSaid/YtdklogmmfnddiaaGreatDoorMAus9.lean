/-
  spec.AlterUserSCRAMCredentialsRequest and its parts, as constants.
-/
import Derived.Test.YtdklogmmfnddiaaGreatDoorMB12
namespace Go.Proofs.YtdklogmmfnddiaaGreatDoor
open Go.ChangeShapes Go.WideShapes Go.ChangeAt Go.RowKit

def p_AlterUserSCRAMCredentialsRequestDeletion : List F := [.mk 8 0 (-1) (-1) (-1) 0 0 [], .mk 1 0 (-1) (-1) (-1) 0 0 []]
set_option maxHeartbeats 1600000 in
set_option maxRecDepth 100000 in
theorem c_AlterUserSCRAMCredentialsRequestDeletion (w : World) : Calls Tryz.prog 39 #[] w fun e w' => ∃ v, e = .returned v ∧ HFs w' (fun k => w.heap.size ≤ k ∧ k < w'.heap.size) v p_AlterUserSCRAMCredentialsRequestDeletion ∧ (∃ b, v = .slice (some ⟨b, 0, none⟩) 2 2) ∧ Keep [] w w' := by
  go_enter Tryz.func39, Tryz.ntmps39
  go_wp2
  go_ret
  refine ⟨_, rfl, ?_, ⟨_, rfl⟩, ?_⟩
  · exact HFs.block (cs := [fcl8 8 0 (-1) (-1) (-1) 0 0 (.slice none 0 0), fcl8 1 0 (-1) (-1) (-1) 0 0 (.slice none 0 0)]) (heap_alloc_new w _) (.cons (HF.flat _ _ _ _ _ _ _ _ _) (.cons (HF.flat _ _ _ _ _ _ _ _ _) .nil)) rfl (by simp) rfl (by simp)
  · exact keep_box _
def p_AlterUserSCRAMCredentialsRequestUpsertion : List F := [.mk 8 0 (-1) (-1) (-1) 0 0 [], .mk 1 0 (-1) (-1) (-1) 0 0 [], .mk 3 0 (-1) (-1) (-1) 0 0 [], .mk 9 0 (-1) (-1) (-1) 0 0 [], .mk 9 0 (-1) (-1) (-1) 0 0 []]
set_option maxHeartbeats 1600000 in
set_option maxRecDepth 100000 in
theorem c_AlterUserSCRAMCredentialsRequestUpsertion (w : World) : Calls Tryz.prog 40 #[] w fun e w' => ∃ v, e = .returned v ∧ HFs w' (fun k => w.heap.size ≤ k ∧ k < w'.heap.size) v p_AlterUserSCRAMCredentialsRequestUpsertion ∧ (∃ b, v = .slice (some ⟨b, 0, none⟩) 5 5) ∧ Keep [] w w' := by
  go_enter Tryz.func40, Tryz.ntmps40
  go_wp2
  go_ret
  refine ⟨_, rfl, ?_, ⟨_, rfl⟩, ?_⟩
  · exact HFs.block (cs := [fcl8 8 0 (-1) (-1) (-1) 0 0 (.slice none 0 0), fcl8 1 0 (-1) (-1) (-1) 0 0 (.slice none 0 0), fcl8 3 0 (-1) (-1) (-1) 0 0 (.slice none 0 0), fcl8 9 0 (-1) (-1) (-1) 0 0 (.slice none 0 0), fcl8 9 0 (-1) (-1) (-1) 0 0 (.slice none 0 0)]) (heap_alloc_new w _) (.cons (HF.flat _ _ _ _ _ _ _ _ _) (.cons (HF.flat _ _ _ _ _ _ _ _ _) (.cons (HF.flat _ _ _ _ _ _ _ _ _) (.cons (HF.flat _ _ _ _ _ _ _ _ _) (.cons (HF.flat _ _ _ _ _ _ _ _ _) .nil))))) rfl (by simp) rfl (by simp)
  · exact keep_box _
def m_AlterUserSCRAMCredentialsRequest : Msg := ⟨[.mk 11 0 (-1) (-1) (-1) 0 10 p_AlterUserSCRAMCredentialsRequestDeletion, .mk 11 0 (-1) (-1) (-1) 0 10 p_AlterUserSCRAMCredentialsRequestUpsertion], 0⟩
set_option maxHeartbeats 1600000 in
set_option maxRecDepth 100000 in
theorem c_AlterUserSCRAMCredentialsRequest (w : World) : Calls Tryz.prog 16 #[] w fun e w' => ∃ c, e = .returned (.agg c.toArray) ∧ HM w' (fun k => w.heap.size ≤ k ∧ k < w'.heap.size) m_AlterUserSCRAMCredentialsRequest c ∧ Keep [] w w' := by
  go_enter Tryz.func16, Tryz.ntmps16
  go_wp2_with (first
    | (go_at_call 40; go_loud (refine (c_AlterUserSCRAMCredentialsRequestUpsertion w1).mono ?_; rintro e w2 ⟨v2, rfl, g2, ⟨b2, rfl⟩, k2⟩; have K2 : Keep [] w w2 := K1.trans k2; have hb2 : w2.heap[w.heap.size]? = some (.cells #[.slice none 0 0, .int .i64 0] 31) := (k2.block w.heap.size (by have := K1.size; have := World.heap_lt hb1; omega) (by simp)).trans hb1; have cA2 : w2.cell? ⟨w.heap.size, 0, none⟩ = some (.slice none 0 0) := cellOf hb2 0 _ rfl; have cB2 : w2.cell? ⟨w.heap.size, 1, none⟩ = some (.int .i64 0) := cellOf hb2 1 _ rfl; have fA2 := freeOf hb2 0; have fB2 := freeOf hb2 1; have lt2 : w.heap.size < w2.heap.size := World.heap_lt hb2; have ne2 : ¬ w.heap.size = w2.heap.size := Nat.ne_of_lt lt2; clear cA1 cB1 fA1 fB1 lt1 ne1))
    | (go_at_call 39; go_loud (refine (c_AlterUserSCRAMCredentialsRequestDeletion (w.alloc (.cells #[.slice none 0 0, .int .i64 0] 31))).mono ?_; rintro e w1 ⟨v1, rfl, g1, ⟨b1, rfl⟩, k1⟩; have K1 : Keep [] w w1 := (keep_box (A := []) _).trans k1; have hb1 : w1.heap[w.heap.size]? = some (.cells #[.slice none 0 0, .int .i64 0] 31) := (k1.block w.heap.size (by simp) (by simp)).trans (heap_alloc_new w _); have cA1 : w1.cell? ⟨w.heap.size, 0, none⟩ = some (.slice none 0 0) := cellOf hb1 0 _ rfl; have cB1 : w1.cell? ⟨w.heap.size, 1, none⟩ = some (.int .i64 0) := cellOf hb1 1 _ rfl; have fA1 := freeOf hb1 0; have fB1 := freeOf hb1 1; have lt1 : w.heap.size < w1.heap.size := World.heap_lt hb1; have ne1 : ¬ w.heap.size = w1.heap.size := Nat.ne_of_lt lt1)))
  refine bodyPost_ret (v := .agg #[.slice (some ⟨w2.heap.size, 0, none⟩) 2 2, .int .i64 0]) (by simp [results, Tryz.results16, go_sem, *]) rfl ⟨[_, _], rfl, ⟨_, _, rfl, ?_⟩, ?_⟩
  · have KF : Keep [w.heap.size] w2 ((w2.setCell ⟨w.heap.size, 0, none⟩ (.slice (some ⟨w2.heap.size, 0, none⟩) 2 2)).setCell ⟨w.heap.size, 1, none⟩ (.int .i64 0)) := ((Keep.refl _ _).setCell (.inl (by simp)) _).setCell (.inl (by simp)) _
    have hS : ((w2.setCell ⟨w.heap.size, 0, none⟩ (.slice (some ⟨w2.heap.size, 0, none⟩) 2 2)).setCell ⟨w.heap.size, 1, none⟩ (.int .i64 0)).heap.size = w2.heap.size := by simp
    have hN := heap_alloc_new ((w2.setCell ⟨w.heap.size, 0, none⟩ (.slice (some ⟨w2.heap.size, 0, none⟩) 2 2)).setCell ⟨w.heap.size, 1, none⟩ (.int .i64 0)) (.cells ([fcl8 11 0 (-1) (-1) (-1) 0 10 (.slice (some ⟨b1, 0, none⟩) 2 2), fcl8 11 0 (-1) (-1) (-1) 0 10 (.slice (some ⟨b2, 0, none⟩) 5 5)]).flatten.toArray 52)
    rw [hS] at hN
    exact HFs.block (cs := [fcl8 11 0 (-1) (-1) (-1) 0 10 (.slice (some ⟨b1, 0, none⟩) 2 2), fcl8 11 0 (-1) (-1) (-1) 0 10 (.slice (some ⟨b2, 0, none⟩) 5 5)]) hN (.cons (HF.deep _ _ _ _ _ _ _ (g1.keepF (fun q hq => ((((Keep.refl [w.heap.size] _).trans (k2.weaken (by simp))).trans KF).alloc _).block q hq.2 (by have h1 := hq.1; simp at h1 ⊢; omega)) (fun q hq => ⟨by have h1 := hq.1; (try simp at h1); omega, by have h2 := hq.2; have s1 := k1.size; have s2 := k2.size; simp; omega⟩))) (.cons (HF.deep _ _ _ _ _ _ _ (g2.keepF (fun q hq => ((((Keep.refl [w.heap.size] _)).trans KF).alloc _).block q hq.2 (by have h1 := hq.1; have hl := World.heap_lt hb1; simp at h1 ⊢; omega)) (fun q hq => ⟨by have h1 := hq.1; have hl := World.heap_lt hb1; (try simp at h1); omega, by have h2 := hq.2; have s1 := k1.size; have s2 := k2.size; simp; omega⟩))) .nil)) rfl ⟨by have := K2.size; omega, by simp⟩ rfl (by simp [m_AlterUserSCRAMCredentialsRequest])
  · exact Keep.fresh (B := []) ((((K2.weaken (B := [w.heap.size]) (by simp)).setCell (.inl (by simp)) _).setCell (.inl (by simp)) _).alloc _) (by simp)
end Go.Proofs.YtdklogmmfnddiaaGreatDoor
