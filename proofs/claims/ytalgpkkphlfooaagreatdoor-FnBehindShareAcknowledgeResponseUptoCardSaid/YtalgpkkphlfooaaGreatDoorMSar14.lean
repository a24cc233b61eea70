/-
  laws.FnBehindShareAcknowledgeResponse.
-/
import Derived.Test.YtalgpkkphlfooaaGreatDoorMSar13
import Derived.Test.YtalgpkkphlfooaaGreatDoorMB5
import Derived.Test.YtalgpkkphlfooaaGreatDoorMB14
namespace Go.Proofs.YtalgpkkphlfooaaGreatDoor
open Go.ChangeShapes Go.WideShapes Go.ChangeAt Go.RowKit

theorem sar_wf (v : Int) : wfFs (m_ShareAcknowledgeResponse.flexible v) m_ShareAcknowledgeResponse.fields = true := by
  cases m_ShareAcknowledgeResponse.flexible v <;> decide
theorem sar_narrow : narrows 1000000 m_ShareAcknowledgeResponse.fields ∧ m_ShareAcknowledgeResponse.fields.length ≤ 1000000 := by
  simp [m_ShareAcknowledgeResponse, narrows, narrow, p_ShareAcknowledgeResponseTopicPartitionCurrentLeader, p_ShareAcknowledgeResponseTopicPartition, p_ShareAcknowledgeResponseTopic, p_ShareAcknowledgeResponseNodeEndpoint]
set_option maxHeartbeats 1600000 in
set_option maxRecDepth 100000 in
theorem sar_law {G : Nat → Prop} {p : Addr} {acc : Bs} {n : Int} {dst : Value} {t : T} {c : List Value} {w : World} (hn : 0 ≤ n ∧ n ≤ 255) (hd : RB w G dst acc) (ht : HT w G t c) (hk : keysT t) (hsz : ∀ v, 0 ≤ v → (writeP m_ShareAcknowledgeResponse v t).length ≤ 35990000000000) (hG : There G w) (hg : Gl w p) :
    Calls Tryz.prog 7 #[.int .u8 n, dst, .agg c.toArray] w fun e w' => e = .returned (.bool true) ∧ Keep [] w w' := by
  obtain ⟨ad, capd, rfl⟩ := RS.shape hd
  have hv : 0 ≤ n % (2 + 1) ∧ n % (2 + 1) ≤ 2 := by omega
  have VA := fun W => version_any hn (m := 2) (by omega) W
  have hlen := hsz (n % (2 + 1)) hv.1
  have hrd : rdPart q_ShareAcknowledgeResponse (n % (2 + 1)) (m_ShareAcknowledgeResponse.flexible (n % (2 + 1))) (writeP m_ShareAcknowledgeResponse (n % (2 + 1)) t, false) = (tdPart q_ShareAcknowledgeResponse (n % (2 + 1)) (m_ShareAcknowledgeResponse.flexible (n % (2 + 1))) t, ([], false)) := by
    have h := rdPart_app hv.1 (sar_wf (n % (2 + 1))) hk []
    rw [List.append_nil] at h
    exact h
  have hap : apPart q_ShareAcknowledgeResponse (n % (2 + 1)) (m_ShareAcknowledgeResponse.flexible (n % (2 + 1))) (tdPart q_ShareAcknowledgeResponse (n % (2 + 1)) (m_ShareAcknowledgeResponse.flexible (n % (2 + 1))) t) = writeP m_ShareAcknowledgeResponse (n % (2 + 1)) t := apPart_td (sar_wf (n % (2 + 1))) t
  have hsm : small 1000000 (tdPart q_ShareAcknowledgeResponse (n % (2 + 1)) (m_ShareAcknowledgeResponse.flexible (n % (2 + 1))) t) := tdPart_small (by omega) sar_narrow.1 sar_narrow.2 _ _ t
  have FT := fun W (hW : Keep [] w W) => fits1_some (ht.keepF (hG.same hW) (fun _ h => h)) (hG.keep hW)
  have WR := fun cm W (hW : Keep [] w W) (hm : HM W (fun k => w.heap.size ≤ k ∧ k < W.heap.size) m_ShareAcknowledgeResponse cm) =>
    write_any (G := fun k => G k ∨ (w.heap.size ≤ k ∧ k < W.heap.size)) (v := n % (2 + 1)) (partSaid_wf _ _ _ (fun e => by have := sar_wf (n % (2 + 1)); rw [e] at this; exact this)) (hm.keepF (fun k h => rfl) (fun k h => .inr h)) (ht.keepF (hG.same hW) (fun _ h => .inl h)) (fun k h => h.elim (fun h => hG.keep hW k h) (fun h => h.2)) (by omega)
  obtain ⟨az, ps, al, pl, au, pu, rfl, -⟩ := id ht.cells
  generalize tdPart q_ShareAcknowledgeResponse (n % (2 + 1)) (m_ShareAcknowledgeResponse.flexible (n % (2 + 1))) t = TD at *
  generalize hvv : n % (2 + 1) = v at *
  clear hvv hsz
  generalize writeP m_ShareAcknowledgeResponse v t = WP at *
  by_cases h1 : acc.length ≤ 2147483647
  · by_cases h2 : 1000 < acc.length
    · go_enter Tryz.func7, Tryz.ntmps7
      go_wp2_with (first
        | (go_at_call 8; go_loud (refine (FT _ (keep_box _)).mono ?_; rintro e w0 ⟨x0, rfl, k0⟩; cases x0))
        | (go_at_call 24; refine (sar_Max _).mono ?_; rintro e w1 ⟨rfl, k1⟩)
        | (go_at_call 11; refine (VA _).mono ?_; rintro e wv ⟨rfl, rfl⟩)
        | (go_at_call 25; go_loud (refine (c_ShareAcknowledgeResponse _).mono ?_; rintro e w2 ⟨cm, rfl, hm, k2⟩; obtain ⟨am, pm, rfl, -⟩ := id hm)))
      · go_ret
        exact ⟨rfl, (keep_box _).trans k0⟩
      · go_ret
        exact ⟨rfl, (((keep_box _).trans k0).trans (k1.trans k2)).alloc _⟩
    · have HLEN : Hid _ := hlen
      have HRD : Hid _ := hrd
      have HAP : Hid _ := hap
      have HSM : Hid _ := hsm
      clear hlen hrd hap hsm
      go_enter Tryz.func7, Tryz.ntmps7
      go_wp2_with (first
        | (go_at_call 8; go_loud (refine (FT _ (keep_box _)).mono ?_; rintro e w0 ⟨x0, rfl, k0⟩; cases x0))
        | (go_at_call 24; refine (sar_Max _).mono ?_; rintro e w1 ⟨rfl, k1⟩)
        | (go_at_call 11; refine (VA _).mono ?_; rintro e wv ⟨rfl, rfl⟩)
        | (go_at_call 25; go_loud (refine (c_ShareAcknowledgeResponse _).mono ?_; rintro e w2 ⟨cm, rfl, hm, k2⟩; obtain ⟨am, pm, rfl, -⟩ := id hm; have K2b : Keep [] (w.alloc (.cells #[.int .i64 t.n, .slice az t.s.length ps, .bool t.null, .slice al t.l.length pl, .slice au t.u.length pu] 26)) (w2.alloc (.cells #[.slice am m_ShareAcknowledgeResponse.fields.length pm, .int .i64 m_ShareAcknowledgeResponse.flex] 31)) := (k0.trans (k1.trans k2)).alloc _; have hbt := (K2b.block w.heap.size (by simp) (by simp)).trans (heap_alloc_new w _); have r0 := cellOf hbt 0 _ rfl; have r1 := cellOf hbt 1 _ rfl; have r2 := cellOf hbt 2 _ rfl; have r3 := cellOf hbt 3 _ rfl; have r4 := cellOf hbt 4 _ rfl; clear hbt; have hmk := hm.keepF (w' := w2.alloc (.cells #[.slice am m_ShareAcknowledgeResponse.fields.length pm, .int .i64 m_ShareAcknowledgeResponse.flex] 31)) (G := fun k => w.heap.size ≤ k ∧ k < (w2.alloc (.cells #[.slice am m_ShareAcknowledgeResponse.fields.length pm, .int .i64 m_ShareAcknowledgeResponse.flex] 31)).heap.size) (fun k hk => Keep.block (keep_box (A := []) _) k hk.2 List.not_mem_nil) (fun k hk => ⟨by have a1 := hk.1; have a2 := k1.size; have a3 := k0.size; simp at a3; omega, by have a2 := hk.2; simp; omega⟩); have WM := WR _ (w2.alloc (.cells #[.slice am m_ShareAcknowledgeResponse.fields.length pm, .int .i64 m_ShareAcknowledgeResponse.flex] 31)) ((keep_box _).trans K2b) hmk; have HWM : Hid _ := WM; clear WM hmk WR))
        | (go_at_call 12; go_loud (refine Calls.mono HWM.out ?_; rintro e w3 ⟨d3, rfl, h3, k3⟩; obtain ⟨a3, p3, rfl⟩ := h3.len; have K3 : Keep [] w w3 := Keep.trans (Keep.trans (keep_box _) K2b) k3; clear r0 r1 r2 r3 r4; have BH := sar_Behind (w := w3) (G := fun k => k < w3.heap.size) hv (h3.rb.mono (fun k hk => hk.2)) (hd.keepF (hG.same K3) (fun k hk => hG.keep K3 k hk)) (by have := HLEN.out; omega) (by omega) (fun k hk => hk) (hg.keep K3 List.not_mem_nil) HRD.out HSM.out (by rw [HAP.out, List.length_append]; have := HLEN.out; omega); have HBH : Hid _ := BH; clear BH))
        | (go_at_call 26; go_loud (refine Calls.mono HBH.out ?_; rintro e w4 ⟨d4, rfl, h4, k4⟩; rw [HAP.out] at h4; obtain ⟨AW, hAW⟩ : ∃ x, x = acc ++ WP := ⟨_, rfl⟩; rw [← hAW] at h4; have hAWl : AW.length ≤ 36000000000000 := (by rw [hAW, List.length_append]; have := HLEN.out; omega); have HAW : Hid _ := hAW; clear hAW; obtain ⟨a4, p4, rfl⟩ := h4.len; have K4 := K3.trans k4; have o4 := ob_new (w := w4) (B := w4.heap.size) (cs := #[]) (l := []) (n := 0) (Nat.le_refl _) rfl rfl (by simp)))
        | (go_at_call 14; go_loud (refine Calls.mono HSA.out ?_; rintro e w7 ⟨rfl, k7⟩))
        | (at_builtin; go_loud (refine app_obg rfl (.tmp 47) (.tmp 48) rfl w4.heap.size _ _ rfl h5 _ _ _ rfl (h3.rb.keepF (fun k hk => (k4.trans k5).block k hk.2 List.not_mem_nil) (fun _ h => h)) (by have := HLEN.out; simp; omega) k5.size ?_; intro v6 w6 h6 g6; have K6 : Keep [] w4 w6 := k5.andBelow (below_grown (Below.refl _ _) k5.size h5 g6); rw [List.nil_append, ← HAW.out] at h6; obtain ⟨a6, p6, rfl⟩ := h6.len; have SA := same_any (h4.rb.keepF (fun k hk => K6.block k hk.2 List.not_mem_nil) (fun _ h => h)) h6.rb hAWl hAWl; have HSA : Hid _ := SA; clear SA))
        | (at_builtin; go_loud (refine app_obg rfl (.tmp 45) (.tmp 46) rfl w4.heap.size _ [] rfl o4 _ acc G rfl (hd.keepF (hG.same (K4.alloc _)) (fun _ h => h)) (by simp; omega) (by simp) ?_; intro v5 w5 h5 g5; have k5 : Keep [] w4 w5 := Keep.andBelow (keep_box _) (below_grown (Below.refl _ _) (by simp) o4 g5); clear o4)))
      · go_ret
        exact ⟨rfl, (keep_box _).trans k0⟩
      · go_ret
        refine ⟨by simp, K4.trans (K6.trans k7)⟩
  · go_enter Tryz.func7, Tryz.ntmps7
    go_wp2_with fail
    go_ret
    exact ⟨rfl, keep_box _⟩
end Go.Proofs.YtalgpkkphlfooaaGreatDoor
