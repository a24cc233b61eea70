/-
  ShareAcknowledgeResponse: its doors, and impl.BehindShareAcknowledgeResponse.
-/
import Derived.Test.YtalgpkkphlfooaaGreatDoorMSar5
import Derived.Test.YtalgpkkphlfooaaGreatDoorMSar9
import Derived.Test.YtalgpkkphlfooaaGreatDoorMSar10
import Derived.Test.YtalgpkkphlfooaaGreatDoorMSar11
import Derived.Test.YtalgpkkphlfooaaGreatDoorMB16
import Derived.Test.YtalgpkkphlfooaaGreatDoorMSar12
import Derived.Deep.Cut
namespace Go.Proofs.YtalgpkkphlfooaaGreatDoor
open Go.ChangeShapes Go.WideShapes Go.ChangeAt Go.RowKit

theorem sar_readFrom {G : Nat → Prop} {b : Nat} {p : Addr} {l : Bs} {src : Value} {w : World} {ver : Int} (hb : w.heap[b]? = some (.cells #[.int .i16 ver, .int .i32 0, .int .i16 0, .pointer none, .int .i32 0, .slice none 0 0, .slice none 0 0, .map none] 139 (0, 0))) (hl : RB w G src l) (hG : There G w) (hGb : ¬ G b) (hg : Gl w p) (hp : b ≠ 1) (hv0 : 0 ≤ ver) :
    Calls Tryz.prog 98 #[.pointer (some ⟨b, 0, none⟩), src, .bool false] w fun e w' => e = .returned (errV p (rdPart q_ShareAcknowledgeResponse ver (m_ShareAcknowledgeResponse.flexible ver) (l, false)).2.2) ∧ Keep [b] w w' ∧ ((rdPart q_ShareAcknowledgeResponse ver (m_ShareAcknowledgeResponse.flexible ver) (l, false)).2.2 = false → VM w' (New G w w') b q_ShareAcknowledgeResponse 139 ver (rdPart q_ShareAcknowledgeResponse ver (m_ShareAcknowledgeResponse.flexible ver) (l, false)).1) := by
  by_cases b2 : (2 : Int) ≤ ver
  · rw [show m_ShareAcknowledgeResponse.flexible ver = true from by simp [Msg.flexible, m_ShareAcknowledgeResponse, hv0]]
    exact sar_read_1s hb hl hG hGb hg hp hv0 (by omega)
  · rw [show m_ShareAcknowledgeResponse.flexible ver = true from by simp [Msg.flexible, m_ShareAcknowledgeResponse, hv0]]
    exact sar_read_0s hb hl hG hGb hg hp hv0 (by omega)
theorem sar_ReadFrom {G : Nat → Prop} {b : Nat} {p : Addr} {l : Bs} {src : Value} {w : World} {ver : Int} (hb : w.heap[b]? = some (.cells #[.int .i16 ver, .int .i32 0, .int .i16 0, .pointer none, .int .i32 0, .slice none 0 0, .slice none 0 0, .map none] 139 (0, 0))) (hl : RB w G src l) (hG : There G w) (hGb : ¬ G b) (hg : Gl w p) (hp : b ≠ 1) (hv0 : 0 ≤ ver) :
    Calls Tryz.prog 59 #[.pointer (some ⟨b, 0, none⟩), src] w fun e w' => e = .returned (errV p (rdPart q_ShareAcknowledgeResponse ver (m_ShareAcknowledgeResponse.flexible ver) (l, false)).2.2) ∧ Keep [b] w w' ∧ ((rdPart q_ShareAcknowledgeResponse ver (m_ShareAcknowledgeResponse.flexible ver) (l, false)).2.2 = false → VM w' (New G w w') b q_ShareAcknowledgeResponse 139 ver (rdPart q_ShareAcknowledgeResponse ver (m_ShareAcknowledgeResponse.flexible ver) (l, false)).1) := by
  have RF := sar_readFrom hb hl hG hGb hg hp hv0
  clear hb
  go_enter Tryz.func59, Tryz.ntmps59
  go_wp2_with (go_at_call 98; refine RF.mono ?_; rintro e w1 ⟨rfl, h1⟩)
  go_ret
  exact ⟨rfl, h1⟩
theorem sar_app {G : Nat → Prop} {b B : Nat} {c : List Value} {t : T} {w : World} {ver : Int} {v : Value} {acc : Bs} (hp : Pt w b 1 c) (hver : w.cell? ⟨b, 0, none⟩ = some (.int .i16 ver)) (hv : VK w G 10 (-1) (VFs w G q_ShareAcknowledgeResponse) c t) (hb : b < B) (hG : ∀ k, G k → k < B) (ho : OB w B v acc) (hB : B ≤ w.heap.size) (hs : small 1000000 t) (hl : (acc ++ apPart q_ShareAcknowledgeResponse ver (m_ShareAcknowledgeResponse.flexible ver) t).length ≤ 40000000000000) (hv0 : 0 ≤ ver) :
    Calls Tryz.prog 60 #[.pointer (some ⟨b, 0, none⟩), v] w fun e w' => ∃ v', e = .returned v' ∧ OB w' B v' (acc ++ apPart q_ShareAcknowledgeResponse ver (m_ShareAcknowledgeResponse.flexible ver) t) ∧ Below B w w' := by
  by_cases b2 : (2 : Int) ≤ ver
  · rw [show m_ShareAcknowledgeResponse.flexible ver = true from by simp [Msg.flexible, m_ShareAcknowledgeResponse, hv0]] at hl ⊢
    exact sar_app_1 hp hver hv hb hG ho hB hs hl hv0 (by omega)
  · rw [show m_ShareAcknowledgeResponse.flexible ver = true from by simp [Msg.flexible, m_ShareAcknowledgeResponse, hv0]] at hl ⊢
    exact sar_app_0 hp hver hv hb hG ho hB hs hl hv0 (by omega)
theorem sar_new (w : World) : Calls Tryz.prog 54 #[] w fun e w' => e = .returned (.pointer (some ⟨w.heap.size, 0, none⟩)) ∧ (w.alloc (.cells #[.int .i16 0, .int .i32 0, .int .i16 0, .pointer none, .int .i32 0, .slice none 0 0, .slice none 0 0, .map none] 139)) = w' := by
  go_enter Tryz.func54, Tryz.ntmps54
  go_wp2_with (go_at_call 96; refine (d_ShareAcknowledgeResponse _ _).mono ?_; rintro e w1 ⟨rfl, rfl⟩)
  go_ret
  exact ⟨rfl, rfl⟩
theorem sar_max (w : World) (x : Value) : Calls Tryz.prog 55 #[x] w fun e w' => e = .returned (.int .i16 2) ∧ w = w' := by
  go_enter Tryz.func55, Tryz.ntmps55
  go_wp2
  go_ret
  exact ⟨rfl, rfl⟩
theorem sar_Max (w : World) : Calls Tryz.prog 24 #[] w fun e w' => e = .returned (.int .i64 2) ∧ Keep [] w w' := by
  go_enter Tryz.func24, Tryz.ntmps24
  go_wp2_with (first
    | (go_at_call 54; refine (sar_new _).mono ?_; rintro e w1 ⟨rfl, rfl⟩)
    | (go_at_call 55; refine (sar_max _ _).mono ?_; rintro e w2 ⟨rfl, rfl⟩))
  go_ret
  exact ⟨rfl, keep_box _⟩
theorem sar_setv {w : World} {b : Nat} {v : Int} {x : Value} (h : w.cell? ⟨b, 0, none⟩ = some x) (hf : w.frozen? ⟨b, 0, none⟩ = false) : Calls Tryz.prog 58 #[.pointer (some ⟨b, 0, none⟩), .int .i16 v] w fun e w' => e = .returned (.tuple #[]) ∧ w.setCell ⟨b, 0, none⟩ (.int .i16 v) = w' := by
  go_enter Tryz.func58, Tryz.ntmps58
  go_wp2
  refine bodyPost_end (v := .tuple #[]) (by simp [results, Tryz.results58, go_sem]) rfl ⟨rfl, rfl⟩
set_option maxHeartbeats 1600000 in
set_option maxRecDepth 100000 in
theorem sar_Behind {G : Nat → Prop} {p : Addr} {l acc : Bs} {src dst : Value} {w : World} {v : Int} {t : T} (hv : 0 ≤ v ∧ v ≤ 2) (hl : RB w G src l) (hd : RB w G dst acc) (hll : l.length ≤ 36000000000000) (hdl : acc.length ≤ 36000000000000) (hG : There G w) (hg : Gl w p) (hrd : rdPart q_ShareAcknowledgeResponse v (m_ShareAcknowledgeResponse.flexible v) (l, false) = (t, ([], false))) (hsm : small 1000000 t) (hap : (acc ++ apPart q_ShareAcknowledgeResponse v (m_ShareAcknowledgeResponse.flexible v) t).length ≤ 40000000000000) :
    Calls Tryz.prog 26 #[.int .i64 v, dst, src] w fun e w' => ∃ d, e = .returned (.tuple #[d, .bool true]) ∧ OB w' w.heap.size d (acc ++ apPart q_ShareAcknowledgeResponse v (m_ShareAcknowledgeResponse.flexible v) t) ∧ Keep [] w w' := by
  obtain ⟨ao, cap, rfl⟩ := RS.shape hl
  obtain ⟨ad, capd, rfl⟩ := RS.shape hd
  have hp1 : 1 < w.heap.size := World.block_lt_of_cell? w _ hg
  have hwr : IntKind.i16.wrap v = v := by rw [wrap_i16']; split <;> omega
  have HAP : Hid _ := hap
  have HRD : Hid _ := hrd
  clear hap hrd
  go_enter Tryz.func26, Tryz.ntmps26
  have k0 : Keep [] w (w.alloc (.cells #[.int .i16 v, .int .i32 0, .int .i16 0, .pointer none, .int .i32 0, .slice none 0 0, .slice none 0 0, .map none] 139)) := keep_box _
  have h1 : (w.alloc (.cells #[.int .i16 v, .int .i32 0, .int .i16 0, .pointer none, .int .i32 0, .slice none 0 0, .slice none 0 0, .map none] 139)).heap[w.heap.size]? = some (.cells #[.int .i16 v, .int .i32 0, .int .i16 0, .pointer none, .int .i32 0, .slice none 0 0, .slice none 0 0, .map none] 139 (0, 0)) := heap_alloc_new w _
  have hu0 : (w.alloc (.cells #[.int .i16 0, .int .i32 0, .int .i16 0, .pointer none, .int .i32 0, .slice none 0 0, .slice none 0 0, .map none] 139)).heap[w.heap.size]? = some (.cells #[.int .i16 0, .int .i32 0, .int .i16 0, .pointer none, .int .i32 0, .slice none 0 0, .slice none 0 0, .map none] 139 (0, 0)) := heap_alloc_new w _
  have hz0 : (w.alloc (.cells #[.int .i16 v, .int .i32 0, .int .i16 0, .pointer none, .int .i32 0, .slice none 0 0, .slice none 0 0, .map none] 139)).heap.size = w.heap.size + 1 := by simp
  have hc0 := cellOf hu0 0 (.int .i16 0) rfl
  have hf0 := freeOf hu0 0
  clear hu0
  have SV := sar_setv (v := v) hc0 hf0
  go_upto_region 3 with (first
    | (go_at_call 54; refine (sar_new _).mono ?_; rintro e w1 ⟨rfl, rfl⟩)
    | (go_at_call 58; go_loud (refine SV.mono ?_; rintro e w1 ⟨rfl, rfl⟩)))
  clear SV hc0 hf0
  generalize (w.alloc (.cells #[.int .i16 v, .int .i32 0, .int .i16 0, .pointer none, .int .i32 0, .slice none 0 0, .slice none 0 0, .map none] 139)) = W0 at *
  have H1 : Hid _ := h1
  clear h1
  go_wp2_with (first
    | (go_at_call 60; go_loud (refine Calls.mono AP.out ?_; rintro e w5 ⟨v5, rfl, h5, b5⟩))
    | (go_at_call 59; go_loud (refine Calls.mono RF.out ?_; rw [HRD.out]; rintro e w3 ⟨rfl, k3, b3⟩; rw [errV_false]; have hz3 := k3.size; have K3 := ((K2.weaken (B := [w.heap.size]) (by simp)).trans k3).fresh (B := []) (by simp); have SE := fun W4 (k4 : Keep [] w3 W4) => VM.seen (b3 rfl) (fun k h => h.2) k4; have B3 : Hid _ := SE; clear SE b3 RF))
    | (at_builtin; go_loud (refine app_ob rfl (.const (.slice none 0 0)) (.tmp 20) rfl w3.heap.size (.slice none 0 0) [] rfl (OB.nil _ _) _ acc G rfl (hd.keepF (hG.same K3) (fun _ h => h)) (by simp; omega) (Nat.le_refl _) ?_; intro v4 w4 hown4 hgr4; have k4 : Keep [] w3 w4 := (Keep.refl _ _).grown hgr4 (by simp [Value.ownBlock]); have SE := B3.out; obtain ⟨cc, pt4, cv4, vk4⟩ := SE w4 k4; clear SE; have AP : Hid _ := sar_app pt4 cv4 vk4 (B := w3.heap.size) (by omega) (fun k h => h.2) hown4 k4.size hsm HAP.out hv.1; clear pt4 cv4 vk4))
    | (at_builtin; go_loud (refine app_ob rfl (.const (.slice none 0 0)) (.tmp 15) rfl W0.heap.size (.slice none 0 0) [] rfl (OB.nil _ _) _ l G rfl (hl.keepF (hG.same k0) (fun _ h => h)) (by simp; omega) (Nat.le_refl _) ?_; intro v2 w2 hown hgr; have k2 : Keep [] W0 w2 := (Keep.refl _ _).grown hgr (by simp [Value.ownBlock]); have K2 := k0.trans k2; have hz2 := k2.size; have b2 := (k2.block w.heap.size (by omega) (by simp)).trans H1.out; have hB2 : RB w2 (fun k => W0.heap.size ≤ k ∧ k < w2.heap.size) v2 l := hown.rb; have RF : Hid _ := sar_ReadFrom b2 hB2 (fun k h => h.2) (by omega) (hg.keep K2 List.not_mem_nil) (by omega) hv.1; clear b2)))
  refine bodyPost_ret (v := .tuple #[v5, .bool true]) (by simp [results, Tryz.results26, go_sem]) rfl ⟨v5, rfl, ?_, ?_⟩
  · exact h5.lower (by omega)
  · exact K3.trans (k4.andBelow b5)
end Go.Proofs.YtalgpkkphlfooaaGreatDoor
