/-
  laws.FnTellPushTelemetryRequest.
-/
import Derived.Test.YtdklogmmfnddiaaDoorMPtr4
import Derived.Test.YtdklogmmfnddiaaDoorMPtr5
import Derived.Test.YtdklogmmfnddiaaDoorMB13
import Derived.Test.YtdklogmmfnddiaaDoorMB19
import Derived.Test.YtdklogmmfnddiaaDoorMB18
import Derived.Test.YtdklogmmfnddiaaDoorMB23
namespace Go.Proofs.YtdklogmmfnddiaaDoor
open Go.ChangeShapes Go.WideShapes Go.ChangeAt Go.RowKit

theorem got_there {G : Nat → Prop} {w wg : World} {t : T} {c : List Value} (_ : HT wg (New G w wg) t c) : There (New G w wg) wg := fun _ hk => hk.2
theorem ptr_wf (v : Int) : wfFs (m_PushTelemetryRequest.flexible v) m_PushTelemetryRequest.fields = true := by
  cases m_PushTelemetryRequest.flexible v <;> decide
theorem ptr_narrow : narrows 1000000 m_PushTelemetryRequest.fields ∧ m_PushTelemetryRequest.fields.length ≤ 1000000 := by
  simp [m_PushTelemetryRequest, narrows, narrow]
theorem ptr_ok : okFs m_PushTelemetryRequest.fields = true := by decide
set_option maxHeartbeats 1600000 in
set_option maxRecDepth 100000 in
theorem ptr_law {G : Nat → Prop} {p : Addr} {n : Int} {t : T} {c : List Value} {w : World} (hn : 0 ≤ n ∧ n ≤ 255) (ht : HT w G t c) (hk : keysT t) (hsz : ∀ v, 0 ≤ v → (writeP m_PushTelemetryRequest v t).length ≤ 35990000000000) (hG : There G w) (hg : Gl w p) :
    Calls Tryd.prog 4 #[.int .u8 n, .agg c.toArray] w fun e w' => e = .returned (.bool true) ∧ Keep [] w w' := by
  have hv : 0 ≤ n % (0 + 1) ∧ n % (0 + 1) ≤ 0 := by omega
  have VA := fun W => version_any hn (m := 0) (by omega) W
  have hlen := hsz (n % (0 + 1)) hv.1
  have hrd0 : rdPart q_PushTelemetryRequest (n % (0 + 1)) (m_PushTelemetryRequest.flexible (n % (0 + 1))) (writeP m_PushTelemetryRequest (n % (0 + 1)) t, false) = (tdPart q_PushTelemetryRequest (n % (0 + 1)) (m_PushTelemetryRequest.flexible (n % (0 + 1))) t, ([], false)) := by
    have h := rdPart_app hv.1 (ptr_wf (n % (0 + 1))) hk []
    rw [List.append_nil] at h
    exact h
  have hsm : small 1000000 (tdPart q_PushTelemetryRequest (n % (0 + 1)) (m_PushTelemetryRequest.flexible (n % (0 + 1))) t) := tdPart_small (by omega) ptr_narrow.1 ptr_narrow.2 _ _ t
  have FT := fun W (hW : Keep [] w W) => fits1_some (ht.keepF (hG.same hW) (fun _ h => h)) (hG.keep hW)
  have WR := fun cm W (hW : Keep [] w W) (hm : HM W (fun k => w.heap.size ≤ k ∧ k < W.heap.size) m_PushTelemetryRequest cm) =>
    write_any (G := fun k => G k ∨ (w.heap.size ≤ k ∧ k < W.heap.size)) (v := n % (0 + 1)) (partSaid_wf _ _ _ (fun e => by have := ptr_wf (n % (0 + 1)); rw [e] at this; exact this)) (hm.keepF (fun k h => rfl) (fun k h => .inr h)) (ht.keepF (hG.same hW) (fun _ h => .inl h)) (fun k h => h.elim (fun h => hG.keep hW k h) (fun h => h.2)) (by omega)
  have TO := fun G1 G2 (W : World) vs cg (hF : HFs W G1 vs m_PushTelemetryRequest.fields) (hT : HT W G1 t c) (hX : HT W G2 (tdPart q_PushTelemetryRequest (n % (0 + 1)) (m_PushTelemetryRequest.flexible (n % (0 + 1))) t) cg) (h1 : There G1 W) (h2 : There G2 W) => toldSaid_ok ptr_ok (n % (0 + 1)) (m_PushTelemetryRequest.flexible (n % (0 + 1))) G1 G2 vs t c cg W hF hT hX h1 h2
  have hfl : (decide (0 ≤ m_PushTelemetryRequest.flex) && decide (m_PushTelemetryRequest.flex ≤ n % (0 + 1))) = m_PushTelemetryRequest.flexible (n % (0 + 1)) := rfl
  generalize tdPart q_PushTelemetryRequest (n % (0 + 1)) (m_PushTelemetryRequest.flexible (n % (0 + 1))) t = TD at *
  generalize hvv : n % (0 + 1) = v at *
  clear hvv hsz
  have hrd : rdPart q_PushTelemetryRequest v true (writeP m_PushTelemetryRequest v t, false) = (TD, ([], false)) := by
    rw [show true = m_PushTelemetryRequest.flexible v from (by simp [Msg.flexible, m_PushTelemetryRequest, hv.1])]
    exact hrd0
  have FL := fun W ao n cap => flexible_any (w := W) ao n cap m_PushTelemetryRequest.flex v
  rw [hfl] at FL
  generalize m_PushTelemetryRequest.flexible v = fb at *
  generalize writeP m_PushTelemetryRequest v t = WP at *
  obtain ⟨az, ps, al, pl, au, pu, rfl, -⟩ := id ht.cells
  have HLEN : Hid _ := hlen
  have HRD : Hid _ := hrd
  clear hlen hrd hrd0 hfl
  go_enter Tryd.func4, Tryd.ntmps4
  go_wp2_with (first
    | (go_at_call 5; go_loud (refine (FT _ (keep_box _)).mono ?_; rintro e w0 ⟨x0, rfl, k0⟩; cases x0))
    | (go_at_call 13; refine (ptr_Max _).mono ?_; rintro e w1 ⟨rfl, k1⟩)
    | (go_at_call 8; refine (VA _).mono ?_; rintro e wv ⟨rfl, rfl⟩)
    | (go_at_call 14; go_loud (refine (c_PushTelemetryRequest _).mono ?_; rintro e w2 ⟨cm, rfl, hm, k2⟩; obtain ⟨am, pm, rfl, -⟩ := id hm; have K2b : Keep [] (w.alloc (.cells #[.int .i64 t.n, .slice az t.s.length ps, .bool t.null, .slice al t.l.length pl, .slice au t.u.length pu] 26)) (w2.alloc (.cells #[.slice am m_PushTelemetryRequest.fields.length pm, .int .i64 m_PushTelemetryRequest.flex] 31)) := (k0.trans (k1.trans k2)).alloc _; have hbt := (K2b.block w.heap.size (by simp) (by simp)).trans (heap_alloc_new w _); have r0 := cellOf hbt 0 _ rfl; have r1 := cellOf hbt 1 _ rfl; have r2 := cellOf hbt 2 _ rfl; have r3 := cellOf hbt 3 _ rfl; have r4 := cellOf hbt 4 _ rfl; clear hbt; have hmk := hm.keepF (w' := w2.alloc (.cells #[.slice am m_PushTelemetryRequest.fields.length pm, .int .i64 m_PushTelemetryRequest.flex] 31)) (G := fun k => w.heap.size ≤ k ∧ k < (w2.alloc (.cells #[.slice am m_PushTelemetryRequest.fields.length pm, .int .i64 m_PushTelemetryRequest.flex] 31)).heap.size) (fun k hk => Keep.block (keep_box (A := []) _) k hk.2 List.not_mem_nil) (fun k hk => ⟨by have a1 := hk.1; have a2 := k1.size; have a3 := k0.size; simp at a3; omega, by have a2 := hk.2; simp; omega⟩); have WM := WR _ (w2.alloc (.cells #[.slice am m_PushTelemetryRequest.fields.length pm, .int .i64 m_PushTelemetryRequest.flex] 31)) ((keep_box _).trans K2b) hmk; have HWM : Hid _ := WM; have HMK : Hid _ := hmk; clear WM hmk WR))
    | (go_at_call 10; go_loud (refine Calls.mono HWM.out ?_; rintro e w3 ⟨d3, rfl, h3, k3⟩; obtain ⟨a3, p3, rfl⟩ := h3.len; have K3 : Keep [] w w3 := Keep.trans (Keep.trans (keep_box _) K2b) k3; clear r0 r1 r2 r3 r4; have TL := ptr_Tell (w := w3) (G := fun k => k < w3.heap.size) hv (h3.rb.mono (fun k hk => hk.2)) (by have := HLEN.out; omega) (fun k hk => hk) (hg.keep K3 List.not_mem_nil) HRD.out hsm; have HTL : Hid _ := TL; clear TL))
    | (go_at_call 15; go_loud (refine Calls.mono HTL.out ?_; rintro e w4 ⟨c4, rfl, h4, k4⟩; rw [if_neg Bool.false_ne_true] at h4; obtain ⟨a41, p41, a42, p42, a43, p43, rfl, -⟩ := id h4.cells; have K4 := K3.trans k4)))
  · go_ret
    exact ⟨rfl, (keep_box _).trans k0⟩
  have kx : Keep [] w4 (w4.alloc (.cells #[.int .i64 TD.n, .slice a41 TD.s.length p41, .bool TD.null, .slice a42 TD.l.length p42, .slice a43 TD.u.length p43] 37)) := keep_box _
  have hbM := (((k3.trans k4).trans kx).block w2.heap.size (by simp) (by simp)).trans (heap_alloc_new w2 (.cells #[.slice am m_PushTelemetryRequest.fields.length pm, .int .i64 m_PushTelemetryRequest.flex] 31))
  have hbT := ((((K2b.trans k3).trans k4).trans kx).block w.heap.size (by simp) (by simp)).trans (heap_alloc_new w (.cells #[.int .i64 t.n, .slice az t.s.length ps, .bool t.null, .slice al t.l.length pl, .slice au t.u.length pu] 26))
  have hbX := heap_alloc_new w4 (.cells #[.int .i64 TD.n, .slice a41 TD.s.length p41, .bool TD.null, .slice a42 TD.l.length p42, .slice a43 TD.u.length p43] 37)
  have KX := K4.trans kx
  have hx := h4.keepF (w' := w4.alloc (.cells #[.int .i64 TD.n, .slice a41 TD.s.length p41, .bool TD.null, .slice a42 TD.l.length p42, .slice a43 TD.u.length p43] 37)) (fun k hk => kx.block k hk.2 List.not_mem_nil) (fun _ h => h)
  have hxG : There (New (fun _ => False) w3 w4) (w4.alloc (.cells #[.int .i64 TD.n, .slice a41 TD.s.length p41, .bool TD.null, .slice a42 TD.l.length p42, .slice a43 TD.u.length p43] 37)) := fun k hk => Nat.lt_of_lt_of_le hk.2 kx.size
  have hmm := HM.keepF HMK.out (w' := w4.alloc (.cells #[.int .i64 TD.n, .slice a41 TD.s.length p41, .bool TD.null, .slice a42 TD.l.length p42, .slice a43 TD.u.length p43] 37)) (fun k hk => ((k3.trans k4).trans kx).block k hk.2 List.not_mem_nil) (fun _ h => h)
  have hmG : There (fun k => w.heap.size ≤ k ∧ k < (w2.alloc (.cells #[.slice am m_PushTelemetryRequest.fields.length pm, .int .i64 m_PushTelemetryRequest.flex] 31)).heap.size) (w4.alloc (.cells #[.int .i64 TD.n, .slice a41 TD.s.length p41, .bool TD.null, .slice a42 TD.l.length p42, .slice a43 TD.u.length p43] 37)) := fun k hk => Nat.lt_of_lt_of_le hk.2 ((k3.trans k4).trans kx).size
  have hT1 := ht.keepF (hG.same KX) (fun _ h => h)
  have hG1 := hG.keep KX
  obtain ⟨am2, pm2, e2, hmF⟩ := hmm
  simp only [List.cons.injEq, Value.slice.injEq, and_true] at e2
  obtain ⟨rfl, -, rfl⟩ := e2
  generalize hW5 : w4.alloc (.cells #[.int .i64 TD.n, .slice a41 TD.s.length p41, .bool TD.null, .slice a42 TD.l.length p42, .slice a43 TD.u.length p43] 37) = W5 at *
  have HA := fun W (k : Keep [] W5 W) => And.intro (k.cs (cellOf hbM 0 _ rfl)) (And.intro (k.cs (cellOf hbM 1 _ rfl)) (And.intro (k.cs (cellOf hbT 0 _ rfl)) (And.intro (k.cs (cellOf hbT 1 _ rfl)) (And.intro (k.cs (cellOf hbT 2 _ rfl)) (And.intro (k.cs (cellOf hbT 3 _ rfl)) (And.intro (k.cs (cellOf hbT 4 _ rfl)) (And.intro (k.cs (cellOf hbX 0 _ rfl)) (And.intro (k.cs (cellOf hbX 1 _ rfl)) (And.intro (k.cs (cellOf hbX 2 _ rfl)) (And.intro (k.cs (cellOf hbX 3 _ rfl)) (k.cs (cellOf hbX 4 _ rfl))))))))))))
  have HAH : Hid _ := HA
  clear HA h4 hbM hbT hbX hW5 kx HMK
  go_region_held3 (fun w' => w'.cell? ⟨w2.heap.size, 0, none⟩ = some (.slice am m_PushTelemetryRequest.fields.length pm) ∧ w'.cell? ⟨w2.heap.size, 1, none⟩ = some (.int .i64 m_PushTelemetryRequest.flex) ∧ w'.cell? ⟨w.heap.size, 0, none⟩ = some (.int .i64 t.n) ∧ w'.cell? ⟨w.heap.size, 1, none⟩ = some (.slice az t.s.length ps) ∧ w'.cell? ⟨w.heap.size, 2, none⟩ = some (.bool t.null) ∧ w'.cell? ⟨w.heap.size, 3, none⟩ = some (.slice al t.l.length pl) ∧ w'.cell? ⟨w.heap.size, 4, none⟩ = some (.slice au t.u.length pu) ∧ w'.cell? ⟨w4.heap.size, 0, none⟩ = some (.int .i64 TD.n) ∧ w'.cell? ⟨w4.heap.size, 1, none⟩ = some (.slice a41 TD.s.length p41) ∧ w'.cell? ⟨w4.heap.size, 2, none⟩ = some (.bool TD.null) ∧ w'.cell? ⟨w4.heap.size, 3, none⟩ = some (.slice a42 TD.l.length p42) ∧ w'.cell? ⟨w4.heap.size, 4, none⟩ = some (.slice a43 TD.u.length p43)) (first | exact HAH.out _ (Keep.refl _ _) | exact HAH.out _ (Keep.refl _ _).drew | exact HAH.out _ kg | exact HAH.out _ kf | exact HAH.out _ kt) (first
    | (go_at_call 16; go_loud (refine (TO (fun k => G k ∨ (w.heap.size ≤ k ∧ k < (w2.alloc (.cells #[.slice am m_PushTelemetryRequest.fields.length pm, .int .i64 m_PushTelemetryRequest.flex] 31)).heap.size)) _ _ _ _ (hmF.keepF (hmG.same kall) (fun _ h => .inr h)) (hT1.keepF (hG1.same kall) (fun _ h => .inl h)) hgot (fun k hk => hk.elim (fun h => hG1.keep kall k h) (fun h => hmG.keep kall k h)) hgotG).mono ?_; rintro e wt ⟨rfl, kt0⟩; have kt : Keep [] W5 wt := kall.trans kt0))
    | (go_at_call 17; (refine (FL _ _ _ _).mono ?_; rintro e wf ⟨rfl, kf0⟩; first | (have kall : Keep [] W5 wf := kg.trans kf0; have hgotG := hgotG0.keep kf0; have hgot := hgot0.keepF (hgotG0.same kf0) (fun _ h => h); have kf := kall) | (have kf : Keep [] W5 wf := (Keep.refl _ _).drew.trans kf0)))
    | (go_at_call 12; (first
        | (refine (gotSaid TD hsm _ _ _ (hx.keepF (hxG.same kf) (fun _ h => h)) (hxG.keep kf)).mono ?_; rintro e wg ⟨cg, rfl, hgot, kg0⟩; have hgotG := got_there hgot; obtain ⟨a61, p61, a62, p62, a63, p63, rfl, -⟩ := id hgot.cells; have kall : Keep [] W5 wg := kf.trans kg0; have kg := kall)
        | (refine (gotSaid TD hsm _ _ _ (hx.keepF (hxG.same (Keep.refl [] W5).drew) (fun _ h => h)) (hxG.keep (Keep.refl [] W5).drew)).mono ?_; rintro e wg ⟨cg, rfl, hgot0, kg0⟩; have hgotG0 := got_there hgot0; obtain ⟨a61, p61, a62, p62, a63, p63, rfl, -⟩ := id hgot0.cells; have kg : Keep [] W5 wg := (Keep.refl _ _).drew.trans kg0))))
  all_goals go_wp2
  all_goals go_ret
  all_goals exact ⟨by simp, KX.trans kt⟩
end Go.Proofs.YtdklogmmfnddiaaDoor
