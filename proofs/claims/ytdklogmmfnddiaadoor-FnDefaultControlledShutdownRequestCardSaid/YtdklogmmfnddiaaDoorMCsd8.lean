/-
  laws.FnDefaultControlledShutdownRequest.
-/
import Derived.Test.YtdklogmmfnddiaaDoorMCsd6
import Derived.Test.YtdklogmmfnddiaaDoorMCsd7
import Derived.Test.YtdklogmmfnddiaaDoorMB13
import Derived.Test.YtdklogmmfnddiaaDoorMB19
import Derived.Test.YtdklogmmfnddiaaDoorMB18
import Derived.Test.YtdklogmmfnddiaaDoorMB23
namespace Go.Proofs.YtdklogmmfnddiaaDoor
open Go.ChangeShapes Go.WideShapes Go.ChangeAt Go.RowKit

theorem got_there {G : Nat → Prop} {w wg : World} {t : T} {c : List Value} (_ : HT wg (New G w wg) t c) : There (New G w wg) wg := fun _ hk => hk.2
theorem csd_wf (v : Int) : wfFs (m_ControlledShutdownRequest.flexible v) m_ControlledShutdownRequest.fields = true := by
  cases m_ControlledShutdownRequest.flexible v <;> decide
theorem csd_narrow : narrows 1000000 m_ControlledShutdownRequest.fields ∧ m_ControlledShutdownRequest.fields.length ≤ 1000000 := by
  simp [m_ControlledShutdownRequest, narrows, narrow]
theorem csd_dhd {t : T} (h : (atT t 1).n = -1) : ∀ i (hi : i < m_ControlledShutdownRequest.fields.length), m_ControlledShutdownRequest.fields[i].dfl ≠ 0 → (atT t i).n = numP m_ControlledShutdownRequest.fields[i].kind m_ControlledShutdownRequest.fields[i].dfl := by
  intro i hi hd
  match i, hi with
  | 0, _ => exact absurd rfl hd
  | 1, _ => rw [h]; rfl
set_option maxHeartbeats 1600000 in
set_option maxRecDepth 100000 in
theorem csd_law {G : Nat → Prop} {p : Addr} {n : Int} {t : T} {c : List Value} {w : World} (hn : 0 ≤ n ∧ n ≤ 255) (ht : HT w G t c) (hk : keysT t) (hsz : ∀ v, 0 ≤ v → (writeP m_ControlledShutdownRequest v t).length ≤ 35990000000000) (hG : There G w) (hg : Gl w p) :
    Calls Tryd.prog 3 #[.int .u8 n, .agg c.toArray] w fun e w' => e = .returned (.bool true) ∧ Keep [] w w' := by
  have hv : 0 ≤ n % (3 + 1) ∧ n % (3 + 1) ≤ 3 := by omega
  have VA := fun W => version_any hn (m := 3) (by omega) W
  have hlen := hsz (n % (3 + 1)) hv.1
  have hrd0 : rdPart q_ControlledShutdownRequest (n % (3 + 1)) (m_ControlledShutdownRequest.flexible (n % (3 + 1))) (writeP m_ControlledShutdownRequest (n % (3 + 1)) t, false) = (tdPart q_ControlledShutdownRequest (n % (3 + 1)) (m_ControlledShutdownRequest.flexible (n % (3 + 1))) t, ([], false)) := by
    have h := rdPart_app hv.1 (csd_wf (n % (3 + 1))) hk []
    rw [List.append_nil] at h
    exact h
  have hsm : small 1000000 (tdPart q_ControlledShutdownRequest (n % (3 + 1)) (m_ControlledShutdownRequest.flexible (n % (3 + 1))) t) := tdPart_small (by omega) csd_narrow.1 csd_narrow.2 _ _ t
  have FT := fun W (hW : Keep [] w W) => fits1_some (ht.keepF (hG.same hW) (fun _ h => h)) (hG.keep hW)
  have WR := fun cm W (hW : Keep [] w W) (hm : HM W (fun k => w.heap.size ≤ k ∧ k < W.heap.size) m_ControlledShutdownRequest cm) =>
    write_any (G := fun k => G k ∨ (w.heap.size ≤ k ∧ k < W.heap.size)) (v := n % (3 + 1)) (partSaid_wf _ _ _ (fun e => by have := csd_wf (n % (3 + 1)); rw [e] at this; exact this)) (hm.keepF (fun k h => rfl) (fun k h => .inr h)) (ht.keepF (hG.same hW) (fun _ h => .inl h)) (fun k h => h.elim (fun h => hG.keep hW k h) (fun h => h.2)) (by omega)
  have TO := fun G1 G2 (W : World) vs cg (t2 : T) (hF : HFs W G1 vs m_ControlledShutdownRequest.fields) (hX : HT W G2 t2 cg) (h1 : There G1 W) (h2 : There G2 W) (hn2 : (atT t2 1).n = -1) => defaults_any hF hX h1 h2 (csd_dhd hn2)
  generalize tdPart q_ControlledShutdownRequest (n % (3 + 1)) (m_ControlledShutdownRequest.flexible (n % (3 + 1))) t = TD at *
  generalize hvv : n % (3 + 1) = v at *
  clear hvv hsz
  have hrd : rdPart q_ControlledShutdownRequest v (decide ((3 : Int) ≤ v)) (writeP m_ControlledShutdownRequest v t, false) = (TD, ([], false)) := by
    rw [show (decide ((3 : Int) ≤ v)) = m_ControlledShutdownRequest.flexible v from (by first | (simp [Msg.flexible, m_ControlledShutdownRequest]; done) | (simp [Msg.flexible, m_ControlledShutdownRequest]; exact decide_eq_decide.2 Iff.rfl))]
    exact hrd0
  generalize m_ControlledShutdownRequest.flexible v = fb at *
  generalize writeP m_ControlledShutdownRequest v t = WP at *
  obtain ⟨az, ps, al, pl, au, pu, rfl, -⟩ := id ht.cells
  have HLEN : Hid _ := hlen
  have HRD : Hid _ := hrd
  clear hlen hrd hrd0
  go_enter Tryd.func3, Tryd.ntmps3
  go_wp2_with (first
    | (go_at_call 5; go_loud (refine (FT _ (keep_box _)).mono ?_; rintro e w0 ⟨x0, rfl, k0⟩; cases x0))
    | (go_at_call 6; refine (csd_Max _).mono ?_; rintro e w1 ⟨rfl, k1⟩)
    | (go_at_call 8; refine (VA _).mono ?_; rintro e wv ⟨rfl, rfl⟩)
    | (go_at_call 7; go_loud (refine (c_ControlledShutdownRequest _).mono ?_; rintro e w2 ⟨cm, rfl, hm, k2⟩; obtain ⟨am, pm, rfl, -⟩ := id hm; have K2b : Keep [] (w.alloc (.cells #[.int .i64 t.n, .slice az t.s.length ps, .bool t.null, .slice al t.l.length pl, .slice au t.u.length pu] 26)) (w2.alloc (.cells #[.slice am m_ControlledShutdownRequest.fields.length pm, .int .i64 m_ControlledShutdownRequest.flex] 31)) := (k0.trans (k1.trans k2)).alloc _; have hbt := (K2b.block w.heap.size (by simp) (by simp)).trans (heap_alloc_new w _); have r0 := cellOf hbt 0 _ rfl; have r1 := cellOf hbt 1 _ rfl; have r2 := cellOf hbt 2 _ rfl; have r3 := cellOf hbt 3 _ rfl; have r4 := cellOf hbt 4 _ rfl; clear hbt; have hmk := hm.keepF (w' := w2.alloc (.cells #[.slice am m_ControlledShutdownRequest.fields.length pm, .int .i64 m_ControlledShutdownRequest.flex] 31)) (G := fun k => w.heap.size ≤ k ∧ k < (w2.alloc (.cells #[.slice am m_ControlledShutdownRequest.fields.length pm, .int .i64 m_ControlledShutdownRequest.flex] 31)).heap.size) (fun k hk => Keep.block (keep_box (A := []) _) k hk.2 List.not_mem_nil) (fun k hk => ⟨by have a1 := hk.1; have a2 := k1.size; have a3 := k0.size; simp at a3; omega, by have a2 := hk.2; simp; omega⟩); have WM := WR _ (w2.alloc (.cells #[.slice am m_ControlledShutdownRequest.fields.length pm, .int .i64 m_ControlledShutdownRequest.flex] 31)) ((keep_box _).trans K2b) hmk; have HWM : Hid _ := WM; have HMK : Hid _ := hmk; clear WM hmk WR))
    | (go_at_call 10; go_loud (refine Calls.mono HWM.out ?_; rintro e w3 ⟨d3, rfl, h3, k3⟩; obtain ⟨a3, p3, rfl⟩ := h3.len; have K3 : Keep [] w w3 := Keep.trans (Keep.trans (keep_box _) K2b) k3; clear r0 r1 r2 r3 r4; have TL := csd_Dft (w := w3) (G := fun k => k < w3.heap.size) hv (h3.rb.mono (fun k hk => hk.2)) (by have := HLEN.out; omega) (fun k hk => hk) (hg.keep K3 List.not_mem_nil) HRD.out hsm; have HTL : Hid _ := TL; clear TL))
    | (go_at_call 9; go_loud (refine Calls.mono HTL.out ?_; rintro e w4 ⟨c4, t2, rfl, h4, hn2, hsm2, k4⟩; have HN2 : Hid _ := hn2; clear hn2; obtain ⟨a41, p41, a42, p42, a43, p43, rfl, -⟩ := id h4.cells; have K4 := K3.trans k4)))
  · go_ret
    exact ⟨rfl, (keep_box _).trans k0⟩
  have kx : Keep [] w4 (w4.alloc (.cells #[.int .i64 t2.n, .slice a41 t2.s.length p41, .bool t2.null, .slice a42 t2.l.length p42, .slice a43 t2.u.length p43] 37)) := keep_box _
  have hbM := (((k3.trans k4).trans kx).block w2.heap.size (by simp) (by simp)).trans (heap_alloc_new w2 (.cells #[.slice am m_ControlledShutdownRequest.fields.length pm, .int .i64 m_ControlledShutdownRequest.flex] 31))
  have hbT := ((((K2b.trans k3).trans k4).trans kx).block w.heap.size (by simp) (by simp)).trans (heap_alloc_new w (.cells #[.int .i64 t.n, .slice az t.s.length ps, .bool t.null, .slice al t.l.length pl, .slice au t.u.length pu] 26))
  have hbX := heap_alloc_new w4 (.cells #[.int .i64 t2.n, .slice a41 t2.s.length p41, .bool t2.null, .slice a42 t2.l.length p42, .slice a43 t2.u.length p43] 37)
  have KX := K4.trans kx
  have hx := h4.keepF (w' := w4.alloc (.cells #[.int .i64 t2.n, .slice a41 t2.s.length p41, .bool t2.null, .slice a42 t2.l.length p42, .slice a43 t2.u.length p43] 37)) (fun k hk => kx.block k hk.2 List.not_mem_nil) (fun _ h => h)
  have hxG : There (New (fun _ => False) w3 w4) (w4.alloc (.cells #[.int .i64 t2.n, .slice a41 t2.s.length p41, .bool t2.null, .slice a42 t2.l.length p42, .slice a43 t2.u.length p43] 37)) := fun k hk => Nat.lt_of_lt_of_le hk.2 kx.size
  have hmm := HM.keepF HMK.out (w' := w4.alloc (.cells #[.int .i64 t2.n, .slice a41 t2.s.length p41, .bool t2.null, .slice a42 t2.l.length p42, .slice a43 t2.u.length p43] 37)) (fun k hk => ((k3.trans k4).trans kx).block k hk.2 List.not_mem_nil) (fun _ h => h)
  have hmG : There (fun k => w.heap.size ≤ k ∧ k < (w2.alloc (.cells #[.slice am m_ControlledShutdownRequest.fields.length pm, .int .i64 m_ControlledShutdownRequest.flex] 31)).heap.size) (w4.alloc (.cells #[.int .i64 t2.n, .slice a41 t2.s.length p41, .bool t2.null, .slice a42 t2.l.length p42, .slice a43 t2.u.length p43] 37)) := fun k hk => Nat.lt_of_lt_of_le hk.2 ((k3.trans k4).trans kx).size
  obtain ⟨am2, pm2, e2, hmF⟩ := hmm
  simp only [List.cons.injEq, Value.slice.injEq, and_true] at e2
  obtain ⟨rfl, -, rfl⟩ := e2
  generalize hW5 : w4.alloc (.cells #[.int .i64 t2.n, .slice a41 t2.s.length p41, .bool t2.null, .slice a42 t2.l.length p42, .slice a43 t2.u.length p43] 37) = W5 at *
  have HA := fun W (k : Keep [] W5 W) => And.intro (k.cs (cellOf hbM 0 _ rfl)) (And.intro (k.cs (cellOf hbM 1 _ rfl)) (And.intro (k.cs (cellOf hbT 0 _ rfl)) (And.intro (k.cs (cellOf hbT 1 _ rfl)) (And.intro (k.cs (cellOf hbT 2 _ rfl)) (And.intro (k.cs (cellOf hbT 3 _ rfl)) (And.intro (k.cs (cellOf hbT 4 _ rfl)) (And.intro (k.cs (cellOf hbX 0 _ rfl)) (And.intro (k.cs (cellOf hbX 1 _ rfl)) (And.intro (k.cs (cellOf hbX 2 _ rfl)) (And.intro (k.cs (cellOf hbX 3 _ rfl)) (k.cs (cellOf hbX 4 _ rfl))))))))))))
  have HAH : Hid _ := HA
  clear HA h4 hbM hbT hbX hW5 kx HMK
  go_region_held3 (fun w' => w'.cell? ⟨w2.heap.size, 0, none⟩ = some (.slice am m_ControlledShutdownRequest.fields.length pm) ∧ w'.cell? ⟨w2.heap.size, 1, none⟩ = some (.int .i64 m_ControlledShutdownRequest.flex) ∧ w'.cell? ⟨w.heap.size, 0, none⟩ = some (.int .i64 t.n) ∧ w'.cell? ⟨w.heap.size, 1, none⟩ = some (.slice az t.s.length ps) ∧ w'.cell? ⟨w.heap.size, 2, none⟩ = some (.bool t.null) ∧ w'.cell? ⟨w.heap.size, 3, none⟩ = some (.slice al t.l.length pl) ∧ w'.cell? ⟨w.heap.size, 4, none⟩ = some (.slice au t.u.length pu) ∧ w'.cell? ⟨w4.heap.size, 0, none⟩ = some (.int .i64 t2.n) ∧ w'.cell? ⟨w4.heap.size, 1, none⟩ = some (.slice a41 t2.s.length p41) ∧ w'.cell? ⟨w4.heap.size, 2, none⟩ = some (.bool t2.null) ∧ w'.cell? ⟨w4.heap.size, 3, none⟩ = some (.slice a42 t2.l.length p42) ∧ w'.cell? ⟨w4.heap.size, 4, none⟩ = some (.slice a43 t2.u.length p43)) (first | exact HAH.out _ (Keep.refl _ _) | exact HAH.out _ (Keep.refl _ _).drew | exact HAH.out _ kg | exact HAH.out _ kt) (first
    | (go_at_call 11; go_loud (refine (TO (fun k => w.heap.size ≤ k ∧ k < (w2.alloc (.cells #[.slice am m_ControlledShutdownRequest.fields.length pm, .int .i64 m_ControlledShutdownRequest.flex] 31)).heap.size) _ _ _ _ t2 (hmF.keepF (hmG.same kall) (fun _ h => h)) hgot (fun k hk => hmG.keep kall k hk) hgotG HN2.out).mono ?_; rintro e wt ⟨rfl, kt0⟩; have kt : Keep [] W5 wt := kall.trans kt0))
    | (go_at_call 12; (refine (gotSaid t2 hsm2 _ _ _ (hx.keepF (hxG.same (Keep.refl [] W5).drew) (fun _ h => h)) (hxG.keep (Keep.refl [] W5).drew)).mono ?_; rintro e wg ⟨cg, rfl, hgot, kg0⟩; have hgotG := got_there hgot; obtain ⟨a61, p61, a62, p62, a63, p63, rfl, -⟩ := id hgot.cells; have kall : Keep [] W5 wg := (Keep.refl _ _).drew.trans kg0; have kg := kall)))
  all_goals go_wp2
  all_goals go_ret
  all_goals exact ⟨by simp, KX.trans kt⟩
end Go.Proofs.YtdklogmmfnddiaaDoor
