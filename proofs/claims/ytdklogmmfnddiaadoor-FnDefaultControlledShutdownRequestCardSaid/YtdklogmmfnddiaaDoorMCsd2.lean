/-
  ControlledShutdownRequest: reading.
-/
import Derived.Test.YtdklogmmfnddiaaDoorMCsd1
import Derived.Test.YtdklogmmfnddiaaDoorMB13
import Derived.Deep.CutBlock
import Derived.Deep.DeepCutAuto
namespace Go.Proofs.YtdklogmmfnddiaaDoor
open Go.ChangeShapes Go.WideShapes Go.ChangeAt Go.RowKit

set_option maxHeartbeats 4000000 in
set_option maxRecDepth 100000 in
theorem csd_read_0n {G : Nat → Prop} {b : Nat} {p : Addr} {l : Bs} {src : Value} {w : World} {ver : Int} (hb : w.heap[b]? = some (.cells #[.int .i16 ver, .int .i32 0, .int .i64 (-1), .map none] 78 (0, 0))) (hl : RB w G src l) (hG : There G w) (hGb : ¬ G b) (hg : Gl w p) (hp : b ≠ 1) (hv0 : 0 ≤ ver) (_B2 : ¬ 2 ≤ ver) (_B3 : ¬ 3 ≤ ver) (u : Bool) :
    Calls Tryd.prog 41 #[.pointer (some ⟨b, 0, none⟩), src, .bool u] w fun e w' => e = .returned (errV p (rdPart q_ControlledShutdownRequest ver false (l, false)).2.2) ∧ Keep [b] w w' ∧ ((rdPart q_ControlledShutdownRequest ver false (l, false)).2.2 = false → VM w' (New G w w') b q_ControlledShutdownRequest 78 ver (rdPart q_ControlledShutdownRequest ver false (l, false)).1) := by
  obtain ⟨ao, cap, rfl⟩ := RS.shape hl
  have hbl : b < w.heap.size := World.heap_lt hb
  have hp1 : 1 < w.heap.size := World.block_lt_of_cell? w _ hg
  have cv : (w.alloc (.cells #[.slice ao l.length cap, .bool false] 99)).cell? ⟨b, 0, none⟩ = some (.int .i16 ver) := ((keep_box (A := []) _).cell (p := ⟨b, 0, none⟩) hbl (by simp)).trans (cellOf hb 0 _ rfl)
  have h0 : ElSt w (w.alloc (.cells #[.slice ao l.length cap, .bool false] 99)) b w.heap.size G (l, false) [.int .i16 ver] [] [.int .i32 0, .int .i64 (-1), .map none] [] 78 [] [] :=
    ⟨⟨_, heap_alloc_new w _, hl.keepF (hG.same (keep_box _)) (fun _ h => h), fun e => absurd e (by simp)⟩, ((keep_box (A := []) _).block b hbl (by simp)).trans hb, ⟨rfl, rfl⟩, (keep_box (A := []) _).weaken (by simp), hG, hGb, (fun e => by have := hG _ e; omega), hbl, by omega⟩
  have hd2 := cellOf hb 2 _ rfl
  have hf2 := freeOf hb 2
  clear hb
  have HEQ0 : Hid (rdPart q_ControlledShutdownRequest ver false (l, false) = (.mk 0 [] false [(.mk (rdI 4 (l, false)).1 [] false [] []), (.mk (-1) [] false [] [])] [], (rdI 4 (l, false)).2)) := by
    show _ = _
    simp [rdPart, rdK, rdPartOf, q_ControlledShutdownRequest, rdFs, (has_yes (show (0 : Int) ≤ ver by omega) (.inl (by decide)) : F.has (.mk 3 0 (-1) (-1) (-1) 0 0 []) ver = true), (has_no1 (show ¬ (2 : Int) ≤ ver by omega) : F.has (.mk 4 2 (-1) (-1) (-1) (-1) 0 []) ver = false), rdF, dflF]
  go_enter Tryd.func41, Tryd.ntmps41
  go_wp2_with (first
    | (go_at_call 23; refine (d_ControlledShutdownRequest hd2 hf2).mono ?_; rintro e wd ⟨rfl, rfl⟩)
    | (go_at_call 57; go_loud (refine (int32_any h0.rd h0.hG h0.nrb).mono ?_; rintro e w1 ⟨rfl, r1, k1⟩; have h2 := h0.call r1 k1; have c1 := h2.cellAt (o := 1) rfl; have f1 := h2.free (1); have h3 : ElSt w (w1.setCell ⟨b, 1, none⟩ (.int .i32 (rdI 4 (l, false)).1)) b w.heap.size G (rdI 4 (l, false)).2 [.int .i16 ver] [.int .i32 (rdI 4 (l, false)).1] [.int .i64 (-1), .map none] [] 78 [.mk 3 0 (-1) (-1) (-1) 0 0 []] [(.mk (rdI 4 (l, false)).1 [] false [] [])] := h2.put (o := 1) rfl (vf_i32 (rdI_range4 _)); clear r1 k1 h0 h2; generalize (rdI 4 (l, false)).2 = zs1 at *))
    | (go_at_call 60; go_loud (have h4 : ElSt w (w1.setCell ⟨b, 1, none⟩ (.int .i32 (rdI 4 (l, false)).1)) b w.heap.size G zs1 [.int .i16 ver] [.int .i32 (rdI 4 (l, false)).1, .int .i64 (-1)] [.map none] [] 78 [.mk 3 0 (-1) (-1) (-1) 0 0 [], .mk 4 2 (-1) (-1) (-1) (-1) 0 []] [(.mk (rdI 4 (l, false)).1 [] false [] []), (.mk (-1) [] false [] [])] := h3.pass (vf_i64 (by decide)); clear h3; have he5 := h4.bare; refine (complete_any he5.rd (hg.keep he5.keep (by simp; omega))).mono ?_; rintro e wz ⟨rfl, kz⟩)))
  go_ret
  have hz := he5.calm hG hGb hbl he5.rd.lt' kz
  obtain ⟨q1, q2⟩ := hz.vm (Nat.le_refl _)
  rw [HEQ0.out]
  dsimp only
  exact ⟨by simp, q1, fun _ => q2⟩
end Go.Proofs.YtdklogmmfnddiaaDoor
