/-
  UpdateFeaturesResponse: reading.
-/
import Derived.Test.YtdebdgofomnpoaaGreatDoorMUfr1
import Derived.Deep.CutBlock
import Derived.Deep.DeepCutAuto
namespace Go.Proofs.YtdebdgofomnpoaaGreatDoor
open Go.ChangeShapes Go.WideShapes Go.ChangeAt Go.RowKit

set_option maxHeartbeats 4000000 in
set_option maxRecDepth 100000 in
theorem ufr_read_1s {G : Nat → Prop} {b : Nat} {p : Addr} {l : Bs} {src : Value} {w : World} {ver : Int} (hb : w.heap[b]? = some (.cells #[.int .i16 ver, .int .i32 0, .int .i16 0, .pointer none, .slice none 0 0, .map none] 167 (0, 0))) (hl : RB w G src l) (hG : There G w) (hGb : ¬ G b) (hg : Gl w p) (hp : b ≠ 1) (hv0 : 0 ≤ ver) (_B2 : 2 ≤ ver) :
    Calls Tryz.prog 178 #[.pointer (some ⟨b, 0, none⟩), src, .bool false] w fun e w' => e = .returned (errV p (rdPart q_UpdateFeaturesResponse ver true (l, false)).2.2) ∧ Keep [b] w w' ∧ ((rdPart q_UpdateFeaturesResponse ver true (l, false)).2.2 = false → VM w' (New G w w') b q_UpdateFeaturesResponse 167 ver (rdPart q_UpdateFeaturesResponse ver true (l, false)).1) := by
  obtain ⟨ao, cap, rfl⟩ := RS.shape hl
  have hbl : b < w.heap.size := World.heap_lt hb
  have hp1 : 1 < w.heap.size := World.block_lt_of_cell? w _ hg
  have cv : (w.alloc (.cells #[.slice ao l.length cap, .bool false] 230)).cell? ⟨b, 0, none⟩ = some (.int .i16 ver) := ((keep_box (A := []) _).cell (p := ⟨b, 0, none⟩) hbl (by simp)).trans (cellOf hb 0 _ rfl)
  have h0 : ElSt w (w.alloc (.cells #[.slice ao l.length cap, .bool false] 230)) b w.heap.size G (l, false) [.int .i16 ver] [] [.int .i32 0, .int .i16 0, .pointer none, .slice none 0 0, .map none] [] 167 [] [] :=
    ⟨⟨_, heap_alloc_new w _, hl.keepF (hG.same (keep_box _)) (fun _ h => h)⟩, ((keep_box (A := []) _).block b hbl (by simp)).trans hb, ⟨rfl, rfl⟩, (keep_box (A := []) _).weaken (by simp), hG, hGb, (fun e => by have := hG _ e; omega), hbl, by omega⟩
  clear hb
  have HEQ0 : Hid (rdPart q_UpdateFeaturesResponse ver true (l, false) = (.mk 0 [] false [(.mk (rdI 4 (l, false)).1 [] false [] []), (.mk (rdI 2 (rdI 4 (l, false)).2).1 [] false [] []), (nstrT (rdCNStr (rdI 2 (rdI 4 (l, false)).2).2).1), (.mk 0 [] true [] [])] (rdTags (rdCNStr (rdI 2 (rdI 4 (l, false)).2).2).2).1, (rdTags (rdCNStr (rdI 2 (rdI 4 (l, false)).2).2).2).2)) := by
    show _ = _
    simp [rdPart, rdK, rdPartOf, q_UpdateFeaturesResponse, rdFs, (has_yes (show (0 : Int) ≤ ver by omega) (.inl (by decide)) : F.has (.mk 3 0 (-1) (-1) (-1) 0 0 []) ver = true), (has_yes (show (0 : Int) ≤ ver by omega) (.inl (by decide)) : F.has (.mk 2 0 (-1) (-1) (-1) 0 0 []) ver = true), (has_yes (show (0 : Int) ≤ ver by omega) (.inl (by decide)) : F.has (.mk 8 0 (-1) 0 (-1) 0 0 []) ver = true), (has_no2 (show ¬ ver ≤ (1 : Int) by omega) (by decide) : F.has (.mk 11 0 1 (-1) (-1) 0 10 q_UpdateFeaturesResponseResult) ver = false), rdF, dflF, hv0]
  go_enter Tryz.func178, Tryz.ntmps178
  go_wp2_with (first
    | (go_at_call 177; refine (d_UpdateFeaturesResponse _ _).mono ?_; rintro e wd ⟨rfl, rfl⟩)
    | (go_at_call 212; go_loud (refine (int32_any h0.rd h0.hG h0.nrb).mono ?_; rintro e w1 ⟨rfl, r1, k1⟩; have h2 := h0.call r1 k1; have c1 := h2.cellAt (o := 1) rfl; have f1 := h2.free (1); have h3 : ElSt w (w1.setCell ⟨b, 1, none⟩ (.int .i32 (rdI 4 (l, false)).1)) b w.heap.size G (rdI 4 (l, false)).2 [.int .i16 ver] [.int .i32 (rdI 4 (l, false)).1] [.int .i16 0, .pointer none, .slice none 0 0, .map none] [] 167 [.mk 3 0 (-1) (-1) (-1) 0 0 []] [(.mk (rdI 4 (l, false)).1 [] false [] [])] := h2.put (o := 1) rfl (vf_i32 (rdI_range4 _)); clear r1 k1 h0 h2))
    | (go_at_call 224; go_loud (refine (int16_any h3.rd h3.hG h3.nrb).mono ?_; rintro e w4 ⟨rfl, r4, k4⟩; have h5 := h3.call r4 k4; have c4 := h5.cellAt (o := 2) rfl; have f4 := h5.free (2); have h6 : ElSt w (w4.setCell ⟨b, 2, none⟩ (.int .i16 (rdI 2 (rdI 4 (l, false)).2).1)) b w.heap.size G (rdI 2 (rdI 4 (l, false)).2).2 [.int .i16 ver] [.int .i32 (rdI 4 (l, false)).1, .int .i16 (rdI 2 (rdI 4 (l, false)).2).1] [.pointer none, .slice none 0 0, .map none] [] 167 [.mk 3 0 (-1) (-1) (-1) 0 0 [], .mk 2 0 (-1) (-1) (-1) 0 0 []] [(.mk (rdI 4 (l, false)).1 [] false [] []), (.mk (rdI 2 (rdI 4 (l, false)).2).1 [] false [] [])] := h5.put (o := 2) rfl (vf_i16 (rdI_range2 _)); clear r4 k4 h3 h5))
    | (go_at_call 239; go_loud (refine (cnstring_any h6.rd h6.hG h6.nrb).mono ?_; rintro e w7 ⟨pv7, rfl, ps7, r7, k7⟩; obtain ⟨pa7, rfl⟩ := ps7.shape; have nw7 := h6.nwOf (W := w7); have h8 := h6.call r7 k7; have c7 := h8.cellAt (o := 3) rfl; have f7 := h8.free (3); have h9 : ElSt w (w7.setCell ⟨b, 3, none⟩ (.pointer pa7)) b w.heap.size G (rdCNStr (rdI 2 (rdI 4 (l, false)).2).2).2 [.int .i16 ver] [.int .i32 (rdI 4 (l, false)).1, .int .i16 (rdI 2 (rdI 4 (l, false)).2).1, .pointer pa7] [.slice none 0 0, .map none] [] 167 [.mk 3 0 (-1) (-1) (-1) 0 0 [], .mk 2 0 (-1) (-1) (-1) 0 0 [], .mk 8 0 (-1) 0 (-1) 0 0 []] [(.mk (rdI 4 (l, false)).1 [] false [] []), (.mk (rdI 2 (rdI 4 (l, false)).2).1 [] false [] []), (nstrT (rdCNStr (rdI 2 (rdI 4 (l, false)).2).2).1)] := h8.put (o := 3) rfl (vf_nstr (by decide) (ps7.keepF (fun _ _ => rfl) nw7)); clear r7 k7 h6 h8))
    | (go_at_call 225; go_loud (have h10 : ElSt w (w7.setCell ⟨b, 3, none⟩ (.pointer pa7)) b w.heap.size G (rdCNStr (rdI 2 (rdI 4 (l, false)).2).2).2 [.int .i16 ver] [.int .i32 (rdI 4 (l, false)).1, .int .i16 (rdI 2 (rdI 4 (l, false)).2).1, .pointer pa7, .slice none 0 0] [.map none] [] 167 [.mk 3 0 (-1) (-1) (-1) 0 0 [], .mk 2 0 (-1) (-1) (-1) 0 0 [], .mk 8 0 (-1) 0 (-1) 0 0 [], .mk 11 0 1 (-1) (-1) 0 10 q_UpdateFeaturesResponseResult] [(.mk (rdI 4 (l, false)).1 [] false [] []), (.mk (rdI 2 (rdI 4 (l, false)).2).1 [] false [] []), (nstrT (rdCNStr (rdI 2 (rdI 4 (l, false)).2).2).1), (.mk 0 [] true [] [])] := h9.pass (vf_list rfl (VL.nil _ _ _ _)); clear h9; refine (rtags_any h10.rd h10.hG h10.nrb).mono ?_; rintro e w11 ⟨tv11, rfl, mp11, mb11, r11, k11⟩; obtain ⟨mr11, rfl⟩ := mp11.shape; have mq11 := mp11.keepF (fun _ _ => rfl) (h10.nwNew (W := w11)); have h12 := h10.call r11 k11; have c11 := h12.cellAt (o := 5) rfl; have f11 := h12.free (5); have he13 := h12.tags (o := 5) rfl mq11; clear r11 k11 h10 h12))
    | (go_at_call 216; go_loud (refine (complete_any he13.rd (hg.keep he13.keep (by simp; omega))).mono ?_; rintro e wz ⟨rfl, kz⟩)))
  go_ret
  have hz := he13.calm hG hGb hbl he13.rd.lt' kz
  obtain ⟨q1, q2⟩ := hz.vm (Nat.le_refl _)
  rw [HEQ0.out]
  dsimp only
  exact ⟨by simp, q1, fun _ => q2⟩
end Go.Proofs.YtdebdgofomnpoaaGreatDoor
