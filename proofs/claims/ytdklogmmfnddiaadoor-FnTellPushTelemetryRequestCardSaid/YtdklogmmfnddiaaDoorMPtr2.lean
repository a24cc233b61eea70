/-
  PushTelemetryRequest: reading.
-/
import Derived.Test.YtdklogmmfnddiaaDoorMPtr1
import Derived.Test.YtdklogmmfnddiaaDoorMB13
import Derived.Deep.CutBlock
import Derived.Deep.DeepCutAuto
namespace Go.Proofs.YtdklogmmfnddiaaDoor
open Go.ChangeShapes Go.WideShapes Go.ChangeAt Go.RowKit

set_option maxHeartbeats 40000000 in
set_option maxRecDepth 100000 in
theorem ptr_read_0n {G : Nat → Prop} {b : Nat} {p : Addr} {l : Bs} {src : Value} {w : World} {ver : Int} (hb : w.heap[b]? = some (.cells #[.int .i16 ver, .int .u8 0, .int .u8 0, .int .u8 0, .int .u8 0, .int .u8 0, .int .u8 0, .int .u8 0, .int .u8 0, .int .u8 0, .int .u8 0, .int .u8 0, .int .u8 0, .int .u8 0, .int .u8 0, .int .u8 0, .int .u8 0, .int .i32 0, .bool false, .int .i8 0, .slice none 0 0, .map none] 91 (0, 0))) (hl : RB w G src l) (hG : There G w) (hGb : ¬ G b) (hg : Gl w p) (hp : b ≠ 1) (hv0 : 0 ≤ ver)  (u : Bool) :
    Calls Tryd.prog 49 #[.pointer (some ⟨b, 0, none⟩), src, .bool u] w fun e w' => e = .returned (errV p (rdPart q_PushTelemetryRequest ver true (l, false)).2.2) ∧ Keep [b] w w' ∧ ((rdPart q_PushTelemetryRequest ver true (l, false)).2.2 = false → VM w' (New G w w') b q_PushTelemetryRequest 91 ver (rdPart q_PushTelemetryRequest ver true (l, false)).1) := by
  obtain ⟨ao, cap, rfl⟩ := RS.shape hl
  have hbl : b < w.heap.size := World.heap_lt hb
  have hp1 : 1 < w.heap.size := World.block_lt_of_cell? w _ hg
  have cv : (w.alloc (.cells #[.slice ao l.length cap, .bool false] 99)).cell? ⟨b, 0, none⟩ = some (.int .i16 ver) := ((keep_box (A := []) _).cell (p := ⟨b, 0, none⟩) hbl (by simp)).trans (cellOf hb 0 _ rfl)
  have h0 : ElSt w (w.alloc (.cells #[.slice ao l.length cap, .bool false] 99)) b w.heap.size G (l, false) [.int .i16 ver] [] [.int .u8 0, .int .u8 0, .int .u8 0, .int .u8 0, .int .u8 0, .int .u8 0, .int .u8 0, .int .u8 0, .int .u8 0, .int .u8 0, .int .u8 0, .int .u8 0, .int .u8 0, .int .u8 0, .int .u8 0, .int .u8 0, .int .i32 0, .bool false, .int .i8 0, .slice none 0 0, .map none] [] 91 [] [] :=
    ⟨⟨_, heap_alloc_new w _, hl.keepF (hG.same (keep_box _)) (fun _ h => h), fun e => absurd e (by simp)⟩, ((keep_box (A := []) _).block b hbl (by simp)).trans hb, ⟨rfl, rfl⟩, (keep_box (A := []) _).weaken (by simp), hG, hGb, (fun e => by have := hG _ e; omega), hbl, by omega⟩
  clear hb
  have HEQ0 : Hid (rdPart q_PushTelemetryRequest ver true (l, false) = (.mk 0 [] false [(.mk 0 (rdUuid (l, false)).1 false [] []), (.mk (rdI 4 (rdUuid (l, false)).2).1 [] false [] []), (.mk (if (rdBool (rdI 4 (rdUuid (l, false)).2).2).1 then 1 else 0) [] false [] []), (.mk (rdI 1 (rdBool (rdI 4 (rdUuid (l, false)).2).2).2).1 [] false [] []), (octT (rdCBy (rdI 1 (rdBool (rdI 4 (rdUuid (l, false)).2).2).2).2).1)] (rdTags (rdCBy (rdI 1 (rdBool (rdI 4 (rdUuid (l, false)).2).2).2).2).2).1, (rdTags (rdCBy (rdI 1 (rdBool (rdI 4 (rdUuid (l, false)).2).2).2).2).2).2)) := by
    show _ = _
    simp [rdPart, rdK, rdPartOf, q_PushTelemetryRequest, rdFs, (has_yes (show (0 : Int) ≤ ver by omega) (.inl (by decide)) : F.has (.mk 7 0 (-1) (-1) (-1) 0 0 []) ver = true), (has_yes (show (0 : Int) ≤ ver by omega) (.inl (by decide)) : F.has (.mk 3 0 (-1) (-1) (-1) 0 0 []) ver = true), (has_yes (show (0 : Int) ≤ ver by omega) (.inl (by decide)) : F.has (.mk 0 0 (-1) (-1) (-1) 0 0 []) ver = true), (has_yes (show (0 : Int) ≤ ver by omega) (.inl (by decide)) : F.has (.mk 1 0 (-1) (-1) (-1) 0 0 []) ver = true), (has_yes (show (0 : Int) ≤ ver by omega) (.inl (by decide)) : F.has (.mk 9 0 (-1) (-1) (-1) 0 0 []) ver = true), rdF]
  go_enter Tryd.func49, Tryd.ntmps49
  go_upto_region 9 with (first
    | (go_at_call 48; refine (d_PushTelemetryRequest _ _).mono ?_; rintro e wd ⟨rfl, rfl⟩)
    | (go_at_call 65; go_loud (refine (uuid_any h0.rd h0.hG h0.nrb).mono ?_; rintro e w1 ⟨rfl, r1, k1⟩; have h2 := h0.call r1 k1; have hu1 := uuid_len (l, false); have ho1 := one16 (rdUuid (l, false)).1; have hv1 : (rdUuid (l, false)).1.map bv = (rdUuid (l, false)).1.map bv := rfl; generalize hq1 : (rdUuid (l, false)).1.map bv = cq1 at *; have HV1 : Hid _ := hq1; clear h0 r1 k1 hv1 hq1))
    | (refine wpList_store_list rfl 89 (.tmp 11) (.tmp 29) rfl w1.heap.size 0 cq1 rfl rfl (box_there _ (by rw [hu1]; rfl)) (info16 hu1) ho1 ?_; try simp only [Act.put]))
  have kb1 := box_keep w1 (arr := #[.int .u8 0, .int .u8 0, .int .u8 0, .int .u8 0, .int .u8 0, .int .u8 0, .int .u8 0, .int .u8 0, .int .u8 0, .int .u8 0, .int .u8 0, .int .u8 0, .int .u8 0, .int .u8 0, .int .u8 0, .int .u8 0]) (ty := 89) (cs := cq1) (by rw [hu1]; rfl)
  have rx1 := box_range w1 (arr := #[.int .u8 0, .int .u8 0, .int .u8 0, .int .u8 0, .int .u8 0, .int .u8 0, .int .u8 0, .int .u8 0, .int .u8 0, .int .u8 0, .int .u8 0, .int .u8 0, .int .u8 0, .int .u8 0, .int .u8 0, .int .u8 0]) (ty := 89) (cs := cq1) (by rw [hu1]; rfl)
  have h3 := h2.calm kb1
  clear h2 kb1
  generalize ((w1.alloc (.cells #[.int .u8 0, .int .u8 0, .int .u8 0, .int .u8 0, .int .u8 0, .int .u8 0, .int .u8 0, .int .u8 0, .int .u8 0, .int .u8 0, .int .u8 0, .int .u8 0, .int .u8 0, .int .u8 0, .int .u8 0, .int .u8 0] 89)).setCells w1.heap.size 0 cq1) = ub1 at *
  have HX1 : Hid _ := rx1
  clear rx1
  go_cut [] (fun wx => ∃ cu1 : List Value, cu1.length = 16 ∧ ElSt w wx b w.heap.size G (rdUuid (l, false)).2 [.int .i16 ver] ([] ++ cu1) [.int .i32 0, .bool false, .int .i8 0, .slice none 0 0, .map none] [] 91 [.mk 7 0 (-1) (-1) (-1) 0 0 []] [(.mk 0 (rdUuid (l, false)).1 false [] [])])
  case first =>
    have HU1 : Hid (ElSt w (ub1.setCells b (1) cq1) b w.heap.size G (rdUuid (l, false)).2 [.int .i16 ver] ([] ++ cq1) [.int .i32 0, .bool false, .int .i8 0, .slice none 0 0, .map none] [] 91 [.mk 7 0 (-1) (-1) (-1) 0 0 []] [(.mk 0 (rdUuid (l, false)).1 false [] [])]) := h3.putsC (xs := cq1) (olds := [.int .u8 0, .int .u8 0, .int .u8 0, .int .u8 0, .int .u8 0, .int .u8 0, .int .u8 0, .int .u8 0, .int .u8 0, .int .u8 0, .int .u8 0, .int .u8 0, .int .u8 0, .int .u8 0, .int .u8 0, .int .u8 0]) rfl (by rw [hu1]; rfl) (vf_uuid2 (x := (rdUuid (l, false)).1) HV1.out.symm (pad16_length _))
    have HT1 : Hid (ub1.there b (1) cq1.length) := h3.there_ (olds := [.int .u8 0, .int .u8 0, .int .u8 0, .int .u8 0, .int .u8 0, .int .u8 0, .int .u8 0, .int .u8 0, .int .u8 0, .int .u8 0, .int .u8 0, .int .u8 0, .int .u8 0, .int .u8 0, .int .u8 0, .int .u8 0]) rfl (by rw [hu1]; rfl)
    clear h3
    go_wp2_with (first
      | (refine wpList_load_mid rfl 89 (.tmp 11) rfl _ _ rfl cq1 _ HX1.out Tryd.underlying89 rfl (info16 hu1) ?_; try simp only [Act.put, List.setIfInBounds_toArray, List.set_cons_zero, List.set_cons_succ])
      | (refine wpList_store_list rfl 89 (.tmp 33) (.tmp 31) rfl b (1) cq1 rfl rfl HT1.out (info16 hu1) ho1 ?_; try simp only [Act.put])
      | (go_meet; exact ⟨_, hu1, HU1.out⟩))
  case rest =>
    obtain ⟨cu1, hl_cu1, h4⟩ := hcut
    obtain ⟨wu1, rfl⟩ : ∃ x : World, x = wc := ⟨_, rfl⟩
    clear h3 HX1 HV1 hu1 ho1
    generalize (rdUuid (l, false)).2 = zs1 at *
    go_wp2_with (first
      | (go_at_call 57; go_loud (refine (int32_any h4.rd h4.hG h4.nrb).mono ?_; rintro e w5 ⟨rfl, r5, k5⟩; have h6 := h4.call r5 k5; have c5 := h6.cellAt (o := 17) (by simp [hl_cu1]); have f5 := h6.free (17); have h7 : ElSt w (w5.setCell ⟨b, 17, none⟩ (.int .i32 (rdI 4 zs1).1)) b w.heap.size G (rdI 4 zs1).2 [.int .i16 ver] (([] ++ cu1) ++ [.int .i32 (rdI 4 zs1).1]) [.bool false, .int .i8 0, .slice none 0 0, .map none] [] 91 [.mk 7 0 (-1) (-1) (-1) 0 0 [], .mk 3 0 (-1) (-1) (-1) 0 0 []] [(.mk 0 (rdUuid (l, false)).1 false [] []), (.mk (rdI 4 zs1).1 [] false [] [])] := h6.put (o := 17) (by simp [hl_cu1]) (vf_i32 (rdI_range4 _)); clear r5 k5 h4 h6; generalize (rdI 4 zs1).2 = zs5 at *))
      | (go_at_call 66; go_loud (refine (bool_any h7.rd h7.hG h7.nrb).mono ?_; rintro e w8 ⟨rfl, r8, k8⟩; have h9 := h7.call r8 k8; have c8 := h9.cellAt (o := 18) (by simp [hl_cu1]); have f8 := h9.free (18); have h10 : ElSt w (w8.setCell ⟨b, 18, none⟩ (.bool (rdBool zs5).1)) b w.heap.size G (rdBool zs5).2 [.int .i16 ver] ((([] ++ cu1) ++ [.int .i32 (rdI 4 zs1).1]) ++ [.bool (rdBool zs5).1]) [.int .i8 0, .slice none 0 0, .map none] [] 91 [.mk 7 0 (-1) (-1) (-1) 0 0 [], .mk 3 0 (-1) (-1) (-1) 0 0 [], .mk 0 0 (-1) (-1) (-1) 0 0 []] [(.mk 0 (rdUuid (l, false)).1 false [] []), (.mk (rdI 4 zs1).1 [] false [] []), (.mk (if (rdBool zs5).1 then 1 else 0) [] false [] [])] := h9.put (o := 18) (by simp [hl_cu1]) (vf_bool); clear r8 k8 h7 h9; generalize (rdBool zs5).2 = zs8 at *))
      | (go_at_call 67; go_loud (refine (int8_any h10.rd h10.hG h10.nrb).mono ?_; rintro e w11 ⟨rfl, r11, k11⟩; have h12 := h10.call r11 k11; have c11 := h12.cellAt (o := 19) (by simp [hl_cu1]); have f11 := h12.free (19); have h13 : ElSt w (w11.setCell ⟨b, 19, none⟩ (.int .i8 (rdI 1 zs8).1)) b w.heap.size G (rdI 1 zs8).2 [.int .i16 ver] (((([] ++ cu1) ++ [.int .i32 (rdI 4 zs1).1]) ++ [.bool (rdBool zs5).1]) ++ [.int .i8 (rdI 1 zs8).1]) [.slice none 0 0, .map none] [] 91 [.mk 7 0 (-1) (-1) (-1) 0 0 [], .mk 3 0 (-1) (-1) (-1) 0 0 [], .mk 0 0 (-1) (-1) (-1) 0 0 [], .mk 1 0 (-1) (-1) (-1) 0 0 []] [(.mk 0 (rdUuid (l, false)).1 false [] []), (.mk (rdI 4 zs1).1 [] false [] []), (.mk (if (rdBool zs5).1 then 1 else 0) [] false [] []), (.mk (rdI 1 zs8).1 [] false [] [])] := h12.put (o := 19) (by simp [hl_cu1]) (vf_i8 (rdI_range1 _)); clear r11 k11 h10 h12; generalize (rdI 1 zs8).2 = zs11 at *))
      | (go_at_call 68; go_loud (refine (cby_any h13.rd h13.hG h13.nrb).mono ?_; rintro e w14 ⟨ov14, rfl, os14, r14, k14⟩; obtain ⟨oa14, on14, oc14, rfl⟩ := OS.shape os14; have h15 := h13.call r14 k14; have c14 := h15.cellAt (o := 20) (by simp [hl_cu1]); have f14 := h15.free (20); have h16 : ElSt w (w14.setCell ⟨b, 20, none⟩ (.slice oa14 on14 oc14)) b w.heap.size G (rdCBy zs11).2 [.int .i16 ver] ((((([] ++ cu1) ++ [.int .i32 (rdI 4 zs1).1]) ++ [.bool (rdBool zs5).1]) ++ [.int .i8 (rdI 1 zs8).1]) ++ [.slice oa14 on14 oc14]) [.map none] [] 91 [.mk 7 0 (-1) (-1) (-1) 0 0 [], .mk 3 0 (-1) (-1) (-1) 0 0 [], .mk 0 0 (-1) (-1) (-1) 0 0 [], .mk 1 0 (-1) (-1) (-1) 0 0 [], .mk 9 0 (-1) (-1) (-1) 0 0 []] [(.mk 0 (rdUuid (l, false)).1 false [] []), (.mk (rdI 4 zs1).1 [] false [] []), (.mk (if (rdBool zs5).1 then 1 else 0) [] false [] []), (.mk (rdI 1 zs8).1 [] false [] []), (octT (rdCBy zs11).1)] := h15.put (o := 20) (by simp [hl_cu1]) (vf_oct (h15.octs os14)); clear r14 k14 h13 h15 os14; generalize (rdCBy zs11).2 = zs14 at *))
      | (go_at_call 59; go_loud (refine (rtags_any h16.rd h16.hG h16.nrb).mono ?_; rintro e w17 ⟨tv17, rfl, mp17, mb17, r17, k17⟩; obtain ⟨mr17, rfl⟩ := mp17.shape; have mq17 := mp17.keepF (fun _ _ => rfl) (h16.nwNew (W := w17)); have h18 := h16.call r17 k17; have c17 := h18.cellAt (o := 21) (by simp [hl_cu1]); have f17 := h18.free (21); have he19 := h18.tags (o := 21) (by simp [hl_cu1]) mq17; clear r17 k17 h16 h18))
      | (go_at_call 60; go_loud (refine (complete_any he19.rd (hg.keep he19.keep (by simp; omega))).mono ?_; rintro e wz ⟨rfl, kz⟩)))
    go_ret
    have hz := he19.calm hG hGb hbl he19.rd.lt' kz
    obtain ⟨q1, q2⟩ := hz.vm (Nat.le_refl _)
    rw [HEQ0.out]
    dsimp only
    exact ⟨by simp, q1, fun _ => q2⟩
end Go.Proofs.YtdklogmmfnddiaaDoor
