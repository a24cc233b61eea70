/-
  DeleteACLsRequest: reading.
-/
import Derived.Test.YtbdlilalihgdeaaGreatDoorMDcl1
import Derived.Deep.CutBlock
import Derived.Deep.DeepCutAuto
namespace Go.Proofs.YtbdlilalihgdeaaGreatDoor
open Go.ChangeShapes Go.WideShapes Go.ChangeAt Go.RowKit

set_option maxHeartbeats 4000000 in
set_option maxRecDepth 100000 in
theorem dcl_read_0s {G : Nat → Prop} {b : Nat} {p : Addr} {l : Bs} {src : Value} {w : World} {ver : Int} (hb : w.heap[b]? = some (.cells #[.int .i16 ver, .slice none 0 0, .map none] 114 (0, 0))) (hl : RB w G src l) (hG : There G w) (hGb : ¬ G b) (hg : Gl w p) (hp : b ≠ 1) (hv0 : 0 ≤ ver) (_B1 : ¬ 1 ≤ ver) (_B2 : ¬ 2 ≤ ver) :
    Calls Tryz.prog 129 #[.pointer (some ⟨b, 0, none⟩), src, .bool false] w fun e w' => e = .returned (errV p (rdPart q_DeleteACLsRequest ver false (l, false)).2.2) ∧ Keep [b] w w' ∧ ((rdPart q_DeleteACLsRequest ver false (l, false)).2.2 = false → VM w' (New G w w') b q_DeleteACLsRequest 114 ver (rdPart q_DeleteACLsRequest ver false (l, false)).1) := by
  obtain ⟨ao, cap, rfl⟩ := RS.shape hl
  have hbl : b < w.heap.size := World.heap_lt hb
  have hp1 : 1 < w.heap.size := World.block_lt_of_cell? w _ hg
  have cv : (w.alloc (.cells #[.slice ao l.length cap, .bool false] 209)).cell? ⟨b, 0, none⟩ = some (.int .i16 ver) := ((keep_box (A := []) _).cell (p := ⟨b, 0, none⟩) hbl (by simp)).trans (cellOf hb 0 _ rfl)
  have h0 : ElSt w (w.alloc (.cells #[.slice ao l.length cap, .bool false] 209)) b w.heap.size G (l, false) [.int .i16 ver] [] [.slice none 0 0, .map none] [] 114 [] [] :=
    ⟨⟨_, heap_alloc_new w _, hl.keepF (hG.same (keep_box _)) (fun _ h => h)⟩, ((keep_box (A := []) _).block b hbl (by simp)).trans hb, ⟨rfl, rfl⟩, (keep_box (A := []) _).weaken (by simp), hG, hGb, (fun e => by have := hG _ e; omega), hbl, by omega⟩
  clear hb
  have HEQ0 : Hid (rdPart q_DeleteACLsRequest ver false (l, false) = (.mk 0 [] false [(rdF (.mk 11 0 (-1) (-1) (-1) 0 10 q_DeleteACLsRequestFilter) ver false (l, false)).1] [], (rdF (.mk 11 0 (-1) (-1) (-1) 0 10 q_DeleteACLsRequestFilter) ver false (l, false)).2)) := by
    show _ = _
    simp [rdPart, rdPartOf, q_DeleteACLsRequest, rdFs, (has_yes (show (0 : Int) ≤ ver by omega) (.inl (by decide)) : F.has (.mk 11 0 (-1) (-1) (-1) 0 10 q_DeleteACLsRequestFilter) ver = true), rdF]
  go_enter Tryz.func129, Tryz.ntmps129
  have cl1 := h0.cellAt (o := 1) rfl
  go_wp2_with (first
    | (go_at_call 128; refine (d_DeleteACLsRequest _ _).mono ?_; rintro e wd ⟨rfl, rfl⟩)
    | (go_at_call 165; go_loud (refine (len_any h0.rd h0.hG h0.nrb).mono ?_; rintro e w1 ⟨rfl, r1, k1⟩; have lr1 := rdLen_range (l, false); have h2 := h0.call r1 k1; clear r1 k1; generalize hl1 : (rdLen (l, false)).1 = L1 at *; have HL1 : Hid _ := hl1; clear h0 hl1)))
  cases hbad1 : (rdLen (l, false)).2.2
  case true =>
    have HB : (rdPart q_DeleteACLsRequest ver false (l, false)).2.2 = true := by rw [HEQ0.out]; exact (show (rdF (.mk 11 0 (-1) (-1) (-1) 0 10 q_DeleteACLsRequestFilter) ver false (l, false)).2.2 = true from list_bad hbad1)
    have HBB : Hid _ := HB
    clear HB
    go_wp2_with (first
      | (go_at_call 166; refine (ok_any h2.rd).mono ?_; rintro e wo ⟨rfl, rfl⟩; rw [hbad1])
      | (go_at_call 167; go_loud (refine (complete_any h2.rd (hg.keep (h2.keep) (by simp; omega))).mono ?_; rintro e wz ⟨rfl, kz⟩; rw [hbad1])))
    go_ret
    rw [HBB.out]
    exact ⟨by simp, (Keep.fresh (B := [b]) (h2.keep) (by simp)).trans (kz.weaken (by simp)), fun e => by cases e⟩
  case false =>
    go_upto_if 59 with (go_at_call 166; refine (ok_any h2.rd).mono ?_; rintro e wo ⟨rfl, rfl⟩; rw [hbad1])
    go_cut [12] (fun av wx => RowIni w1 wx (.slice none 0 0) av L1.toNat [.int .i8 0, .pointer none, .int .i8 0, .pointer none, .pointer none, .int .i8 0, .int .i8 0, .map none] 123)
    case first =>
      by_cases hp : 0 < L1
      · obtain ⟨N, rfl⟩ : ∃ N : Nat, L1 = N := ⟨L1.toNat, by omega⟩
        obtain ⟨i0, hi, hz0, hz1, hz2⟩ := info_bd info_DeleteACLsRequestFilter
        have AP := run_append_empty_zeros (P := Tryz.prog) w1 112 21 112 123 i0 _ .i32 .i32 Tryz.underlying112 Tryz.underlying21 hi hz0 N (by omega) (by omega) (by omega) (Nat.le_trans (Nat.mul_le_mul_left N hz2) (by omega)) none
        go_wp2_with (at_builtin; go_loud (refine Lib.wpList_append_run _ rfl (.tmp 60) (.tmp 61) 112 21 rfl _ _ rfl rfl _ _ AP ?_))
        go_meet
        rw [Int.toNat_natCast]
        exact RowIni.made2 (w := w1) (z := .agg #[.int .i8 0, .pointer none, .int .i8 0, .pointer none, .pointer none, .int .i8 0, .int .i8 0, .map none]) (N := N) (e := 123) (show 0 < N by omega) rfl _
      · go_wp2_with fail
        go_meet
        exact .inl ⟨by omega, rfl, rfl⟩
    case rest =>
      have RR1 := RowRel.start hcut h2.rd h2.hG h2.nrb (gOf 10 false q_DeleteACLsRequestFilter ver) 8 10 q_DeleteACLsRequestFilter
      clear hcut
      obtain ⟨wl1, rfl⟩ : ∃ x : World, x = wc := ⟨_, rfl⟩
      obtain ⟨av1, rfl⟩ : ∃ x : Value, x = u12 := ⟨_, rfl⟩
      go_wp2_with fail
      go_loopw [14] (fun i wr => ∃ k : Nat, k ≤ L1.toNat ∧ i = .int .i32 (k : Int) ∧ RowRel w1 wl1 wr w.heap.size G (gOf 10 false q_DeleteACLsRequestFilter ver) (rdLen (l, false)).2 L1.toNat 8 k [.int .i8 0, .pointer none, .int .i8 0, .pointer none, .pointer none, .int .i8 0, .int .i8 0, .map none] 123 10 q_DeleteACLsRequestFilter (.slice none 0 0) av1) (fun i _ => L1.toNat - (intOf i).toNat)
      case atStart => exact ⟨0, Nat.zero_le _, rfl, RR1⟩
      case round =>
        obtain ⟨wr1, rfl⟩ : ∃ x : World, x = wr := ⟨_, rfl⟩
        obtain ⟨k3, hk3, rfl, RR⟩ := hrel
        have KR1 := RR.keep
        by_cases lt1 : (k3 : Int) < L1
        · obtain ⟨row1, cap1, pre1, post1, rfl, hcap1, hrw1, hpre1, e1, cont1⟩ := RR.elem (by omega : k3 < L1.toNat)
          clear RR RR1
          have hrx1 : w.heap.size ≤ row1 := by have := h2.keep.size; omega
          have KW1 : Keep [b, w.heap.size] w wr1 := Keep.trans (h2.keep) (KR1.weaken (by simp))
          have HBF1 : Hid (((gOf 10 false q_DeleteACLsRequestFilter ver) (rdTimes (gOf 10 false q_DeleteACLsRequestFilter ver) k3 (rdLen (l, false)).2).2).2.2 = true → (rdPart q_DeleteACLsRequest ver false (l, false)).2.2 = true) := fun h => by
            have hb : (rdF (.mk 11 0 (-1) (-1) (-1) 0 10 q_DeleteACLsRequestFilter) ver false (l, false)).2.2 = true := by
              rw [rdF_list HL1.out]
              exact rdTimes_from (gOf_b 10 false q_DeleteACLsRequestFilter ver) _ (k3 + 1) h _ (by omega)
            exact by rw [HEQ0.out]; exact hb
          generalize (rdTimes (gOf 10 false q_DeleteACLsRequestFilter ver) k3 (rdLen (l, false)).2).2 = sk1 at *
          have HEQ1 : Hid ((gOf 10 false q_DeleteACLsRequestFilter ver) sk1 = (.mk 0 [] false [(.mk (rdI 1 sk1).1 [] false [] []), (nstrT (rdNStr (rdI 1 sk1).2).1), (.mk 3 [] false [] []), (nstrT (rdNStr (rdNStr (rdI 1 sk1).2).2).1), (nstrT (rdNStr (rdNStr (rdNStr (rdI 1 sk1).2).2).2).1), (.mk (rdI 1 (rdNStr (rdNStr (rdNStr (rdI 1 sk1).2).2).2).2).1 [] false [] []), (.mk (rdI 1 (rdI 1 (rdNStr (rdNStr (rdNStr (rdI 1 sk1).2).2).2).2).2).1 [] false [] [])] [], (rdI 1 (rdI 1 (rdNStr (rdNStr (rdNStr (rdI 1 sk1).2).2).2).2).2).2)) := by
            show _ = _
            simp [gOf, rdK, rdPartOf, q_DeleteACLsRequestFilter, rdFs, (has_yes (show (0 : Int) ≤ ver by omega) (.inl (by decide)) : F.has (.mk 1 0 (-1) (-1) (-1) 0 0 []) ver = true), (has_yes (show (0 : Int) ≤ ver by omega) (.inl (by decide)) : F.has (.mk 8 0 (-1) 0 (-1) 0 0 []) ver = true), (has_no1 (show ¬ (1 : Int) ≤ ver by omega) : F.has (.mk 1 1 (-1) (-1) (-1) 3 0 []) ver = false), rdF, dflF, hv0]
          go_wp2_with (first
            | (go_at_call 184; go_loud (have dc1_2 := e1.cellN 2 (o := k3 * 8 + 2) rfl (el_atN hpre1 rfl); have df1_2 := e1.free (k3 * 8 + 2); refine (d_DeleteACLsRequestFilter dc1_2 df1_2).mono ?_; rintro e wd ⟨rfl, rfl⟩; have e1_2 := ElSt.store (r1 := [.int .i8 0, .pointer none]) (r2 := [.pointer none, .pointer none, .int .i8 0, .int .i8 0, .map none]) (o := k3 * 8 + 2) e1 (.int .i8 3) (el_atN hpre1 rfl); clear e1; clear dc1_2 df1_2))
            | (go_at_call 185; go_loud (refine (int8_any e1_2.rd e1_2.hG e1_2.nrb).mono ?_; rintro e w4 ⟨rfl, r4, k4⟩; have h5 := e1_2.call r4 k4; have c4 := h5.cellAt (o := k3 * 8) (el_at0 hpre1 rfl); have f4 := h5.free (k3 * 8); have h6 : ElSt wr1 (w4.setCell ⟨row1, k3 * 8, none⟩ (.int .i8 (rdI 1 sk1).1)) row1 w.heap.size G (rdI 1 sk1).2 pre1 [.int .i8 (rdI 1 sk1).1] [.pointer none, .int .i8 3, .pointer none, .pointer none, .int .i8 0, .int .i8 0, .map none] post1 123 [.mk 1 0 (-1) (-1) (-1) 0 0 []] [(.mk (rdI 1 sk1).1 [] false [] [])] := h5.put (o := k3 * 8) (el_at0 hpre1 rfl) (vf_i8 (rdI_range1 _)); clear r4 k4 e1_2 h5))
            | (go_at_call 189; go_loud (refine (nstring_any h6.rd h6.hG h6.nrb).mono ?_; rintro e w7 ⟨pv7, rfl, ps7, r7, k7⟩; obtain ⟨pa7, rfl⟩ := ps7.shape; have nw7 := h6.nwOf (W := w7); have h8 := h6.call r7 k7; have c7 := h8.cellAt (o := k3 * 8 + 1) (el_at hpre1 rfl); have f7 := h8.free (k3 * 8 + 1); have h9 : ElSt wr1 (w7.setCell ⟨row1, k3 * 8 + 1, none⟩ (.pointer pa7)) row1 w.heap.size G (rdNStr (rdI 1 sk1).2).2 pre1 [.int .i8 (rdI 1 sk1).1, .pointer pa7] [.int .i8 3, .pointer none, .pointer none, .int .i8 0, .int .i8 0, .map none] post1 123 [.mk 1 0 (-1) (-1) (-1) 0 0 [], .mk 8 0 (-1) 0 (-1) 0 0 []] [(.mk (rdI 1 sk1).1 [] false [] []), (nstrT (rdNStr (rdI 1 sk1).2).1)] := h8.put (o := k3 * 8 + 1) (el_at hpre1 rfl) (vf_nstr (by decide) (ps7.keepF (fun _ _ => rfl) nw7)); clear r7 k7 h6 h8))
            | (go_at_call 189; go_loud (have h10 : ElSt wr1 (w7.setCell ⟨row1, k3 * 8 + 1, none⟩ (.pointer pa7)) row1 w.heap.size G (rdNStr (rdI 1 sk1).2).2 pre1 [.int .i8 (rdI 1 sk1).1, .pointer pa7, .int .i8 3] [.pointer none, .pointer none, .int .i8 0, .int .i8 0, .map none] post1 123 [.mk 1 0 (-1) (-1) (-1) 0 0 [], .mk 8 0 (-1) 0 (-1) 0 0 [], .mk 1 1 (-1) (-1) (-1) 3 0 []] [(.mk (rdI 1 sk1).1 [] false [] []), (nstrT (rdNStr (rdI 1 sk1).2).1), (.mk 3 [] false [] [])] := h9.pass (vf_i8 (by decide)); clear h9; refine (nstring_any h10.rd h10.hG h10.nrb).mono ?_; rintro e w11 ⟨pv11, rfl, ps11, r11, k11⟩; obtain ⟨pa11, rfl⟩ := ps11.shape; have nw11 := h10.nwOf (W := w11); have h12 := h10.call r11 k11; have c11 := h12.cellAt (o := k3 * 8 + 3) (el_at hpre1 rfl); have f11 := h12.free (k3 * 8 + 3); have h13 : ElSt wr1 (w11.setCell ⟨row1, k3 * 8 + 3, none⟩ (.pointer pa11)) row1 w.heap.size G (rdNStr (rdNStr (rdI 1 sk1).2).2).2 pre1 [.int .i8 (rdI 1 sk1).1, .pointer pa7, .int .i8 3, .pointer pa11] [.pointer none, .int .i8 0, .int .i8 0, .map none] post1 123 [.mk 1 0 (-1) (-1) (-1) 0 0 [], .mk 8 0 (-1) 0 (-1) 0 0 [], .mk 1 1 (-1) (-1) (-1) 3 0 [], .mk 8 0 (-1) 0 (-1) 0 0 []] [(.mk (rdI 1 sk1).1 [] false [] []), (nstrT (rdNStr (rdI 1 sk1).2).1), (.mk 3 [] false [] []), (nstrT (rdNStr (rdNStr (rdI 1 sk1).2).2).1)] := h12.put (o := k3 * 8 + 3) (el_at hpre1 rfl) (vf_nstr (by decide) (ps11.keepF (fun _ _ => rfl) nw11)); clear r11 k11 h10 h12))
            | (go_at_call 189; go_loud (refine (nstring_any h13.rd h13.hG h13.nrb).mono ?_; rintro e w14 ⟨pv14, rfl, ps14, r14, k14⟩; obtain ⟨pa14, rfl⟩ := ps14.shape; have nw14 := h13.nwOf (W := w14); have h15 := h13.call r14 k14; have c14 := h15.cellAt (o := k3 * 8 + 4) (el_at hpre1 rfl); have f14 := h15.free (k3 * 8 + 4); have h16 : ElSt wr1 (w14.setCell ⟨row1, k3 * 8 + 4, none⟩ (.pointer pa14)) row1 w.heap.size G (rdNStr (rdNStr (rdNStr (rdI 1 sk1).2).2).2).2 pre1 [.int .i8 (rdI 1 sk1).1, .pointer pa7, .int .i8 3, .pointer pa11, .pointer pa14] [.int .i8 0, .int .i8 0, .map none] post1 123 [.mk 1 0 (-1) (-1) (-1) 0 0 [], .mk 8 0 (-1) 0 (-1) 0 0 [], .mk 1 1 (-1) (-1) (-1) 3 0 [], .mk 8 0 (-1) 0 (-1) 0 0 [], .mk 8 0 (-1) 0 (-1) 0 0 []] [(.mk (rdI 1 sk1).1 [] false [] []), (nstrT (rdNStr (rdI 1 sk1).2).1), (.mk 3 [] false [] []), (nstrT (rdNStr (rdNStr (rdI 1 sk1).2).2).1), (nstrT (rdNStr (rdNStr (rdNStr (rdI 1 sk1).2).2).2).1)] := h15.put (o := k3 * 8 + 4) (el_at hpre1 rfl) (vf_nstr (by decide) (ps14.keepF (fun _ _ => rfl) nw14)); clear r14 k14 h13 h15))
            | (go_at_call 185; go_loud (refine (int8_any h16.rd h16.hG h16.nrb).mono ?_; rintro e w17 ⟨rfl, r17, k17⟩; have h18 := h16.call r17 k17; have c17 := h18.cellAt (o := k3 * 8 + 5) (el_at hpre1 rfl); have f17 := h18.free (k3 * 8 + 5); have h19 : ElSt wr1 (w17.setCell ⟨row1, k3 * 8 + 5, none⟩ (.int .i8 (rdI 1 (rdNStr (rdNStr (rdNStr (rdI 1 sk1).2).2).2).2).1)) row1 w.heap.size G (rdI 1 (rdNStr (rdNStr (rdNStr (rdI 1 sk1).2).2).2).2).2 pre1 [.int .i8 (rdI 1 sk1).1, .pointer pa7, .int .i8 3, .pointer pa11, .pointer pa14, .int .i8 (rdI 1 (rdNStr (rdNStr (rdNStr (rdI 1 sk1).2).2).2).2).1] [.int .i8 0, .map none] post1 123 [.mk 1 0 (-1) (-1) (-1) 0 0 [], .mk 8 0 (-1) 0 (-1) 0 0 [], .mk 1 1 (-1) (-1) (-1) 3 0 [], .mk 8 0 (-1) 0 (-1) 0 0 [], .mk 8 0 (-1) 0 (-1) 0 0 [], .mk 1 0 (-1) (-1) (-1) 0 0 []] [(.mk (rdI 1 sk1).1 [] false [] []), (nstrT (rdNStr (rdI 1 sk1).2).1), (.mk 3 [] false [] []), (nstrT (rdNStr (rdNStr (rdI 1 sk1).2).2).1), (nstrT (rdNStr (rdNStr (rdNStr (rdI 1 sk1).2).2).2).1), (.mk (rdI 1 (rdNStr (rdNStr (rdNStr (rdI 1 sk1).2).2).2).2).1 [] false [] [])] := h18.put (o := k3 * 8 + 5) (el_at hpre1 rfl) (vf_i8 (rdI_range1 _)); clear r17 k17 h16 h18))
            | (go_at_call 185; go_loud (refine (int8_any h19.rd h19.hG h19.nrb).mono ?_; rintro e w20 ⟨rfl, r20, k20⟩; have h21 := h19.call r20 k20; have c20 := h21.cellAt (o := k3 * 8 + 6) (el_at hpre1 rfl); have f20 := h21.free (k3 * 8 + 6); have h22 : ElSt wr1 (w20.setCell ⟨row1, k3 * 8 + 6, none⟩ (.int .i8 (rdI 1 (rdI 1 (rdNStr (rdNStr (rdNStr (rdI 1 sk1).2).2).2).2).2).1)) row1 w.heap.size G (rdI 1 (rdI 1 (rdNStr (rdNStr (rdNStr (rdI 1 sk1).2).2).2).2).2).2 pre1 [.int .i8 (rdI 1 sk1).1, .pointer pa7, .int .i8 3, .pointer pa11, .pointer pa14, .int .i8 (rdI 1 (rdNStr (rdNStr (rdNStr (rdI 1 sk1).2).2).2).2).1, .int .i8 (rdI 1 (rdI 1 (rdNStr (rdNStr (rdNStr (rdI 1 sk1).2).2).2).2).2).1] [.map none] post1 123 [.mk 1 0 (-1) (-1) (-1) 0 0 [], .mk 8 0 (-1) 0 (-1) 0 0 [], .mk 1 1 (-1) (-1) (-1) 3 0 [], .mk 8 0 (-1) 0 (-1) 0 0 [], .mk 8 0 (-1) 0 (-1) 0 0 [], .mk 1 0 (-1) (-1) (-1) 0 0 [], .mk 1 0 (-1) (-1) (-1) 0 0 []] [(.mk (rdI 1 sk1).1 [] false [] []), (nstrT (rdNStr (rdI 1 sk1).2).1), (.mk 3 [] false [] []), (nstrT (rdNStr (rdNStr (rdI 1 sk1).2).2).1), (nstrT (rdNStr (rdNStr (rdNStr (rdI 1 sk1).2).2).2).1), (.mk (rdI 1 (rdNStr (rdNStr (rdNStr (rdI 1 sk1).2).2).2).2).1 [] false [] []), (.mk (rdI 1 (rdI 1 (rdNStr (rdNStr (rdNStr (rdI 1 sk1).2).2).2).2).2).1 [] false [] [])] := h21.put (o := k3 * 8 + 6) (el_at hpre1 rfl) (vf_i8 (rdI_range1 _)); clear r20 k20 h19 h21)))
          have he23 := h22.bare
          go_roundw
          case rel => exact ⟨k3 + 1, by omega, by go_num, cont1 _ _ _ _ he23 rfl HEQ1.out⟩
          case measure => simp [intOf]; omega
        · obtain ⟨rr, kr, ⟨ao1, cp1, rfl⟩, vl⟩ := RR.fin (by omega) (.inl rfl)
          clear RR RR1
          have LE := rdF_list (a := 0) (b := (-1)) (c := (-1)) (d := 0) (ofk := 10) (v := ver) (sub := q_DeleteACLsRequestFilter) HL1.out
          have rr2 : Rd wr1 w.heap.size G (rdF (.mk 11 0 (-1) (-1) (-1) 0 10 q_DeleteACLsRequestFilter) ver false (l, false)).2 := by rw [LE]; exact rr
          have vl2 := vl (decide (L1 ≤ 0)) (by simp)
          have vl3 : VL wr1 (Nw G w1 w.heap.size wr1) (VK wr1 (Nw G w1 w.heap.size wr1) 10 (-1) (VFs wr1 (Nw G w1 w.heap.size wr1) q_DeleteACLsRequestFilter)) 8 (.slice ao1 L1.toNat cp1) (rdF (.mk 11 0 (-1) (-1) (-1) 0 10 q_DeleteACLsRequestFilter) ver false (l, false)).1 := by rw [LE]; exact vl2
          have gr : ∀ i, Nw G w1 w.heap.size wr1 i → Nw G w w.heap.size wr1 i := fun i hi => ⟨hi.1.imp id (Nat.le_trans h2.keep.size), hi.2⟩
          have vl4 := VL.keepF (fun _ _ => rfl) gr (fun c t => VK.keepF (fun _ _ => rfl) gr (fun c l => VFs.keepF (fun _ _ => rfl) gr q_DeleteACLsRequestFilter)) vl3
          have h24 := h2.call rr2 kr
          clear rr rr2 vl vl2 vl3 LE
          have c1 := h24.cellAt (o := 1) rfl
          have f1 := h24.free (1)
          have h25 : ElSt w (wr1.setCell ⟨b, 1, none⟩ (.slice ao1 L1.toNat cp1)) b w.heap.size G (rdF (.mk 11 0 (-1) (-1) (-1) 0 10 q_DeleteACLsRequestFilter) ver false (l, false)).2 [.int .i16 ver] [.slice ao1 L1.toNat cp1] [.map none] [] 114 [.mk 11 0 (-1) (-1) (-1) 0 10 q_DeleteACLsRequestFilter] [(rdF (.mk 11 0 (-1) (-1) (-1) 0 10 q_DeleteACLsRequestFilter) ver false (l, false)).1] := h24.put (o := 1) rfl (vf_list rfl vl4)
          clear h2 h24 vl4 gr
          have he26 := h25.bare
          go_wp2_with (first
            | (go_at_call 167; go_loud (refine (complete_any he26.rd (hg.keep he26.keep (by simp; omega))).mono ?_; rintro e wz ⟨rfl, kz⟩)))
          go_ret
          have hz := he26.calm hG hGb hbl he26.rd.lt' kz
          obtain ⟨q1, q2⟩ := hz.vm (Nat.le_refl _)
          rw [HEQ0.out]
          dsimp only
          exact ⟨by simp, q1, fun _ => q2⟩
end Go.Proofs.YtbdlilalihgdeaaGreatDoor
