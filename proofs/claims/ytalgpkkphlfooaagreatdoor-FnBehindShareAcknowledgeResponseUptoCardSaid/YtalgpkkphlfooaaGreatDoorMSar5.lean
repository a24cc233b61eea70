/-
  ShareAcknowledgeResponse: reading.
-/
import Derived.Test.YtalgpkkphlfooaaGreatDoorMSar1
import Derived.Test.YtalgpkkphlfooaaGreatDoorMB13
import Derived.Test.YtalgpkkphlfooaaGreatDoorMSar3
import Derived.Test.YtalgpkkphlfooaaGreatDoorMSar4
import Derived.Deep.CutBlock
import Derived.Deep.DeepCutAuto
namespace Go.Proofs.YtalgpkkphlfooaaGreatDoor
open Go.ChangeShapes Go.WideShapes Go.ChangeAt Go.RowKit

set_option maxHeartbeats 40000000 in
set_option maxRecDepth 100000 in
theorem sar_read_0s {G : Nat → Prop} {b : Nat} {p : Addr} {l : Bs} {src : Value} {w : World} {ver : Int} (hb : w.heap[b]? = some (.cells #[.int .i16 ver, .int .i32 0, .int .i16 0, .pointer none, .int .i32 0, .slice none 0 0, .slice none 0 0, .map none] 139 (0, 0))) (hl : RB w G src l) (hG : There G w) (hGb : ¬ G b) (hg : Gl w p) (hp : b ≠ 1) (hv0 : 0 ≤ ver) (_B2 : ¬ 2 ≤ ver) :
    Calls Tryz.prog 98 #[.pointer (some ⟨b, 0, none⟩), src, .bool false] w fun e w' => e = .returned (errV p (rdPart q_ShareAcknowledgeResponse ver true (l, false)).2.2) ∧ Keep [b] w w' ∧ ((rdPart q_ShareAcknowledgeResponse ver true (l, false)).2.2 = false → VM w' (New G w w') b q_ShareAcknowledgeResponse 139 ver (rdPart q_ShareAcknowledgeResponse ver true (l, false)).1) := by
  obtain ⟨ao, cap, rfl⟩ := RS.shape hl
  have hbl : b < w.heap.size := World.heap_lt hb
  have hp1 : 1 < w.heap.size := World.block_lt_of_cell? w _ hg
  have cv : (w.alloc (.cells #[.slice ao l.length cap, .bool false] 161)).cell? ⟨b, 0, none⟩ = some (.int .i16 ver) := ((keep_box (A := []) _).cell (p := ⟨b, 0, none⟩) hbl (by simp)).trans (cellOf hb 0 _ rfl)
  have h0 : ElSt w (w.alloc (.cells #[.slice ao l.length cap, .bool false] 161)) b w.heap.size G (l, false) [.int .i16 ver] [] [.int .i32 0, .int .i16 0, .pointer none, .int .i32 0, .slice none 0 0, .slice none 0 0, .map none] [] 139 [] [] :=
    ⟨⟨_, heap_alloc_new w _, hl.keepF (hG.same (keep_box _)) (fun _ h => h), fun e => absurd e (by simp)⟩, ((keep_box (A := []) _).block b hbl (by simp)).trans hb, ⟨rfl, rfl⟩, (keep_box (A := []) _).weaken (by simp), hG, hGb, (fun e => by have := hG _ e; omega), hbl, by omega⟩
  clear hb
  have HEQ0 : Hid (rdPart q_ShareAcknowledgeResponse ver true (l, false) = (.mk 0 [] false [(.mk (rdI 4 (l, false)).1 [] false [] []), (.mk (rdI 2 (rdI 4 (l, false)).2).1 [] false [] []), (nstrT (rdCNStr (rdI 2 (rdI 4 (l, false)).2).2).1), (.mk 0 [] false [] []), (rdF (.mk 11 0 (-1) (-1) (-1) 0 10 q_ShareAcknowledgeResponseTopic) ver true (rdCNStr (rdI 2 (rdI 4 (l, false)).2).2).2).1, (rdF (.mk 11 0 (-1) (-1) (-1) 0 10 q_ShareAcknowledgeResponseNodeEndpoint) ver true (rdF (.mk 11 0 (-1) (-1) (-1) 0 10 q_ShareAcknowledgeResponseTopic) ver true (rdCNStr (rdI 2 (rdI 4 (l, false)).2).2).2).2).1] (rdTags (rdF (.mk 11 0 (-1) (-1) (-1) 0 10 q_ShareAcknowledgeResponseNodeEndpoint) ver true (rdF (.mk 11 0 (-1) (-1) (-1) 0 10 q_ShareAcknowledgeResponseTopic) ver true (rdCNStr (rdI 2 (rdI 4 (l, false)).2).2).2).2).2).1, (rdTags (rdF (.mk 11 0 (-1) (-1) (-1) 0 10 q_ShareAcknowledgeResponseNodeEndpoint) ver true (rdF (.mk 11 0 (-1) (-1) (-1) 0 10 q_ShareAcknowledgeResponseTopic) ver true (rdCNStr (rdI 2 (rdI 4 (l, false)).2).2).2).2).2).2)) := by
    show _ = _
    simp [rdPart, rdK, rdPartOf, q_ShareAcknowledgeResponse, rdFs, (has_yes (show (0 : Int) ≤ ver by omega) (.inl (by decide)) : F.has (.mk 3 0 (-1) (-1) (-1) 0 0 []) ver = true), (has_yes (show (0 : Int) ≤ ver by omega) (.inl (by decide)) : F.has (.mk 2 0 (-1) (-1) (-1) 0 0 []) ver = true), (has_yes (show (0 : Int) ≤ ver by omega) (.inl (by decide)) : F.has (.mk 8 0 (-1) 0 (-1) 0 0 []) ver = true), (has_no1 (show ¬ (2 : Int) ≤ ver by omega) : F.has (.mk 3 2 (-1) (-1) (-1) 0 0 []) ver = false), (has_yes (show (0 : Int) ≤ ver by omega) (.inl (by decide)) : F.has (.mk 11 0 (-1) (-1) (-1) 0 10 q_ShareAcknowledgeResponseTopic) ver = true), (has_yes (show (0 : Int) ≤ ver by omega) (.inl (by decide)) : F.has (.mk 11 0 (-1) (-1) (-1) 0 10 q_ShareAcknowledgeResponseNodeEndpoint) ver = true), rdF, dflF, hv0]
  go_enter Tryz.func98, Tryz.ntmps98
  go_wp2_with (first
    | (go_at_call 96; refine (d_ShareAcknowledgeResponse _ _).mono ?_; rintro e wd ⟨rfl, rfl⟩)
    | (go_at_call 105; go_loud (refine (int32_any h0.rd h0.hG h0.nrb).mono ?_; rintro e w1 ⟨rfl, r1, k1⟩; have h2 := h0.call r1 k1; have c1 := h2.cellAt (o := 1) rfl; have f1 := h2.free (1); have h3 : ElSt w (w1.setCell ⟨b, 1, none⟩ (.int .i32 (rdI 4 (l, false)).1)) b w.heap.size G (rdI 4 (l, false)).2 [.int .i16 ver] [.int .i32 (rdI 4 (l, false)).1] [.int .i16 0, .pointer none, .int .i32 0, .slice none 0 0, .slice none 0 0, .map none] [] 139 [.mk 3 0 (-1) (-1) (-1) 0 0 []] [(.mk (rdI 4 (l, false)).1 [] false [] [])] := h2.put (o := 1) rfl (vf_i32 (rdI_range4 _)); clear r1 k1 h0 h2; generalize (rdI 4 (l, false)).2 = zs1 at *))
    | (go_at_call 106; go_loud (refine (int16_any h3.rd h3.hG h3.nrb).mono ?_; rintro e w4 ⟨rfl, r4, k4⟩; have h5 := h3.call r4 k4; have c4 := h5.cellAt (o := 2) rfl; have f4 := h5.free (2); have h6 : ElSt w (w4.setCell ⟨b, 2, none⟩ (.int .i16 (rdI 2 zs1).1)) b w.heap.size G (rdI 2 zs1).2 [.int .i16 ver] [.int .i32 (rdI 4 (l, false)).1, .int .i16 (rdI 2 zs1).1] [.pointer none, .int .i32 0, .slice none 0 0, .slice none 0 0, .map none] [] 139 [.mk 3 0 (-1) (-1) (-1) 0 0 [], .mk 2 0 (-1) (-1) (-1) 0 0 []] [(.mk (rdI 4 (l, false)).1 [] false [] []), (.mk (rdI 2 zs1).1 [] false [] [])] := h5.put (o := 2) rfl (vf_i16 (rdI_range2 _)); clear r4 k4 h3 h5; generalize (rdI 2 zs1).2 = zs4 at *))
    | (go_at_call 108; go_loud (refine (cnstring_any h6.rd h6.hG h6.nrb).mono ?_; rintro e w7 ⟨pv7, rfl, ps7, r7, k7⟩; obtain ⟨pa7, rfl⟩ := ps7.shape; have nw7 := h6.nwOf (W := w7); have h8 := h6.call r7 k7; have c7 := h8.cellAt (o := 3) rfl; have f7 := h8.free (3); have h9 : ElSt w (w7.setCell ⟨b, 3, none⟩ (.pointer pa7)) b w.heap.size G (rdCNStr zs4).2 [.int .i16 ver] [.int .i32 (rdI 4 (l, false)).1, .int .i16 (rdI 2 zs1).1, .pointer pa7] [.int .i32 0, .slice none 0 0, .slice none 0 0, .map none] [] 139 [.mk 3 0 (-1) (-1) (-1) 0 0 [], .mk 2 0 (-1) (-1) (-1) 0 0 [], .mk 8 0 (-1) 0 (-1) 0 0 []] [(.mk (rdI 4 (l, false)).1 [] false [] []), (.mk (rdI 2 zs1).1 [] false [] []), (nstrT (rdCNStr zs4).1)] := h8.put (o := 3) rfl (vf_nstr (by decide) (ps7.keepF (fun _ _ => rfl) nw7)); clear r7 k7 h6 h8; generalize (rdCNStr zs4).2 = zs7 at *; have h10 : ElSt w (w7.setCell ⟨b, 3, none⟩ (.pointer pa7)) b w.heap.size G zs7 [.int .i16 ver] [.int .i32 (rdI 4 (l, false)).1, .int .i16 (rdI 2 zs1).1, .pointer pa7, .int .i32 0] [.slice none 0 0, .slice none 0 0, .map none] [] 139 [.mk 3 0 (-1) (-1) (-1) 0 0 [], .mk 2 0 (-1) (-1) (-1) 0 0 [], .mk 8 0 (-1) 0 (-1) 0 0 [], .mk 3 2 (-1) (-1) (-1) 0 0 []] [(.mk (rdI 4 (l, false)).1 [] false [] []), (.mk (rdI 2 zs1).1 [] false [] []), (nstrT (rdCNStr zs4).1), (.mk 0 [] false [] [])] := h9.pass (vf_i32 (by decide)); clear h9; have cl11 := h10.cellAt (o := 5) rfl))
    | (go_at_call 111; go_loud (refine (clen_any h10.rd h10.hG h10.nrb).mono ?_; rintro e w11 ⟨rfl, r11, k11⟩; have lr11 := rdCLen_range zs7; have h12 := h10.call r11 k11; clear r11 k11; generalize hl11 : (rdCLen zs7).1 = L11 at *; have HL11 : Hid _ := hl11; clear h10 hl11)))
  cases hbad11 : (rdCLen zs7).2.2
  case true =>
    have HB : (rdPart q_ShareAcknowledgeResponse ver true (l, false)).2.2 = true := by rw [HEQ0.out]; (try dsimp only); exact rdTags_b _ (rdF_b (.mk 11 0 (-1) (-1) (-1) 0 10 q_ShareAcknowledgeResponseNodeEndpoint) ver true _ ((show (rdF (.mk 11 0 (-1) (-1) (-1) 0 10 q_ShareAcknowledgeResponseTopic) ver true zs7).2.2 = true from clist_bad hbad11)))
    have HBB : Hid _ := HB
    clear HB
    go_wp2_with (first
      | (go_at_call 113; refine (ok_any h12.rd).mono ?_; rintro e wo ⟨rfl, rfl⟩; rw [hbad11])
      | (go_at_call 114; go_loud (refine (complete_any h12.rd (hg.keep (h12.keep) (by simp; omega))).mono ?_; rintro e wz ⟨rfl, kz⟩; rw [hbad11])))
    go_ret
    rw [HBB.out]
    exact ⟨by simp, (Keep.fresh (B := [b]) (h12.keep) (by simp)).trans (kz.weaken (by simp)), fun e => by cases e⟩
  case false =>
    go_upto_if 100 with (go_at_call 113; refine (ok_any h12.rd).mono ?_; rintro e wo ⟨rfl, rfl⟩; rw [hbad11])
    go_cut [16] (fun av wx => RowIni w11 wx (.slice none 0 0) av L11.toNat [.int .u8 0, .int .u8 0, .int .u8 0, .int .u8 0, .int .u8 0, .int .u8 0, .int .u8 0, .int .u8 0, .int .u8 0, .int .u8 0, .int .u8 0, .int .u8 0, .int .u8 0, .int .u8 0, .int .u8 0, .int .u8 0, .slice none 0 0, .map none] 143)
    case first =>
      by_cases hp : 0 < L11
      · obtain ⟨N, rfl⟩ : ∃ N : Nat, L11 = N := ⟨L11.toNat, by omega⟩
        obtain ⟨i0, hi, hz0, hz1, hz2⟩ := info_bd info_ShareAcknowledgeResponseTopic
        have AP := run_append_empty_zeros (P := Tryz.prog) w11 136 21 136 143 i0 _ .i32 .i32 Tryz.underlying136 Tryz.underlying21 hi hz0 N (by omega) (by omega) (by omega) (Nat.le_trans (Nat.mul_le_mul_left N hz2) (by omega)) none
        go_wp2_with (first
          | (at_builtin; go_loud (refine Lib.wpList_append_run _ rfl (.tmp 101) (.tmp 102) 136 21 rfl _ _ rfl rfl _ _ AP ?_))
          | (go_meet; rw [Int.toNat_natCast]; exact RowIni.made2 (w := w11) (z := .agg #[.int .u8 0, .int .u8 0, .int .u8 0, .int .u8 0, .int .u8 0, .int .u8 0, .int .u8 0, .int .u8 0, .int .u8 0, .int .u8 0, .int .u8 0, .int .u8 0, .int .u8 0, .int .u8 0, .int .u8 0, .int .u8 0, .slice none 0 0, .map none]) (N := N) (e := 143) (show 0 < N by omega) rfl _))
      · go_wp2_with (go_meet; exact .inl ⟨by omega, rfl, rfl⟩)
    case rest =>
      have RR11 := RowRel.start hcut h12.rd h12.hG h12.nrb (gOf 10 true q_ShareAcknowledgeResponseTopic ver) 18 10 q_ShareAcknowledgeResponseTopic
      clear hcut
      obtain ⟨wl11, rfl⟩ : ∃ x : World, x = wc := ⟨_, rfl⟩
      obtain ⟨av11, rfl⟩ : ∃ x : Value, x = u16 := ⟨_, rfl⟩
      go_wp2_with fail
      refine sar_l0fs (p := p) (by first | rfl | (simp; done) | (simp; omega)) RR11 lr11 h12.hG h12.nrb h12.rd.lt' (hg.keep (h12.keep) (by simp; omega)) (by have := hp1; omega) hv0 ?hret ?hexit
      case hret =>
        show ∀ (a' : Act) (wz : World), _
        intro a' wz z1 z2 z3 z4
        have HB : (rdPart q_ShareAcknowledgeResponse ver true (l, false)).2.2 = true := by rw [HEQ0.out]; (try dsimp only); exact rdTags_b _ (rdF_b (.mk 11 0 (-1) (-1) (-1) 0 10 q_ShareAcknowledgeResponseNodeEndpoint) ver true _ ((show (rdF (.mk 11 0 (-1) (-1) (-1) 0 10 q_ShareAcknowledgeResponseTopic) ver true zs7).2.2 = true by rw [rdF_clist HL11.out]; exact z4)))
        repeat (first | refine inBlock_ret ?_ | refine then_ret ?_)
        refine ret_post (fn := Tryz.f98) rfl z1 z2 ?_
        rw [HB]
        exact ⟨by simp, Keep.fresh (B := [b]) (Keep.trans (h12.keep) (z3.weaken (by simp))) (by simp), fun e => by cases e⟩
      case hexit =>
        intro wr11 y6 y18 y19 y20 y21 y22 y23 y24 y25 y26 y27 y28 y29 y30 y31 y32 y33 y34 y104 y105 y106 y107 y108 y109 y110 y111 y112 y113 y114 y115 y116 y117 y118 y119 y120 y121 y122 y123 y124 y125 y126 y127 y128 y129 y130 y131 y132 y133 y134 y135 y136 y137 y138 y139 y140 y141 y142 y143 y144 y145 y146 y147 y148 y149 y150 y151 y152 y153 y154 y155 y156 y157 y158 y159 y160 y161 y162 y163 y164 y165 y166 y167 y168 y169 y170 y171 y172 y173 y174 y175 y176 y177 y178 y179 y180 y181 y182 y183 y184 y185 y186 y187 y188 y189 y190 y191 y192 y193 y194 y195 y196 y197 y198 y199 y200 y201 y202 y203 y204 y205 RR
        have KR11 := RR.keep
        obtain ⟨rr, kr, ⟨ao11, cp11, rfl⟩, vl⟩ := RR.fin (by omega) (.inl rfl)
        clear RR RR11
        have LE := rdF_clist (a := 0) (b := (-1)) (c := (-1)) (d := 0) (ofk := 10) (v := ver) (sub := q_ShareAcknowledgeResponseTopic) HL11.out
        have rr2 : Rd wr11 w.heap.size G (rdF (.mk 11 0 (-1) (-1) (-1) 0 10 q_ShareAcknowledgeResponseTopic) ver true zs7).2 := by rw [LE]; exact rr
        have vl2 := vl (decide (L11 ≤ 0)) (by simp)
        have vl3 : VL wr11 (Nw G w11 w.heap.size wr11) (VK wr11 (Nw G w11 w.heap.size wr11) 10 (-1) (VFs wr11 (Nw G w11 w.heap.size wr11) q_ShareAcknowledgeResponseTopic)) 18 (.slice ao11 L11.toNat cp11) (rdF (.mk 11 0 (-1) (-1) (-1) 0 10 q_ShareAcknowledgeResponseTopic) ver true zs7).1 := by rw [LE]; exact vl2
        have gr : ∀ i, Nw G w11 w.heap.size wr11 i → Nw G w w.heap.size wr11 i := fun i hi => ⟨hi.1.imp id (Nat.le_trans h12.keep.size), hi.2⟩
        have vl4 := VL.keepF (fun _ _ => rfl) gr (fun c t => VK.keepF (fun _ _ => rfl) gr (fun c l => VFs.keepF (fun _ _ => rfl) gr q_ShareAcknowledgeResponseTopic)) vl3
        have h13 := h12.call rr2 kr
        clear rr rr2 vl vl2 vl3 LE
        have c11 := h13.cellAt (o := 5) rfl
        have f11 := h13.free (5)
        have h14 : ElSt w (wr11.setCell ⟨b, 5, none⟩ (.slice ao11 L11.toNat cp11)) b w.heap.size G (rdF (.mk 11 0 (-1) (-1) (-1) 0 10 q_ShareAcknowledgeResponseTopic) ver true zs7).2 [.int .i16 ver] [.int .i32 (rdI 4 (l, false)).1, .int .i16 (rdI 2 zs1).1, .pointer pa7, .int .i32 0, .slice ao11 L11.toNat cp11] [.slice none 0 0, .map none] [] 139 [.mk 3 0 (-1) (-1) (-1) 0 0 [], .mk 2 0 (-1) (-1) (-1) 0 0 [], .mk 8 0 (-1) 0 (-1) 0 0 [], .mk 3 2 (-1) (-1) (-1) 0 0 [], .mk 11 0 (-1) (-1) (-1) 0 10 q_ShareAcknowledgeResponseTopic] [(.mk (rdI 4 (l, false)).1 [] false [] []), (.mk (rdI 2 zs1).1 [] false [] []), (nstrT (rdCNStr zs4).1), (.mk 0 [] false [] []), (rdF (.mk 11 0 (-1) (-1) (-1) 0 10 q_ShareAcknowledgeResponseTopic) ver true zs7).1] := h13.put (o := 5) rfl (vf_list rfl vl4)
        clear h12 h13 vl4 gr
        generalize (rdF (.mk 11 0 (-1) (-1) (-1) 0 10 q_ShareAcknowledgeResponseTopic) ver true zs7).2 = zs11 at *
        have cl15 := h14.cellAt (o := 6) rfl
        go_wp2_with (first
          | (go_at_call 111; go_loud (refine (clen_any h14.rd h14.hG h14.nrb).mono ?_; rintro e w15 ⟨rfl, r15, k15⟩; have lr15 := rdCLen_range zs11; have h16 := h14.call r15 k15; clear r15 k15; generalize hl15 : (rdCLen zs11).1 = L15 at *; have HL15 : Hid _ := hl15; clear h14 hl15)))
        cases hbad15 : (rdCLen zs11).2.2
        case true =>
          have HB : (rdPart q_ShareAcknowledgeResponse ver true (l, false)).2.2 = true := by rw [HEQ0.out]; (try dsimp only); exact rdTags_b _ ((show (rdF (.mk 11 0 (-1) (-1) (-1) 0 10 q_ShareAcknowledgeResponseNodeEndpoint) ver true zs11).2.2 = true from clist_bad hbad15))
          have HBB : Hid _ := HB
          clear HB
          go_wp2_with (first
            | (go_at_call 113; refine (ok_any h16.rd).mono ?_; rintro e wo ⟨rfl, rfl⟩; rw [hbad15])
            | (go_at_call 114; go_loud (refine (complete_any h16.rd (hg.keep (h16.keep) (by simp; omega))).mono ?_; rintro e wz ⟨rfl, kz⟩; rw [hbad15])))
          go_ret
          rw [HBB.out]
          exact ⟨by simp, (Keep.fresh (B := [b]) (h16.keep) (by simp)).trans (kz.weaken (by simp)), fun e => by cases e⟩
        case false =>
          go_upto_if 225 with (go_at_call 113; refine (ok_any h16.rd).mono ?_; rintro e wo ⟨rfl, rfl⟩; rw [hbad15])
          go_cut [36] (fun av wx => RowIni w15 wx (.slice none 0 0) av L15.toNat [.int .i32 0, .string ⟨#[]⟩, .int .i32 0, .pointer none, .map none] 152)
          case first =>
            by_cases hp : 0 < L15
            · obtain ⟨N, rfl⟩ : ∃ N : Nat, L15 = N := ⟨L15.toNat, by omega⟩
              obtain ⟨i0, hi, hz0, hz1, hz2⟩ := info_bd info_ShareAcknowledgeResponseNodeEndpoint
              have AP := run_append_empty_zeros (P := Tryz.prog) w15 137 21 137 152 i0 _ .i32 .i32 Tryz.underlying137 Tryz.underlying21 hi hz0 N (by omega) (by omega) (by omega) (Nat.le_trans (Nat.mul_le_mul_left N hz2) (by omega)) none
              go_wp2_with (first
                | (at_builtin; go_loud (refine Lib.wpList_append_run _ rfl (.tmp 226) (.tmp 227) 137 21 rfl _ _ rfl rfl _ _ AP ?_))
                | (go_meet; rw [Int.toNat_natCast]; exact RowIni.made2 (w := w15) (z := .agg #[.int .i32 0, .string ⟨#[]⟩, .int .i32 0, .pointer none, .map none]) (N := N) (e := 152) (show 0 < N by omega) rfl _))
            · go_wp2_with (go_meet; exact .inl ⟨by omega, rfl, rfl⟩)
          case rest =>
            have RR15 := RowRel.start hcut h16.rd h16.hG h16.nrb (gOf 10 true q_ShareAcknowledgeResponseNodeEndpoint ver) 5 10 q_ShareAcknowledgeResponseNodeEndpoint
            clear hcut
            obtain ⟨wl15, rfl⟩ : ∃ x : World, x = wc := ⟨_, rfl⟩
            obtain ⟨av15, rfl⟩ : ∃ x : Value, x = u36 := ⟨_, rfl⟩
            go_wp2_with fail
            refine sar_l2fs (p := p) (by first | rfl | (simp; done) | (simp; omega)) RR15 lr15 h16.hG h16.nrb h16.rd.lt' (hg.keep (h16.keep) (by simp; omega)) (by have := hp1; omega) hv0 ?hret ?hexit
            case hret =>
              show ∀ (a' : Act) (wz : World), _
              intro a' wz z1 z2 z3 z4
              have HB : (rdPart q_ShareAcknowledgeResponse ver true (l, false)).2.2 = true := by rw [HEQ0.out]; (try dsimp only); exact rdTags_b _ ((show (rdF (.mk 11 0 (-1) (-1) (-1) 0 10 q_ShareAcknowledgeResponseNodeEndpoint) ver true zs11).2.2 = true by rw [rdF_clist HL15.out]; exact z4))
              repeat (first | refine inBlock_ret ?_ | refine then_ret ?_)
              refine ret_post (fn := Tryz.f98) rfl z1 z2 ?_
              rw [HB]
              exact ⟨by simp, Keep.fresh (B := [b]) (Keep.trans (h16.keep) (z3.weaken (by simp))) (by simp), fun e => by cases e⟩
            case hexit =>
              intro wr15 y38 y39 y40 y41 y42 y43 y44 y229 y230 y231 y232 y233 y234 y235 y236 y237 y238 y239 y240 y241 y242 y243 y244 y245 y246 y247 y248 y249 y250 y251 y252 y253 y254 y255 y256 y257 y258 y259 y260 y261 y262 y263 y264 y265 y266 y267 y268 y269 y270 y271 y272 y273 y274 y275 y276 RR
              have KR15 := RR.keep
              obtain ⟨rr, kr, ⟨ao15, cp15, rfl⟩, vl⟩ := RR.fin (by omega) (.inl rfl)
              clear RR RR15
              have LE := rdF_clist (a := 0) (b := (-1)) (c := (-1)) (d := 0) (ofk := 10) (v := ver) (sub := q_ShareAcknowledgeResponseNodeEndpoint) HL15.out
              have rr2 : Rd wr15 w.heap.size G (rdF (.mk 11 0 (-1) (-1) (-1) 0 10 q_ShareAcknowledgeResponseNodeEndpoint) ver true zs11).2 := by rw [LE]; exact rr
              have vl2 := vl (decide (L15 ≤ 0)) (by simp)
              have vl3 : VL wr15 (Nw G w15 w.heap.size wr15) (VK wr15 (Nw G w15 w.heap.size wr15) 10 (-1) (VFs wr15 (Nw G w15 w.heap.size wr15) q_ShareAcknowledgeResponseNodeEndpoint)) 5 (.slice ao15 L15.toNat cp15) (rdF (.mk 11 0 (-1) (-1) (-1) 0 10 q_ShareAcknowledgeResponseNodeEndpoint) ver true zs11).1 := by rw [LE]; exact vl2
              have gr : ∀ i, Nw G w15 w.heap.size wr15 i → Nw G w w.heap.size wr15 i := fun i hi => ⟨hi.1.imp id (Nat.le_trans h16.keep.size), hi.2⟩
              have vl4 := VL.keepF (fun _ _ => rfl) gr (fun c t => VK.keepF (fun _ _ => rfl) gr (fun c l => VFs.keepF (fun _ _ => rfl) gr q_ShareAcknowledgeResponseNodeEndpoint)) vl3
              have h17 := h16.call rr2 kr
              clear rr rr2 vl vl2 vl3 LE
              have c15 := h17.cellAt (o := 6) rfl
              have f15 := h17.free (6)
              have h18 : ElSt w (wr15.setCell ⟨b, 6, none⟩ (.slice ao15 L15.toNat cp15)) b w.heap.size G (rdF (.mk 11 0 (-1) (-1) (-1) 0 10 q_ShareAcknowledgeResponseNodeEndpoint) ver true zs11).2 [.int .i16 ver] [.int .i32 (rdI 4 (l, false)).1, .int .i16 (rdI 2 zs1).1, .pointer pa7, .int .i32 0, .slice ao11 L11.toNat cp11, .slice ao15 L15.toNat cp15] [.map none] [] 139 [.mk 3 0 (-1) (-1) (-1) 0 0 [], .mk 2 0 (-1) (-1) (-1) 0 0 [], .mk 8 0 (-1) 0 (-1) 0 0 [], .mk 3 2 (-1) (-1) (-1) 0 0 [], .mk 11 0 (-1) (-1) (-1) 0 10 q_ShareAcknowledgeResponseTopic, .mk 11 0 (-1) (-1) (-1) 0 10 q_ShareAcknowledgeResponseNodeEndpoint] [(.mk (rdI 4 (l, false)).1 [] false [] []), (.mk (rdI 2 zs1).1 [] false [] []), (nstrT (rdCNStr zs4).1), (.mk 0 [] false [] []), (rdF (.mk 11 0 (-1) (-1) (-1) 0 10 q_ShareAcknowledgeResponseTopic) ver true zs7).1, (rdF (.mk 11 0 (-1) (-1) (-1) 0 10 q_ShareAcknowledgeResponseNodeEndpoint) ver true zs11).1] := h17.put (o := 6) rfl (vf_list rfl vl4)
              clear h16 h17 vl4 gr
              generalize (rdF (.mk 11 0 (-1) (-1) (-1) 0 10 q_ShareAcknowledgeResponseNodeEndpoint) ver true zs11).2 = zs15 at *
              go_wp2_with (first
                | (go_at_call 121; go_loud (refine (rtags_any h18.rd h18.hG h18.nrb).mono ?_; rintro e w19 ⟨tv19, rfl, mp19, mb19, r19, k19⟩; obtain ⟨mr19, rfl⟩ := mp19.shape; have mq19 := mp19.keepF (fun _ _ => rfl) (h18.nwNew (W := w19)); have h20 := h18.call r19 k19; have c19 := h20.cellAt (o := 7) rfl; have f19 := h20.free (7); have he21 := h20.tags (o := 7) rfl mq19; clear r19 k19 h18 h20))
                | (go_at_call 114; go_loud (refine (complete_any he21.rd (hg.keep he21.keep (by simp; omega))).mono ?_; rintro e wz ⟨rfl, kz⟩)))
              go_ret
              have hz := he21.calm hG hGb hbl he21.rd.lt' kz
              obtain ⟨q1, q2⟩ := hz.vm (Nat.le_refl _)
              rw [HEQ0.out]
              dsimp only
              exact ⟨by simp, q1, fun _ => q2⟩
end Go.Proofs.YtalgpkkphlfooaaGreatDoor
