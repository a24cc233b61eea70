/-
  ShareAcknowledgeResponse: reading.
-/
import Derived.Test.YtalgpkkphlfooaaGreatDoorMSar1
import Derived.Test.YtalgpkkphlfooaaGreatDoorMB13
import Derived.Test.YtalgpkkphlfooaaGreatDoorMSar3
import Derived.Test.YtalgpkkphlfooaaGreatDoorMSar4
import Derived.Deep.CutBlock
import Derived.Deep.DeepCutAuto
namespace Go.Proofs.YtalgpkkphlfooaaGreatDoor
open Go.ChangeShapes Go.WideShapes Go.ChangeAt Go.RowKit

set_option maxHeartbeats 40000000 in
set_option maxRecDepth 100000 in
theorem sar_read_1s {G : Nat → Prop} {b : Nat} {p : Addr} {l : Bs} {src : Value} {w : World} {ver : Int} (hb : w.heap[b]? = some (.cells #[.int .i16 ver, .int .i32 0, .int .i16 0, .pointer none, .int .i32 0, .slice none 0 0, .slice none 0 0, .map none] 139 (0, 0))) (hl : RB w G src l) (hG : There G w) (hGb : ¬ G b) (hg : Gl w p) (hp : b ≠ 1) (hv0 : 0 ≤ ver) (_B2 : 2 ≤ ver) :
    Calls Tryz.prog 98 #[.pointer (some ⟨b, 0, none⟩), src, .bool false] w fun e w' => e = .returned (errV p (rdPart q_ShareAcknowledgeResponse ver true (l, false)).2.2) ∧ Keep [b] w w' ∧ ((rdPart q_ShareAcknowledgeResponse ver true (l, false)).2.2 = false → VM w' (New G w w') b q_ShareAcknowledgeResponse 139 ver (rdPart q_ShareAcknowledgeResponse ver true (l, false)).1) := by
  obtain ⟨ao, cap, rfl⟩ := RS.shape hl
  have hbl : b < w.heap.size := World.heap_lt hb
  have hp1 : 1 < w.heap.size := World.block_lt_of_cell? w _ hg
  have cv : (w.alloc (.cells #[.slice ao l.length cap, .bool false] 161)).cell? ⟨b, 0, none⟩ = some (.int .i16 ver) := ((keep_box (A := []) _).cell (p := ⟨b, 0, none⟩) hbl (by simp)).trans (cellOf hb 0 _ rfl)
  have h0 : ElSt w (w.alloc (.cells #[.slice ao l.length cap, .bool false] 161)) b w.heap.size G (l, false) [.int .i16 ver] [] [.int .i32 0, .int .i16 0, .pointer none, .int .i32 0, .slice none 0 0, .slice none 0 0, .map none] [] 139 [] [] :=
    ⟨⟨_, heap_alloc_new w _, hl.keepF (hG.same (keep_box _)) (fun _ h => h), fun e => absurd e (by simp)⟩, ((keep_box (A := []) _).block b hbl (by simp)).trans hb, ⟨rfl, rfl⟩, (keep_box (A := []) _).weaken (by simp), hG, hGb, (fun e => by have := hG _ e; omega), hbl, by omega⟩
  clear hb
  have HEQ0 : Hid (rdPart q_ShareAcknowledgeResponse ver true (l, false) = (.mk 0 [] false [(.mk (rdI 4 (l, false)).1 [] false [] []), (.mk (rdI 2 (rdI 4 (l, false)).2).1 [] false [] []), (nstrT (rdCNStr (rdI 2 (rdI 4 (l, false)).2).2).1), (.mk (rdI 4 (rdCNStr (rdI 2 (rdI 4 (l, false)).2).2).2).1 [] false [] []), (rdF (.mk 11 0 (-1) (-1) (-1) 0 10 q_ShareAcknowledgeResponseTopic) ver true (rdI 4 (rdCNStr (rdI 2 (rdI 4 (l, false)).2).2).2).2).1, (rdF (.mk 11 0 (-1) (-1) (-1) 0 10 q_ShareAcknowledgeResponseNodeEndpoint) ver true (rdF (.mk 11 0 (-1) (-1) (-1) 0 10 q_ShareAcknowledgeResponseTopic) ver true (rdI 4 (rdCNStr (rdI 2 (rdI 4 (l, false)).2).2).2).2).2).1] (rdTags (rdF (.mk 11 0 (-1) (-1) (-1) 0 10 q_ShareAcknowledgeResponseNodeEndpoint) ver true (rdF (.mk 11 0 (-1) (-1) (-1) 0 10 q_ShareAcknowledgeResponseTopic) ver true (rdI 4 (rdCNStr (rdI 2 (rdI 4 (l, false)).2).2).2).2).2).2).1, (rdTags (rdF (.mk 11 0 (-1) (-1) (-1) 0 10 q_ShareAcknowledgeResponseNodeEndpoint) ver true (rdF (.mk 11 0 (-1) (-1) (-1) 0 10 q_ShareAcknowledgeResponseTopic) ver true (rdI 4 (rdCNStr (rdI 2 (rdI 4 (l, false)).2).2).2).2).2).2).2)) := by
    show _ = _
    simp [rdPart, rdK, rdPartOf, q_ShareAcknowledgeResponse, rdFs, (has_yes (show (0 : Int) ≤ ver by omega) (.inl (by decide)) : F.has (.mk 3 0 (-1) (-1) (-1) 0 0 []) ver = true), (has_yes (show (0 : Int) ≤ ver by omega) (.inl (by decide)) : F.has (.mk 2 0 (-1) (-1) (-1) 0 0 []) ver = true), (has_yes (show (0 : Int) ≤ ver by omega) (.inl (by decide)) : F.has (.mk 8 0 (-1) 0 (-1) 0 0 []) ver = true), (has_yes (show (2 : Int) ≤ ver by omega) (.inl (by decide)) : F.has (.mk 3 2 (-1) (-1) (-1) 0 0 []) ver = true), (has_yes (show (0 : Int) ≤ ver by omega) (.inl (by decide)) : F.has (.mk 11 0 (-1) (-1) (-1) 0 10 q_ShareAcknowledgeResponseTopic) ver = true), (has_yes (show (0 : Int) ≤ ver by omega) (.inl (by decide)) : F.has (.mk 11 0 (-1) (-1) (-1) 0 10 q_ShareAcknowledgeResponseNodeEndpoint) ver = true), rdF, hv0]
  go_enter Tryz.func98, Tryz.ntmps98
  go_wp2_with (first
    | (go_at_call 96; refine (d_ShareAcknowledgeResponse _ _).mono ?_; rintro e wd ⟨rfl, rfl⟩)
    | (go_at_call 105; go_loud (refine (int32_any h0.rd h0.hG h0.nrb).mono ?_; rintro e w1 ⟨rfl, r1, k1⟩; have h2 := h0.call r1 k1; have c1 := h2.cellAt (o := 1) rfl; have f1 := h2.free (1); have h3 : ElSt w (w1.setCell ⟨b, 1, none⟩ (.int .i32 (rdI 4 (l, false)).1)) b w.heap.size G (rdI 4 (l, false)).2 [.int .i16 ver] [.int .i32 (rdI 4 (l, false)).1] [.int .i16 0, .pointer none, .int .i32 0, .slice none 0 0, .slice none 0 0, .map none] [] 139 [.mk 3 0 (-1) (-1) (-1) 0 0 []] [(.mk (rdI 4 (l, false)).1 [] false [] [])] := h2.put (o := 1) rfl (vf_i32 (rdI_range4 _)); clear r1 k1 h0 h2; generalize (rdI 4 (l, false)).2 = zs1 at *))
    | (go_at_call 106; go_loud (refine (int16_any h3.rd h3.hG h3.nrb).mono ?_; rintro e w4 ⟨rfl, r4, k4⟩; have h5 := h3.call r4 k4; have c4 := h5.cellAt (o := 2) rfl; have f4 := h5.free (2); have h6 : ElSt w (w4.setCell ⟨b, 2, none⟩ (.int .i16 (rdI 2 zs1).1)) b w.heap.size G (rdI 2 zs1).2 [.int .i16 ver] [.int .i32 (rdI 4 (l, false)).1, .int .i16 (rdI 2 zs1).1] [.pointer none, .int .i32 0, .slice none 0 0, .slice none 0 0, .map none] [] 139 [.mk 3 0 (-1) (-1) (-1) 0 0 [], .mk 2 0 (-1) (-1) (-1) 0 0 []] [(.mk (rdI 4 (l, false)).1 [] false [] []), (.mk (rdI 2 zs1).1 [] false [] [])] := h5.put (o := 2) rfl (vf_i16 (rdI_range2 _)); clear r4 k4 h3 h5; generalize (rdI 2 zs1).2 = zs4 at *))
    | (go_at_call 108; go_loud (refine (cnstring_any h6.rd h6.hG h6.nrb).mono ?_; rintro e w7 ⟨pv7, rfl, ps7, r7, k7⟩; obtain ⟨pa7, rfl⟩ := ps7.shape; have nw7 := h6.nwOf (W := w7); have h8 := h6.call r7 k7; have c7 := h8.cellAt (o := 3) rfl; have f7 := h8.free (3); have h9 : ElSt w (w7.setCell ⟨b, 3, none⟩ (.pointer pa7)) b w.heap.size G (rdCNStr zs4).2 [.int .i16 ver] [.int .i32 (rdI 4 (l, false)).1, .int .i16 (rdI 2 zs1).1, .pointer pa7] [.int .i32 0, .slice none 0 0, .slice none 0 0, .map none] [] 139 [.mk 3 0 (-1) (-1) (-1) 0 0 [], .mk 2 0 (-1) (-1) (-1) 0 0 [], .mk 8 0 (-1) 0 (-1) 0 0 []] [(.mk (rdI 4 (l, false)).1 [] false [] []), (.mk (rdI 2 zs1).1 [] false [] []), (nstrT (rdCNStr zs4).1)] := h8.put (o := 3) rfl (vf_nstr (by decide) (ps7.keepF (fun _ _ => rfl) nw7)); clear r7 k7 h6 h8; generalize (rdCNStr zs4).2 = zs7 at *))
    | (go_at_call 105; go_loud (refine (int32_any h9.rd h9.hG h9.nrb).mono ?_; rintro e w10 ⟨rfl, r10, k10⟩; have h11 := h9.call r10 k10; have c10 := h11.cellAt (o := 4) rfl; have f10 := h11.free (4); have h12 : ElSt w (w10.setCell ⟨b, 4, none⟩ (.int .i32 (rdI 4 zs7).1)) b w.heap.size G (rdI 4 zs7).2 [.int .i16 ver] [.int .i32 (rdI 4 (l, false)).1, .int .i16 (rdI 2 zs1).1, .pointer pa7, .int .i32 (rdI 4 zs7).1] [.slice none 0 0, .slice none 0 0, .map none] [] 139 [.mk 3 0 (-1) (-1) (-1) 0 0 [], .mk 2 0 (-1) (-1) (-1) 0 0 [], .mk 8 0 (-1) 0 (-1) 0 0 [], .mk 3 2 (-1) (-1) (-1) 0 0 []] [(.mk (rdI 4 (l, false)).1 [] false [] []), (.mk (rdI 2 zs1).1 [] false [] []), (nstrT (rdCNStr zs4).1), (.mk (rdI 4 zs7).1 [] false [] [])] := h11.put (o := 4) rfl (vf_i32 (rdI_range4 _)); clear r10 k10 h9 h11; generalize (rdI 4 zs7).2 = zs10 at *; have cl13 := h12.cellAt (o := 5) rfl))
    | (go_at_call 111; go_loud (refine (clen_any h12.rd h12.hG h12.nrb).mono ?_; rintro e w13 ⟨rfl, r13, k13⟩; have lr13 := rdCLen_range zs10; have h14 := h12.call r13 k13; clear r13 k13; generalize hl13 : (rdCLen zs10).1 = L13 at *; have HL13 : Hid _ := hl13; clear h12 hl13)))
  cases hbad13 : (rdCLen zs10).2.2
  case true =>
    have HB : (rdPart q_ShareAcknowledgeResponse ver true (l, false)).2.2 = true := by rw [HEQ0.out]; (try dsimp only); exact rdTags_b _ (rdF_b (.mk 11 0 (-1) (-1) (-1) 0 10 q_ShareAcknowledgeResponseNodeEndpoint) ver true _ ((show (rdF (.mk 11 0 (-1) (-1) (-1) 0 10 q_ShareAcknowledgeResponseTopic) ver true zs10).2.2 = true from clist_bad hbad13)))
    have HBB : Hid _ := HB
    clear HB
    go_wp2_with (first
      | (go_at_call 113; refine (ok_any h14.rd).mono ?_; rintro e wo ⟨rfl, rfl⟩; rw [hbad13])
      | (go_at_call 114; go_loud (refine (complete_any h14.rd (hg.keep (h14.keep) (by simp; omega))).mono ?_; rintro e wz ⟨rfl, kz⟩; rw [hbad13])))
    go_ret
    rw [HBB.out]
    exact ⟨by simp, (Keep.fresh (B := [b]) (h14.keep) (by simp)).trans (kz.weaken (by simp)), fun e => by cases e⟩
  case false =>
    go_upto_if 100 with (go_at_call 113; refine (ok_any h14.rd).mono ?_; rintro e wo ⟨rfl, rfl⟩; rw [hbad13])
    go_cut [16] (fun av wx => RowIni w13 wx (.slice none 0 0) av L13.toNat [.int .u8 0, .int .u8 0, .int .u8 0, .int .u8 0, .int .u8 0, .int .u8 0, .int .u8 0, .int .u8 0, .int .u8 0, .int .u8 0, .int .u8 0, .int .u8 0, .int .u8 0, .int .u8 0, .int .u8 0, .int .u8 0, .slice none 0 0, .map none] 143)
    case first =>
      by_cases hp : 0 < L13
      · obtain ⟨N, rfl⟩ : ∃ N : Nat, L13 = N := ⟨L13.toNat, by omega⟩
        obtain ⟨i0, hi, hz0, hz1, hz2⟩ := info_bd info_ShareAcknowledgeResponseTopic
        have AP := run_append_empty_zeros (P := Tryz.prog) w13 136 21 136 143 i0 _ .i32 .i32 Tryz.underlying136 Tryz.underlying21 hi hz0 N (by omega) (by omega) (by omega) (Nat.le_trans (Nat.mul_le_mul_left N hz2) (by omega)) none
        go_wp2_with (first
          | (at_builtin; go_loud (refine Lib.wpList_append_run _ rfl (.tmp 101) (.tmp 102) 136 21 rfl _ _ rfl rfl _ _ AP ?_))
          | (go_meet; rw [Int.toNat_natCast]; exact RowIni.made2 (w := w13) (z := .agg #[.int .u8 0, .int .u8 0, .int .u8 0, .int .u8 0, .int .u8 0, .int .u8 0, .int .u8 0, .int .u8 0, .int .u8 0, .int .u8 0, .int .u8 0, .int .u8 0, .int .u8 0, .int .u8 0, .int .u8 0, .int .u8 0, .slice none 0 0, .map none]) (N := N) (e := 143) (show 0 < N by omega) rfl _))
      · go_wp2_with (go_meet; exact .inl ⟨by omega, rfl, rfl⟩)
    case rest =>
      have RR13 := RowRel.start hcut h14.rd h14.hG h14.nrb (gOf 10 true q_ShareAcknowledgeResponseTopic ver) 18 10 q_ShareAcknowledgeResponseTopic
      clear hcut
      obtain ⟨wl13, rfl⟩ : ∃ x : World, x = wc := ⟨_, rfl⟩
      obtain ⟨av13, rfl⟩ : ∃ x : Value, x = u16 := ⟨_, rfl⟩
      go_wp2_with fail
      refine sar_l0fs (p := p) (by first | rfl | (simp; done) | (simp; omega)) RR13 lr13 h14.hG h14.nrb h14.rd.lt' (hg.keep (h14.keep) (by simp; omega)) (by have := hp1; omega) hv0 ?hret ?hexit
      case hret =>
        show ∀ (a' : Act) (wz : World), _
        intro a' wz z1 z2 z3 z4
        have HB : (rdPart q_ShareAcknowledgeResponse ver true (l, false)).2.2 = true := by rw [HEQ0.out]; (try dsimp only); exact rdTags_b _ (rdF_b (.mk 11 0 (-1) (-1) (-1) 0 10 q_ShareAcknowledgeResponseNodeEndpoint) ver true _ ((show (rdF (.mk 11 0 (-1) (-1) (-1) 0 10 q_ShareAcknowledgeResponseTopic) ver true zs10).2.2 = true by rw [rdF_clist HL13.out]; exact z4)))
        repeat (first | refine inBlock_ret ?_ | refine then_ret ?_)
        refine ret_post (fn := Tryz.f98) rfl z1 z2 ?_
        rw [HB]
        exact ⟨by simp, Keep.fresh (B := [b]) (Keep.trans (h14.keep) (z3.weaken (by simp))) (by simp), fun e => by cases e⟩
      case hexit =>
        intro wr13 y6 y18 y19 y20 y21 y22 y23 y24 y25 y26 y27 y28 y29 y30 y31 y32 y33 y34 y104 y105 y106 y107 y108 y109 y110 y111 y112 y113 y114 y115 y116 y117 y118 y119 y120 y121 y122 y123 y124 y125 y126 y127 y128 y129 y130 y131 y132 y133 y134 y135 y136 y137 y138 y139 y140 y141 y142 y143 y144 y145 y146 y147 y148 y149 y150 y151 y152 y153 y154 y155 y156 y157 y158 y159 y160 y161 y162 y163 y164 y165 y166 y167 y168 y169 y170 y171 y172 y173 y174 y175 y176 y177 y178 y179 y180 y181 y182 y183 y184 y185 y186 y187 y188 y189 y190 y191 y192 y193 y194 y195 y196 y197 y198 y199 y200 y201 y202 y203 y204 y205 RR
        have KR13 := RR.keep
        obtain ⟨rr, kr, ⟨ao13, cp13, rfl⟩, vl⟩ := RR.fin (by omega) (.inl rfl)
        clear RR RR13
        have LE := rdF_clist (a := 0) (b := (-1)) (c := (-1)) (d := 0) (ofk := 10) (v := ver) (sub := q_ShareAcknowledgeResponseTopic) HL13.out
        have rr2 : Rd wr13 w.heap.size G (rdF (.mk 11 0 (-1) (-1) (-1) 0 10 q_ShareAcknowledgeResponseTopic) ver true zs10).2 := by rw [LE]; exact rr
        have vl2 := vl (decide (L13 ≤ 0)) (by simp)
        have vl3 : VL wr13 (Nw G w13 w.heap.size wr13) (VK wr13 (Nw G w13 w.heap.size wr13) 10 (-1) (VFs wr13 (Nw G w13 w.heap.size wr13) q_ShareAcknowledgeResponseTopic)) 18 (.slice ao13 L13.toNat cp13) (rdF (.mk 11 0 (-1) (-1) (-1) 0 10 q_ShareAcknowledgeResponseTopic) ver true zs10).1 := by rw [LE]; exact vl2
        have gr : ∀ i, Nw G w13 w.heap.size wr13 i → Nw G w w.heap.size wr13 i := fun i hi => ⟨hi.1.imp id (Nat.le_trans h14.keep.size), hi.2⟩
        have vl4 := VL.keepF (fun _ _ => rfl) gr (fun c t => VK.keepF (fun _ _ => rfl) gr (fun c l => VFs.keepF (fun _ _ => rfl) gr q_ShareAcknowledgeResponseTopic)) vl3
        have h15 := h14.call rr2 kr
        clear rr rr2 vl vl2 vl3 LE
        have c13 := h15.cellAt (o := 5) rfl
        have f13 := h15.free (5)
        have h16 : ElSt w (wr13.setCell ⟨b, 5, none⟩ (.slice ao13 L13.toNat cp13)) b w.heap.size G (rdF (.mk 11 0 (-1) (-1) (-1) 0 10 q_ShareAcknowledgeResponseTopic) ver true zs10).2 [.int .i16 ver] [.int .i32 (rdI 4 (l, false)).1, .int .i16 (rdI 2 zs1).1, .pointer pa7, .int .i32 (rdI 4 zs7).1, .slice ao13 L13.toNat cp13] [.slice none 0 0, .map none] [] 139 [.mk 3 0 (-1) (-1) (-1) 0 0 [], .mk 2 0 (-1) (-1) (-1) 0 0 [], .mk 8 0 (-1) 0 (-1) 0 0 [], .mk 3 2 (-1) (-1) (-1) 0 0 [], .mk 11 0 (-1) (-1) (-1) 0 10 q_ShareAcknowledgeResponseTopic] [(.mk (rdI 4 (l, false)).1 [] false [] []), (.mk (rdI 2 zs1).1 [] false [] []), (nstrT (rdCNStr zs4).1), (.mk (rdI 4 zs7).1 [] false [] []), (rdF (.mk 11 0 (-1) (-1) (-1) 0 10 q_ShareAcknowledgeResponseTopic) ver true zs10).1] := h15.put (o := 5) rfl (vf_list rfl vl4)
        clear h14 h15 vl4 gr
        generalize (rdF (.mk 11 0 (-1) (-1) (-1) 0 10 q_ShareAcknowledgeResponseTopic) ver true zs10).2 = zs13 at *
        have cl17 := h16.cellAt (o := 6) rfl
        go_wp2_with (first
          | (go_at_call 111; go_loud (refine (clen_any h16.rd h16.hG h16.nrb).mono ?_; rintro e w17 ⟨rfl, r17, k17⟩; have lr17 := rdCLen_range zs13; have h18 := h16.call r17 k17; clear r17 k17; generalize hl17 : (rdCLen zs13).1 = L17 at *; have HL17 : Hid _ := hl17; clear h16 hl17)))
        cases hbad17 : (rdCLen zs13).2.2
        case true =>
          have HB : (rdPart q_ShareAcknowledgeResponse ver true (l, false)).2.2 = true := by rw [HEQ0.out]; (try dsimp only); exact rdTags_b _ ((show (rdF (.mk 11 0 (-1) (-1) (-1) 0 10 q_ShareAcknowledgeResponseNodeEndpoint) ver true zs13).2.2 = true from clist_bad hbad17))
          have HBB : Hid _ := HB
          clear HB
          go_wp2_with (first
            | (go_at_call 113; refine (ok_any h18.rd).mono ?_; rintro e wo ⟨rfl, rfl⟩; rw [hbad17])
            | (go_at_call 114; go_loud (refine (complete_any h18.rd (hg.keep (h18.keep) (by simp; omega))).mono ?_; rintro e wz ⟨rfl, kz⟩; rw [hbad17])))
          go_ret
          rw [HBB.out]
          exact ⟨by simp, (Keep.fresh (B := [b]) (h18.keep) (by simp)).trans (kz.weaken (by simp)), fun e => by cases e⟩
        case false =>
          go_upto_if 225 with (go_at_call 113; refine (ok_any h18.rd).mono ?_; rintro e wo ⟨rfl, rfl⟩; rw [hbad17])
          go_cut [36] (fun av wx => RowIni w17 wx (.slice none 0 0) av L17.toNat [.int .i32 0, .string ⟨#[]⟩, .int .i32 0, .pointer none, .map none] 152)
          case first =>
            by_cases hp : 0 < L17
            · obtain ⟨N, rfl⟩ : ∃ N : Nat, L17 = N := ⟨L17.toNat, by omega⟩
              obtain ⟨i0, hi, hz0, hz1, hz2⟩ := info_bd info_ShareAcknowledgeResponseNodeEndpoint
              have AP := run_append_empty_zeros (P := Tryz.prog) w17 137 21 137 152 i0 _ .i32 .i32 Tryz.underlying137 Tryz.underlying21 hi hz0 N (by omega) (by omega) (by omega) (Nat.le_trans (Nat.mul_le_mul_left N hz2) (by omega)) none
              go_wp2_with (first
                | (at_builtin; go_loud (refine Lib.wpList_append_run _ rfl (.tmp 226) (.tmp 227) 137 21 rfl _ _ rfl rfl _ _ AP ?_))
                | (go_meet; rw [Int.toNat_natCast]; exact RowIni.made2 (w := w17) (z := .agg #[.int .i32 0, .string ⟨#[]⟩, .int .i32 0, .pointer none, .map none]) (N := N) (e := 152) (show 0 < N by omega) rfl _))
            · go_wp2_with (go_meet; exact .inl ⟨by omega, rfl, rfl⟩)
          case rest =>
            have RR17 := RowRel.start hcut h18.rd h18.hG h18.nrb (gOf 10 true q_ShareAcknowledgeResponseNodeEndpoint ver) 5 10 q_ShareAcknowledgeResponseNodeEndpoint
            clear hcut
            obtain ⟨wl17, rfl⟩ : ∃ x : World, x = wc := ⟨_, rfl⟩
            obtain ⟨av17, rfl⟩ : ∃ x : Value, x = u36 := ⟨_, rfl⟩
            go_wp2_with fail
            refine sar_l2fs (p := p) (by first | rfl | (simp; done) | (simp; omega)) RR17 lr17 h18.hG h18.nrb h18.rd.lt' (hg.keep (h18.keep) (by simp; omega)) (by have := hp1; omega) hv0 ?hret ?hexit
            case hret =>
              show ∀ (a' : Act) (wz : World), _
              intro a' wz z1 z2 z3 z4
              have HB : (rdPart q_ShareAcknowledgeResponse ver true (l, false)).2.2 = true := by rw [HEQ0.out]; (try dsimp only); exact rdTags_b _ ((show (rdF (.mk 11 0 (-1) (-1) (-1) 0 10 q_ShareAcknowledgeResponseNodeEndpoint) ver true zs13).2.2 = true by rw [rdF_clist HL17.out]; exact z4))
              repeat (first | refine inBlock_ret ?_ | refine then_ret ?_)
              refine ret_post (fn := Tryz.f98) rfl z1 z2 ?_
              rw [HB]
              exact ⟨by simp, Keep.fresh (B := [b]) (Keep.trans (h18.keep) (z3.weaken (by simp))) (by simp), fun e => by cases e⟩
            case hexit =>
              intro wr17 y38 y39 y40 y41 y42 y43 y44 y229 y230 y231 y232 y233 y234 y235 y236 y237 y238 y239 y240 y241 y242 y243 y244 y245 y246 y247 y248 y249 y250 y251 y252 y253 y254 y255 y256 y257 y258 y259 y260 y261 y262 y263 y264 y265 y266 y267 y268 y269 y270 y271 y272 y273 y274 y275 y276 RR
              have KR17 := RR.keep
              obtain ⟨rr, kr, ⟨ao17, cp17, rfl⟩, vl⟩ := RR.fin (by omega) (.inl rfl)
              clear RR RR17
              have LE := rdF_clist (a := 0) (b := (-1)) (c := (-1)) (d := 0) (ofk := 10) (v := ver) (sub := q_ShareAcknowledgeResponseNodeEndpoint) HL17.out
              have rr2 : Rd wr17 w.heap.size G (rdF (.mk 11 0 (-1) (-1) (-1) 0 10 q_ShareAcknowledgeResponseNodeEndpoint) ver true zs13).2 := by rw [LE]; exact rr
              have vl2 := vl (decide (L17 ≤ 0)) (by simp)
              have vl3 : VL wr17 (Nw G w17 w.heap.size wr17) (VK wr17 (Nw G w17 w.heap.size wr17) 10 (-1) (VFs wr17 (Nw G w17 w.heap.size wr17) q_ShareAcknowledgeResponseNodeEndpoint)) 5 (.slice ao17 L17.toNat cp17) (rdF (.mk 11 0 (-1) (-1) (-1) 0 10 q_ShareAcknowledgeResponseNodeEndpoint) ver true zs13).1 := by rw [LE]; exact vl2
              have gr : ∀ i, Nw G w17 w.heap.size wr17 i → Nw G w w.heap.size wr17 i := fun i hi => ⟨hi.1.imp id (Nat.le_trans h18.keep.size), hi.2⟩
              have vl4 := VL.keepF (fun _ _ => rfl) gr (fun c t => VK.keepF (fun _ _ => rfl) gr (fun c l => VFs.keepF (fun _ _ => rfl) gr q_ShareAcknowledgeResponseNodeEndpoint)) vl3
              have h19 := h18.call rr2 kr
              clear rr rr2 vl vl2 vl3 LE
              have c17 := h19.cellAt (o := 6) rfl
              have f17 := h19.free (6)
              have h20 : ElSt w (wr17.setCell ⟨b, 6, none⟩ (.slice ao17 L17.toNat cp17)) b w.heap.size G (rdF (.mk 11 0 (-1) (-1) (-1) 0 10 q_ShareAcknowledgeResponseNodeEndpoint) ver true zs13).2 [.int .i16 ver] [.int .i32 (rdI 4 (l, false)).1, .int .i16 (rdI 2 zs1).1, .pointer pa7, .int .i32 (rdI 4 zs7).1, .slice ao13 L13.toNat cp13, .slice ao17 L17.toNat cp17] [.map none] [] 139 [.mk 3 0 (-1) (-1) (-1) 0 0 [], .mk 2 0 (-1) (-1) (-1) 0 0 [], .mk 8 0 (-1) 0 (-1) 0 0 [], .mk 3 2 (-1) (-1) (-1) 0 0 [], .mk 11 0 (-1) (-1) (-1) 0 10 q_ShareAcknowledgeResponseTopic, .mk 11 0 (-1) (-1) (-1) 0 10 q_ShareAcknowledgeResponseNodeEndpoint] [(.mk (rdI 4 (l, false)).1 [] false [] []), (.mk (rdI 2 zs1).1 [] false [] []), (nstrT (rdCNStr zs4).1), (.mk (rdI 4 zs7).1 [] false [] []), (rdF (.mk 11 0 (-1) (-1) (-1) 0 10 q_ShareAcknowledgeResponseTopic) ver true zs10).1, (rdF (.mk 11 0 (-1) (-1) (-1) 0 10 q_ShareAcknowledgeResponseNodeEndpoint) ver true zs13).1] := h19.put (o := 6) rfl (vf_list rfl vl4)
              clear h18 h19 vl4 gr
              generalize (rdF (.mk 11 0 (-1) (-1) (-1) 0 10 q_ShareAcknowledgeResponseNodeEndpoint) ver true zs13).2 = zs17 at *
              go_wp2_with (first
                | (go_at_call 121; go_loud (refine (rtags_any h20.rd h20.hG h20.nrb).mono ?_; rintro e w21 ⟨tv21, rfl, mp21, mb21, r21, k21⟩; obtain ⟨mr21, rfl⟩ := mp21.shape; have mq21 := mp21.keepF (fun _ _ => rfl) (h20.nwNew (W := w21)); have h22 := h20.call r21 k21; have c21 := h22.cellAt (o := 7) rfl; have f21 := h22.free (7); have he23 := h22.tags (o := 7) rfl mq21; clear r21 k21 h20 h22))
                | (go_at_call 114; go_loud (refine (complete_any he23.rd (hg.keep he23.keep (by simp; omega))).mono ?_; rintro e wz ⟨rfl, kz⟩)))
              go_ret
              have hz := he23.calm hG hGb hbl he23.rd.lt' kz
              obtain ⟨q1, q2⟩ := hz.vm (Nat.le_refl _)
              rw [HEQ0.out]
              dsimp only
              exact ⟨by simp, q1, fun _ => q2⟩
end Go.Proofs.YtalgpkkphlfooaaGreatDoor
