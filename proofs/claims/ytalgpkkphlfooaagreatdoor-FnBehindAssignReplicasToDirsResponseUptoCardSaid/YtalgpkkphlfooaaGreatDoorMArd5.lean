/-
  AssignReplicasToDirsResponse: reading.
-/
import Derived.Test.YtalgpkkphlfooaaGreatDoorMArd1
import Derived.Test.YtalgpkkphlfooaaGreatDoorMB13
import Derived.Test.YtalgpkkphlfooaaGreatDoorMArd4
import Derived.Deep.CutBlock
import Derived.Deep.DeepCutAuto
namespace Go.Proofs.YtalgpkkphlfooaaGreatDoor
open Go.ChangeShapes Go.WideShapes Go.ChangeAt Go.RowKit

set_option maxHeartbeats 40000000 in
set_option maxRecDepth 100000 in
theorem ard_read_0n {G : Nat → Prop} {b : Nat} {p : Addr} {l : Bs} {src : Value} {w : World} {ver : Int} (hb : w.heap[b]? = some (.cells #[.int .i16 ver, .int .i32 0, .int .i16 0, .slice none 0 0, .map none] 124 (0, 0))) (hl : RB w G src l) (hG : There G w) (hGb : ¬ G b) (hg : Gl w p) (hp : b ≠ 1) (hv0 : 0 ≤ ver)  (u : Bool) :
    Calls Tryz.prog 95 #[.pointer (some ⟨b, 0, none⟩), src, .bool u] w fun e w' => e = .returned (errV p (rdPart q_AssignReplicasToDirsResponse ver true (l, false)).2.2) ∧ Keep [b] w w' ∧ ((rdPart q_AssignReplicasToDirsResponse ver true (l, false)).2.2 = false → VM w' (New G w w') b q_AssignReplicasToDirsResponse 124 ver (rdPart q_AssignReplicasToDirsResponse ver true (l, false)).1) := by
  obtain ⟨ao, cap, rfl⟩ := RS.shape hl
  have hbl : b < w.heap.size := World.heap_lt hb
  have hp1 : 1 < w.heap.size := World.block_lt_of_cell? w _ hg
  have cv : (w.alloc (.cells #[.slice ao l.length cap, .bool false] 161)).cell? ⟨b, 0, none⟩ = some (.int .i16 ver) := ((keep_box (A := []) _).cell (p := ⟨b, 0, none⟩) hbl (by simp)).trans (cellOf hb 0 _ rfl)
  have h0 : ElSt w (w.alloc (.cells #[.slice ao l.length cap, .bool false] 161)) b w.heap.size G (l, false) [.int .i16 ver] [] [.int .i32 0, .int .i16 0, .slice none 0 0, .map none] [] 124 [] [] :=
    ⟨⟨_, heap_alloc_new w _, hl.keepF (hG.same (keep_box _)) (fun _ h => h), fun e => absurd e (by simp)⟩, ((keep_box (A := []) _).block b hbl (by simp)).trans hb, ⟨rfl, rfl⟩, (keep_box (A := []) _).weaken (by simp), hG, hGb, (fun e => by have := hG _ e; omega), hbl, by omega⟩
  clear hb
  have HEQ0 : Hid (rdPart q_AssignReplicasToDirsResponse ver true (l, false) = (.mk 0 [] false [(.mk (rdI 4 (l, false)).1 [] false [] []), (.mk (rdI 2 (rdI 4 (l, false)).2).1 [] false [] []), (rdF (.mk 11 0 (-1) (-1) (-1) 0 10 q_AssignReplicasToDirsResponseDirectory) ver true (rdI 2 (rdI 4 (l, false)).2).2).1] (rdTags (rdF (.mk 11 0 (-1) (-1) (-1) 0 10 q_AssignReplicasToDirsResponseDirectory) ver true (rdI 2 (rdI 4 (l, false)).2).2).2).1, (rdTags (rdF (.mk 11 0 (-1) (-1) (-1) 0 10 q_AssignReplicasToDirsResponseDirectory) ver true (rdI 2 (rdI 4 (l, false)).2).2).2).2)) := by
    show _ = _
    simp [rdPart, rdK, rdPartOf, q_AssignReplicasToDirsResponse, rdFs, (has_yes (show (0 : Int) ≤ ver by omega) (.inl (by decide)) : F.has (.mk 3 0 (-1) (-1) (-1) 0 0 []) ver = true), (has_yes (show (0 : Int) ≤ ver by omega) (.inl (by decide)) : F.has (.mk 2 0 (-1) (-1) (-1) 0 0 []) ver = true), (has_yes (show (0 : Int) ≤ ver by omega) (.inl (by decide)) : F.has (.mk 11 0 (-1) (-1) (-1) 0 10 q_AssignReplicasToDirsResponseDirectory) ver = true), rdF]
  go_enter Tryz.func95, Tryz.ntmps95
  go_wp2_with (first
    | (go_at_call 93; refine (d_AssignReplicasToDirsResponse _ _).mono ?_; rintro e wd ⟨rfl, rfl⟩)
    | (go_at_call 105; go_loud (refine (int32_any h0.rd h0.hG h0.nrb).mono ?_; rintro e w1 ⟨rfl, r1, k1⟩; have h2 := h0.call r1 k1; have c1 := h2.cellAt (o := 1) rfl; have f1 := h2.free (1); have h3 : ElSt w (w1.setCell ⟨b, 1, none⟩ (.int .i32 (rdI 4 (l, false)).1)) b w.heap.size G (rdI 4 (l, false)).2 [.int .i16 ver] [.int .i32 (rdI 4 (l, false)).1] [.int .i16 0, .slice none 0 0, .map none] [] 124 [.mk 3 0 (-1) (-1) (-1) 0 0 []] [(.mk (rdI 4 (l, false)).1 [] false [] [])] := h2.put (o := 1) rfl (vf_i32 (rdI_range4 _)); clear r1 k1 h0 h2; generalize (rdI 4 (l, false)).2 = zs1 at *))
    | (go_at_call 106; go_loud (refine (int16_any h3.rd h3.hG h3.nrb).mono ?_; rintro e w4 ⟨rfl, r4, k4⟩; have h5 := h3.call r4 k4; have c4 := h5.cellAt (o := 2) rfl; have f4 := h5.free (2); have h6 : ElSt w (w4.setCell ⟨b, 2, none⟩ (.int .i16 (rdI 2 zs1).1)) b w.heap.size G (rdI 2 zs1).2 [.int .i16 ver] [.int .i32 (rdI 4 (l, false)).1, .int .i16 (rdI 2 zs1).1] [.slice none 0 0, .map none] [] 124 [.mk 3 0 (-1) (-1) (-1) 0 0 [], .mk 2 0 (-1) (-1) (-1) 0 0 []] [(.mk (rdI 4 (l, false)).1 [] false [] []), (.mk (rdI 2 zs1).1 [] false [] [])] := h5.put (o := 2) rfl (vf_i16 (rdI_range2 _)); clear r4 k4 h3 h5; generalize (rdI 2 zs1).2 = zs4 at *; have cl7 := h6.cellAt (o := 3) rfl))
    | (go_at_call 111; go_loud (refine (clen_any h6.rd h6.hG h6.nrb).mono ?_; rintro e w7 ⟨rfl, r7, k7⟩; have lr7 := rdCLen_range zs4; have h8 := h6.call r7 k7; clear r7 k7; generalize hl7 : (rdCLen zs4).1 = L7 at *; have HL7 : Hid _ := hl7; clear h6 hl7)))
  cases hbad7 : (rdCLen zs4).2.2
  case true =>
    have HB : (rdPart q_AssignReplicasToDirsResponse ver true (l, false)).2.2 = true := by rw [HEQ0.out]; (try dsimp only); exact rdTags_b _ ((show (rdF (.mk 11 0 (-1) (-1) (-1) 0 10 q_AssignReplicasToDirsResponseDirectory) ver true zs4).2.2 = true from clist_bad hbad7))
    have HBB : Hid _ := HB
    clear HB
    go_wp2_with (first
      | (go_at_call 113; refine (ok_any h8.rd).mono ?_; rintro e wo ⟨rfl, rfl⟩; rw [hbad7])
      | (go_at_call 114; go_loud (refine (complete_any h8.rd (hg.keep (h8.keep) (by simp; omega))).mono ?_; rintro e wz ⟨rfl, kz⟩; rw [hbad7])))
    go_ret
    rw [HBB.out]
    exact ⟨by simp, (Keep.fresh (B := [b]) (h8.keep) (by simp)).trans (kz.weaken (by simp)), fun e => by cases e⟩
  case false =>
    go_upto_if 72 with (go_at_call 113; refine (ok_any h8.rd).mono ?_; rintro e wo ⟨rfl, rfl⟩; rw [hbad7])
    go_cut [14] (fun av wx => RowIni w7 wx (.slice none 0 0) av L7.toNat [.int .u8 0, .int .u8 0, .int .u8 0, .int .u8 0, .int .u8 0, .int .u8 0, .int .u8 0, .int .u8 0, .int .u8 0, .int .u8 0, .int .u8 0, .int .u8 0, .int .u8 0, .int .u8 0, .int .u8 0, .int .u8 0, .slice none 0 0, .map none] 128)
    case first =>
      by_cases hp : 0 < L7
      · obtain ⟨N, rfl⟩ : ∃ N : Nat, L7 = N := ⟨L7.toNat, by omega⟩
        obtain ⟨i0, hi, hz0, hz1, hz2⟩ := info_bd info_AssignReplicasToDirsResponseDirectory
        have AP := run_append_empty_zeros (P := Tryz.prog) w7 122 21 122 128 i0 _ .i32 .i32 Tryz.underlying122 Tryz.underlying21 hi hz0 N (by omega) (by omega) (by omega) (Nat.le_trans (Nat.mul_le_mul_left N hz2) (by omega)) none
        go_wp2_with (first
          | (at_builtin; go_loud (refine Lib.wpList_append_run _ rfl (.tmp 73) (.tmp 74) 122 21 rfl _ _ rfl rfl _ _ AP ?_))
          | (go_meet; rw [Int.toNat_natCast]; exact RowIni.made2 (w := w7) (z := .agg #[.int .u8 0, .int .u8 0, .int .u8 0, .int .u8 0, .int .u8 0, .int .u8 0, .int .u8 0, .int .u8 0, .int .u8 0, .int .u8 0, .int .u8 0, .int .u8 0, .int .u8 0, .int .u8 0, .int .u8 0, .int .u8 0, .slice none 0 0, .map none]) (N := N) (e := 128) (show 0 < N by omega) rfl _))
      · go_wp2_with (go_meet; exact .inl ⟨by omega, rfl, rfl⟩)
    case rest =>
      have RR7 := RowRel.start hcut h8.rd h8.hG h8.nrb (gOf 10 true q_AssignReplicasToDirsResponseDirectory ver) 18 10 q_AssignReplicasToDirsResponseDirectory
      clear hcut
      obtain ⟨wl7, rfl⟩ : ∃ x : World, x = wc := ⟨_, rfl⟩
      obtain ⟨av7, rfl⟩ : ∃ x : Value, x = u14 := ⟨_, rfl⟩
      go_wp2_with fail
      refine ard_l0f (p := p) (by first | rfl | (simp; done) | (simp; omega)) RR7 lr7 h8.hG h8.nrb h8.rd.lt' (hg.keep (h8.keep) (by simp; omega)) (by have := hp1; omega) hv0 ?hret ?hexit
      case hret =>
        show ∀ (a' : Act) (wz : World), _
        intro a' wz z1 z2 z3 z4
        have HB : (rdPart q_AssignReplicasToDirsResponse ver true (l, false)).2.2 = true := by rw [HEQ0.out]; (try dsimp only); exact rdTags_b _ ((show (rdF (.mk 11 0 (-1) (-1) (-1) 0 10 q_AssignReplicasToDirsResponseDirectory) ver true zs4).2.2 = true by rw [rdF_clist HL7.out]; exact z4))
        repeat (first | refine inBlock_ret ?_ | refine then_ret ?_)
        refine ret_post (fn := Tryz.f95) rfl z1 z2 ?_
        rw [HB]
        exact ⟨by simp, Keep.fresh (B := [b]) (Keep.trans (h8.keep) (z3.weaken (by simp))) (by simp), fun e => by cases e⟩
      case hexit =>
        intro wr7 y6 y16 y17 y18 y19 y20 y21 y22 y23 y24 y25 y26 y27 y28 y29 y30 y31 y32 y33 y34 y76 y77 y78 y79 y80 y81 y82 y83 y84 y85 y86 y87 y88 y89 y90 y91 y92 y93 y94 y95 y96 y97 y98 y99 y100 y101 y102 y103 y104 y105 y106 y107 y108 y109 y110 y111 y112 y113 y114 y115 y116 y117 y118 y119 y120 y121 y122 y123 y124 y125 y126 y127 y128 y129 y130 y131 y132 y133 y134 y135 y136 y137 y138 y139 y140 y141 y142 y143 y144 y145 y146 y147 y148 y149 y150 y151 y152 y153 y154 y155 y156 y157 y158 y159 y160 y161 y162 y163 y164 y165 y166 y167 y168 y169 y170 y171 y172 y173 y174 y175 y176 y177 y178 y179 y180 y181 y182 y183 y184 y185 y186 y187 y188 y189 RR
        have KR7 := RR.keep
        obtain ⟨rr, kr, ⟨ao7, cp7, rfl⟩, vl⟩ := RR.fin (by omega) (.inl rfl)
        clear RR RR7
        have LE := rdF_clist (a := 0) (b := (-1)) (c := (-1)) (d := 0) (ofk := 10) (v := ver) (sub := q_AssignReplicasToDirsResponseDirectory) HL7.out
        have rr2 : Rd wr7 w.heap.size G (rdF (.mk 11 0 (-1) (-1) (-1) 0 10 q_AssignReplicasToDirsResponseDirectory) ver true zs4).2 := by rw [LE]; exact rr
        have vl2 := vl (decide (L7 ≤ 0)) (by simp)
        have vl3 : VL wr7 (Nw G w7 w.heap.size wr7) (VK wr7 (Nw G w7 w.heap.size wr7) 10 (-1) (VFs wr7 (Nw G w7 w.heap.size wr7) q_AssignReplicasToDirsResponseDirectory)) 18 (.slice ao7 L7.toNat cp7) (rdF (.mk 11 0 (-1) (-1) (-1) 0 10 q_AssignReplicasToDirsResponseDirectory) ver true zs4).1 := by rw [LE]; exact vl2
        have gr : ∀ i, Nw G w7 w.heap.size wr7 i → Nw G w w.heap.size wr7 i := fun i hi => ⟨hi.1.imp id (Nat.le_trans h8.keep.size), hi.2⟩
        have vl4 := VL.keepF (fun _ _ => rfl) gr (fun c t => VK.keepF (fun _ _ => rfl) gr (fun c l => VFs.keepF (fun _ _ => rfl) gr q_AssignReplicasToDirsResponseDirectory)) vl3
        have h9 := h8.call rr2 kr
        clear rr rr2 vl vl2 vl3 LE
        have c7 := h9.cellAt (o := 3) rfl
        have f7 := h9.free (3)
        have h10 : ElSt w (wr7.setCell ⟨b, 3, none⟩ (.slice ao7 L7.toNat cp7)) b w.heap.size G (rdF (.mk 11 0 (-1) (-1) (-1) 0 10 q_AssignReplicasToDirsResponseDirectory) ver true zs4).2 [.int .i16 ver] [.int .i32 (rdI 4 (l, false)).1, .int .i16 (rdI 2 zs1).1, .slice ao7 L7.toNat cp7] [.map none] [] 124 [.mk 3 0 (-1) (-1) (-1) 0 0 [], .mk 2 0 (-1) (-1) (-1) 0 0 [], .mk 11 0 (-1) (-1) (-1) 0 10 q_AssignReplicasToDirsResponseDirectory] [(.mk (rdI 4 (l, false)).1 [] false [] []), (.mk (rdI 2 zs1).1 [] false [] []), (rdF (.mk 11 0 (-1) (-1) (-1) 0 10 q_AssignReplicasToDirsResponseDirectory) ver true zs4).1] := h9.put (o := 3) rfl (vf_list rfl vl4)
        clear h8 h9 vl4 gr
        generalize (rdF (.mk 11 0 (-1) (-1) (-1) 0 10 q_AssignReplicasToDirsResponseDirectory) ver true zs4).2 = zs7 at *
        go_wp2_with (first
          | (go_at_call 121; go_loud (refine (rtags_any h10.rd h10.hG h10.nrb).mono ?_; rintro e w11 ⟨tv11, rfl, mp11, mb11, r11, k11⟩; obtain ⟨mr11, rfl⟩ := mp11.shape; have mq11 := mp11.keepF (fun _ _ => rfl) (h10.nwNew (W := w11)); have h12 := h10.call r11 k11; have c11 := h12.cellAt (o := 4) rfl; have f11 := h12.free (4); have he13 := h12.tags (o := 4) rfl mq11; clear r11 k11 h10 h12))
          | (go_at_call 114; go_loud (refine (complete_any he13.rd (hg.keep he13.keep (by simp; omega))).mono ?_; rintro e wz ⟨rfl, kz⟩)))
        go_ret
        have hz := he13.calm hG hGb hbl he13.rd.lt' kz
        obtain ⟨q1, q2⟩ := hz.vm (Nat.le_refl _)
        rw [HEQ0.out]
        dsimp only
        exact ⟨by simp, q1, fun _ => q2⟩
end Go.Proofs.YtalgpkkphlfooaaGreatDoor
