/-
  DescribeDelegationTokenResponse: reading.
-/
import Derived.Test.YtdklogmmfnddiaaGreatDoorMDdt1
import Derived.Test.YtdklogmmfnddiaaGreatDoorMB14
import Derived.Test.YtdklogmmfnddiaaGreatDoorMDdt3
import Derived.Deep.CutBlock
import Derived.Deep.DeepCutAuto
namespace Go.Proofs.YtdklogmmfnddiaaGreatDoor
open Go.ChangeShapes Go.WideShapes Go.ChangeAt Go.RowKit

set_option maxHeartbeats 4000000 in
set_option maxRecDepth 100000 in
theorem ddt_read_0s {G : Nat → Prop} {b : Nat} {p : Addr} {l : Bs} {src : Value} {w : World} {ver : Int} (hb : w.heap[b]? = some (.cells #[.int .i16 ver, .int .i16 0, .slice none 0 0, .int .i32 0, .map none] 118 (0, 0))) (hl : RB w G src l) (hG : There G w) (hGb : ¬ G b) (hg : Gl w p) (hp : b ≠ 0) (hv0 : 0 ≤ ver) (_B2 : ¬ 2 ≤ ver) (_B3 : ¬ 3 ≤ ver) :
    Calls Tryz.prog 73 #[.pointer (some ⟨b, 0, none⟩), src, .bool false] w fun e w' => e = .returned (errV p (rdPart q_DescribeDelegationTokenResponse ver false (l, false)).2.2) ∧ Keep [b] w w' ∧ ((rdPart q_DescribeDelegationTokenResponse ver false (l, false)).2.2 = false → VM w' (New G w w') b q_DescribeDelegationTokenResponse 118 ver (rdPart q_DescribeDelegationTokenResponse ver false (l, false)).1) := by
  obtain ⟨ao, cap, rfl⟩ := RS.shape hl
  have hbl : b < w.heap.size := World.heap_lt hb
  have hp1 : 0 < w.heap.size := World.block_lt_of_cell? w _ hg
  have cv : (w.alloc (.cells #[.slice ao l.length cap, .bool false] 125)).cell? ⟨b, 0, none⟩ = some (.int .i16 ver) := ((keep_box (A := []) _).cell (p := ⟨b, 0, none⟩) hbl (by simp)).trans (cellOf hb 0 _ rfl)
  have h0 : ElSt w (w.alloc (.cells #[.slice ao l.length cap, .bool false] 125)) b w.heap.size G (l, false) [.int .i16 ver] [] [.int .i16 0, .slice none 0 0, .int .i32 0, .map none] [] 118 [] [] :=
    ⟨⟨_, heap_alloc_new w _, hl.keepF (hG.same (keep_box _)) (fun _ h => h), fun e => absurd e (by simp)⟩, ((keep_box (A := []) _).block b hbl (by simp)).trans hb, ⟨rfl, rfl⟩, (keep_box (A := []) _).weaken (by simp), hG, hGb, (fun e => by have := hG _ e; omega), hbl, by omega⟩
  clear hb
  have HEQ0 : Hid (rdPart q_DescribeDelegationTokenResponse ver false (l, false) = (.mk 0 [] false [(.mk (rdI 2 (l, false)).1 [] false [] []), (rdF (.mk 11 0 (-1) (-1) (-1) 0 10 q_DescribeDelegationTokenResponseTokenDetail) ver false (rdI 2 (l, false)).2).1, (.mk (rdI 4 (rdF (.mk 11 0 (-1) (-1) (-1) 0 10 q_DescribeDelegationTokenResponseTokenDetail) ver false (rdI 2 (l, false)).2).2).1 [] false [] [])] [], (rdI 4 (rdF (.mk 11 0 (-1) (-1) (-1) 0 10 q_DescribeDelegationTokenResponseTokenDetail) ver false (rdI 2 (l, false)).2).2).2)) := by
    show _ = _
    simp [rdPart, rdK, rdPartOf, q_DescribeDelegationTokenResponse, rdFs, (has_yes (show (0 : Int) ≤ ver by omega) (.inl (by decide)) : F.has (.mk 2 0 (-1) (-1) (-1) 0 0 []) ver = true), (has_yes (show (0 : Int) ≤ ver by omega) (.inl (by decide)) : F.has (.mk 11 0 (-1) (-1) (-1) 0 10 q_DescribeDelegationTokenResponseTokenDetail) ver = true), (has_yes (show (0 : Int) ≤ ver by omega) (.inl (by decide)) : F.has (.mk 3 0 (-1) (-1) (-1) 0 0 []) ver = true), rdF]
  go_enter Tryz.func73, Tryz.ntmps73
  go_wp2_with (first
    | (go_at_call 71; refine (d_DescribeDelegationTokenResponse _ _).mono ?_; rintro e wd ⟨rfl, rfl⟩)
    | (go_at_call 101; go_loud (refine (int16_any h0.rd h0.hG h0.nrb).mono ?_; rintro e w1 ⟨rfl, r1, k1⟩; have h2 := h0.call r1 k1; have c1 := h2.cellAt (o := 1) rfl; have f1 := h2.free (1); have h3 : ElSt w (w1.setCell ⟨b, 1, none⟩ (.int .i16 (rdI 2 (l, false)).1)) b w.heap.size G (rdI 2 (l, false)).2 [.int .i16 ver] [.int .i16 (rdI 2 (l, false)).1] [.slice none 0 0, .int .i32 0, .map none] [] 118 [.mk 2 0 (-1) (-1) (-1) 0 0 []] [(.mk (rdI 2 (l, false)).1 [] false [] [])] := h2.put (o := 1) rfl (vf_i16 (rdI_range2 _)); clear r1 k1 h0 h2; generalize (rdI 2 (l, false)).2 = zs1 at *; have cl4 := h3.cellAt (o := 2) rfl))
    | (go_at_call 77; go_loud (refine (len_any h3.rd h3.hG h3.nrb).mono ?_; rintro e w4 ⟨rfl, r4, k4⟩; have lr4 := rdLen_range zs1; have h5 := h3.call r4 k4; clear r4 k4; generalize hl4 : (rdLen zs1).1 = L4 at *; have HL4 : Hid _ := hl4; clear h3 hl4)))
  cases hbad4 : (rdLen zs1).2.2
  case true =>
    have HB : (rdPart q_DescribeDelegationTokenResponse ver false (l, false)).2.2 = true := by rw [HEQ0.out]; (try dsimp only); exact rdI_b 4 _ ((show (rdF (.mk 11 0 (-1) (-1) (-1) 0 10 q_DescribeDelegationTokenResponseTokenDetail) ver false zs1).2.2 = true from list_bad hbad4))
    have HBB : Hid _ := HB
    clear HB
    go_wp2_with (first
      | (go_at_call 78; refine (ok_any h5.rd).mono ?_; rintro e wo ⟨rfl, rfl⟩; rw [hbad4])
      | (go_at_call 79; go_loud (refine (complete_any h5.rd (hg.keep (h5.keep) (by simp; omega))).mono ?_; rintro e wz ⟨rfl, kz⟩; rw [hbad4])))
    go_ret
    rw [HBB.out]
    exact ⟨by simp, (Keep.fresh (B := [b]) (h5.keep) (by simp)).trans (kz.weaken (by simp)), fun e => by cases e⟩
  case false =>
    go_upto_if 68 with (go_at_call 78; refine (ok_any h5.rd).mono ?_; rintro e wo ⟨rfl, rfl⟩; rw [hbad4])
    go_cut [13] (fun av wx => RowIni w4 wx (.slice none 0 0) av L4.toNat [.string ⟨#[]⟩, .string ⟨#[]⟩, .string ⟨#[]⟩, .string ⟨#[]⟩, .int .i64 0, .int .i64 0, .int .i64 0, .string ⟨#[]⟩, .slice none 0 0, .slice none 0 0, .map none] 123)
    case first =>
      by_cases hp : 0 < L4
      · obtain ⟨N, rfl⟩ : ∃ N : Nat, L4 = N := ⟨L4.toNat, by omega⟩
        obtain ⟨i0, hi, hz0, hz1, hz2⟩ := info_bd info_DescribeDelegationTokenResponseTokenDetail
        have AP := run_append_empty_zeros (P := Tryz.prog) w4 116 21 116 123 i0 _ .i32 .i32 Tryz.underlying116 Tryz.underlying21 hi hz0 N (by omega) (by omega) (by omega) (Nat.le_trans (Nat.mul_le_mul_left N hz2) (by omega)) none
        go_wp2_with (first
          | (at_builtin; go_loud (refine Lib.wpList_append_run _ rfl (.tmp 69) (.tmp 70) 116 21 rfl _ _ rfl rfl _ _ AP ?_))
          | (go_meet; rw [Int.toNat_natCast]; exact RowIni.made2 (w := w4) (z := .agg #[.string ⟨#[]⟩, .string ⟨#[]⟩, .string ⟨#[]⟩, .string ⟨#[]⟩, .int .i64 0, .int .i64 0, .int .i64 0, .string ⟨#[]⟩, .slice none 0 0, .slice none 0 0, .map none]) (N := N) (e := 123) (show 0 < N by omega) rfl _))
      · go_wp2_with (go_meet; exact .inl ⟨by omega, rfl, rfl⟩)
    case rest =>
      have RR4 := RowRel.start hcut h5.rd h5.hG h5.nrb (gOf 10 false q_DescribeDelegationTokenResponseTokenDetail ver) 11 10 q_DescribeDelegationTokenResponseTokenDetail
      clear hcut
      obtain ⟨wl4, rfl⟩ : ∃ x : World, x = wc := ⟨_, rfl⟩
      obtain ⟨av4, rfl⟩ : ∃ x : Value, x = u13 := ⟨_, rfl⟩
      go_wp2_with fail
      refine ddt_l0p0s (p := p) (by first | rfl | (simp; done) | (simp; omega)) RR4 lr4 h5.hG h5.nrb h5.rd.lt' (hg.keep (h5.keep) (by simp; omega)) (by have := hp1; omega) hv0 (by omega) ?hret ?hexit
      case hret =>
        show ∀ (a' : Act) (wz : World), _
        intro a' wz z1 z2 z3 z4
        have HB : (rdPart q_DescribeDelegationTokenResponse ver false (l, false)).2.2 = true := by rw [HEQ0.out]; (try dsimp only); exact rdI_b 4 _ ((show (rdF (.mk 11 0 (-1) (-1) (-1) 0 10 q_DescribeDelegationTokenResponseTokenDetail) ver false zs1).2.2 = true by rw [rdF_list HL4.out]; exact z4))
        repeat (first | refine inBlock_ret ?_ | refine then_ret ?_)
        refine ret_post (fn := Tryz.f73) rfl z1 z2 ?_
        rw [HB]
        exact ⟨by simp, Keep.fresh (B := [b]) (Keep.trans (h5.keep) (z3.weaken (by simp))) (by simp), fun e => by cases e⟩
      case hexit =>
        intro wr4 y6 y15 y16 y17 y18 y19 y20 y21 y22 y23 y24 y25 y26 y27 y28 y29 y30 y31 y32 y33 y34 y72 y73 y74 y75 y76 y77 y78 y79 y80 y81 y82 y83 y84 y85 y86 y87 y88 y89 y90 y91 y92 y93 y94 y95 y96 y97 y98 y99 y100 y101 y102 y103 y104 y105 y106 y107 y108 y109 y110 y111 y112 y113 y114 y115 y116 y117 y118 y119 y120 y121 y122 y123 y124 y125 y126 y127 y128 y129 y130 y131 y132 y133 y134 y135 y136 y137 y138 y139 y140 y141 y142 y143 y144 y145 y146 y147 y148 y149 y150 y151 y152 y153 y154 y155 y156 y157 y158 y159 y160 y161 y162 y163 y164 y165 y166 y167 y168 y169 y170 y171 y172 y173 y174 y175 y176 y177 y178 y179 y180 y181 y182 y183 y184 y185 y186 y187 y188 y189 y190 y191 y192 y193 y194 y195 y196 y197 y198 y199 y200 y201 y202 y203 y204 y205 y206 y207 y208 y209 y210 y211 y212 y213 y214 y215 y216 y217 y218 y219 y220 y221 y222 y223 y224 y225 y226 y227 y228 y229 RR
        have KR4 := RR.keep
        obtain ⟨rr, kr, ⟨ao4, cp4, rfl⟩, vl⟩ := RR.fin (by omega) (.inl rfl)
        clear RR RR4
        have LE := rdF_list (a := 0) (b := (-1)) (c := (-1)) (d := 0) (ofk := 10) (v := ver) (sub := q_DescribeDelegationTokenResponseTokenDetail) HL4.out
        have rr2 : Rd wr4 w.heap.size G (rdF (.mk 11 0 (-1) (-1) (-1) 0 10 q_DescribeDelegationTokenResponseTokenDetail) ver false zs1).2 := by rw [LE]; exact rr
        have vl2 := vl (decide (L4 ≤ 0)) (by simp)
        have vl3 : VL wr4 (Nw G w4 w.heap.size wr4) (VK wr4 (Nw G w4 w.heap.size wr4) 10 (-1) (VFs wr4 (Nw G w4 w.heap.size wr4) q_DescribeDelegationTokenResponseTokenDetail)) 11 (.slice ao4 L4.toNat cp4) (rdF (.mk 11 0 (-1) (-1) (-1) 0 10 q_DescribeDelegationTokenResponseTokenDetail) ver false zs1).1 := by rw [LE]; exact vl2
        have gr : ∀ i, Nw G w4 w.heap.size wr4 i → Nw G w w.heap.size wr4 i := fun i hi => ⟨hi.1.imp id (Nat.le_trans h5.keep.size), hi.2⟩
        have vl4 := VL.keepF (fun _ _ => rfl) gr (fun c t => VK.keepF (fun _ _ => rfl) gr (fun c l => VFs.keepF (fun _ _ => rfl) gr q_DescribeDelegationTokenResponseTokenDetail)) vl3
        have h6 := h5.call rr2 kr
        clear rr rr2 vl vl2 vl3 LE
        have c4 := h6.cellAt (o := 2) rfl
        have f4 := h6.free (2)
        have h7 : ElSt w (wr4.setCell ⟨b, 2, none⟩ (.slice ao4 L4.toNat cp4)) b w.heap.size G (rdF (.mk 11 0 (-1) (-1) (-1) 0 10 q_DescribeDelegationTokenResponseTokenDetail) ver false zs1).2 [.int .i16 ver] [.int .i16 (rdI 2 (l, false)).1, .slice ao4 L4.toNat cp4] [.int .i32 0, .map none] [] 118 [.mk 2 0 (-1) (-1) (-1) 0 0 [], .mk 11 0 (-1) (-1) (-1) 0 10 q_DescribeDelegationTokenResponseTokenDetail] [(.mk (rdI 2 (l, false)).1 [] false [] []), (rdF (.mk 11 0 (-1) (-1) (-1) 0 10 q_DescribeDelegationTokenResponseTokenDetail) ver false zs1).1] := h6.put (o := 2) rfl (vf_list rfl vl4)
        clear h5 h6 vl4 gr
        generalize (rdF (.mk 11 0 (-1) (-1) (-1) 0 10 q_DescribeDelegationTokenResponseTokenDetail) ver false zs1).2 = zs4 at *
        go_wp2_with (first
          | (go_at_call 95; go_loud (refine (int32_any h7.rd h7.hG h7.nrb).mono ?_; rintro e w8 ⟨rfl, r8, k8⟩; have h9 := h7.call r8 k8; have c8 := h9.cellAt (o := 3) rfl; have f8 := h9.free (3); have h10 : ElSt w (w8.setCell ⟨b, 3, none⟩ (.int .i32 (rdI 4 zs4).1)) b w.heap.size G (rdI 4 zs4).2 [.int .i16 ver] [.int .i16 (rdI 2 (l, false)).1, .slice ao4 L4.toNat cp4, .int .i32 (rdI 4 zs4).1] [.map none] [] 118 [.mk 2 0 (-1) (-1) (-1) 0 0 [], .mk 11 0 (-1) (-1) (-1) 0 10 q_DescribeDelegationTokenResponseTokenDetail, .mk 3 0 (-1) (-1) (-1) 0 0 []] [(.mk (rdI 2 (l, false)).1 [] false [] []), (rdF (.mk 11 0 (-1) (-1) (-1) 0 10 q_DescribeDelegationTokenResponseTokenDetail) ver false zs1).1, (.mk (rdI 4 zs4).1 [] false [] [])] := h9.put (o := 3) rfl (vf_i32 (rdI_range4 _)); clear r8 k8 h7 h9; generalize (rdI 4 zs4).2 = zs8 at *))
          | (go_at_call 79; go_loud (have he11 := h10.bare; refine (complete_any he11.rd (hg.keep he11.keep (by simp; omega))).mono ?_; rintro e wz ⟨rfl, kz⟩)))
        go_ret
        have hz := he11.calm hG hGb hbl he11.rd.lt' kz
        obtain ⟨q1, q2⟩ := hz.vm (Nat.le_refl _)
        rw [HEQ0.out]
        dsimp only
        exact ⟨by simp, q1, fun _ => q2⟩
end Go.Proofs.YtdklogmmfnddiaaGreatDoor
