/-
  AlterClientQuotasRequest: reading.
-/
import Derived.Test.YtodbdecpacdgiaaDoorMAcq1
import Derived.Test.YtodbdecpacdgiaaDoorMB13
import Derived.Test.YtodbdecpacdgiaaDoorMAcq4
import Derived.Deep.CutBlock
import Derived.Deep.DeepCutAuto
namespace Go.Proofs.YtodbdecpacdgiaaDoor
open Go.ChangeShapes Go.WideShapes Go.ChangeAt Go.RowKit

set_option maxHeartbeats 40000000 in
set_option maxRecDepth 100000 in
theorem acq_read_0s {G : Nat → Prop} {b : Nat} {p : Addr} {l : Bs} {src : Value} {w : World} {ver : Int} (hb : w.heap[b]? = some (.cells #[.int .i16 ver, .slice none 0 0, .bool false, .map none] 105 (0, 0))) (hl : RB w G src l) (hG : There G w) (hGb : ¬ G b) (hg : Gl w p) (hp : b ≠ 0) (hv0 : 0 ≤ ver) (_B1 : ¬ 1 ≤ ver) :
    Calls Tryd.prog 75 #[.pointer (some ⟨b, 0, none⟩), src, .bool false] w fun e w' => e = .returned (errV p (rdPart q_AlterClientQuotasRequest ver false (l, false)).2.2) ∧ Keep [b] w w' ∧ ((rdPart q_AlterClientQuotasRequest ver false (l, false)).2.2 = false → VM w' (New G w w') b q_AlterClientQuotasRequest 105 ver (rdPart q_AlterClientQuotasRequest ver false (l, false)).1) := by
  obtain ⟨ao, cap, rfl⟩ := RS.shape hl
  have hbl : b < w.heap.size := World.heap_lt hb
  have hp1 : 0 < w.heap.size := World.block_lt_of_cell? w _ hg
  have cv : (w.alloc (.cells #[.slice ao l.length cap, .bool false] 122)).cell? ⟨b, 0, none⟩ = some (.int .i16 ver) := ((keep_box (A := []) _).cell (p := ⟨b, 0, none⟩) hbl (by simp)).trans (cellOf hb 0 _ rfl)
  have h0 : ElSt w (w.alloc (.cells #[.slice ao l.length cap, .bool false] 122)) b w.heap.size G (l, false) [.int .i16 ver] [] [.slice none 0 0, .bool false, .map none] [] 105 [] [] :=
    ⟨⟨_, heap_alloc_new w _, hl.keepF (hG.same (keep_box _)) (fun _ h => h), fun e => absurd e (by simp)⟩, ((keep_box (A := []) _).block b hbl (by simp)).trans hb, ⟨rfl, rfl⟩, (keep_box (A := []) _).weaken (by simp), hG, hGb, (fun e => by have := hG _ e; omega), hbl, by omega⟩
  clear hb
  have HEQ0 : Hid (rdPart q_AlterClientQuotasRequest ver false (l, false) = (.mk 0 [] false [(rdF (.mk 11 0 (-1) (-1) (-1) 0 10 q_AlterClientQuotasRequestEntry) ver false (l, false)).1, (.mk (if (rdBool (rdF (.mk 11 0 (-1) (-1) (-1) 0 10 q_AlterClientQuotasRequestEntry) ver false (l, false)).2).1 then 1 else 0) [] false [] [])] [], (rdBool (rdF (.mk 11 0 (-1) (-1) (-1) 0 10 q_AlterClientQuotasRequestEntry) ver false (l, false)).2).2)) := by
    show _ = _
    simp [rdPart, rdK, rdPartOf, q_AlterClientQuotasRequest, rdFs, (has_yes (show (0 : Int) ≤ ver by omega) (.inl (by decide)) : F.has (.mk 11 0 (-1) (-1) (-1) 0 10 q_AlterClientQuotasRequestEntry) ver = true), (has_yes (show (0 : Int) ≤ ver by omega) (.inl (by decide)) : F.has (.mk 0 0 (-1) (-1) (-1) 0 0 []) ver = true), rdF]
  have hsf := run_store_f64
  go_enter Tryd.func75, Tryd.ntmps75
  have cl1 := h0.cellAt (o := 1) rfl
  go_wp2_with (first
    | (go_at_call 74; refine (d_AlterClientQuotasRequest _ _).mono ?_; rintro e wd ⟨rfl, rfl⟩)
    | (go_at_call 87; go_loud (refine (len_any h0.rd h0.hG h0.nrb).mono ?_; rintro e w1 ⟨rfl, r1, k1⟩; have lr1 := rdLen_range (l, false); have h2 := h0.call r1 k1; clear r1 k1; generalize hl1 : (rdLen (l, false)).1 = L1 at *; have HL1 : Hid _ := hl1; clear h0 hl1)))
  cases hbad1 : (rdLen (l, false)).2.2
  case true =>
    have HB : (rdPart q_AlterClientQuotasRequest ver false (l, false)).2.2 = true := by rw [HEQ0.out]; (try dsimp only); exact rdN_b 1 _ ((show (rdF (.mk 11 0 (-1) (-1) (-1) 0 10 q_AlterClientQuotasRequestEntry) ver false (l, false)).2.2 = true from list_bad hbad1))
    have HBB : Hid _ := HB
    clear HB
    go_wp2_with (first
      | (go_at_call 88; refine (ok_any h2.rd).mono ?_; rintro e wo ⟨rfl, rfl⟩; rw [hbad1])
      | (go_at_call 89; go_loud (refine (complete_any h2.rd (hg.keep (h2.keep) (by simp; omega))).mono ?_; rintro e wz ⟨rfl, kz⟩; rw [hbad1])))
    go_ret
    rw [HBB.out]
    exact ⟨by simp, (Keep.fresh (B := [b]) (h2.keep) (by simp)).trans (kz.weaken (by simp)), fun e => by cases e⟩
  case false =>
    go_upto_if 62 with (go_at_call 88; refine (ok_any h2.rd).mono ?_; rintro e wo ⟨rfl, rfl⟩; rw [hbad1])
    go_cut [12] (fun av wx => RowIni w1 wx (.slice none 0 0) av L1.toNat [.slice none 0 0, .slice none 0 0, .map none] 111)
    case first =>
      by_cases hp : 0 < L1
      · obtain ⟨N, rfl⟩ : ∃ N : Nat, L1 = N := ⟨L1.toNat, by omega⟩
        obtain ⟨i0, hi, hz0, hz1, hz2⟩ := info_bd info_AlterClientQuotasRequestEntry
        have AP := run_append_empty_zeros (P := Tryd.prog) w1 103 21 103 111 i0 _ .i32 .i32 Tryd.underlying103 Tryd.underlying21 hi hz0 N (by omega) (by omega) (by omega) (Nat.le_trans (Nat.mul_le_mul_left N hz2) (by omega)) none
        go_wp2_with (first
          | (at_builtin; go_loud (refine Lib.wpList_append_run _ rfl (.tmp 63) (.tmp 64) 103 21 rfl _ _ rfl rfl _ _ AP ?_))
          | (go_meet; rw [Int.toNat_natCast]; exact RowIni.made2 (w := w1) (z := .agg #[.slice none 0 0, .slice none 0 0, .map none]) (N := N) (e := 111) (show 0 < N by omega) rfl _))
      · go_wp2_with (go_meet; exact .inl ⟨by omega, rfl, rfl⟩)
    case rest =>
      have RR1 := RowRel.start hcut h2.rd h2.hG h2.nrb (gOf 10 false q_AlterClientQuotasRequestEntry ver) 3 10 q_AlterClientQuotasRequestEntry
      clear hcut
      obtain ⟨wl1, rfl⟩ : ∃ x : World, x = wc := ⟨_, rfl⟩
      obtain ⟨av1, rfl⟩ : ∃ x : Value, x = u12 := ⟨_, rfl⟩
      go_wp2_with fail
      refine acq_l0ps (p := p) (by first | rfl | (simp; done) | (simp; omega)) RR1 lr1 h2.hG h2.nrb h2.rd.lt' (hg.keep (h2.keep) (by simp; omega)) (by have := hp1; omega) hv0 ?hret ?hexit
      case hret =>
        show ∀ (a' : Act) (wz : World), _
        intro a' wz z1 z2 z3 z4
        have HB : (rdPart q_AlterClientQuotasRequest ver false (l, false)).2.2 = true := by rw [HEQ0.out]; (try dsimp only); exact rdN_b 1 _ ((show (rdF (.mk 11 0 (-1) (-1) (-1) 0 10 q_AlterClientQuotasRequestEntry) ver false (l, false)).2.2 = true by rw [rdF_list HL1.out]; exact z4))
        repeat (first | refine inBlock_ret ?_ | refine then_ret ?_)
        refine ret_post (fn := Tryd.f75) rfl z1 z2 ?_
        rw [HB]
        exact ⟨by simp, Keep.fresh (B := [b]) (Keep.trans (h2.keep) (z3.weaken (by simp))) (by simp), fun e => by cases e⟩
      case hexit =>
        intro wr1 y6 y14 y15 y16 y17 y18 y19 y20 y21 y22 y23 y24 y25 y26 y27 y28 y29 y30 y31 y32 y33 y66 y67 y68 y69 y70 y71 y72 y73 y74 y75 y76 y77 y78 y79 y80 y81 y82 y83 y84 y85 y86 y87 y88 y89 y90 y91 y92 y93 y94 y95 y96 y97 y98 y99 y100 y101 y102 y103 y104 y105 y106 y107 y108 y109 y110 y111 y112 y113 y114 y115 y116 y117 y118 y119 y120 y121 y122 y123 y124 y125 y126 y127 y128 y129 y130 y131 y132 y133 y134 y135 y136 y137 y138 y139 y140 y141 y142 y143 y144 y145 y146 y147 y148 y149 y150 y151 y152 y153 y154 y155 y156 y157 y158 y159 y160 y161 y162 y163 y164 y165 y166 y167 y168 y169 y170 y171 y172 y173 y174 y175 y176 y177 y178 y179 y180 y181 y182 y183 y184 y185 y186 y187 y188 y189 y190 y191 y192 y193 y194 y195 y196 y197 y198 y199 y200 y201 y202 RR
        have KR1 := RR.keep
        obtain ⟨rr, kr, ⟨ao1, cp1, rfl⟩, vl⟩ := RR.fin (by omega) (.inl rfl)
        clear RR RR1
        have LE := rdF_list (a := 0) (b := (-1)) (c := (-1)) (d := 0) (ofk := 10) (v := ver) (sub := q_AlterClientQuotasRequestEntry) HL1.out
        have rr2 : Rd wr1 w.heap.size G (rdF (.mk 11 0 (-1) (-1) (-1) 0 10 q_AlterClientQuotasRequestEntry) ver false (l, false)).2 := by rw [LE]; exact rr
        have vl2 := vl (decide (L1 ≤ 0)) (by simp)
        have vl3 : VL wr1 (Nw G w1 w.heap.size wr1) (VK wr1 (Nw G w1 w.heap.size wr1) 10 (-1) (VFs wr1 (Nw G w1 w.heap.size wr1) q_AlterClientQuotasRequestEntry)) 3 (.slice ao1 L1.toNat cp1) (rdF (.mk 11 0 (-1) (-1) (-1) 0 10 q_AlterClientQuotasRequestEntry) ver false (l, false)).1 := by rw [LE]; exact vl2
        have gr : ∀ i, Nw G w1 w.heap.size wr1 i → Nw G w w.heap.size wr1 i := fun i hi => ⟨hi.1.imp id (Nat.le_trans h2.keep.size), hi.2⟩
        have vl4 := VL.keepF (fun _ _ => rfl) gr (fun c t => VK.keepF (fun _ _ => rfl) gr (fun c l => VFs.keepF (fun _ _ => rfl) gr q_AlterClientQuotasRequestEntry)) vl3
        have h3 := h2.call rr2 kr
        clear rr rr2 vl vl2 vl3 LE
        have c1 := h3.cellAt (o := 1) rfl
        have f1 := h3.free (1)
        have h4 : ElSt w (wr1.setCell ⟨b, 1, none⟩ (.slice ao1 L1.toNat cp1)) b w.heap.size G (rdF (.mk 11 0 (-1) (-1) (-1) 0 10 q_AlterClientQuotasRequestEntry) ver false (l, false)).2 [.int .i16 ver] [.slice ao1 L1.toNat cp1] [.bool false, .map none] [] 105 [.mk 11 0 (-1) (-1) (-1) 0 10 q_AlterClientQuotasRequestEntry] [(rdF (.mk 11 0 (-1) (-1) (-1) 0 10 q_AlterClientQuotasRequestEntry) ver false (l, false)).1] := h3.put (o := 1) rfl (vf_list rfl vl4)
        clear h2 h3 vl4 gr
        generalize (rdF (.mk 11 0 (-1) (-1) (-1) 0 10 q_AlterClientQuotasRequestEntry) ver false (l, false)).2 = zs1 at *
        go_wp2_with (first
          | (go_at_call 100; go_loud (refine (bool_any h4.rd h4.hG h4.nrb).mono ?_; rintro e w5 ⟨rfl, r5, k5⟩; have h6 := h4.call r5 k5; have c5 := h6.cellAt (o := 2) rfl; have f5 := h6.free (2); have h7 : ElSt w (w5.setCell ⟨b, 2, none⟩ (.bool (rdBool zs1).1)) b w.heap.size G (rdBool zs1).2 [.int .i16 ver] [.slice ao1 L1.toNat cp1, .bool (rdBool zs1).1] [.map none] [] 105 [.mk 11 0 (-1) (-1) (-1) 0 10 q_AlterClientQuotasRequestEntry, .mk 0 0 (-1) (-1) (-1) 0 0 []] [(rdF (.mk 11 0 (-1) (-1) (-1) 0 10 q_AlterClientQuotasRequestEntry) ver false (l, false)).1, (.mk (if (rdBool zs1).1 then 1 else 0) [] false [] [])] := h6.put (o := 2) rfl (vf_bool); clear r5 k5 h4 h6; generalize (rdBool zs1).2 = zs5 at *))
          | (go_at_call 89; go_loud (have he8 := h7.bare; refine (complete_any he8.rd (hg.keep he8.keep (by simp; omega))).mono ?_; rintro e wz ⟨rfl, kz⟩)))
        go_ret
        have hz := he8.calm hG hGb hbl he8.rd.lt' kz
        obtain ⟨q1, q2⟩ := hz.vm (Nat.le_refl _)
        rw [HEQ0.out]
        dsimp only
        exact ⟨by simp, q1, fun _ => q2⟩
end Go.Proofs.YtodbdecpacdgiaaDoor
