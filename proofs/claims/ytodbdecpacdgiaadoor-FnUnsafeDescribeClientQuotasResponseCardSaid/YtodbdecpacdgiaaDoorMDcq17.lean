/-
  DescribeClientQuotasResponse: reading.
-/
import Derived.Test.YtodbdecpacdgiaaDoorMDcq1
import Derived.Test.YtodbdecpacdgiaaDoorMB13
import Derived.Test.YtodbdecpacdgiaaDoorMDcq16
import Derived.Deep.CutBlock
import Derived.Deep.DeepCutAuto
namespace Go.Proofs.YtodbdecpacdgiaaDoor
open Go.ChangeShapes Go.WideShapes Go.ChangeAt Go.RowKit

set_option maxHeartbeats 40000000 in
set_option maxRecDepth 100000 in
theorem dcq_read_1u {G : Nat → Prop} {b : Nat} {p : Addr} {l : Bs} {src : Value} {w : World} {ver : Int} (hb : w.heap[b]? = some (.cells #[.int .i16 ver, .int .i32 0, .int .i16 0, .pointer none, .slice none 0 0, .map none] 114 (0, 0))) (hl : RB w G src l) (hG : There G w) (hGb : ¬ G b) (hg : Gl w p) (hp : b ≠ 0) (hv0 : 0 ≤ ver) (_B1 : 1 ≤ ver) :
    Calls Tryd.prog 79 #[.pointer (some ⟨b, 0, none⟩), src, .bool true] w fun e w' => e = .returned (errV p (rdPart q_DescribeClientQuotasResponse ver true (l, false)).2.2) ∧ Keep [b] w w' ∧ ((rdPart q_DescribeClientQuotasResponse ver true (l, false)).2.2 = false → VM w' (New G w w') b q_DescribeClientQuotasResponse 114 ver (rdPart q_DescribeClientQuotasResponse ver true (l, false)).1) := by
  obtain ⟨ao, cap, rfl⟩ := RS.shape hl
  have hbl : b < w.heap.size := World.heap_lt hb
  have hp1 : 0 < w.heap.size := World.block_lt_of_cell? w _ hg
  have cv : (w.alloc (.cells #[.slice ao l.length cap, .bool false] 122)).cell? ⟨b, 0, none⟩ = some (.int .i16 ver) := ((keep_box (A := []) _).cell (p := ⟨b, 0, none⟩) hbl (by simp)).trans (cellOf hb 0 _ rfl)
  have h0 : ElSt w (w.alloc (.cells #[.slice ao l.length cap, .bool false] 122)) b w.heap.size G (l, false) [.int .i16 ver] [] [.int .i32 0, .int .i16 0, .pointer none, .slice none 0 0, .map none] [] 114 [] [] :=
    ⟨⟨_, heap_alloc_new w _, hl.keepF (hG.same (keep_box _)) (fun _ h => h), fun e => absurd e (by simp)⟩, ((keep_box (A := []) _).block b hbl (by simp)).trans hb, ⟨rfl, rfl⟩, (keep_box (A := []) _).weaken (by simp), hG, hGb, (fun e => by have := hG _ e; omega), hbl, by omega⟩
  clear hb
  have HEQ0 : Hid (rdPart q_DescribeClientQuotasResponse ver true (l, false) = (.mk 0 [] false [(.mk (rdI 4 (l, false)).1 [] false [] []), (.mk (rdI 2 (rdI 4 (l, false)).2).1 [] false [] []), (nstrT (rdCNStr (rdI 2 (rdI 4 (l, false)).2).2).1), (rdF (.mk 11 0 (-1) 0 (-1) 0 10 q_DescribeClientQuotasResponseEntry) ver true (rdCNStr (rdI 2 (rdI 4 (l, false)).2).2).2).1] (rdTags (rdF (.mk 11 0 (-1) 0 (-1) 0 10 q_DescribeClientQuotasResponseEntry) ver true (rdCNStr (rdI 2 (rdI 4 (l, false)).2).2).2).2).1, (rdTags (rdF (.mk 11 0 (-1) 0 (-1) 0 10 q_DescribeClientQuotasResponseEntry) ver true (rdCNStr (rdI 2 (rdI 4 (l, false)).2).2).2).2).2)) := by
    show _ = _
    simp [rdPart, rdK, rdPartOf, q_DescribeClientQuotasResponse, rdFs, (has_yes (show (0 : Int) ≤ ver by omega) (.inl (by decide)) : F.has (.mk 3 0 (-1) (-1) (-1) 0 0 []) ver = true), (has_yes (show (0 : Int) ≤ ver by omega) (.inl (by decide)) : F.has (.mk 2 0 (-1) (-1) (-1) 0 0 []) ver = true), (has_yes (show (0 : Int) ≤ ver by omega) (.inl (by decide)) : F.has (.mk 8 0 (-1) 0 (-1) 0 0 []) ver = true), (has_yes (show (0 : Int) ≤ ver by omega) (.inl (by decide)) : F.has (.mk 11 0 (-1) 0 (-1) 0 10 q_DescribeClientQuotasResponseEntry) ver = true), rdF, hv0]
  have hsf := run_store_f64
  go_enter Tryd.func79, Tryd.ntmps79
  go_upto_if 83 with (first
    | (go_at_call 78; refine (d_DescribeClientQuotasResponse _ _).mono ?_; rintro e wd ⟨rfl, rfl⟩)
    | (go_at_call 91; go_loud (refine (int32_any h0.rd h0.hG h0.nrb).mono ?_; rintro e w1 ⟨rfl, r1, k1⟩; have h2 := h0.call r1 k1; have c1 := h2.cellAt (o := 1) rfl; have f1 := h2.free (1); have h3 : ElSt w (w1.setCell ⟨b, 1, none⟩ (.int .i32 (rdI 4 (l, false)).1)) b w.heap.size G (rdI 4 (l, false)).2 [.int .i16 ver] [.int .i32 (rdI 4 (l, false)).1] [.int .i16 0, .pointer none, .slice none 0 0, .map none] [] 114 [.mk 3 0 (-1) (-1) (-1) 0 0 []] [(.mk (rdI 4 (l, false)).1 [] false [] [])] := h2.put (o := 1) rfl (vf_i32 (rdI_range4 _)); clear r1 k1 h0 h2; generalize (rdI 4 (l, false)).2 = zs1 at *))
    | (go_at_call 108; go_loud (refine (int16_any h3.rd h3.hG h3.nrb).mono ?_; rintro e w4 ⟨rfl, r4, k4⟩; have h5 := h3.call r4 k4; have c4 := h5.cellAt (o := 2) rfl; have f4 := h5.free (2); have h6 : ElSt w (w4.setCell ⟨b, 2, none⟩ (.int .i16 (rdI 2 zs1).1)) b w.heap.size G (rdI 2 zs1).2 [.int .i16 ver] [.int .i32 (rdI 4 (l, false)).1, .int .i16 (rdI 2 zs1).1] [.pointer none, .slice none 0 0, .map none] [] 114 [.mk 3 0 (-1) (-1) (-1) 0 0 [], .mk 2 0 (-1) (-1) (-1) 0 0 []] [(.mk (rdI 4 (l, false)).1 [] false [] []), (.mk (rdI 2 zs1).1 [] false [] [])] := h5.put (o := 2) rfl (vf_i16 (rdI_range2 _)); clear r4 k4 h3 h5; generalize (rdI 2 zs1).2 = zs4 at *))
    | (go_at_call 94; go_loud (refine (ucnstring_any h6.rd h6.hG h6.nrb).mono ?_; rintro e w7 ⟨pv7, rfl, ps7, r7, k7⟩; obtain ⟨pa7, rfl⟩ := ps7.shape; have nw7 := h6.nwOf (W := w7); have h8 := h6.call r7 k7; have c7 := h8.cellAt (o := 3) rfl; have f7 := h8.free (3); have h9 : ElSt w (w7.setCell ⟨b, 3, none⟩ (.pointer pa7)) b w.heap.size G (rdCNStr zs4).2 [.int .i16 ver] [.int .i32 (rdI 4 (l, false)).1, .int .i16 (rdI 2 zs1).1, .pointer pa7] [.slice none 0 0, .map none] [] 114 [.mk 3 0 (-1) (-1) (-1) 0 0 [], .mk 2 0 (-1) (-1) (-1) 0 0 [], .mk 8 0 (-1) 0 (-1) 0 0 []] [(.mk (rdI 4 (l, false)).1 [] false [] []), (.mk (rdI 2 zs1).1 [] false [] []), (nstrT (rdCNStr zs4).1)] := h8.put (o := 3) rfl (vf_nstr (by decide) (ps7.keepF (fun _ _ => rfl) nw7)); clear r7 k7 h6 h8; generalize (rdCNStr zs4).2 = zs7 at *; have cl10 := h9.cellAt (o := 4) rfl))
    | (go_at_call 86; go_loud (refine (clen_any h9.rd h9.hG h9.nrb).mono ?_; rintro e w10 ⟨rfl, r10, k10⟩; have lr10 := rdCLen_range zs7; have h11 := h9.call r10 k10; clear r10 k10; generalize hl10 : (rdCLen zs7).1 = L10 at *; have HL10 : Hid _ := hl10; clear h9 hl10)))
  go_cut [15] (fun av wx => Keep [] w10 wx ∧ V0 (¬ (0 : Int) ≤ ver ∨ L10 = 0) av)
  case first =>
    by_cases hp : L10 = 0
    · have hd : (L10 == 0) = true := by simp [hp]
      have HP : Hid _ := hp
      have HC : Hid (∀ P : Prop, (0 ≤ ver ∧ (L10 == 0) = false) → P) := fun P h => (by rw [hd] at h; simp at h)
      clear hp
      go_wp2_with (first | (go_meet; exact ⟨(Keep.refl _ _).alloc _, fun _ => ⟨_, rfl⟩, fun h => absurd (Or.inr HP.out) h⟩) | exact HC.out _ (by assumption))
    · have hd : (L10 == 0) = false := by simp [hp]
      have HP : Hid _ := hp
      have HC : Hid (∀ P : Prop, (ver < 0 ∨ (L10 == 0) = true) → P) := fun P h => (by rcases h with h | h; omega; rw [hd] at h; simp at h)
      clear hp
      go_wp2_with (first | (go_meet; exact ⟨Keep.refl _ _, fun h => (by rcases h with h | h; (exfalso; omega); exact (HP.out h).elim), fun _ => rfl⟩) | exact HC.out _ (by assumption))
  case rest =>
    obtain ⟨wv10, rfl⟩ : ∃ x : World, x = wc := ⟨_, rfl⟩
    obtain ⟨v0_10, rfl⟩ : ∃ x : Value, x = u15 := ⟨_, rfl⟩
    obtain ⟨kv10, vz10⟩ := hcut
    obtain ⟨⟨av0_10, rfl⟩, vs10, vi10⟩ := vz10.shape
    have h12 := h11.calm kv10
    clear h11 vz10
    cases hbad10 : (rdCLen zs7).2.2
    case true =>
      have HB : (rdPart q_DescribeClientQuotasResponse ver true (l, false)).2.2 = true := by rw [HEQ0.out]; (try dsimp only); exact rdTags_b _ ((show (rdF (.mk 11 0 (-1) 0 (-1) 0 10 q_DescribeClientQuotasResponseEntry) ver true zs7).2.2 = true from clist_bad hbad10))
      have HBB : Hid _ := HB
      clear HB
      go_wp2_with (first
        | (go_at_call 88; refine (ok_any h12.rd).mono ?_; rintro e wo ⟨rfl, rfl⟩; rw [hbad10])
        | (go_at_call 89; go_loud (refine (complete_any h12.rd (hg.keep (h12.keep) (by simp; omega))).mono ?_; rintro e wz ⟨rfl, kz⟩; rw [hbad10])))
      go_ret
      rw [HBB.out]
      exact ⟨by simp, (Keep.fresh (B := [b]) (h12.keep) (by simp)).trans (kz.weaken (by simp)), fun e => by cases e⟩
    case false =>
      go_upto_if 91 with (go_at_call 88; refine (ok_any h12.rd).mono ?_; rintro e wo ⟨rfl, rfl⟩; rw [hbad10])
      go_cut [15] (fun av wx => RowIni wv10 wx (.slice av0_10 0 0) av L10.toNat [.slice none 0 0, .slice none 0 0, .map none] 120)
      case first =>
        by_cases hp : 0 < L10
        · obtain ⟨N, rfl⟩ : ∃ N : Nat, L10 = N := ⟨L10.toNat, by omega⟩
          obtain ⟨i0, hi, hz0, hz1, hz2⟩ := info_bd info_DescribeClientQuotasResponseEntry
          have AP := run_append_empty_zeros (P := Tryd.prog) wv10 112 21 112 120 i0 _ .i32 .i32 Tryd.underlying112 Tryd.underlying21 hi hz0 N (by omega) (by omega) (by omega) (Nat.le_trans (Nat.mul_le_mul_left N hz2) (by omega)) av0_10
          go_wp2_with (first
            | (at_builtin; go_loud (refine Lib.wpList_append_run _ rfl (.tmp 92) (.tmp 93) 112 21 rfl _ _ rfl rfl _ _ AP ?_))
            | (go_meet; rw [Int.toNat_natCast]; exact RowIni.made2 (w := wv10) (z := .agg #[.slice none 0 0, .slice none 0 0, .map none]) (N := N) (e := 120) (show 0 < N by omega) rfl _))
        · go_wp2_with (go_meet; exact .inl ⟨by omega, rfl, rfl⟩)
      case rest =>
        have RR10 := RowRel.start hcut h12.rd h12.hG h12.nrb (gOf 10 true q_DescribeClientQuotasResponseEntry ver) 3 10 q_DescribeClientQuotasResponseEntry
        clear hcut
        obtain ⟨wl10, rfl⟩ : ∃ x : World, x = wc := ⟨_, rfl⟩
        obtain ⟨av10, rfl⟩ : ∃ x : Value, x = u15 := ⟨_, rfl⟩
        go_wp2_with fail
        refine dcq_l0fu (p := p) (by first | rfl | (simp; done) | (simp; omega)) RR10 lr10 h12.hG h12.nrb h12.rd.lt' (hg.keep (h12.keep) (by simp; omega)) (by have := hp1; omega) hv0 ?hret ?hexit
        case hret =>
          show ∀ (a' : Act) (wz : World), _
          intro a' wz z1 z2 z3 z4
          have HB : (rdPart q_DescribeClientQuotasResponse ver true (l, false)).2.2 = true := by rw [HEQ0.out]; (try dsimp only); exact rdTags_b _ ((show (rdF (.mk 11 0 (-1) 0 (-1) 0 10 q_DescribeClientQuotasResponseEntry) ver true zs7).2.2 = true by rw [rdF_cnlist (show (0 : Int) ≤ 0 by decide) HL10.out]; exact z4))
          repeat (first | refine inBlock_ret ?_ | refine then_ret ?_)
          refine ret_post (fn := Tryd.f79) rfl z1 z2 ?_
          rw [HB]
          exact ⟨by simp, Keep.fresh (B := [b]) (Keep.trans (h12.keep) (z3.weaken (by simp))) (by simp), fun e => by cases e⟩
        case hexit =>
          intro wr10 y6 y17 y18 y19 y20 y21 y22 y23 y24 y25 y26 y27 y28 y29 y30 y31 y32 y33 y34 y35 y95 y96 y97 y98 y99 y100 y101 y102 y103 y104 y105 y106 y107 y108 y109 y110 y111 y112 y113 y114 y115 y116 y117 y118 y119 y120 y121 y122 y123 y124 y125 y126 y127 y128 y129 y130 y131 y132 y133 y134 y135 y136 y137 y138 y139 y140 y141 y142 y143 y144 y145 y146 y147 y148 y149 y150 y151 y152 y153 y154 y155 y156 y157 y158 y159 y160 y161 y162 y163 y164 y165 y166 y167 y168 y169 y170 y171 y172 y173 y174 y175 y176 y177 y178 y179 y180 y181 y182 y183 y184 y185 y186 y187 y188 y189 y190 y191 y192 y193 y194 y195 y196 y197 y198 y199 y200 y201 y202 y203 y204 y205 y206 y207 y208 y209 y210 y211 y212 y213 y214 y215 y216 y217 y218 y219 y220 y221 y222 y223 y224 y225 y226 RR
          have KR10 := RR.keep
          obtain ⟨rr, kr, ⟨ao10, cp10, rfl⟩, vl⟩ := RR.fin (by omega) (vs10)
          clear RR RR10
          have LE := rdF_cnlist (show (0 : Int) ≤ 0 by decide) (a := 0) (b := (-1)) (c := (-1)) (d := 0) (ofk := 10) (v := ver) (sub := q_DescribeClientQuotasResponseEntry) HL10.out
          have rr2 : Rd wr10 w.heap.size G (rdF (.mk 11 0 (-1) 0 (-1) 0 10 q_DescribeClientQuotasResponseEntry) ver true zs7).2 := by rw [LE]; exact rr
          have vl2 := vl (decide ((0 : Int) ≤ ver) && decide (L10 < 0)) (by rw [vi10]; simp; omega)
          have vl3 : VL wr10 (Nw G wv10 w.heap.size wr10) (VK wr10 (Nw G wv10 w.heap.size wr10) 10 (-1) (VFs wr10 (Nw G wv10 w.heap.size wr10) q_DescribeClientQuotasResponseEntry)) 3 (.slice ao10 L10.toNat cp10) (rdF (.mk 11 0 (-1) 0 (-1) 0 10 q_DescribeClientQuotasResponseEntry) ver true zs7).1 := by rw [LE]; exact vl2
          have gr : ∀ i, Nw G wv10 w.heap.size wr10 i → Nw G w w.heap.size wr10 i := fun i hi => ⟨hi.1.imp id (Nat.le_trans h12.keep.size), hi.2⟩
          have vl4 := VL.keepF (fun _ _ => rfl) gr (fun c t => VK.keepF (fun _ _ => rfl) gr (fun c l => VFs.keepF (fun _ _ => rfl) gr q_DescribeClientQuotasResponseEntry)) vl3
          have h13 := h12.call rr2 kr
          clear rr rr2 vl vl2 vl3 LE
          have c10 := h13.cellAt (o := 4) rfl
          have f10 := h13.free (4)
          have h14 : ElSt w (wr10.setCell ⟨b, 4, none⟩ (.slice ao10 L10.toNat cp10)) b w.heap.size G (rdF (.mk 11 0 (-1) 0 (-1) 0 10 q_DescribeClientQuotasResponseEntry) ver true zs7).2 [.int .i16 ver] [.int .i32 (rdI 4 (l, false)).1, .int .i16 (rdI 2 zs1).1, .pointer pa7, .slice ao10 L10.toNat cp10] [.map none] [] 114 [.mk 3 0 (-1) (-1) (-1) 0 0 [], .mk 2 0 (-1) (-1) (-1) 0 0 [], .mk 8 0 (-1) 0 (-1) 0 0 [], .mk 11 0 (-1) 0 (-1) 0 10 q_DescribeClientQuotasResponseEntry] [(.mk (rdI 4 (l, false)).1 [] false [] []), (.mk (rdI 2 zs1).1 [] false [] []), (nstrT (rdCNStr zs4).1), (rdF (.mk 11 0 (-1) 0 (-1) 0 10 q_DescribeClientQuotasResponseEntry) ver true zs7).1] := h13.put (o := 4) rfl (vf_list rfl vl4)
          clear h12 h13 vl4 gr
          generalize (rdF (.mk 11 0 (-1) 0 (-1) 0 10 q_DescribeClientQuotasResponseEntry) ver true zs7).2 = zs10 at *
          go_wp2_with (first
            | (go_at_call 92; go_loud (refine (rtags_any h14.rd h14.hG h14.nrb).mono ?_; rintro e w15 ⟨tv15, rfl, mp15, mb15, r15, k15⟩; obtain ⟨mr15, rfl⟩ := mp15.shape; have mq15 := mp15.keepF (fun _ _ => rfl) (h14.nwNew (W := w15)); have h16 := h14.call r15 k15; have c15 := h16.cellAt (o := 5) rfl; have f15 := h16.free (5); have he17 := h16.tags (o := 5) rfl mq15; clear r15 k15 h14 h16))
            | (go_at_call 89; go_loud (refine (complete_any he17.rd (hg.keep he17.keep (by simp; omega))).mono ?_; rintro e wz ⟨rfl, kz⟩)))
          go_ret
          have hz := he17.calm hG hGb hbl he17.rd.lt' kz
          obtain ⟨q1, q2⟩ := hz.vm (Nat.le_refl _)
          rw [HEQ0.out]
          dsimp only
          exact ⟨by simp, q1, fun _ => q2⟩
end Go.Proofs.YtodbdecpacdgiaaDoor
