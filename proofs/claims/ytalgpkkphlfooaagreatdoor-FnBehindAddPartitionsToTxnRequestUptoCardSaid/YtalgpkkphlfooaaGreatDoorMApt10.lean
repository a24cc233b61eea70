/-
  AddPartitionsToTxnRequest: reading.
-/
import Derived.Test.YtalgpkkphlfooaaGreatDoorMApt1
import Derived.Test.YtalgpkkphlfooaaGreatDoorMB13
import Derived.Test.YtalgpkkphlfooaaGreatDoorMApt9
import Derived.Deep.CutBlock
import Derived.Deep.DeepCutAuto
namespace Go.Proofs.YtalgpkkphlfooaaGreatDoor
open Go.ChangeShapes Go.WideShapes Go.ChangeAt Go.RowKit

set_option maxHeartbeats 40000000 in
set_option maxRecDepth 100000 in
theorem apt_read_1s {G : Nat → Prop} {b : Nat} {p : Addr} {l : Bs} {src : Value} {w : World} {ver : Int} (hb : w.heap[b]? = some (.cells #[.int .i16 ver, .string ⟨#[]⟩, .int .i64 0, .int .i16 0, .slice none 0 0, .slice none 0 0, .map none] 98 (0, 0))) (hl : RB w G src l) (hG : There G w) (hGb : ¬ G b) (hg : Gl w p) (hp : b ≠ 1) (hv0 : 0 ≤ ver) (_B3 : 3 ≤ ver) (_B4 : ¬ 4 ≤ ver) :
    Calls Tryz.prog 86 #[.pointer (some ⟨b, 0, none⟩), src, .bool false] w fun e w' => e = .returned (errV p (rdPart q_AddPartitionsToTxnRequest ver true (l, false)).2.2) ∧ Keep [b] w w' ∧ ((rdPart q_AddPartitionsToTxnRequest ver true (l, false)).2.2 = false → VM w' (New G w w') b q_AddPartitionsToTxnRequest 98 ver (rdPart q_AddPartitionsToTxnRequest ver true (l, false)).1) := by
  obtain ⟨ao, cap, rfl⟩ := RS.shape hl
  have hbl : b < w.heap.size := World.heap_lt hb
  have hp1 : 1 < w.heap.size := World.block_lt_of_cell? w _ hg
  have cv : (w.alloc (.cells #[.slice ao l.length cap, .bool false] 161)).cell? ⟨b, 0, none⟩ = some (.int .i16 ver) := ((keep_box (A := []) _).cell (p := ⟨b, 0, none⟩) hbl (by simp)).trans (cellOf hb 0 _ rfl)
  have h0 : ElSt w (w.alloc (.cells #[.slice ao l.length cap, .bool false] 161)) b w.heap.size G (l, false) [.int .i16 ver] [] [.string ⟨#[]⟩, .int .i64 0, .int .i16 0, .slice none 0 0, .slice none 0 0, .map none] [] 98 [] [] :=
    ⟨⟨_, heap_alloc_new w _, hl.keepF (hG.same (keep_box _)) (fun _ h => h), fun e => absurd e (by simp)⟩, ((keep_box (A := []) _).block b hbl (by simp)).trans hb, ⟨rfl, rfl⟩, (keep_box (A := []) _).weaken (by simp), hG, hGb, (fun e => by have := hG _ e; omega), hbl, by omega⟩
  clear hb
  have HEQ0 : Hid (rdPart q_AddPartitionsToTxnRequest ver true (l, false) = (.mk 0 [] false [(.mk 0 (rdCStr (l, false)).1 false [] []), (.mk (rdI 8 (rdCStr (l, false)).2).1 [] false [] []), (.mk (rdI 2 (rdI 8 (rdCStr (l, false)).2).2).1 [] false [] []), (rdF (.mk 11 0 3 (-1) (-1) 0 10 q_AddPartitionsToTxnRequestTopic) ver true (rdI 2 (rdI 8 (rdCStr (l, false)).2).2).2).1, (.mk 0 [] true [] [])] (rdTags (rdF (.mk 11 0 3 (-1) (-1) 0 10 q_AddPartitionsToTxnRequestTopic) ver true (rdI 2 (rdI 8 (rdCStr (l, false)).2).2).2).2).1, (rdTags (rdF (.mk 11 0 3 (-1) (-1) 0 10 q_AddPartitionsToTxnRequestTopic) ver true (rdI 2 (rdI 8 (rdCStr (l, false)).2).2).2).2).2)) := by
    show _ = _
    simp [rdPart, rdK, rdPartOf, q_AddPartitionsToTxnRequest, rdFs, (has_yes (show (0 : Int) ≤ ver by omega) (.inr (show ver ≤ 3 by omega)) : F.has (.mk 8 0 3 (-1) (-1) 0 0 []) ver = true), (has_yes (show (0 : Int) ≤ ver by omega) (.inr (show ver ≤ 3 by omega)) : F.has (.mk 4 0 3 (-1) (-1) 0 0 []) ver = true), (has_yes (show (0 : Int) ≤ ver by omega) (.inr (show ver ≤ 3 by omega)) : F.has (.mk 2 0 3 (-1) (-1) 0 0 []) ver = true), (has_yes (show (0 : Int) ≤ ver by omega) (.inr (show ver ≤ 3 by omega)) : F.has (.mk 11 0 3 (-1) (-1) 0 10 q_AddPartitionsToTxnRequestTopic) ver = true), (has_no1 (show ¬ (4 : Int) ≤ ver by omega) : F.has (.mk 11 4 (-1) (-1) (-1) 0 10 q_AddPartitionsToTxnRequestTransaction) ver = false), rdF, dflF]
  go_enter Tryz.func86, Tryz.ntmps86
  go_wp2_with (first
    | (go_at_call 84; refine (d_AddPartitionsToTxnRequest _ _).mono ?_; rintro e wd ⟨rfl, rfl⟩)
    | (go_at_call 118; go_loud (refine (cstring_any h0.rd h0.hG h0.nrb).mono ?_; rintro e w1 ⟨he1, r1, k1⟩; unfold str at he1; subst he1; have h2 := h0.call r1 k1; have c1 := h2.cellAt (o := 1) rfl; have f1 := h2.free (1); have h3 : ElSt w (w1.setCell ⟨b, 1, none⟩ (.string ⟨(rdCStr (l, false)).1.toArray⟩)) b w.heap.size G (rdCStr (l, false)).2 [.int .i16 ver] [.string ⟨(rdCStr (l, false)).1.toArray⟩] [.int .i64 0, .int .i16 0, .slice none 0 0, .slice none 0 0, .map none] [] 98 [.mk 8 0 3 (-1) (-1) 0 0 []] [(.mk 0 (rdCStr (l, false)).1 false [] [])] := h2.put (o := 1) rfl (vf_str (by decide) _); clear r1 k1 h0 h2; generalize (rdCStr (l, false)).2 = zs1 at *))
    | (go_at_call 127; go_loud (refine (int64_any h3.rd h3.hG h3.nrb).mono ?_; rintro e w4 ⟨rfl, r4, k4⟩; have h5 := h3.call r4 k4; have c4 := h5.cellAt (o := 2) rfl; have f4 := h5.free (2); have h6 : ElSt w (w4.setCell ⟨b, 2, none⟩ (.int .i64 (rdI 8 zs1).1)) b w.heap.size G (rdI 8 zs1).2 [.int .i16 ver] [.string ⟨(rdCStr (l, false)).1.toArray⟩, .int .i64 (rdI 8 zs1).1] [.int .i16 0, .slice none 0 0, .slice none 0 0, .map none] [] 98 [.mk 8 0 3 (-1) (-1) 0 0 [], .mk 4 0 3 (-1) (-1) 0 0 []] [(.mk 0 (rdCStr (l, false)).1 false [] []), (.mk (rdI 8 zs1).1 [] false [] [])] := h5.put (o := 2) rfl (vf_i64 (rdI_range8 _)); clear r4 k4 h3 h5; generalize (rdI 8 zs1).2 = zs4 at *))
    | (go_at_call 106; go_loud (refine (int16_any h6.rd h6.hG h6.nrb).mono ?_; rintro e w7 ⟨rfl, r7, k7⟩; have h8 := h6.call r7 k7; have c7 := h8.cellAt (o := 3) rfl; have f7 := h8.free (3); have h9 : ElSt w (w7.setCell ⟨b, 3, none⟩ (.int .i16 (rdI 2 zs4).1)) b w.heap.size G (rdI 2 zs4).2 [.int .i16 ver] [.string ⟨(rdCStr (l, false)).1.toArray⟩, .int .i64 (rdI 8 zs1).1, .int .i16 (rdI 2 zs4).1] [.slice none 0 0, .slice none 0 0, .map none] [] 98 [.mk 8 0 3 (-1) (-1) 0 0 [], .mk 4 0 3 (-1) (-1) 0 0 [], .mk 2 0 3 (-1) (-1) 0 0 []] [(.mk 0 (rdCStr (l, false)).1 false [] []), (.mk (rdI 8 zs1).1 [] false [] []), (.mk (rdI 2 zs4).1 [] false [] [])] := h8.put (o := 3) rfl (vf_i16 (rdI_range2 _)); clear r7 k7 h6 h8; generalize (rdI 2 zs4).2 = zs7 at *; have cl10 := h9.cellAt (o := 4) rfl))
    | (go_at_call 111; go_loud (refine (clen_any h9.rd h9.hG h9.nrb).mono ?_; rintro e w10 ⟨rfl, r10, k10⟩; have lr10 := rdCLen_range zs7; have h11 := h9.call r10 k10; clear r10 k10; generalize hl10 : (rdCLen zs7).1 = L10 at *; have HL10 : Hid _ := hl10; clear h9 hl10)))
  cases hbad10 : (rdCLen zs7).2.2
  case true =>
    have HB : (rdPart q_AddPartitionsToTxnRequest ver true (l, false)).2.2 = true := by rw [HEQ0.out]; (try dsimp only); exact rdTags_b _ ((show (rdF (.mk 11 0 3 (-1) (-1) 0 10 q_AddPartitionsToTxnRequestTopic) ver true zs7).2.2 = true from clist_bad hbad10))
    have HBB : Hid _ := HB
    clear HB
    go_wp2_with (first
      | (go_at_call 113; refine (ok_any h11.rd).mono ?_; rintro e wo ⟨rfl, rfl⟩; rw [hbad10])
      | (go_at_call 114; go_loud (refine (complete_any h11.rd (hg.keep (h11.keep) (by simp; omega))).mono ?_; rintro e wz ⟨rfl, kz⟩; rw [hbad10])))
    go_ret
    rw [HBB.out]
    exact ⟨by simp, (Keep.fresh (B := [b]) (h11.keep) (by simp)).trans (kz.weaken (by simp)), fun e => by cases e⟩
  case false =>
    go_upto_if 120 with (go_at_call 113; refine (ok_any h11.rd).mono ?_; rintro e wo ⟨rfl, rfl⟩; rw [hbad10])
    go_cut [15] (fun av wx => RowIni w10 wx (.slice none 0 0) av L10.toNat [.string ⟨#[]⟩, .slice none 0 0, .map none] 102)
    case first =>
      by_cases hp : 0 < L10
      · obtain ⟨N, rfl⟩ : ∃ N : Nat, L10 = N := ⟨L10.toNat, by omega⟩
        obtain ⟨i0, hi, hz0, hz1, hz2⟩ := info_bd info_AddPartitionsToTxnRequestTopic
        have AP := run_append_empty_zeros (P := Tryz.prog) w10 95 21 95 102 i0 _ .i32 .i32 Tryz.underlying95 Tryz.underlying21 hi hz0 N (by omega) (by omega) (by omega) (Nat.le_trans (Nat.mul_le_mul_left N hz2) (by omega)) none
        go_wp2_with (first
          | (at_builtin; go_loud (refine Lib.wpList_append_run _ rfl (.tmp 121) (.tmp 122) 95 21 rfl _ _ rfl rfl _ _ AP ?_))
          | (go_meet; rw [Int.toNat_natCast]; exact RowIni.made2 (w := w10) (z := .agg #[.string ⟨#[]⟩, .slice none 0 0, .map none]) (N := N) (e := 102) (show 0 < N by omega) rfl _))
      · go_wp2_with (go_meet; exact .inl ⟨by omega, rfl, rfl⟩)
    case rest =>
      have RR10 := RowRel.start hcut h11.rd h11.hG h11.nrb (gOf 10 true q_AddPartitionsToTxnRequestTopic ver) 3 10 q_AddPartitionsToTxnRequestTopic
      clear hcut
      obtain ⟨wl10, rfl⟩ : ∃ x : World, x = wc := ⟨_, rfl⟩
      obtain ⟨av10, rfl⟩ : ∃ x : Value, x = u15 := ⟨_, rfl⟩
      go_wp2_with fail
      refine apt_l0fs (p := p) (by first | rfl | (simp; done) | (simp; omega)) RR10 lr10 h11.hG h11.nrb h11.rd.lt' (hg.keep (h11.keep) (by simp; omega)) (by have := hp1; omega) hv0 ?hret ?hexit
      case hret =>
        show ∀ (a' : Act) (wz : World), _
        intro a' wz z1 z2 z3 z4
        have HB : (rdPart q_AddPartitionsToTxnRequest ver true (l, false)).2.2 = true := by rw [HEQ0.out]; (try dsimp only); exact rdTags_b _ ((show (rdF (.mk 11 0 3 (-1) (-1) 0 10 q_AddPartitionsToTxnRequestTopic) ver true zs7).2.2 = true by rw [rdF_clist HL10.out]; exact z4))
        repeat (first | refine inBlock_ret ?_ | refine then_ret ?_)
        refine ret_post (fn := Tryz.f86) rfl z1 z2 ?_
        rw [HB]
        exact ⟨by simp, Keep.fresh (B := [b]) (Keep.trans (h11.keep) (z3.weaken (by simp))) (by simp), fun e => by cases e⟩
      case hexit =>
        intro wr10 y6 y17 y18 y19 y20 y21 y22 y23 y24 y25 y124 y125 y126 y127 y128 y129 y130 y131 y132 y133 y134 y135 y136 y137 y138 y139 y140 y141 y142 y143 y144 y145 y146 y147 y148 y149 y150 y151 y152 y153 y154 y155 y156 y157 y158 y159 y160 y161 y162 y163 y164 y165 y166 y167 y168 y169 y170 y171 y172 y173 y174 y175 y176 y177 y178 y179 y180 y181 y182 y183 RR
        have KR10 := RR.keep
        obtain ⟨rr, kr, ⟨ao10, cp10, rfl⟩, vl⟩ := RR.fin (by omega) (.inl rfl)
        clear RR RR10
        have LE := rdF_clist (a := 0) (b := 3) (c := (-1)) (d := 0) (ofk := 10) (v := ver) (sub := q_AddPartitionsToTxnRequestTopic) HL10.out
        have rr2 : Rd wr10 w.heap.size G (rdF (.mk 11 0 3 (-1) (-1) 0 10 q_AddPartitionsToTxnRequestTopic) ver true zs7).2 := by rw [LE]; exact rr
        have vl2 := vl (decide (L10 ≤ 0)) (by simp)
        have vl3 : VL wr10 (Nw G w10 w.heap.size wr10) (VK wr10 (Nw G w10 w.heap.size wr10) 10 (-1) (VFs wr10 (Nw G w10 w.heap.size wr10) q_AddPartitionsToTxnRequestTopic)) 3 (.slice ao10 L10.toNat cp10) (rdF (.mk 11 0 3 (-1) (-1) 0 10 q_AddPartitionsToTxnRequestTopic) ver true zs7).1 := by rw [LE]; exact vl2
        have gr : ∀ i, Nw G w10 w.heap.size wr10 i → Nw G w w.heap.size wr10 i := fun i hi => ⟨hi.1.imp id (Nat.le_trans h11.keep.size), hi.2⟩
        have vl4 := VL.keepF (fun _ _ => rfl) gr (fun c t => VK.keepF (fun _ _ => rfl) gr (fun c l => VFs.keepF (fun _ _ => rfl) gr q_AddPartitionsToTxnRequestTopic)) vl3
        have h12 := h11.call rr2 kr
        clear rr rr2 vl vl2 vl3 LE
        have c10 := h12.cellAt (o := 4) rfl
        have f10 := h12.free (4)
        have h13 : ElSt w (wr10.setCell ⟨b, 4, none⟩ (.slice ao10 L10.toNat cp10)) b w.heap.size G (rdF (.mk 11 0 3 (-1) (-1) 0 10 q_AddPartitionsToTxnRequestTopic) ver true zs7).2 [.int .i16 ver] [.string ⟨(rdCStr (l, false)).1.toArray⟩, .int .i64 (rdI 8 zs1).1, .int .i16 (rdI 2 zs4).1, .slice ao10 L10.toNat cp10] [.slice none 0 0, .map none] [] 98 [.mk 8 0 3 (-1) (-1) 0 0 [], .mk 4 0 3 (-1) (-1) 0 0 [], .mk 2 0 3 (-1) (-1) 0 0 [], .mk 11 0 3 (-1) (-1) 0 10 q_AddPartitionsToTxnRequestTopic] [(.mk 0 (rdCStr (l, false)).1 false [] []), (.mk (rdI 8 zs1).1 [] false [] []), (.mk (rdI 2 zs4).1 [] false [] []), (rdF (.mk 11 0 3 (-1) (-1) 0 10 q_AddPartitionsToTxnRequestTopic) ver true zs7).1] := h12.put (o := 4) rfl (vf_list rfl vl4)
        clear h11 h12 vl4 gr
        generalize (rdF (.mk 11 0 3 (-1) (-1) 0 10 q_AddPartitionsToTxnRequestTopic) ver true zs7).2 = zs10 at *
        go_wp2_with (first
          | (go_at_call 121; go_loud (have h14 : ElSt w (wr10.setCell ⟨b, 4, none⟩ (.slice ao10 L10.toNat cp10)) b w.heap.size G zs10 [.int .i16 ver] [.string ⟨(rdCStr (l, false)).1.toArray⟩, .int .i64 (rdI 8 zs1).1, .int .i16 (rdI 2 zs4).1, .slice ao10 L10.toNat cp10, .slice none 0 0] [.map none] [] 98 [.mk 8 0 3 (-1) (-1) 0 0 [], .mk 4 0 3 (-1) (-1) 0 0 [], .mk 2 0 3 (-1) (-1) 0 0 [], .mk 11 0 3 (-1) (-1) 0 10 q_AddPartitionsToTxnRequestTopic, .mk 11 4 (-1) (-1) (-1) 0 10 q_AddPartitionsToTxnRequestTransaction] [(.mk 0 (rdCStr (l, false)).1 false [] []), (.mk (rdI 8 zs1).1 [] false [] []), (.mk (rdI 2 zs4).1 [] false [] []), (rdF (.mk 11 0 3 (-1) (-1) 0 10 q_AddPartitionsToTxnRequestTopic) ver true zs7).1, (.mk 0 [] true [] [])] := h13.pass (vf_list rfl (VL.nil _ _ _ _)); clear h13; refine (rtags_any h14.rd h14.hG h14.nrb).mono ?_; rintro e w15 ⟨tv15, rfl, mp15, mb15, r15, k15⟩; obtain ⟨mr15, rfl⟩ := mp15.shape; have mq15 := mp15.keepF (fun _ _ => rfl) (h14.nwNew (W := w15)); have h16 := h14.call r15 k15; have c15 := h16.cellAt (o := 6) rfl; have f15 := h16.free (6); have he17 := h16.tags (o := 6) rfl mq15; clear r15 k15 h14 h16))
          | (go_at_call 114; go_loud (refine (complete_any he17.rd (hg.keep he17.keep (by simp; omega))).mono ?_; rintro e wz ⟨rfl, kz⟩)))
        go_ret
        have hz := he17.calm hG hGb hbl he17.rd.lt' kz
        obtain ⟨q1, q2⟩ := hz.vm (Nat.le_refl _)
        rw [HEQ0.out]
        dsimp only
        exact ⟨by simp, q1, fun _ => q2⟩
end Go.Proofs.YtalgpkkphlfooaaGreatDoor
