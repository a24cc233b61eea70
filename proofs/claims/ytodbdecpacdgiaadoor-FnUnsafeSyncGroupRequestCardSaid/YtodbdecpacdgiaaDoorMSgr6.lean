/-
  SyncGroupRequest: reading.
-/
import Derived.Test.YtodbdecpacdgiaaDoorMSgr1
import Derived.Test.YtodbdecpacdgiaaDoorMB13
import Derived.Test.YtodbdecpacdgiaaDoorMSgr2
import Derived.Deep.CutBlock
import Derived.Deep.DeepCutAuto
namespace Go.Proofs.YtodbdecpacdgiaaDoor
open Go.ChangeShapes Go.WideShapes Go.ChangeAt Go.RowKit

set_option maxHeartbeats 4000000 in
set_option maxRecDepth 100000 in
theorem sgr_read_1s {G : Nat → Prop} {b : Nat} {p : Addr} {l : Bs} {src : Value} {w : World} {ver : Int} (hb : w.heap[b]? = some (.cells #[.int .i16 ver, .string ⟨#[]⟩, .int .i32 0, .string ⟨#[]⟩, .pointer none, .pointer none, .pointer none, .slice none 0 0, .map none] 97 (0, 0))) (hl : RB w G src l) (hG : There G w) (hGb : ¬ G b) (hg : Gl w p) (hp : b ≠ 0) (hv0 : 0 ≤ ver) (_B3 : 3 ≤ ver) (_B4 : ¬ 4 ≤ ver) (_B5 : ¬ 5 ≤ ver) :
    Calls Tryd.prog 70 #[.pointer (some ⟨b, 0, none⟩), src, .bool false] w fun e w' => e = .returned (errV p (rdPart q_SyncGroupRequest ver false (l, false)).2.2) ∧ Keep [b] w w' ∧ ((rdPart q_SyncGroupRequest ver false (l, false)).2.2 = false → VM w' (New G w w') b q_SyncGroupRequest 97 ver (rdPart q_SyncGroupRequest ver false (l, false)).1) := by
  obtain ⟨ao, cap, rfl⟩ := RS.shape hl
  have hbl : b < w.heap.size := World.heap_lt hb
  have hp1 : 0 < w.heap.size := World.block_lt_of_cell? w _ hg
  have cv : (w.alloc (.cells #[.slice ao l.length cap, .bool false] 122)).cell? ⟨b, 0, none⟩ = some (.int .i16 ver) := ((keep_box (A := []) _).cell (p := ⟨b, 0, none⟩) hbl (by simp)).trans (cellOf hb 0 _ rfl)
  have h0 : ElSt w (w.alloc (.cells #[.slice ao l.length cap, .bool false] 122)) b w.heap.size G (l, false) [.int .i16 ver] [] [.string ⟨#[]⟩, .int .i32 0, .string ⟨#[]⟩, .pointer none, .pointer none, .pointer none, .slice none 0 0, .map none] [] 97 [] [] :=
    ⟨⟨_, heap_alloc_new w _, hl.keepF (hG.same (keep_box _)) (fun _ h => h), fun e => absurd e (by simp)⟩, ((keep_box (A := []) _).block b hbl (by simp)).trans hb, ⟨rfl, rfl⟩, (keep_box (A := []) _).weaken (by simp), hG, hGb, (fun e => by have := hG _ e; omega), hbl, by omega⟩
  clear hb
  have HEQ0 : Hid (rdPart q_SyncGroupRequest ver false (l, false) = (.mk 0 [] false [(.mk 0 (rdStr (l, false)).1 false [] []), (.mk (rdI 4 (rdStr (l, false)).2).1 [] false [] []), (.mk 0 (rdStr (rdI 4 (rdStr (l, false)).2).2).1 false [] []), (nstrT (rdNStr (rdStr (rdI 4 (rdStr (l, false)).2).2).2).1), (nstrT none), (nstrT none), (rdF (.mk 11 0 (-1) (-1) (-1) 0 10 q_SyncGroupRequestGroupAssignment) ver false (rdNStr (rdStr (rdI 4 (rdStr (l, false)).2).2).2).2).1] [], (rdF (.mk 11 0 (-1) (-1) (-1) 0 10 q_SyncGroupRequestGroupAssignment) ver false (rdNStr (rdStr (rdI 4 (rdStr (l, false)).2).2).2).2).2)) := by
    show _ = _
    simp [rdPart, rdK, rdPartOf, q_SyncGroupRequest, rdFs, (has_yes (show (0 : Int) ≤ ver by omega) (.inl (by decide)) : F.has (.mk 8 0 (-1) (-1) (-1) 0 0 []) ver = true), (has_yes (show (0 : Int) ≤ ver by omega) (.inl (by decide)) : F.has (.mk 3 0 (-1) (-1) (-1) 0 0 []) ver = true), (has_yes (show (3 : Int) ≤ ver by omega) (.inl (by decide)) : F.has (.mk 8 3 (-1) 3 (-1) 0 0 []) ver = true), (has_no1 (show ¬ (5 : Int) ≤ ver by omega) : F.has (.mk 8 5 (-1) 5 (-1) 0 0 []) ver = false), (has_yes (show (0 : Int) ≤ ver by omega) (.inl (by decide)) : F.has (.mk 11 0 (-1) (-1) (-1) 0 10 q_SyncGroupRequestGroupAssignment) ver = true), rdF, dflF, nstrT, (show (3 : Int) ≤ ver by omega)]
  go_enter Tryd.func70, Tryd.ntmps70
  go_wp2_with (first
    | (go_at_call 69; refine (d_SyncGroupRequest _ _).mono ?_; rintro e wd ⟨rfl, rfl⟩)
    | (go_at_call 85; go_loud (refine (string_any h0.rd h0.hG h0.nrb).mono ?_; rintro e w1 ⟨he1, r1, k1⟩; unfold str at he1; subst he1; have h2 := h0.call r1 k1; have c1 := h2.cellAt (o := 1) rfl; have f1 := h2.free (1); have h3 : ElSt w (w1.setCell ⟨b, 1, none⟩ (.string ⟨(rdStr (l, false)).1.toArray⟩)) b w.heap.size G (rdStr (l, false)).2 [.int .i16 ver] [.string ⟨(rdStr (l, false)).1.toArray⟩] [.int .i32 0, .string ⟨#[]⟩, .pointer none, .pointer none, .pointer none, .slice none 0 0, .map none] [] 97 [.mk 8 0 (-1) (-1) (-1) 0 0 []] [(.mk 0 (rdStr (l, false)).1 false [] [])] := h2.put (o := 1) rfl (vf_str (by decide) _); clear r1 k1 h0 h2; generalize (rdStr (l, false)).2 = zs1 at *))
    | (go_at_call 91; go_loud (refine (int32_any h3.rd h3.hG h3.nrb).mono ?_; rintro e w4 ⟨rfl, r4, k4⟩; have h5 := h3.call r4 k4; have c4 := h5.cellAt (o := 2) rfl; have f4 := h5.free (2); have h6 : ElSt w (w4.setCell ⟨b, 2, none⟩ (.int .i32 (rdI 4 zs1).1)) b w.heap.size G (rdI 4 zs1).2 [.int .i16 ver] [.string ⟨(rdStr (l, false)).1.toArray⟩, .int .i32 (rdI 4 zs1).1] [.string ⟨#[]⟩, .pointer none, .pointer none, .pointer none, .slice none 0 0, .map none] [] 97 [.mk 8 0 (-1) (-1) (-1) 0 0 [], .mk 3 0 (-1) (-1) (-1) 0 0 []] [(.mk 0 (rdStr (l, false)).1 false [] []), (.mk (rdI 4 zs1).1 [] false [] [])] := h5.put (o := 2) rfl (vf_i32 (rdI_range4 _)); clear r4 k4 h3 h5; generalize (rdI 4 zs1).2 = zs4 at *))
    | (go_at_call 85; go_loud (refine (string_any h6.rd h6.hG h6.nrb).mono ?_; rintro e w7 ⟨he7, r7, k7⟩; unfold str at he7; subst he7; have h8 := h6.call r7 k7; have c7 := h8.cellAt (o := 3) rfl; have f7 := h8.free (3); have h9 : ElSt w (w7.setCell ⟨b, 3, none⟩ (.string ⟨(rdStr zs4).1.toArray⟩)) b w.heap.size G (rdStr zs4).2 [.int .i16 ver] [.string ⟨(rdStr (l, false)).1.toArray⟩, .int .i32 (rdI 4 zs1).1, .string ⟨(rdStr zs4).1.toArray⟩] [.pointer none, .pointer none, .pointer none, .slice none 0 0, .map none] [] 97 [.mk 8 0 (-1) (-1) (-1) 0 0 [], .mk 3 0 (-1) (-1) (-1) 0 0 [], .mk 8 0 (-1) (-1) (-1) 0 0 []] [(.mk 0 (rdStr (l, false)).1 false [] []), (.mk (rdI 4 zs1).1 [] false [] []), (.mk 0 (rdStr zs4).1 false [] [])] := h8.put (o := 3) rfl (vf_str (by decide) _); clear r7 k7 h6 h8; generalize (rdStr zs4).2 = zs7 at *))
    | (go_at_call 97; go_loud (refine (nstring_any h9.rd h9.hG h9.nrb).mono ?_; rintro e w10 ⟨pv10, rfl, ps10, r10, k10⟩; obtain ⟨pa10, rfl⟩ := ps10.shape; have nw10 := h9.nwOf (W := w10); have h11 := h9.call r10 k10; have c10 := h11.cellAt (o := 4) rfl; have f10 := h11.free (4); have h12 : ElSt w (w10.setCell ⟨b, 4, none⟩ (.pointer pa10)) b w.heap.size G (rdNStr zs7).2 [.int .i16 ver] [.string ⟨(rdStr (l, false)).1.toArray⟩, .int .i32 (rdI 4 zs1).1, .string ⟨(rdStr zs4).1.toArray⟩, .pointer pa10] [.pointer none, .pointer none, .slice none 0 0, .map none] [] 97 [.mk 8 0 (-1) (-1) (-1) 0 0 [], .mk 3 0 (-1) (-1) (-1) 0 0 [], .mk 8 0 (-1) (-1) (-1) 0 0 [], .mk 8 3 (-1) 3 (-1) 0 0 []] [(.mk 0 (rdStr (l, false)).1 false [] []), (.mk (rdI 4 zs1).1 [] false [] []), (.mk 0 (rdStr zs4).1 false [] []), (nstrT (rdNStr zs7).1)] := h11.put (o := 4) rfl (vf_nstr (by decide) (ps10.keepF (fun _ _ => rfl) nw10)); clear r10 k10 h9 h11; generalize (rdNStr zs7).2 = zs10 at *; have h13 : ElSt w (w10.setCell ⟨b, 4, none⟩ (.pointer pa10)) b w.heap.size G zs10 [.int .i16 ver] [.string ⟨(rdStr (l, false)).1.toArray⟩, .int .i32 (rdI 4 zs1).1, .string ⟨(rdStr zs4).1.toArray⟩, .pointer pa10, .pointer none] [.pointer none, .slice none 0 0, .map none] [] 97 [.mk 8 0 (-1) (-1) (-1) 0 0 [], .mk 3 0 (-1) (-1) (-1) 0 0 [], .mk 8 0 (-1) (-1) (-1) 0 0 [], .mk 8 3 (-1) 3 (-1) 0 0 [], .mk 8 5 (-1) 5 (-1) 0 0 []] [(.mk 0 (rdStr (l, false)).1 false [] []), (.mk (rdI 4 zs1).1 [] false [] []), (.mk 0 (rdStr zs4).1 false [] []), (nstrT (rdNStr zs7).1), (nstrT none)] := h12.pass (vf_nstr (by decide) (PS.nil _ _)); clear h12; have h14 : ElSt w (w10.setCell ⟨b, 4, none⟩ (.pointer pa10)) b w.heap.size G zs10 [.int .i16 ver] [.string ⟨(rdStr (l, false)).1.toArray⟩, .int .i32 (rdI 4 zs1).1, .string ⟨(rdStr zs4).1.toArray⟩, .pointer pa10, .pointer none, .pointer none] [.slice none 0 0, .map none] [] 97 [.mk 8 0 (-1) (-1) (-1) 0 0 [], .mk 3 0 (-1) (-1) (-1) 0 0 [], .mk 8 0 (-1) (-1) (-1) 0 0 [], .mk 8 3 (-1) 3 (-1) 0 0 [], .mk 8 5 (-1) 5 (-1) 0 0 [], .mk 8 5 (-1) 5 (-1) 0 0 []] [(.mk 0 (rdStr (l, false)).1 false [] []), (.mk (rdI 4 zs1).1 [] false [] []), (.mk 0 (rdStr zs4).1 false [] []), (nstrT (rdNStr zs7).1), (nstrT none), (nstrT none)] := h13.pass (vf_nstr (by decide) (PS.nil _ _)); clear h13; have cl15 := h14.cellAt (o := 7) rfl))
    | (go_at_call 87; go_loud (refine (len_any h14.rd h14.hG h14.nrb).mono ?_; rintro e w15 ⟨rfl, r15, k15⟩; have lr15 := rdLen_range zs10; have h16 := h14.call r15 k15; clear r15 k15; generalize hl15 : (rdLen zs10).1 = L15 at *; have HL15 : Hid _ := hl15; clear h14 hl15)))
  cases hbad15 : (rdLen zs10).2.2
  case true =>
    have HB : (rdPart q_SyncGroupRequest ver false (l, false)).2.2 = true := by rw [HEQ0.out]; (try dsimp only); exact (show (rdF (.mk 11 0 (-1) (-1) (-1) 0 10 q_SyncGroupRequestGroupAssignment) ver false zs10).2.2 = true from list_bad hbad15)
    have HBB : Hid _ := HB
    clear HB
    go_wp2_with (first
      | (go_at_call 88; refine (ok_any h16.rd).mono ?_; rintro e wo ⟨rfl, rfl⟩; rw [hbad15])
      | (go_at_call 89; go_loud (refine (complete_any h16.rd (hg.keep (h16.keep) (by simp; omega))).mono ?_; rintro e wz ⟨rfl, kz⟩; rw [hbad15])))
    go_ret
    rw [HBB.out]
    exact ⟨by simp, (Keep.fresh (B := [b]) (h16.keep) (by simp)).trans (kz.weaken (by simp)), fun e => by cases e⟩
  case false =>
    go_upto_if 118 with (go_at_call 88; refine (ok_any h16.rd).mono ?_; rintro e wo ⟨rfl, rfl⟩; rw [hbad15])
    go_cut [18] (fun av wx => RowIni w15 wx (.slice none 0 0) av L15.toNat [.string ⟨#[]⟩, .slice none 0 0, .map none] 102)
    case first =>
      by_cases hp : 0 < L15
      · obtain ⟨N, rfl⟩ : ∃ N : Nat, L15 = N := ⟨L15.toNat, by omega⟩
        obtain ⟨i0, hi, hz0, hz1, hz2⟩ := info_bd info_SyncGroupRequestGroupAssignment
        have AP := run_append_empty_zeros (P := Tryd.prog) w15 95 21 95 102 i0 _ .i32 .i32 Tryd.underlying95 Tryd.underlying21 hi hz0 N (by omega) (by omega) (by omega) (Nat.le_trans (Nat.mul_le_mul_left N hz2) (by omega)) none
        go_wp2_with (first
          | (at_builtin; go_loud (refine Lib.wpList_append_run _ rfl (.tmp 119) (.tmp 120) 95 21 rfl _ _ rfl rfl _ _ AP ?_))
          | (go_meet; rw [Int.toNat_natCast]; exact RowIni.made2 (w := w15) (z := .agg #[.string ⟨#[]⟩, .slice none 0 0, .map none]) (N := N) (e := 102) (show 0 < N by omega) rfl _))
      · go_wp2_with (go_meet; exact .inl ⟨by omega, rfl, rfl⟩)
    case rest =>
      have RR15 := RowRel.start hcut h16.rd h16.hG h16.nrb (gOf 10 false q_SyncGroupRequestGroupAssignment ver) 3 10 q_SyncGroupRequestGroupAssignment
      clear hcut
      obtain ⟨wl15, rfl⟩ : ∃ x : World, x = wc := ⟨_, rfl⟩
      obtain ⟨av15, rfl⟩ : ∃ x : Value, x = u18 := ⟨_, rfl⟩
      go_wp2_with fail
      refine sgr_l0ps (p := p) (by first | rfl | (simp; done) | (simp; omega)) RR15 lr15 h16.hG h16.nrb h16.rd.lt' (hg.keep (h16.keep) (by simp; omega)) (by have := hp1; omega) hv0 ?hret ?hexit
      case hret =>
        show ∀ (a' : Act) (wz : World), _
        intro a' wz z1 z2 z3 z4
        have HB : (rdPart q_SyncGroupRequest ver false (l, false)).2.2 = true := by rw [HEQ0.out]; (try dsimp only); exact (show (rdF (.mk 11 0 (-1) (-1) (-1) 0 10 q_SyncGroupRequestGroupAssignment) ver false zs10).2.2 = true by rw [rdF_list HL15.out]; exact z4)
        repeat (first | refine inBlock_ret ?_ | refine then_ret ?_)
        refine ret_post (fn := Tryd.f70) rfl z1 z2 ?_
        rw [HB]
        exact ⟨by simp, Keep.fresh (B := [b]) (Keep.trans (h16.keep) (z3.weaken (by simp))) (by simp), fun e => by cases e⟩
      case hexit =>
        intro wr15 y20 y21 y22 y23 y24 y122 y123 y124 y125 y126 y127 y128 y129 y130 y131 y132 y133 y134 y135 y136 y137 y138 y139 y140 y141 y142 y143 y144 y145 y146 y147 y148 y149 y150 y151 y152 y153 y154 y155 RR
        have KR15 := RR.keep
        obtain ⟨rr, kr, ⟨ao15, cp15, rfl⟩, vl⟩ := RR.fin (by omega) (.inl rfl)
        clear RR RR15
        have LE := rdF_list (a := 0) (b := (-1)) (c := (-1)) (d := 0) (ofk := 10) (v := ver) (sub := q_SyncGroupRequestGroupAssignment) HL15.out
        have rr2 : Rd wr15 w.heap.size G (rdF (.mk 11 0 (-1) (-1) (-1) 0 10 q_SyncGroupRequestGroupAssignment) ver false zs10).2 := by rw [LE]; exact rr
        have vl2 := vl (decide (L15 ≤ 0)) (by simp)
        have vl3 : VL wr15 (Nw G w15 w.heap.size wr15) (VK wr15 (Nw G w15 w.heap.size wr15) 10 (-1) (VFs wr15 (Nw G w15 w.heap.size wr15) q_SyncGroupRequestGroupAssignment)) 3 (.slice ao15 L15.toNat cp15) (rdF (.mk 11 0 (-1) (-1) (-1) 0 10 q_SyncGroupRequestGroupAssignment) ver false zs10).1 := by rw [LE]; exact vl2
        have gr : ∀ i, Nw G w15 w.heap.size wr15 i → Nw G w w.heap.size wr15 i := fun i hi => ⟨hi.1.imp id (Nat.le_trans h16.keep.size), hi.2⟩
        have vl4 := VL.keepF (fun _ _ => rfl) gr (fun c t => VK.keepF (fun _ _ => rfl) gr (fun c l => VFs.keepF (fun _ _ => rfl) gr q_SyncGroupRequestGroupAssignment)) vl3
        have h17 := h16.call rr2 kr
        clear rr rr2 vl vl2 vl3 LE
        have c15 := h17.cellAt (o := 7) rfl
        have f15 := h17.free (7)
        have h18 : ElSt w (wr15.setCell ⟨b, 7, none⟩ (.slice ao15 L15.toNat cp15)) b w.heap.size G (rdF (.mk 11 0 (-1) (-1) (-1) 0 10 q_SyncGroupRequestGroupAssignment) ver false zs10).2 [.int .i16 ver] [.string ⟨(rdStr (l, false)).1.toArray⟩, .int .i32 (rdI 4 zs1).1, .string ⟨(rdStr zs4).1.toArray⟩, .pointer pa10, .pointer none, .pointer none, .slice ao15 L15.toNat cp15] [.map none] [] 97 [.mk 8 0 (-1) (-1) (-1) 0 0 [], .mk 3 0 (-1) (-1) (-1) 0 0 [], .mk 8 0 (-1) (-1) (-1) 0 0 [], .mk 8 3 (-1) 3 (-1) 0 0 [], .mk 8 5 (-1) 5 (-1) 0 0 [], .mk 8 5 (-1) 5 (-1) 0 0 [], .mk 11 0 (-1) (-1) (-1) 0 10 q_SyncGroupRequestGroupAssignment] [(.mk 0 (rdStr (l, false)).1 false [] []), (.mk (rdI 4 zs1).1 [] false [] []), (.mk 0 (rdStr zs4).1 false [] []), (nstrT (rdNStr zs7).1), (nstrT none), (nstrT none), (rdF (.mk 11 0 (-1) (-1) (-1) 0 10 q_SyncGroupRequestGroupAssignment) ver false zs10).1] := h17.put (o := 7) rfl (vf_list rfl vl4)
        clear h16 h17 vl4 gr
        generalize (rdF (.mk 11 0 (-1) (-1) (-1) 0 10 q_SyncGroupRequestGroupAssignment) ver false zs10).2 = zs15 at *
        have he19 := h18.bare
        go_wp2_with (first
          | (go_at_call 89; go_loud (refine (complete_any he19.rd (hg.keep he19.keep (by simp; omega))).mono ?_; rintro e wz ⟨rfl, kz⟩)))
        go_ret
        have hz := he19.calm hG hGb hbl he19.rd.lt' kz
        obtain ⟨q1, q2⟩ := hz.vm (Nat.le_refl _)
        rw [HEQ0.out]
        dsimp only
        exact ⟨by simp, q1, fun _ => q2⟩
end Go.Proofs.YtodbdecpacdgiaaDoor
