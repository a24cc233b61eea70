/-
  StreamsGroupDescribeRequest: reading.
-/
import Derived.Test.YtobbchmjgoaleaaGreatDoorMTgd1
import Derived.Deep.CutBlock
import Derived.Deep.DeepCutAuto
namespace Go.Proofs.YtobbchmjgoaleaaGreatDoor
open Go.ChangeShapes Go.WideShapes Go.ChangeAt Go.RowKit

set_option maxHeartbeats 4000000 in
set_option maxRecDepth 100000 in
theorem tgd_read_1s {G : Nat → Prop} {b : Nat} {p : Addr} {l : Bs} {src : Value} {w : World} {ver : Int} (hb : w.heap[b]? = some (.cells #[.int .i16 ver, .slice none 0 0, .bool false, .bool false, .map none] 117 (0, 0))) (hl : RB w G src l) (hG : There G w) (hGb : ¬ G b) (hg : Gl w p) (hp : b ≠ 1) (hv0 : 0 ≤ ver) (_B1 : 1 ≤ ver) :
    Calls Tryz.prog 158 #[.pointer (some ⟨b, 0, none⟩), src, .bool false] w fun e w' => e = .returned (errV p (rdPart q_StreamsGroupDescribeRequest ver true (l, false)).2.2) ∧ Keep [b] w w' ∧ ((rdPart q_StreamsGroupDescribeRequest ver true (l, false)).2.2 = false → VM w' (New G w w') b q_StreamsGroupDescribeRequest 117 ver (rdPart q_StreamsGroupDescribeRequest ver true (l, false)).1) := by
  obtain ⟨ao, cap, rfl⟩ := RS.shape hl
  have hbl : b < w.heap.size := World.heap_lt hb
  have hp1 : 1 < w.heap.size := World.block_lt_of_cell? w _ hg
  have cv : (w.alloc (.cells #[.slice ao l.length cap, .bool false] 175)).cell? ⟨b, 0, none⟩ = some (.int .i16 ver) := ((keep_box (A := []) _).cell (p := ⟨b, 0, none⟩) hbl (by simp)).trans (cellOf hb 0 _ rfl)
  have h0 : ElSt w (w.alloc (.cells #[.slice ao l.length cap, .bool false] 175)) b w.heap.size G (l, false) [.int .i16 ver] [] [.slice none 0 0, .bool false, .bool false, .map none] [] 117 [] [] :=
    ⟨⟨_, heap_alloc_new w _, hl.keepF (hG.same (keep_box _)) (fun _ h => h)⟩, ((keep_box (A := []) _).block b hbl (by simp)).trans hb, ⟨rfl, rfl⟩, (keep_box (A := []) _).weaken (by simp), hG, hGb, (fun e => by have := hG _ e; omega), hbl, by omega⟩
  clear hb
  have HEQ0 : Hid (rdPart q_StreamsGroupDescribeRequest ver true (l, false) = (.mk 0 [] false [(rdF (.mk 11 0 (-1) (-1) (-1) 0 8 []) ver true (l, false)).1, (.mk (if (rdBool (rdF (.mk 11 0 (-1) (-1) (-1) 0 8 []) ver true (l, false)).2).1 then 1 else 0) [] false [] []), (.mk (if (rdBool (rdBool (rdF (.mk 11 0 (-1) (-1) (-1) 0 8 []) ver true (l, false)).2).2).1 then 1 else 0) [] false [] [])] (rdTags (rdBool (rdBool (rdF (.mk 11 0 (-1) (-1) (-1) 0 8 []) ver true (l, false)).2).2).2).1, (rdTags (rdBool (rdBool (rdF (.mk 11 0 (-1) (-1) (-1) 0 8 []) ver true (l, false)).2).2).2).2)) := by
    show _ = _
    simp [rdPart, rdK, rdPartOf, q_StreamsGroupDescribeRequest, rdFs, (has_yes (show (0 : Int) ≤ ver by omega) (.inl (by decide)) : F.has (.mk 11 0 (-1) (-1) (-1) 0 8 []) ver = true), (has_yes (show (0 : Int) ≤ ver by omega) (.inl (by decide)) : F.has (.mk 0 0 (-1) (-1) (-1) 0 0 []) ver = true), (has_yes (show (1 : Int) ≤ ver by omega) (.inl (by decide)) : F.has (.mk 0 1 (-1) (-1) (-1) 0 0 []) ver = true), rdF]
  go_enter Tryz.func158, Tryz.ntmps158
  have cl1 := h0.cellAt (o := 1) rfl
  go_wp2_with (first
    | (go_at_call 157; refine (d_StreamsGroupDescribeRequest _ _).mono ?_; rintro e wd ⟨rfl, rfl⟩)
    | (go_at_call 201; go_loud (refine (clen_any h0.rd h0.hG h0.nrb).mono ?_; rintro e w1 ⟨rfl, r1, k1⟩; have lr1 := rdCLen_range (l, false); have h2 := h0.call r1 k1; clear r1; generalize hl1 : (rdCLen (l, false)).1 = L1 at *; have HL1 : Hid _ := hl1; clear h0 hl1)))
  cases hbad1 : (rdCLen (l, false)).2.2
  case true =>
    have HB : (rdPart q_StreamsGroupDescribeRequest ver true (l, false)).2.2 = true := by rw [HEQ0.out]; exact rdTags_b _ (rdN_b 1 _ (rdN_b 1 _ ((show (rdF (.mk 11 0 (-1) (-1) (-1) 0 8 []) ver true (l, false)).2.2 = true from clist_bad hbad1))))
    have HBB : Hid _ := HB
    clear HB
    go_wp2_with (first
      | (go_at_call 203; refine (ok_any h2.rd).mono ?_; rintro e wo ⟨rfl, rfl⟩; rw [hbad1])
      | (go_at_call 188; go_loud (refine (complete_any h2.rd (hg.keep (h2.keep) (by simp; omega))).mono ?_; rintro e wz ⟨rfl, kz⟩; rw [hbad1])))
    go_ret
    rw [HBB.out]
    exact ⟨by simp, (Keep.fresh (B := [b]) (h2.keep) (by simp)).trans (kz.weaken (by simp)), fun e => by cases e⟩
  case false =>
    go_upto_if 45 with (go_at_call 203; refine (ok_any h2.rd).mono ?_; rintro e wo ⟨rfl, rfl⟩; rw [hbad1])
    go_cut [12] (fun av wx => RowIni w1 wx (.slice none 0 0) av L1.toNat [.string ⟨#[]⟩] 9)
    case first =>
      by_cases hp : 0 < L1
      · obtain ⟨N, rfl⟩ : ∃ N : Nat, L1 = N := ⟨L1.toNat, by omega⟩
        obtain ⟨i0, hi, hz0, hz1, hz2⟩ := info_bd info_one8
        have AP := run_append_empty_zeros (P := Tryz.prog) w1 105 21 105 9 i0 _ .i32 .i32 Tryz.underlying105 Tryz.underlying21 hi hz0 N (by omega) (by omega) (by omega) (Nat.le_trans (Nat.mul_le_mul_left N hz2) (by omega)) none
        go_wp2_with (at_builtin; go_loud (refine Lib.wpList_append_run _ rfl (.tmp 46) (.tmp 47) 105 21 rfl _ _ rfl rfl _ _ AP ?_))
        go_meet
        rw [Int.toNat_natCast]
        exact RowIni.made2 (w := w1) (z := .string ⟨#[]⟩) (N := N) (e := 9) (show 0 < N by omega) rfl _
      · go_wp2_with fail
        go_meet
        exact .inl ⟨by omega, rfl, rfl⟩
    case rest =>
      have RR1 := RowRel.start hcut h2.rd h2.hG h2.nrb (gOf 8 true [] ver) 1 8 []
      clear hcut
      obtain ⟨wl1, rfl⟩ : ∃ x : World, x = wc := ⟨_, rfl⟩
      obtain ⟨av1, rfl⟩ : ∃ x : Value, x = u12 := ⟨_, rfl⟩
      go_wp2_with fail
      go_loopw [14] (fun i wr => ∃ k : Nat, k ≤ L1.toNat ∧ i = .int .i32 (k : Int) ∧ RowRel w1 wl1 wr w.heap.size G (gOf 8 true [] ver) (rdCLen (l, false)).2 L1.toNat 1 k [.string ⟨#[]⟩] 9 8 [] (.slice none 0 0) av1) (fun i _ => L1.toNat - (intOf i).toNat)
      case atStart => exact ⟨0, Nat.zero_le _, rfl, RR1⟩
      case round =>
        obtain ⟨wr1, rfl⟩ : ∃ x : World, x = wr := ⟨_, rfl⟩
        obtain ⟨k3, hk3, rfl, RR⟩ := hrel
        have KR1 := RR.keep
        by_cases lt1 : (k3 : Int) < L1
        · obtain ⟨row1, cap1, pre1, post1, rfl, hcap1, hrw1, hpre1, e1, cont1⟩ := RR.elem (by omega : k3 < L1.toNat)
          clear RR RR1
          have hrx1 : w.heap.size ≤ row1 := by have := h2.keep.size; omega
          have KW1 : Keep [b, w.heap.size] w wr1 := Keep.trans (h2.keep) (KR1.weaken (by simp))
          have HBF1 : Hid (((gOf 8 true [] ver) (rdTimes (gOf 8 true [] ver) k3 (rdCLen (l, false)).2).2).2.2 = true → (rdPart q_StreamsGroupDescribeRequest ver true (l, false)).2.2 = true) := fun h => by
            have hb : (rdF (.mk 11 0 (-1) (-1) (-1) 0 8 []) ver true (l, false)).2.2 = true := by
              rw [rdF_clist HL1.out]
              exact rdTimes_from (gOf_b 8 true [] ver) _ (k3 + 1) h _ (by omega)
            exact by rw [HEQ0.out]; exact rdTags_b _ (rdN_b 1 _ (rdN_b 1 _ (hb)))
          generalize (rdTimes (gOf 8 true [] ver) k3 (rdCLen (l, false)).2).2 = sk1 at *
          have HEQ1 : Hid ((gOf 8 true [] ver) sk1 = (.mk 0 (rdCStr sk1).1 false [] [], (rdCStr sk1).2)) := by
            show _ = _
            simp [gOf, rdK]
          go_wp2_with (go_at_call 196; go_loud (refine (cstring_any e1.rd e1.hG e1.nrb).mono ?_; rintro e we1 ⟨he1, r1, k1⟩; unfold str at he1; subst he1; have h4 := e1.call r1 k1; have c1 := h4.cellAt (o := k3) (by rw [hpre1]; simp); have f1 := h4.free (k3); have h5 := h4.one (v := .string ⟨(rdCStr sk1).1.toArray⟩) (ofk := 8) (fs := []) (o := k3) (by rw [hpre1]; simp) (fun _ _ _ => vk_one8); clear e1 h4))
          go_roundw
          case rel => exact ⟨k3 + 1, by omega, by go_num, cont1 _ _ _ _ h5 rfl HEQ1.out⟩
          case measure => simp [intOf]; omega
        · obtain ⟨rr, kr, ⟨ao1, cp1, rfl⟩, vl⟩ := RR.fin (by omega) (.inl rfl)
          clear RR RR1
          have LE := rdF_clist (a := 0) (b := (-1)) (c := (-1)) (d := 0) (ofk := 8) (v := ver) (sub := []) HL1.out
          have rr2 : Rd wr1 w.heap.size G (rdF (.mk 11 0 (-1) (-1) (-1) 0 8 []) ver true (l, false)).2 := by rw [LE]; exact rr
          have vl2 := vl (decide (L1 ≤ 0)) (by simp)
          have vl3 : VL wr1 (Nw G w1 w.heap.size wr1) (VK wr1 (Nw G w1 w.heap.size wr1) 8 (-1) (VFs wr1 (Nw G w1 w.heap.size wr1) [])) 1 (.slice ao1 L1.toNat cp1) (rdF (.mk 11 0 (-1) (-1) (-1) 0 8 []) ver true (l, false)).1 := by rw [LE]; exact vl2
          have gr : ∀ i, Nw G w1 w.heap.size wr1 i → Nw G w w.heap.size wr1 i := fun i hi => ⟨hi.1.imp id (Nat.le_trans h2.keep.size), hi.2⟩
          have vl4 := VL.keepF (fun _ _ => rfl) gr (fun c t => VK.keepF (fun _ _ => rfl) gr (fun c l => VFs.keepF (fun _ _ => rfl) gr [])) vl3
          have h6 := h2.call rr2 kr
          clear rr rr2 vl vl2 vl3 LE
          have c1 := h6.cellAt (o := 1) rfl
          have f1 := h6.free (1)
          have h7 : ElSt w (wr1.setCell ⟨b, 1, none⟩ (.slice ao1 L1.toNat cp1)) b w.heap.size G (rdF (.mk 11 0 (-1) (-1) (-1) 0 8 []) ver true (l, false)).2 [.int .i16 ver] [.slice ao1 L1.toNat cp1] [.bool false, .bool false, .map none] [] 117 [.mk 11 0 (-1) (-1) (-1) 0 8 []] [(rdF (.mk 11 0 (-1) (-1) (-1) 0 8 []) ver true (l, false)).1] := h6.put (o := 1) rfl (vf_list rfl vl4)
          clear h2 h6 vl4 gr
          go_wp2_with (first
            | (go_at_call 199; go_loud (refine (bool_any h7.rd h7.hG h7.nrb).mono ?_; rintro e w8 ⟨rfl, r8, k8⟩; have h9 := h7.call r8 k8; have c8 := h9.cellAt (o := 2) rfl; have f8 := h9.free (2); have h10 : ElSt w (w8.setCell ⟨b, 2, none⟩ (.bool (rdBool (rdF (.mk 11 0 (-1) (-1) (-1) 0 8 []) ver true (l, false)).2).1)) b w.heap.size G (rdBool (rdF (.mk 11 0 (-1) (-1) (-1) 0 8 []) ver true (l, false)).2).2 [.int .i16 ver] [.slice ao1 L1.toNat cp1, .bool (rdBool (rdF (.mk 11 0 (-1) (-1) (-1) 0 8 []) ver true (l, false)).2).1] [.bool false, .map none] [] 117 [.mk 11 0 (-1) (-1) (-1) 0 8 [], .mk 0 0 (-1) (-1) (-1) 0 0 []] [(rdF (.mk 11 0 (-1) (-1) (-1) 0 8 []) ver true (l, false)).1, (.mk (if (rdBool (rdF (.mk 11 0 (-1) (-1) (-1) 0 8 []) ver true (l, false)).2).1 then 1 else 0) [] false [] [])] := h9.put (o := 2) rfl (vf_bool); clear h7 h9))
            | (go_at_call 199; go_loud (refine (bool_any h10.rd h10.hG h10.nrb).mono ?_; rintro e w11 ⟨rfl, r11, k11⟩; have h12 := h10.call r11 k11; have c11 := h12.cellAt (o := 3) rfl; have f11 := h12.free (3); have h13 : ElSt w (w11.setCell ⟨b, 3, none⟩ (.bool (rdBool (rdBool (rdF (.mk 11 0 (-1) (-1) (-1) 0 8 []) ver true (l, false)).2).2).1)) b w.heap.size G (rdBool (rdBool (rdF (.mk 11 0 (-1) (-1) (-1) 0 8 []) ver true (l, false)).2).2).2 [.int .i16 ver] [.slice ao1 L1.toNat cp1, .bool (rdBool (rdF (.mk 11 0 (-1) (-1) (-1) 0 8 []) ver true (l, false)).2).1, .bool (rdBool (rdBool (rdF (.mk 11 0 (-1) (-1) (-1) 0 8 []) ver true (l, false)).2).2).1] [.map none] [] 117 [.mk 11 0 (-1) (-1) (-1) 0 8 [], .mk 0 0 (-1) (-1) (-1) 0 0 [], .mk 0 1 (-1) (-1) (-1) 0 0 []] [(rdF (.mk 11 0 (-1) (-1) (-1) 0 8 []) ver true (l, false)).1, (.mk (if (rdBool (rdF (.mk 11 0 (-1) (-1) (-1) 0 8 []) ver true (l, false)).2).1 then 1 else 0) [] false [] []), (.mk (if (rdBool (rdBool (rdF (.mk 11 0 (-1) (-1) (-1) 0 8 []) ver true (l, false)).2).2).1 then 1 else 0) [] false [] [])] := h12.put (o := 3) rfl (vf_bool); clear h10 h12))
            | (go_at_call 187; go_loud (refine (rtags_any h13.rd h13.hG h13.nrb).mono ?_; rintro e w14 ⟨tv14, rfl, mp14, mb14, r14, k14⟩; obtain ⟨mr14, rfl⟩ := mp14.shape; have mq14 := mp14.keepF (fun _ _ => rfl) (h13.nwNew (W := w14)); have h15 := h13.call r14 k14; have c14 := h15.cellAt (o := 4) rfl; have f14 := h15.free (4); have he16 := h15.tags (o := 4) rfl mq14; clear h13 h15))
            | (go_at_call 188; go_loud (refine (complete_any he16.rd (hg.keep he16.keep (by simp; omega))).mono ?_; rintro e wz ⟨rfl, kz⟩)))
          go_ret
          have hz := he16.calm hG hGb hbl he16.rd.lt' kz
          obtain ⟨q1, q2⟩ := hz.vm (Nat.le_refl _)
          rw [HEQ0.out]
          dsimp only
          exact ⟨by simp, q1, fun _ => q2⟩
end Go.Proofs.YtobbchmjgoaleaaGreatDoor
