/-
  ElectLeadersResponse: reading.
-/
import Derived.Test.YtbddchglganmdaaDoorMElr1
import Derived.Deep.CutBlock
import Derived.Deep.DeepCutAuto
namespace Go.Proofs.YtbddchglganmdaaDoor
open Go.ChangeShapes Go.WideShapes Go.ChangeAt Go.RowKit

set_option maxHeartbeats 4000000 in
set_option maxRecDepth 100000 in
theorem elr_read_0s {G : Nat → Prop} {b : Nat} {p : Addr} {l : Bs} {src : Value} {w : World} {ver : Int} (hb : w.heap[b]? = some (.cells #[.int .i16 ver, .int .i32 0, .int .i16 0, .slice none 0 0, .map none] 98 (0, 0))) (hl : RB w G src l) (hG : There G w) (hGb : ¬ G b) (hg : Gl w p) (hp : b ≠ 1) (hv0 : 0 ≤ ver) (_B1 : ¬ 1 ≤ ver) (_B2 : ¬ 2 ≤ ver) :
    Calls Tryd.prog 114 #[.pointer (some ⟨b, 0, none⟩), src, .bool false] w fun e w' => e = .returned (errV p (rdPart q_ElectLeadersResponse ver false (l, false)).2.2) ∧ Keep [b] w w' ∧ ((rdPart q_ElectLeadersResponse ver false (l, false)).2.2 = false → VM w' (New G w w') b q_ElectLeadersResponse 98 ver (rdPart q_ElectLeadersResponse ver false (l, false)).1) := by
  obtain ⟨ao, cap, rfl⟩ := RS.shape hl
  have hbl : b < w.heap.size := World.heap_lt hb
  have hp1 : 1 < w.heap.size := World.block_lt_of_cell? w _ hg
  have cv : (w.alloc (.cells #[.slice ao l.length cap, .bool false] 173)).cell? ⟨b, 0, none⟩ = some (.int .i16 ver) := ((keep_box (A := []) _).cell (p := ⟨b, 0, none⟩) hbl (by simp)).trans (cellOf hb 0 _ rfl)
  have h0 : ElSt w (w.alloc (.cells #[.slice ao l.length cap, .bool false] 173)) b w.heap.size G (l, false) [.int .i16 ver] [] [.int .i32 0, .int .i16 0, .slice none 0 0, .map none] [] 98 [] [] :=
    ⟨⟨_, heap_alloc_new w _, hl.keepF (hG.same (keep_box _)) (fun _ h => h)⟩, ((keep_box (A := []) _).block b hbl (by simp)).trans hb, ⟨rfl, rfl⟩, (keep_box (A := []) _).weaken (by simp), hG, hGb, (fun e => by have := hG _ e; omega), hbl, by omega⟩
  clear hb
  have HEQ0 : Hid (rdPart q_ElectLeadersResponse ver false (l, false) = (.mk 0 [] false [(.mk (rdI 4 (l, false)).1 [] false [] []), (.mk 0 [] false [] []), (rdF (.mk 11 0 (-1) (-1) (-1) 0 10 q_ElectLeadersResponseTopic) ver false (rdI 4 (l, false)).2).1] [], (rdF (.mk 11 0 (-1) (-1) (-1) 0 10 q_ElectLeadersResponseTopic) ver false (rdI 4 (l, false)).2).2)) := by
    show _ = _
    simp [rdPart, rdK, rdPartOf, q_ElectLeadersResponse, rdFs, (has_yes (show (0 : Int) ≤ ver by omega) (.inl (by decide)) : F.has (.mk 3 0 (-1) (-1) (-1) 0 0 []) ver = true), (has_no1 (show ¬ (1 : Int) ≤ ver by omega) : F.has (.mk 2 1 (-1) (-1) (-1) 0 0 []) ver = false), (has_yes (show (0 : Int) ≤ ver by omega) (.inl (by decide)) : F.has (.mk 11 0 (-1) (-1) (-1) 0 10 q_ElectLeadersResponseTopic) ver = true), rdF, dflF]
  go_enter Tryd.func114, Tryd.ntmps114
  go_wp2_with (first
    | (go_at_call 113; refine (d_ElectLeadersResponse _ _).mono ?_; rintro e wd ⟨rfl, rfl⟩)
    | (go_at_call 152; go_loud (refine (int32_any h0.rd h0.hG h0.nrb).mono ?_; rintro e w1 ⟨rfl, r1, k1⟩; have h2 := h0.call r1 k1; have c1 := h2.cellAt (o := 1) rfl; have f1 := h2.free (1); have h3 : ElSt w (w1.setCell ⟨b, 1, none⟩ (.int .i32 (rdI 4 (l, false)).1)) b w.heap.size G (rdI 4 (l, false)).2 [.int .i16 ver] [.int .i32 (rdI 4 (l, false)).1] [.int .i16 0, .slice none 0 0, .map none] [] 98 [.mk 3 0 (-1) (-1) (-1) 0 0 []] [(.mk (rdI 4 (l, false)).1 [] false [] [])] := h2.put (o := 1) rfl (vf_i32 (rdI_range4 _)); clear r1 k1 h0 h2; have h4 : ElSt w (w1.setCell ⟨b, 1, none⟩ (.int .i32 (rdI 4 (l, false)).1)) b w.heap.size G (rdI 4 (l, false)).2 [.int .i16 ver] [.int .i32 (rdI 4 (l, false)).1, .int .i16 0] [.slice none 0 0, .map none] [] 98 [.mk 3 0 (-1) (-1) (-1) 0 0 [], .mk 2 1 (-1) (-1) (-1) 0 0 []] [(.mk (rdI 4 (l, false)).1 [] false [] []), (.mk 0 [] false [] [])] := h3.pass (vf_i16 (by decide)); clear h3; have cl5 := h4.cellAt (o := 3) rfl))
    | (go_at_call 154; go_loud (refine (len_any h4.rd h4.hG h4.nrb).mono ?_; rintro e w5 ⟨rfl, r5, k5⟩; have lr5 := rdLen_range (rdI 4 (l, false)).2; have h6 := h4.call r5 k5; clear r5 k5; generalize hl5 : (rdLen (rdI 4 (l, false)).2).1 = L5 at *; have HL5 : Hid _ := hl5; clear h4 hl5)))
  cases hbad5 : (rdLen (rdI 4 (l, false)).2).2.2
  case true =>
    have HB : (rdPart q_ElectLeadersResponse ver false (l, false)).2.2 = true := by rw [HEQ0.out]; (try dsimp only); exact (show (rdF (.mk 11 0 (-1) (-1) (-1) 0 10 q_ElectLeadersResponseTopic) ver false (rdI 4 (l, false)).2).2.2 = true from list_bad hbad5)
    have HBB : Hid _ := HB
    clear HB
    go_wp2_with (first
      | (go_at_call 155; refine (ok_any h6.rd).mono ?_; rintro e wo ⟨rfl, rfl⟩; rw [hbad5])
      | (go_at_call 156; go_loud (refine (complete_any h6.rd (hg.keep (h6.keep) (by simp; omega))).mono ?_; rintro e wz ⟨rfl, kz⟩; rw [hbad5])))
    go_ret
    rw [HBB.out]
    exact ⟨by simp, (Keep.fresh (B := [b]) (h6.keep) (by simp)).trans (kz.weaken (by simp)), fun e => by cases e⟩
  case false =>
    go_upto_if 68 with (go_at_call 155; refine (ok_any h6.rd).mono ?_; rintro e wo ⟨rfl, rfl⟩; rw [hbad5])
    go_cut [14] (fun av wx => RowIni w5 wx (.slice none 0 0) av L5.toNat [.string ⟨#[]⟩, .slice none 0 0, .map none] 103)
    case first =>
      by_cases hp : 0 < L5
      · obtain ⟨N, rfl⟩ : ∃ N : Nat, L5 = N := ⟨L5.toNat, by omega⟩
        obtain ⟨i0, hi, hz0, hz1, hz2⟩ := info_bd info_ElectLeadersResponseTopic
        have AP := run_append_empty_zeros (P := Tryd.prog) w5 96 21 96 103 i0 _ .i32 .i32 Tryd.underlying96 Tryd.underlying21 hi hz0 N (by omega) (by omega) (by omega) (Nat.le_trans (Nat.mul_le_mul_left N hz2) (by omega)) none
        go_wp2_with (first
          | (at_builtin; go_loud (refine Lib.wpList_append_run _ rfl (.tmp 69) (.tmp 70) 96 21 rfl _ _ rfl rfl _ _ AP ?_))
          | (go_meet; rw [Int.toNat_natCast]; exact RowIni.made2 (w := w5) (z := .agg #[.string ⟨#[]⟩, .slice none 0 0, .map none]) (N := N) (e := 103) (show 0 < N by omega) rfl _))
      · go_wp2_with (go_meet; exact .inl ⟨by omega, rfl, rfl⟩)
    case rest =>
      have RR5 := RowRel.start hcut h6.rd h6.hG h6.nrb (gOf 10 false q_ElectLeadersResponseTopic ver) 3 10 q_ElectLeadersResponseTopic
      clear hcut
      obtain ⟨wl5, rfl⟩ : ∃ x : World, x = wc := ⟨_, rfl⟩
      obtain ⟨av5, rfl⟩ : ∃ x : Value, x = u14 := ⟨_, rfl⟩
      go_wp2_with fail
      go_loopw [16] (fun i wr => ∃ k : Nat, k ≤ L5.toNat ∧ i = .int .i32 (k : Int) ∧ RowRel w5 wl5 wr w.heap.size G (gOf 10 false q_ElectLeadersResponseTopic ver) (rdLen (rdI 4 (l, false)).2).2 L5.toNat 3 k [.string ⟨#[]⟩, .slice none 0 0, .map none] 103 10 q_ElectLeadersResponseTopic (.slice none 0 0) av5) (fun i _ => L5.toNat - (intOf i).toNat)
      case atStart => exact ⟨0, Nat.zero_le _, rfl, RR5⟩
      case round =>
        obtain ⟨wr5, rfl⟩ : ∃ x : World, x = wr := ⟨_, rfl⟩
        obtain ⟨k7, hk7, rfl, RR⟩ := hrel
        have KR5 := RR.keep
        by_cases lt5 : (k7 : Int) < L5
        · obtain ⟨row5, cap5, pre5, post5, rfl, hcap5, hrw5, hpre5, e5, cont5⟩ := RR.elem (by omega : k7 < L5.toNat)
          clear RR RR5
          have hrx5 : w.heap.size ≤ row5 := by have := h6.keep.size; omega
          have KW5 : Keep [b, w.heap.size] w wr5 := Keep.trans (h6.keep) (KR5.weaken (by simp))
          have HBF5 : Hid (((gOf 10 false q_ElectLeadersResponseTopic ver) (rdTimes (gOf 10 false q_ElectLeadersResponseTopic ver) k7 (rdLen (rdI 4 (l, false)).2).2).2).2.2 = true → (rdPart q_ElectLeadersResponse ver false (l, false)).2.2 = true) := fun h => by
            have hb : (rdF (.mk 11 0 (-1) (-1) (-1) 0 10 q_ElectLeadersResponseTopic) ver false (rdI 4 (l, false)).2).2.2 = true := by
              rw [rdF_list HL5.out]
              exact rdTimes_from (gOf_b 10 false q_ElectLeadersResponseTopic ver) _ (k7 + 1) h _ (by omega)
            exact by rw [HEQ0.out]; (try dsimp only); exact hb
          generalize (rdTimes (gOf 10 false q_ElectLeadersResponseTopic ver) k7 (rdLen (rdI 4 (l, false)).2).2).2 = sk5 at *
          have HEQ5 : Hid ((gOf 10 false q_ElectLeadersResponseTopic ver) sk5 = (.mk 0 [] false [(.mk 0 (rdStr sk5).1 false [] []), (rdF (.mk 11 0 (-1) (-1) (-1) 0 10 q_ElectLeadersResponseTopicPartition) ver false (rdStr sk5).2).1] [], (rdF (.mk 11 0 (-1) (-1) (-1) 0 10 q_ElectLeadersResponseTopicPartition) ver false (rdStr sk5).2).2)) := by
            show _ = _
            simp [gOf, rdK, rdPartOf, q_ElectLeadersResponseTopic, rdFs, (has_yes (show (0 : Int) ≤ ver by omega) (.inl (by decide)) : F.has (.mk 8 0 (-1) (-1) (-1) 0 0 []) ver = true), (has_yes (show (0 : Int) ≤ ver by omega) (.inl (by decide)) : F.has (.mk 11 0 (-1) (-1) (-1) 0 10 q_ElectLeadersResponseTopicPartition) ver = true), rdF]
          go_wp2_with (first
            | (go_at_call 172; go_loud (refine (d_ElectLeadersResponseTopic _ _).mono ?_; rintro e wd ⟨rfl, rfl⟩))
            | (go_at_call 167; go_loud (refine (string_any e5.rd e5.hG e5.nrb).mono ?_; rintro e w8 ⟨he8, r8, k8⟩; unfold str at he8; subst he8; have h9 := e5.call r8 k8; have c8 := h9.cellAt (o := k7 * 3) (el_at0 hpre5 rfl); have f8 := h9.free (k7 * 3); have h10 : ElSt wr5 (w8.setCell ⟨row5, k7 * 3, none⟩ (.string ⟨(rdStr sk5).1.toArray⟩)) row5 w.heap.size G (rdStr sk5).2 pre5 [.string ⟨(rdStr sk5).1.toArray⟩] [.slice none 0 0, .map none] post5 103 [.mk 8 0 (-1) (-1) (-1) 0 0 []] [(.mk 0 (rdStr sk5).1 false [] [])] := h9.put (o := k7 * 3) (el_at0 hpre5 rfl) (vf_str (by decide) _); clear r8 k8 e5 h9; have cl11 := h10.cellAt (o := k7 * 3 + 1) (el_at hpre5 rfl)))
            | (go_at_call 154; go_loud (refine (len_any h10.rd h10.hG h10.nrb).mono ?_; rintro e w11 ⟨rfl, r11, k11⟩; have lr11 := rdLen_range (rdStr sk5).2; have h12 := h10.call r11 k11; clear r11 k11; generalize hl11 : (rdLen (rdStr sk5).2).1 = L11 at *; have HL11 : Hid _ := hl11; clear h10 hl11)))
          cases hbad11 : (rdLen (rdStr sk5).2).2.2
          case true =>
            have HB : (rdPart q_ElectLeadersResponse ver false (l, false)).2.2 = true := HBF5.out (by rw [HEQ5.out]; (try dsimp only); exact (show (rdF (.mk 11 0 (-1) (-1) (-1) 0 10 q_ElectLeadersResponseTopicPartition) ver false (rdStr sk5).2).2.2 = true from list_bad hbad11))
            have HBB : Hid _ := HB
            clear HB
            go_wp2_with (first
              | (go_at_call 155; refine (ok_any h12.rd).mono ?_; rintro e wo ⟨rfl, rfl⟩; rw [hbad11])
              | (go_at_call 156; go_loud (refine (complete_any h12.rd (hg.keep (Keep.fresh (B := [b, w.heap.size]) ((KW5.weaken (B := [b, w.heap.size, row5]) (by simp)).trans (h12.keep.weaken (by simp))) (by simp; omega)) (by simp; omega))).mono ?_; rintro e wz ⟨rfl, kz⟩; rw [hbad11])))
            go_ret
            rw [HBB.out]
            exact ⟨by simp, (Keep.fresh (B := [b]) (Keep.fresh (B := [b, w.heap.size]) ((KW5.weaken (B := [b, w.heap.size, row5]) (by simp)).trans (h12.keep.weaken (by simp))) (by simp; omega)) (by simp)).trans (kz.weaken (by simp)), fun e => by cases e⟩
          case false =>
            go_upto_if 108 with (go_at_call 155; refine (ok_any h12.rd).mono ?_; rintro e wo ⟨rfl, rfl⟩; rw [hbad11])
            go_cut [21] (fun av wx => RowIni w11 wx (.slice none 0 0) av L11.toNat [.int .i32 0, .int .i16 0, .pointer none, .map none] 188)
            case first =>
              by_cases hp : 0 < L11
              · obtain ⟨N, rfl⟩ : ∃ N : Nat, L11 = N := ⟨L11.toNat, by omega⟩
                obtain ⟨i0, hi, hz0, hz1, hz2⟩ := info_bd info_ElectLeadersResponseTopicPartition
                have AP := run_append_empty_zeros (P := Tryd.prog) w11 101 21 101 188 i0 _ .i32 .i32 Tryd.underlying101 Tryd.underlying21 hi hz0 N (by omega) (by omega) (by omega) (Nat.le_trans (Nat.mul_le_mul_left N hz2) (by omega)) none
                go_wp2_with (first
                  | (at_builtin; go_loud (refine Lib.wpList_append_run _ rfl (.tmp 109) (.tmp 110) 101 21 rfl _ _ rfl rfl _ _ AP ?_))
                  | (go_meet; rw [Int.toNat_natCast]; exact RowIni.made2 (w := w11) (z := .agg #[.int .i32 0, .int .i16 0, .pointer none, .map none]) (N := N) (e := 188) (show 0 < N by omega) rfl _))
              · go_wp2_with (go_meet; exact .inl ⟨by omega, rfl, rfl⟩)
            case rest =>
              have RR11 := RowRel.start hcut h12.rd h12.hG h12.nrb (gOf 10 false q_ElectLeadersResponseTopicPartition ver) 4 10 q_ElectLeadersResponseTopicPartition
              clear hcut
              obtain ⟨wl11, rfl⟩ : ∃ x : World, x = wc := ⟨_, rfl⟩
              obtain ⟨av11, rfl⟩ : ∃ x : Value, x = u21 := ⟨_, rfl⟩
              go_wp2_with fail
              go_loopw [23] (fun i wr => ∃ k : Nat, k ≤ L11.toNat ∧ i = .int .i32 (k : Int) ∧ RowRel w11 wl11 wr w.heap.size G (gOf 10 false q_ElectLeadersResponseTopicPartition ver) (rdLen (rdStr sk5).2).2 L11.toNat 4 k [.int .i32 0, .int .i16 0, .pointer none, .map none] 188 10 q_ElectLeadersResponseTopicPartition (.slice none 0 0) av11) (fun i _ => L11.toNat - (intOf i).toNat)
              case atStart => exact ⟨0, Nat.zero_le _, rfl, RR11⟩
              case round =>
                obtain ⟨wr11, rfl⟩ : ∃ x : World, x = wr := ⟨_, rfl⟩
                obtain ⟨k13, hk13, rfl, RR⟩ := hrel
                have KR11 := RR.keep
                by_cases lt11 : (k13 : Int) < L11
                · obtain ⟨row11, cap11, pre11, post11, rfl, hcap11, hrw11, hpre11, e11, cont11⟩ := RR.elem (by omega : k13 < L11.toNat)
                  clear RR RR11
                  have hrx11 : w.heap.size ≤ row11 := by have := h12.keep.size; have := h6.keep.size; have := KR5.size; omega
                  have KW11 : Keep [b, w.heap.size] w wr11 := Keep.trans (Keep.fresh (B := [b, w.heap.size]) ((KW5.weaken (B := [b, w.heap.size, row5]) (by simp)).trans (h12.keep.weaken (by simp))) (by simp; omega)) (KR11.weaken (by simp))
                  have HBF11 : Hid (((gOf 10 false q_ElectLeadersResponseTopicPartition ver) (rdTimes (gOf 10 false q_ElectLeadersResponseTopicPartition ver) k13 (rdLen (rdStr sk5).2).2).2).2.2 = true → (rdPart q_ElectLeadersResponse ver false (l, false)).2.2 = true) := fun h => by
                    have hb : (rdF (.mk 11 0 (-1) (-1) (-1) 0 10 q_ElectLeadersResponseTopicPartition) ver false (rdStr sk5).2).2.2 = true := by
                      rw [rdF_list HL11.out]
                      exact rdTimes_from (gOf_b 10 false q_ElectLeadersResponseTopicPartition ver) _ (k13 + 1) h _ (by omega)
                    exact HBF5.out (by rw [HEQ5.out]; (try dsimp only); exact hb)
                  generalize (rdTimes (gOf 10 false q_ElectLeadersResponseTopicPartition ver) k13 (rdLen (rdStr sk5).2).2).2 = sk11 at *
                  have HEQ11 : Hid ((gOf 10 false q_ElectLeadersResponseTopicPartition ver) sk11 = (.mk 0 [] false [(.mk (rdI 4 sk11).1 [] false [] []), (.mk (rdI 2 (rdI 4 sk11).2).1 [] false [] []), (nstrT (rdNStr (rdI 2 (rdI 4 sk11).2).2).1)] [], (rdNStr (rdI 2 (rdI 4 sk11).2).2).2)) := by
                    show _ = _
                    simp [gOf, rdK, rdPartOf, q_ElectLeadersResponseTopicPartition, rdFs, (has_yes (show (0 : Int) ≤ ver by omega) (.inl (by decide)) : F.has (.mk 3 0 (-1) (-1) (-1) 0 0 []) ver = true), (has_yes (show (0 : Int) ≤ ver by omega) (.inl (by decide)) : F.has (.mk 2 0 (-1) (-1) (-1) 0 0 []) ver = true), (has_yes (show (0 : Int) ≤ ver by omega) (.inl (by decide)) : F.has (.mk 8 0 (-1) 0 (-1) 0 0 []) ver = true), rdF, hv0]
                  go_wp2_with (first
                    | (go_at_call 173; go_loud (refine (d_ElectLeadersResponseTopicPartition _ _).mono ?_; rintro e wd ⟨rfl, rfl⟩))
                    | (go_at_call 152; go_loud (refine (int32_any e11.rd e11.hG e11.nrb).mono ?_; rintro e w14 ⟨rfl, r14, k14⟩; have h15 := e11.call r14 k14; have c14 := h15.cellAt (o := k13 * 4) (el_at0 hpre11 rfl); have f14 := h15.free (k13 * 4); have h16 : ElSt wr11 (w14.setCell ⟨row11, k13 * 4, none⟩ (.int .i32 (rdI 4 sk11).1)) row11 w.heap.size G (rdI 4 sk11).2 pre11 [.int .i32 (rdI 4 sk11).1] [.int .i16 0, .pointer none, .map none] post11 188 [.mk 3 0 (-1) (-1) (-1) 0 0 []] [(.mk (rdI 4 sk11).1 [] false [] [])] := h15.put (o := k13 * 4) (el_at0 hpre11 rfl) (vf_i32 (rdI_range4 _)); clear r14 k14 e11 h15))
                    | (go_at_call 158; go_loud (refine (int16_any h16.rd h16.hG h16.nrb).mono ?_; rintro e w17 ⟨rfl, r17, k17⟩; have h18 := h16.call r17 k17; have c17 := h18.cellAt (o := k13 * 4 + 1) (el_at hpre11 rfl); have f17 := h18.free (k13 * 4 + 1); have h19 : ElSt wr11 (w17.setCell ⟨row11, k13 * 4 + 1, none⟩ (.int .i16 (rdI 2 (rdI 4 sk11).2).1)) row11 w.heap.size G (rdI 2 (rdI 4 sk11).2).2 pre11 [.int .i32 (rdI 4 sk11).1, .int .i16 (rdI 2 (rdI 4 sk11).2).1] [.pointer none, .map none] post11 188 [.mk 3 0 (-1) (-1) (-1) 0 0 [], .mk 2 0 (-1) (-1) (-1) 0 0 []] [(.mk (rdI 4 sk11).1 [] false [] []), (.mk (rdI 2 (rdI 4 sk11).2).1 [] false [] [])] := h18.put (o := k13 * 4 + 1) (el_at hpre11 rfl) (vf_i16 (rdI_range2 _)); clear r17 k17 h16 h18))
                    | (go_at_call 162; go_loud (refine (nstring_any h19.rd h19.hG h19.nrb).mono ?_; rintro e w20 ⟨pv20, rfl, ps20, r20, k20⟩; obtain ⟨pa20, rfl⟩ := ps20.shape; have nw20 := h19.nwOf (W := w20); have h21 := h19.call r20 k20; have c20 := h21.cellAt (o := k13 * 4 + 2) (el_at hpre11 rfl); have f20 := h21.free (k13 * 4 + 2); have h22 : ElSt wr11 (w20.setCell ⟨row11, k13 * 4 + 2, none⟩ (.pointer pa20)) row11 w.heap.size G (rdNStr (rdI 2 (rdI 4 sk11).2).2).2 pre11 [.int .i32 (rdI 4 sk11).1, .int .i16 (rdI 2 (rdI 4 sk11).2).1, .pointer pa20] [.map none] post11 188 [.mk 3 0 (-1) (-1) (-1) 0 0 [], .mk 2 0 (-1) (-1) (-1) 0 0 [], .mk 8 0 (-1) 0 (-1) 0 0 []] [(.mk (rdI 4 sk11).1 [] false [] []), (.mk (rdI 2 (rdI 4 sk11).2).1 [] false [] []), (nstrT (rdNStr (rdI 2 (rdI 4 sk11).2).2).1)] := h21.put (o := k13 * 4 + 2) (el_at hpre11 rfl) (vf_nstr (by decide) (ps20.keepF (fun _ _ => rfl) nw20)); clear r20 k20 h19 h21))
                    | (have he23 := h22.bare; go_roundw; (case rel => exact ⟨k13 + 1, by omega, by go_num, cont11 _ _ _ _ he23 rfl HEQ11.out⟩); (case measure => (simp [intOf]; omega))))
                · obtain ⟨rr, kr, ⟨ao11, cp11, rfl⟩, vl⟩ := RR.fin (by omega) (.inl rfl)
                  clear RR RR11
                  have LE := rdF_list (a := 0) (b := (-1)) (c := (-1)) (d := 0) (ofk := 10) (v := ver) (sub := q_ElectLeadersResponseTopicPartition) HL11.out
                  have rr2 : Rd wr11 w.heap.size G (rdF (.mk 11 0 (-1) (-1) (-1) 0 10 q_ElectLeadersResponseTopicPartition) ver false (rdStr sk5).2).2 := by rw [LE]; exact rr
                  have vl2 := vl (decide (L11 ≤ 0)) (by simp)
                  have vl3 : VL wr11 (Nw G w11 w.heap.size wr11) (VK wr11 (Nw G w11 w.heap.size wr11) 10 (-1) (VFs wr11 (Nw G w11 w.heap.size wr11) q_ElectLeadersResponseTopicPartition)) 4 (.slice ao11 L11.toNat cp11) (rdF (.mk 11 0 (-1) (-1) (-1) 0 10 q_ElectLeadersResponseTopicPartition) ver false (rdStr sk5).2).1 := by rw [LE]; exact vl2
                  have gr : ∀ i, Nw G w11 w.heap.size wr11 i → Nw G wr5 w.heap.size wr11 i := fun i hi => ⟨hi.1.imp id (Nat.le_trans h12.keep.size), hi.2⟩
                  have vl4 := VL.keepF (fun _ _ => rfl) gr (fun c t => VK.keepF (fun _ _ => rfl) gr (fun c l => VFs.keepF (fun _ _ => rfl) gr q_ElectLeadersResponseTopicPartition)) vl3
                  have h24 := h12.call rr2 kr
                  clear rr rr2 vl vl2 vl3 LE
                  have c11 := h24.cellAt (o := k7 * 3 + 1) (el_at hpre5 rfl)
                  have f11 := h24.free (k7 * 3 + 1)
                  have h25 : ElSt wr5 (wr11.setCell ⟨row5, k7 * 3 + 1, none⟩ (.slice ao11 L11.toNat cp11)) row5 w.heap.size G (rdF (.mk 11 0 (-1) (-1) (-1) 0 10 q_ElectLeadersResponseTopicPartition) ver false (rdStr sk5).2).2 pre5 [.string ⟨(rdStr sk5).1.toArray⟩, .slice ao11 L11.toNat cp11] [.map none] post5 103 [.mk 8 0 (-1) (-1) (-1) 0 0 [], .mk 11 0 (-1) (-1) (-1) 0 10 q_ElectLeadersResponseTopicPartition] [(.mk 0 (rdStr sk5).1 false [] []), (rdF (.mk 11 0 (-1) (-1) (-1) 0 10 q_ElectLeadersResponseTopicPartition) ver false (rdStr sk5).2).1] := h24.put (o := k7 * 3 + 1) (el_at hpre5 rfl) (vf_list rfl vl4)
                  clear h12 h24 vl4 gr
                  go_wp2_with (first
                    | (have he26 := h25.bare; go_roundw; (case rel => exact ⟨k7 + 1, by omega, by go_num, cont5 _ _ _ _ he26 rfl HEQ5.out⟩); (case measure => (simp [intOf]; omega))))
        · obtain ⟨rr, kr, ⟨ao5, cp5, rfl⟩, vl⟩ := RR.fin (by omega) (.inl rfl)
          clear RR RR5
          have LE := rdF_list (a := 0) (b := (-1)) (c := (-1)) (d := 0) (ofk := 10) (v := ver) (sub := q_ElectLeadersResponseTopic) HL5.out
          have rr2 : Rd wr5 w.heap.size G (rdF (.mk 11 0 (-1) (-1) (-1) 0 10 q_ElectLeadersResponseTopic) ver false (rdI 4 (l, false)).2).2 := by rw [LE]; exact rr
          have vl2 := vl (decide (L5 ≤ 0)) (by simp)
          have vl3 : VL wr5 (Nw G w5 w.heap.size wr5) (VK wr5 (Nw G w5 w.heap.size wr5) 10 (-1) (VFs wr5 (Nw G w5 w.heap.size wr5) q_ElectLeadersResponseTopic)) 3 (.slice ao5 L5.toNat cp5) (rdF (.mk 11 0 (-1) (-1) (-1) 0 10 q_ElectLeadersResponseTopic) ver false (rdI 4 (l, false)).2).1 := by rw [LE]; exact vl2
          have gr : ∀ i, Nw G w5 w.heap.size wr5 i → Nw G w w.heap.size wr5 i := fun i hi => ⟨hi.1.imp id (Nat.le_trans h6.keep.size), hi.2⟩
          have vl4 := VL.keepF (fun _ _ => rfl) gr (fun c t => VK.keepF (fun _ _ => rfl) gr (fun c l => VFs.keepF (fun _ _ => rfl) gr q_ElectLeadersResponseTopic)) vl3
          have h27 := h6.call rr2 kr
          clear rr rr2 vl vl2 vl3 LE
          have c5 := h27.cellAt (o := 3) rfl
          have f5 := h27.free (3)
          have h28 : ElSt w (wr5.setCell ⟨b, 3, none⟩ (.slice ao5 L5.toNat cp5)) b w.heap.size G (rdF (.mk 11 0 (-1) (-1) (-1) 0 10 q_ElectLeadersResponseTopic) ver false (rdI 4 (l, false)).2).2 [.int .i16 ver] [.int .i32 (rdI 4 (l, false)).1, .int .i16 0, .slice ao5 L5.toNat cp5] [.map none] [] 98 [.mk 3 0 (-1) (-1) (-1) 0 0 [], .mk 2 1 (-1) (-1) (-1) 0 0 [], .mk 11 0 (-1) (-1) (-1) 0 10 q_ElectLeadersResponseTopic] [(.mk (rdI 4 (l, false)).1 [] false [] []), (.mk 0 [] false [] []), (rdF (.mk 11 0 (-1) (-1) (-1) 0 10 q_ElectLeadersResponseTopic) ver false (rdI 4 (l, false)).2).1] := h27.put (o := 3) rfl (vf_list rfl vl4)
          clear h6 h27 vl4 gr
          have he29 := h28.bare
          go_wp2_with (first
            | (go_at_call 156; go_loud (refine (complete_any he29.rd (hg.keep he29.keep (by simp; omega))).mono ?_; rintro e wz ⟨rfl, kz⟩)))
          go_ret
          have hz := he29.calm hG hGb hbl he29.rd.lt' kz
          obtain ⟨q1, q2⟩ := hz.vm (Nat.le_refl _)
          rw [HEQ0.out]
          dsimp only
          exact ⟨by simp, q1, fun _ => q2⟩
end Go.Proofs.YtbddchglganmdaaDoor
