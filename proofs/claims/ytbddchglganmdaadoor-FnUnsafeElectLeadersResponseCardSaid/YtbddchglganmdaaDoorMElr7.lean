/-
  ElectLeadersResponse: reading.
-/
import Derived.Test.YtbddchglganmdaaDoorMElr1
import Derived.Deep.CutBlock
import Derived.Deep.DeepCutAuto
namespace Go.Proofs.YtbddchglganmdaaDoor
open Go.ChangeShapes Go.WideShapes Go.ChangeAt Go.RowKit

set_option maxHeartbeats 4000000 in
set_option maxRecDepth 100000 in
theorem elr_read_2u {G : Nat → Prop} {b : Nat} {p : Addr} {l : Bs} {src : Value} {w : World} {ver : Int} (hb : w.heap[b]? = some (.cells #[.int .i16 ver, .int .i32 0, .int .i16 0, .slice none 0 0, .map none] 98 (0, 0))) (hl : RB w G src l) (hG : There G w) (hGb : ¬ G b) (hg : Gl w p) (hp : b ≠ 1) (hv0 : 0 ≤ ver) (_B1 : 1 ≤ ver) (_B2 : 2 ≤ ver) :
    Calls Tryd.prog 114 #[.pointer (some ⟨b, 0, none⟩), src, .bool true] w fun e w' => e = .returned (errV p (rdPart q_ElectLeadersResponse ver true (l, false)).2.2) ∧ Keep [b] w w' ∧ ((rdPart q_ElectLeadersResponse ver true (l, false)).2.2 = false → VM w' (New G w w') b q_ElectLeadersResponse 98 ver (rdPart q_ElectLeadersResponse ver true (l, false)).1) := by
  obtain ⟨ao, cap, rfl⟩ := RS.shape hl
  have hbl : b < w.heap.size := World.heap_lt hb
  have hp1 : 1 < w.heap.size := World.block_lt_of_cell? w _ hg
  have cv : (w.alloc (.cells #[.slice ao l.length cap, .bool false] 173)).cell? ⟨b, 0, none⟩ = some (.int .i16 ver) := ((keep_box (A := []) _).cell (p := ⟨b, 0, none⟩) hbl (by simp)).trans (cellOf hb 0 _ rfl)
  have h0 : ElSt w (w.alloc (.cells #[.slice ao l.length cap, .bool false] 173)) b w.heap.size G (l, false) [.int .i16 ver] [] [.int .i32 0, .int .i16 0, .slice none 0 0, .map none] [] 98 [] [] :=
    ⟨⟨_, heap_alloc_new w _, hl.keepF (hG.same (keep_box _)) (fun _ h => h)⟩, ((keep_box (A := []) _).block b hbl (by simp)).trans hb, ⟨rfl, rfl⟩, (keep_box (A := []) _).weaken (by simp), hG, hGb, (fun e => by have := hG _ e; omega), hbl, by omega⟩
  clear hb
  have HEQ0 : Hid (rdPart q_ElectLeadersResponse ver true (l, false) = (.mk 0 [] false [(.mk (rdI 4 (l, false)).1 [] false [] []), (.mk (rdI 2 (rdI 4 (l, false)).2).1 [] false [] []), (rdF (.mk 11 0 (-1) (-1) (-1) 0 10 q_ElectLeadersResponseTopic) ver true (rdI 2 (rdI 4 (l, false)).2).2).1] (rdTags (rdF (.mk 11 0 (-1) (-1) (-1) 0 10 q_ElectLeadersResponseTopic) ver true (rdI 2 (rdI 4 (l, false)).2).2).2).1, (rdTags (rdF (.mk 11 0 (-1) (-1) (-1) 0 10 q_ElectLeadersResponseTopic) ver true (rdI 2 (rdI 4 (l, false)).2).2).2).2)) := by
    show _ = _
    simp [rdPart, rdK, rdPartOf, q_ElectLeadersResponse, rdFs, (has_yes (show (0 : Int) ≤ ver by omega) (.inl (by decide)) : F.has (.mk 3 0 (-1) (-1) (-1) 0 0 []) ver = true), (has_yes (show (1 : Int) ≤ ver by omega) (.inl (by decide)) : F.has (.mk 2 1 (-1) (-1) (-1) 0 0 []) ver = true), (has_yes (show (0 : Int) ≤ ver by omega) (.inl (by decide)) : F.has (.mk 11 0 (-1) (-1) (-1) 0 10 q_ElectLeadersResponseTopic) ver = true), rdF]
  go_enter Tryd.func114, Tryd.ntmps114
  go_wp2_with (first
    | (go_at_call 113; refine (d_ElectLeadersResponse _ _).mono ?_; rintro e wd ⟨rfl, rfl⟩)
    | (go_at_call 152; go_loud (refine (int32_any h0.rd h0.hG h0.nrb).mono ?_; rintro e w1 ⟨rfl, r1, k1⟩; have h2 := h0.call r1 k1; have c1 := h2.cellAt (o := 1) rfl; have f1 := h2.free (1); have h3 : ElSt w (w1.setCell ⟨b, 1, none⟩ (.int .i32 (rdI 4 (l, false)).1)) b w.heap.size G (rdI 4 (l, false)).2 [.int .i16 ver] [.int .i32 (rdI 4 (l, false)).1] [.int .i16 0, .slice none 0 0, .map none] [] 98 [.mk 3 0 (-1) (-1) (-1) 0 0 []] [(.mk (rdI 4 (l, false)).1 [] false [] [])] := h2.put (o := 1) rfl (vf_i32 (rdI_range4 _)); clear r1 k1 h0 h2))
    | (go_at_call 158; go_loud (refine (int16_any h3.rd h3.hG h3.nrb).mono ?_; rintro e w4 ⟨rfl, r4, k4⟩; have h5 := h3.call r4 k4; have c4 := h5.cellAt (o := 2) rfl; have f4 := h5.free (2); have h6 : ElSt w (w4.setCell ⟨b, 2, none⟩ (.int .i16 (rdI 2 (rdI 4 (l, false)).2).1)) b w.heap.size G (rdI 2 (rdI 4 (l, false)).2).2 [.int .i16 ver] [.int .i32 (rdI 4 (l, false)).1, .int .i16 (rdI 2 (rdI 4 (l, false)).2).1] [.slice none 0 0, .map none] [] 98 [.mk 3 0 (-1) (-1) (-1) 0 0 [], .mk 2 1 (-1) (-1) (-1) 0 0 []] [(.mk (rdI 4 (l, false)).1 [] false [] []), (.mk (rdI 2 (rdI 4 (l, false)).2).1 [] false [] [])] := h5.put (o := 2) rfl (vf_i16 (rdI_range2 _)); clear r4 k4 h3 h5; have cl7 := h6.cellAt (o := 3) rfl))
    | (go_at_call 153; go_loud (refine (clen_any h6.rd h6.hG h6.nrb).mono ?_; rintro e w7 ⟨rfl, r7, k7⟩; have lr7 := rdCLen_range (rdI 2 (rdI 4 (l, false)).2).2; have h8 := h6.call r7 k7; clear r7 k7; generalize hl7 : (rdCLen (rdI 2 (rdI 4 (l, false)).2).2).1 = L7 at *; have HL7 : Hid _ := hl7; clear h6 hl7)))
  cases hbad7 : (rdCLen (rdI 2 (rdI 4 (l, false)).2).2).2.2
  case true =>
    have HB : (rdPart q_ElectLeadersResponse ver true (l, false)).2.2 = true := by rw [HEQ0.out]; (try dsimp only); exact rdTags_b _ ((show (rdF (.mk 11 0 (-1) (-1) (-1) 0 10 q_ElectLeadersResponseTopic) ver true (rdI 2 (rdI 4 (l, false)).2).2).2.2 = true from clist_bad hbad7))
    have HBB : Hid _ := HB
    clear HB
    go_wp2_with (first
      | (go_at_call 155; refine (ok_any h8.rd).mono ?_; rintro e wo ⟨rfl, rfl⟩; rw [hbad7])
      | (go_at_call 156; go_loud (refine (complete_any h8.rd (hg.keep (h8.keep) (by simp; omega))).mono ?_; rintro e wz ⟨rfl, kz⟩; rw [hbad7])))
    go_ret
    rw [HBB.out]
    exact ⟨by simp, (Keep.fresh (B := [b]) (h8.keep) (by simp)).trans (kz.weaken (by simp)), fun e => by cases e⟩
  case false =>
    go_upto_if 68 with (go_at_call 155; refine (ok_any h8.rd).mono ?_; rintro e wo ⟨rfl, rfl⟩; rw [hbad7])
    go_cut [14] (fun av wx => RowIni w7 wx (.slice none 0 0) av L7.toNat [.string ⟨#[]⟩, .slice none 0 0, .map none] 103)
    case first =>
      by_cases hp : 0 < L7
      · obtain ⟨N, rfl⟩ : ∃ N : Nat, L7 = N := ⟨L7.toNat, by omega⟩
        obtain ⟨i0, hi, hz0, hz1, hz2⟩ := info_bd info_ElectLeadersResponseTopic
        have AP := run_append_empty_zeros (P := Tryd.prog) w7 96 21 96 103 i0 _ .i32 .i32 Tryd.underlying96 Tryd.underlying21 hi hz0 N (by omega) (by omega) (by omega) (Nat.le_trans (Nat.mul_le_mul_left N hz2) (by omega)) none
        go_wp2_with (first
          | (at_builtin; go_loud (refine Lib.wpList_append_run _ rfl (.tmp 69) (.tmp 70) 96 21 rfl _ _ rfl rfl _ _ AP ?_))
          | (go_meet; rw [Int.toNat_natCast]; exact RowIni.made2 (w := w7) (z := .agg #[.string ⟨#[]⟩, .slice none 0 0, .map none]) (N := N) (e := 103) (show 0 < N by omega) rfl _))
      · go_wp2_with (go_meet; exact .inl ⟨by omega, rfl, rfl⟩)
    case rest =>
      have RR7 := RowRel.start hcut h8.rd h8.hG h8.nrb (gOf 10 true q_ElectLeadersResponseTopic ver) 3 10 q_ElectLeadersResponseTopic
      clear hcut
      obtain ⟨wl7, rfl⟩ : ∃ x : World, x = wc := ⟨_, rfl⟩
      obtain ⟨av7, rfl⟩ : ∃ x : Value, x = u14 := ⟨_, rfl⟩
      go_wp2_with fail
      go_loopw [16] (fun i wr => ∃ k : Nat, k ≤ L7.toNat ∧ i = .int .i32 (k : Int) ∧ RowRel w7 wl7 wr w.heap.size G (gOf 10 true q_ElectLeadersResponseTopic ver) (rdCLen (rdI 2 (rdI 4 (l, false)).2).2).2 L7.toNat 3 k [.string ⟨#[]⟩, .slice none 0 0, .map none] 103 10 q_ElectLeadersResponseTopic (.slice none 0 0) av7) (fun i _ => L7.toNat - (intOf i).toNat)
      case atStart => exact ⟨0, Nat.zero_le _, rfl, RR7⟩
      case round =>
        obtain ⟨wr7, rfl⟩ : ∃ x : World, x = wr := ⟨_, rfl⟩
        obtain ⟨k9, hk9, rfl, RR⟩ := hrel
        have KR7 := RR.keep
        by_cases lt7 : (k9 : Int) < L7
        · obtain ⟨row7, cap7, pre7, post7, rfl, hcap7, hrw7, hpre7, e7, cont7⟩ := RR.elem (by omega : k9 < L7.toNat)
          clear RR RR7
          have hrx7 : w.heap.size ≤ row7 := by have := h8.keep.size; omega
          have KW7 : Keep [b, w.heap.size] w wr7 := Keep.trans (h8.keep) (KR7.weaken (by simp))
          have HBF7 : Hid (((gOf 10 true q_ElectLeadersResponseTopic ver) (rdTimes (gOf 10 true q_ElectLeadersResponseTopic ver) k9 (rdCLen (rdI 2 (rdI 4 (l, false)).2).2).2).2).2.2 = true → (rdPart q_ElectLeadersResponse ver true (l, false)).2.2 = true) := fun h => by
            have hb : (rdF (.mk 11 0 (-1) (-1) (-1) 0 10 q_ElectLeadersResponseTopic) ver true (rdI 2 (rdI 4 (l, false)).2).2).2.2 = true := by
              rw [rdF_clist HL7.out]
              exact rdTimes_from (gOf_b 10 true q_ElectLeadersResponseTopic ver) _ (k9 + 1) h _ (by omega)
            exact by rw [HEQ0.out]; (try dsimp only); exact rdTags_b _ (hb)
          generalize (rdTimes (gOf 10 true q_ElectLeadersResponseTopic ver) k9 (rdCLen (rdI 2 (rdI 4 (l, false)).2).2).2).2 = sk7 at *
          have HEQ7 : Hid ((gOf 10 true q_ElectLeadersResponseTopic ver) sk7 = (.mk 0 [] false [(.mk 0 (rdCStr sk7).1 false [] []), (rdF (.mk 11 0 (-1) (-1) (-1) 0 10 q_ElectLeadersResponseTopicPartition) ver true (rdCStr sk7).2).1] (rdTags (rdF (.mk 11 0 (-1) (-1) (-1) 0 10 q_ElectLeadersResponseTopicPartition) ver true (rdCStr sk7).2).2).1, (rdTags (rdF (.mk 11 0 (-1) (-1) (-1) 0 10 q_ElectLeadersResponseTopicPartition) ver true (rdCStr sk7).2).2).2)) := by
            show _ = _
            simp [gOf, rdK, rdPartOf, q_ElectLeadersResponseTopic, rdFs, (has_yes (show (0 : Int) ≤ ver by omega) (.inl (by decide)) : F.has (.mk 8 0 (-1) (-1) (-1) 0 0 []) ver = true), (has_yes (show (0 : Int) ≤ ver by omega) (.inl (by decide)) : F.has (.mk 11 0 (-1) (-1) (-1) 0 10 q_ElectLeadersResponseTopicPartition) ver = true), rdF]
          go_wp2_with (first
            | (go_at_call 172; go_loud (refine (d_ElectLeadersResponseTopic _ _).mono ?_; rintro e wd ⟨rfl, rfl⟩))
            | (go_at_call 164; go_loud (refine (ucstring_any e7.rd e7.hG e7.nrb).mono ?_; rintro e w10 ⟨he10, r10, k10⟩; unfold str at he10; subst he10; have h11 := e7.call r10 k10; have c10 := h11.cellAt (o := k9 * 3) (el_at0 hpre7 rfl); have f10 := h11.free (k9 * 3); have h12 : ElSt wr7 (w10.setCell ⟨row7, k9 * 3, none⟩ (.string ⟨(rdCStr sk7).1.toArray⟩)) row7 w.heap.size G (rdCStr sk7).2 pre7 [.string ⟨(rdCStr sk7).1.toArray⟩] [.slice none 0 0, .map none] post7 103 [.mk 8 0 (-1) (-1) (-1) 0 0 []] [(.mk 0 (rdCStr sk7).1 false [] [])] := h11.put (o := k9 * 3) (el_at0 hpre7 rfl) (vf_str (by decide) _); clear r10 k10 e7 h11; have cl13 := h12.cellAt (o := k9 * 3 + 1) (el_at hpre7 rfl)))
            | (go_at_call 153; go_loud (refine (clen_any h12.rd h12.hG h12.nrb).mono ?_; rintro e w13 ⟨rfl, r13, k13⟩; have lr13 := rdCLen_range (rdCStr sk7).2; have h14 := h12.call r13 k13; clear r13 k13; generalize hl13 : (rdCLen (rdCStr sk7).2).1 = L13 at *; have HL13 : Hid _ := hl13; clear h12 hl13)))
          cases hbad13 : (rdCLen (rdCStr sk7).2).2.2
          case true =>
            have HB : (rdPart q_ElectLeadersResponse ver true (l, false)).2.2 = true := HBF7.out (by rw [HEQ7.out]; (try dsimp only); exact rdTags_b _ ((show (rdF (.mk 11 0 (-1) (-1) (-1) 0 10 q_ElectLeadersResponseTopicPartition) ver true (rdCStr sk7).2).2.2 = true from clist_bad hbad13)))
            have HBB : Hid _ := HB
            clear HB
            go_wp2_with (first
              | (go_at_call 155; refine (ok_any h14.rd).mono ?_; rintro e wo ⟨rfl, rfl⟩; rw [hbad13])
              | (go_at_call 156; go_loud (refine (complete_any h14.rd (hg.keep (Keep.fresh (B := [b, w.heap.size]) ((KW7.weaken (B := [b, w.heap.size, row7]) (by simp)).trans (h14.keep.weaken (by simp))) (by simp; omega)) (by simp; omega))).mono ?_; rintro e wz ⟨rfl, kz⟩; rw [hbad13])))
            go_ret
            rw [HBB.out]
            exact ⟨by simp, (Keep.fresh (B := [b]) (Keep.fresh (B := [b, w.heap.size]) ((KW7.weaken (B := [b, w.heap.size, row7]) (by simp)).trans (h14.keep.weaken (by simp))) (by simp; omega)) (by simp)).trans (kz.weaken (by simp)), fun e => by cases e⟩
          case false =>
            go_upto_if 108 with (go_at_call 155; refine (ok_any h14.rd).mono ?_; rintro e wo ⟨rfl, rfl⟩; rw [hbad13])
            go_cut [21] (fun av wx => RowIni w13 wx (.slice none 0 0) av L13.toNat [.int .i32 0, .int .i16 0, .pointer none, .map none] 188)
            case first =>
              by_cases hp : 0 < L13
              · obtain ⟨N, rfl⟩ : ∃ N : Nat, L13 = N := ⟨L13.toNat, by omega⟩
                obtain ⟨i0, hi, hz0, hz1, hz2⟩ := info_bd info_ElectLeadersResponseTopicPartition
                have AP := run_append_empty_zeros (P := Tryd.prog) w13 101 21 101 188 i0 _ .i32 .i32 Tryd.underlying101 Tryd.underlying21 hi hz0 N (by omega) (by omega) (by omega) (Nat.le_trans (Nat.mul_le_mul_left N hz2) (by omega)) none
                go_wp2_with (first
                  | (at_builtin; go_loud (refine Lib.wpList_append_run _ rfl (.tmp 109) (.tmp 110) 101 21 rfl _ _ rfl rfl _ _ AP ?_))
                  | (go_meet; rw [Int.toNat_natCast]; exact RowIni.made2 (w := w13) (z := .agg #[.int .i32 0, .int .i16 0, .pointer none, .map none]) (N := N) (e := 188) (show 0 < N by omega) rfl _))
              · go_wp2_with (go_meet; exact .inl ⟨by omega, rfl, rfl⟩)
            case rest =>
              have RR13 := RowRel.start hcut h14.rd h14.hG h14.nrb (gOf 10 true q_ElectLeadersResponseTopicPartition ver) 4 10 q_ElectLeadersResponseTopicPartition
              clear hcut
              obtain ⟨wl13, rfl⟩ : ∃ x : World, x = wc := ⟨_, rfl⟩
              obtain ⟨av13, rfl⟩ : ∃ x : Value, x = u21 := ⟨_, rfl⟩
              go_wp2_with fail
              go_loopw [23] (fun i wr => ∃ k : Nat, k ≤ L13.toNat ∧ i = .int .i32 (k : Int) ∧ RowRel w13 wl13 wr w.heap.size G (gOf 10 true q_ElectLeadersResponseTopicPartition ver) (rdCLen (rdCStr sk7).2).2 L13.toNat 4 k [.int .i32 0, .int .i16 0, .pointer none, .map none] 188 10 q_ElectLeadersResponseTopicPartition (.slice none 0 0) av13) (fun i _ => L13.toNat - (intOf i).toNat)
              case atStart => exact ⟨0, Nat.zero_le _, rfl, RR13⟩
              case round =>
                obtain ⟨wr13, rfl⟩ : ∃ x : World, x = wr := ⟨_, rfl⟩
                obtain ⟨k15, hk15, rfl, RR⟩ := hrel
                have KR13 := RR.keep
                by_cases lt13 : (k15 : Int) < L13
                · obtain ⟨row13, cap13, pre13, post13, rfl, hcap13, hrw13, hpre13, e13, cont13⟩ := RR.elem (by omega : k15 < L13.toNat)
                  clear RR RR13
                  have hrx13 : w.heap.size ≤ row13 := by have := h14.keep.size; have := h8.keep.size; have := KR7.size; omega
                  have KW13 : Keep [b, w.heap.size] w wr13 := Keep.trans (Keep.fresh (B := [b, w.heap.size]) ((KW7.weaken (B := [b, w.heap.size, row7]) (by simp)).trans (h14.keep.weaken (by simp))) (by simp; omega)) (KR13.weaken (by simp))
                  have HBF13 : Hid (((gOf 10 true q_ElectLeadersResponseTopicPartition ver) (rdTimes (gOf 10 true q_ElectLeadersResponseTopicPartition ver) k15 (rdCLen (rdCStr sk7).2).2).2).2.2 = true → (rdPart q_ElectLeadersResponse ver true (l, false)).2.2 = true) := fun h => by
                    have hb : (rdF (.mk 11 0 (-1) (-1) (-1) 0 10 q_ElectLeadersResponseTopicPartition) ver true (rdCStr sk7).2).2.2 = true := by
                      rw [rdF_clist HL13.out]
                      exact rdTimes_from (gOf_b 10 true q_ElectLeadersResponseTopicPartition ver) _ (k15 + 1) h _ (by omega)
                    exact HBF7.out (by rw [HEQ7.out]; (try dsimp only); exact rdTags_b _ (hb))
                  generalize (rdTimes (gOf 10 true q_ElectLeadersResponseTopicPartition ver) k15 (rdCLen (rdCStr sk7).2).2).2 = sk13 at *
                  have HEQ13 : Hid ((gOf 10 true q_ElectLeadersResponseTopicPartition ver) sk13 = (.mk 0 [] false [(.mk (rdI 4 sk13).1 [] false [] []), (.mk (rdI 2 (rdI 4 sk13).2).1 [] false [] []), (nstrT (rdCNStr (rdI 2 (rdI 4 sk13).2).2).1)] (rdTags (rdCNStr (rdI 2 (rdI 4 sk13).2).2).2).1, (rdTags (rdCNStr (rdI 2 (rdI 4 sk13).2).2).2).2)) := by
                    show _ = _
                    simp [gOf, rdK, rdPartOf, q_ElectLeadersResponseTopicPartition, rdFs, (has_yes (show (0 : Int) ≤ ver by omega) (.inl (by decide)) : F.has (.mk 3 0 (-1) (-1) (-1) 0 0 []) ver = true), (has_yes (show (0 : Int) ≤ ver by omega) (.inl (by decide)) : F.has (.mk 2 0 (-1) (-1) (-1) 0 0 []) ver = true), (has_yes (show (0 : Int) ≤ ver by omega) (.inl (by decide)) : F.has (.mk 8 0 (-1) 0 (-1) 0 0 []) ver = true), rdF, hv0]
                  go_wp2_with (first
                    | (go_at_call 173; go_loud (refine (d_ElectLeadersResponseTopicPartition _ _).mono ?_; rintro e wd ⟨rfl, rfl⟩))
                    | (go_at_call 152; go_loud (refine (int32_any e13.rd e13.hG e13.nrb).mono ?_; rintro e w16 ⟨rfl, r16, k16⟩; have h17 := e13.call r16 k16; have c16 := h17.cellAt (o := k15 * 4) (el_at0 hpre13 rfl); have f16 := h17.free (k15 * 4); have h18 : ElSt wr13 (w16.setCell ⟨row13, k15 * 4, none⟩ (.int .i32 (rdI 4 sk13).1)) row13 w.heap.size G (rdI 4 sk13).2 pre13 [.int .i32 (rdI 4 sk13).1] [.int .i16 0, .pointer none, .map none] post13 188 [.mk 3 0 (-1) (-1) (-1) 0 0 []] [(.mk (rdI 4 sk13).1 [] false [] [])] := h17.put (o := k15 * 4) (el_at0 hpre13 rfl) (vf_i32 (rdI_range4 _)); clear r16 k16 e13 h17))
                    | (go_at_call 158; go_loud (refine (int16_any h18.rd h18.hG h18.nrb).mono ?_; rintro e w19 ⟨rfl, r19, k19⟩; have h20 := h18.call r19 k19; have c19 := h20.cellAt (o := k15 * 4 + 1) (el_at hpre13 rfl); have f19 := h20.free (k15 * 4 + 1); have h21 : ElSt wr13 (w19.setCell ⟨row13, k15 * 4 + 1, none⟩ (.int .i16 (rdI 2 (rdI 4 sk13).2).1)) row13 w.heap.size G (rdI 2 (rdI 4 sk13).2).2 pre13 [.int .i32 (rdI 4 sk13).1, .int .i16 (rdI 2 (rdI 4 sk13).2).1] [.pointer none, .map none] post13 188 [.mk 3 0 (-1) (-1) (-1) 0 0 [], .mk 2 0 (-1) (-1) (-1) 0 0 []] [(.mk (rdI 4 sk13).1 [] false [] []), (.mk (rdI 2 (rdI 4 sk13).2).1 [] false [] [])] := h20.put (o := k15 * 4 + 1) (el_at hpre13 rfl) (vf_i16 (rdI_range2 _)); clear r19 k19 h18 h20))
                    | (go_at_call 159; go_loud (refine (ucnstring_any h21.rd h21.hG h21.nrb).mono ?_; rintro e w22 ⟨pv22, rfl, ps22, r22, k22⟩; obtain ⟨pa22, rfl⟩ := ps22.shape; have nw22 := h21.nwOf (W := w22); have h23 := h21.call r22 k22; have c22 := h23.cellAt (o := k15 * 4 + 2) (el_at hpre13 rfl); have f22 := h23.free (k15 * 4 + 2); have h24 : ElSt wr13 (w22.setCell ⟨row13, k15 * 4 + 2, none⟩ (.pointer pa22)) row13 w.heap.size G (rdCNStr (rdI 2 (rdI 4 sk13).2).2).2 pre13 [.int .i32 (rdI 4 sk13).1, .int .i16 (rdI 2 (rdI 4 sk13).2).1, .pointer pa22] [.map none] post13 188 [.mk 3 0 (-1) (-1) (-1) 0 0 [], .mk 2 0 (-1) (-1) (-1) 0 0 [], .mk 8 0 (-1) 0 (-1) 0 0 []] [(.mk (rdI 4 sk13).1 [] false [] []), (.mk (rdI 2 (rdI 4 sk13).2).1 [] false [] []), (nstrT (rdCNStr (rdI 2 (rdI 4 sk13).2).2).1)] := h23.put (o := k15 * 4 + 2) (el_at hpre13 rfl) (vf_nstr (by decide) (ps22.keepF (fun _ _ => rfl) nw22)); clear r22 k22 h21 h23))
                    | (go_at_call 168; go_loud (refine (rtags_any h24.rd h24.hG h24.nrb).mono ?_; rintro e w25 ⟨tv25, rfl, mp25, mb25, r25, k25⟩; obtain ⟨mr25, rfl⟩ := mp25.shape; have mq25 := mp25.keepF (fun _ _ => rfl) (h24.nwNew (W := w25)); have h26 := h24.call r25 k25; have c25 := h26.cellAt (o := k15 * 4 + 3) (el_at hpre13 rfl); have f25 := h26.free (k15 * 4 + 3); have he27 := h26.tags (o := k15 * 4 + 3) (el_at hpre13 rfl) mq25; clear r25 k25 h24 h26))
                    | ( go_roundw; (case rel => exact ⟨k15 + 1, by omega, by go_num, cont13 _ _ _ _ he27 rfl HEQ13.out⟩); (case measure => (simp [intOf]; omega))))
                · obtain ⟨rr, kr, ⟨ao13, cp13, rfl⟩, vl⟩ := RR.fin (by omega) (.inl rfl)
                  clear RR RR13
                  have LE := rdF_clist (a := 0) (b := (-1)) (c := (-1)) (d := 0) (ofk := 10) (v := ver) (sub := q_ElectLeadersResponseTopicPartition) HL13.out
                  have rr2 : Rd wr13 w.heap.size G (rdF (.mk 11 0 (-1) (-1) (-1) 0 10 q_ElectLeadersResponseTopicPartition) ver true (rdCStr sk7).2).2 := by rw [LE]; exact rr
                  have vl2 := vl (decide (L13 ≤ 0)) (by simp)
                  have vl3 : VL wr13 (Nw G w13 w.heap.size wr13) (VK wr13 (Nw G w13 w.heap.size wr13) 10 (-1) (VFs wr13 (Nw G w13 w.heap.size wr13) q_ElectLeadersResponseTopicPartition)) 4 (.slice ao13 L13.toNat cp13) (rdF (.mk 11 0 (-1) (-1) (-1) 0 10 q_ElectLeadersResponseTopicPartition) ver true (rdCStr sk7).2).1 := by rw [LE]; exact vl2
                  have gr : ∀ i, Nw G w13 w.heap.size wr13 i → Nw G wr7 w.heap.size wr13 i := fun i hi => ⟨hi.1.imp id (Nat.le_trans h14.keep.size), hi.2⟩
                  have vl4 := VL.keepF (fun _ _ => rfl) gr (fun c t => VK.keepF (fun _ _ => rfl) gr (fun c l => VFs.keepF (fun _ _ => rfl) gr q_ElectLeadersResponseTopicPartition)) vl3
                  have h28 := h14.call rr2 kr
                  clear rr rr2 vl vl2 vl3 LE
                  have c13 := h28.cellAt (o := k9 * 3 + 1) (el_at hpre7 rfl)
                  have f13 := h28.free (k9 * 3 + 1)
                  have h29 : ElSt wr7 (wr13.setCell ⟨row7, k9 * 3 + 1, none⟩ (.slice ao13 L13.toNat cp13)) row7 w.heap.size G (rdF (.mk 11 0 (-1) (-1) (-1) 0 10 q_ElectLeadersResponseTopicPartition) ver true (rdCStr sk7).2).2 pre7 [.string ⟨(rdCStr sk7).1.toArray⟩, .slice ao13 L13.toNat cp13] [.map none] post7 103 [.mk 8 0 (-1) (-1) (-1) 0 0 [], .mk 11 0 (-1) (-1) (-1) 0 10 q_ElectLeadersResponseTopicPartition] [(.mk 0 (rdCStr sk7).1 false [] []), (rdF (.mk 11 0 (-1) (-1) (-1) 0 10 q_ElectLeadersResponseTopicPartition) ver true (rdCStr sk7).2).1] := h28.put (o := k9 * 3 + 1) (el_at hpre7 rfl) (vf_list rfl vl4)
                  clear h14 h28 vl4 gr
                  go_wp2_with (first
                    | (go_at_call 168; go_loud (refine (rtags_any h29.rd h29.hG h29.nrb).mono ?_; rintro e w30 ⟨tv30, rfl, mp30, mb30, r30, k30⟩; obtain ⟨mr30, rfl⟩ := mp30.shape; have mq30 := mp30.keepF (fun _ _ => rfl) (h29.nwNew (W := w30)); have h31 := h29.call r30 k30; have c30 := h31.cellAt (o := k9 * 3 + 2) (el_at hpre7 rfl); have f30 := h31.free (k9 * 3 + 2); have he32 := h31.tags (o := k9 * 3 + 2) (el_at hpre7 rfl) mq30; clear r30 k30 h29 h31))
                    | ( go_roundw; (case rel => exact ⟨k9 + 1, by omega, by go_num, cont7 _ _ _ _ he32 rfl HEQ7.out⟩); (case measure => (simp [intOf]; omega))))
        · obtain ⟨rr, kr, ⟨ao7, cp7, rfl⟩, vl⟩ := RR.fin (by omega) (.inl rfl)
          clear RR RR7
          have LE := rdF_clist (a := 0) (b := (-1)) (c := (-1)) (d := 0) (ofk := 10) (v := ver) (sub := q_ElectLeadersResponseTopic) HL7.out
          have rr2 : Rd wr7 w.heap.size G (rdF (.mk 11 0 (-1) (-1) (-1) 0 10 q_ElectLeadersResponseTopic) ver true (rdI 2 (rdI 4 (l, false)).2).2).2 := by rw [LE]; exact rr
          have vl2 := vl (decide (L7 ≤ 0)) (by simp)
          have vl3 : VL wr7 (Nw G w7 w.heap.size wr7) (VK wr7 (Nw G w7 w.heap.size wr7) 10 (-1) (VFs wr7 (Nw G w7 w.heap.size wr7) q_ElectLeadersResponseTopic)) 3 (.slice ao7 L7.toNat cp7) (rdF (.mk 11 0 (-1) (-1) (-1) 0 10 q_ElectLeadersResponseTopic) ver true (rdI 2 (rdI 4 (l, false)).2).2).1 := by rw [LE]; exact vl2
          have gr : ∀ i, Nw G w7 w.heap.size wr7 i → Nw G w w.heap.size wr7 i := fun i hi => ⟨hi.1.imp id (Nat.le_trans h8.keep.size), hi.2⟩
          have vl4 := VL.keepF (fun _ _ => rfl) gr (fun c t => VK.keepF (fun _ _ => rfl) gr (fun c l => VFs.keepF (fun _ _ => rfl) gr q_ElectLeadersResponseTopic)) vl3
          have h33 := h8.call rr2 kr
          clear rr rr2 vl vl2 vl3 LE
          have c7 := h33.cellAt (o := 3) rfl
          have f7 := h33.free (3)
          have h34 : ElSt w (wr7.setCell ⟨b, 3, none⟩ (.slice ao7 L7.toNat cp7)) b w.heap.size G (rdF (.mk 11 0 (-1) (-1) (-1) 0 10 q_ElectLeadersResponseTopic) ver true (rdI 2 (rdI 4 (l, false)).2).2).2 [.int .i16 ver] [.int .i32 (rdI 4 (l, false)).1, .int .i16 (rdI 2 (rdI 4 (l, false)).2).1, .slice ao7 L7.toNat cp7] [.map none] [] 98 [.mk 3 0 (-1) (-1) (-1) 0 0 [], .mk 2 1 (-1) (-1) (-1) 0 0 [], .mk 11 0 (-1) (-1) (-1) 0 10 q_ElectLeadersResponseTopic] [(.mk (rdI 4 (l, false)).1 [] false [] []), (.mk (rdI 2 (rdI 4 (l, false)).2).1 [] false [] []), (rdF (.mk 11 0 (-1) (-1) (-1) 0 10 q_ElectLeadersResponseTopic) ver true (rdI 2 (rdI 4 (l, false)).2).2).1] := h33.put (o := 3) rfl (vf_list rfl vl4)
          clear h8 h33 vl4 gr
          go_wp2_with (first
            | (go_at_call 168; go_loud (refine (rtags_any h34.rd h34.hG h34.nrb).mono ?_; rintro e w35 ⟨tv35, rfl, mp35, mb35, r35, k35⟩; obtain ⟨mr35, rfl⟩ := mp35.shape; have mq35 := mp35.keepF (fun _ _ => rfl) (h34.nwNew (W := w35)); have h36 := h34.call r35 k35; have c35 := h36.cellAt (o := 4) rfl; have f35 := h36.free (4); have he37 := h36.tags (o := 4) rfl mq35; clear r35 k35 h34 h36))
            | (go_at_call 156; go_loud (refine (complete_any he37.rd (hg.keep he37.keep (by simp; omega))).mono ?_; rintro e wz ⟨rfl, kz⟩)))
          go_ret
          have hz := he37.calm hG hGb hbl he37.rd.lt' kz
          obtain ⟨q1, q2⟩ := hz.vm (Nat.le_refl _)
          rw [HEQ0.out]
          dsimp only
          exact ⟨by simp, q1, fun _ => q2⟩
end Go.Proofs.YtbddchglganmdaaDoor
