/-
  DescribeLogDirsRequest: reading.
-/
import Derived.Test.YtbddchglganmdaaDoorMDld1
import Derived.Deep.CutBlock
import Derived.Deep.DeepCutAuto
namespace Go.Proofs.YtbddchglganmdaaDoor
open Go.ChangeShapes Go.WideShapes Go.ChangeAt Go.RowKit

set_option maxHeartbeats 4000000 in
set_option maxRecDepth 100000 in
theorem dld_read_0s {G : Nat → Prop} {b : Nat} {p : Addr} {l : Bs} {src : Value} {w : World} {ver : Int} (hb : w.heap[b]? = some (.cells #[.int .i16 ver, .slice none 0 0, .map none] 110 (0, 0))) (hl : RB w G src l) (hG : There G w) (hGb : ¬ G b) (hg : Gl w p) (hp : b ≠ 1) (hv0 : 0 ≤ ver) (_B2 : ¬ 2 ≤ ver) :
    Calls Tryd.prog 122 #[.pointer (some ⟨b, 0, none⟩), src, .bool false] w fun e w' => e = .returned (errV p (rdPart q_DescribeLogDirsRequest ver false (l, false)).2.2) ∧ Keep [b] w w' ∧ ((rdPart q_DescribeLogDirsRequest ver false (l, false)).2.2 = false → VM w' (New G w w') b q_DescribeLogDirsRequest 110 ver (rdPart q_DescribeLogDirsRequest ver false (l, false)).1) := by
  obtain ⟨ao, cap, rfl⟩ := RS.shape hl
  have hbl : b < w.heap.size := World.heap_lt hb
  have hp1 : 1 < w.heap.size := World.block_lt_of_cell? w _ hg
  have cv : (w.alloc (.cells #[.slice ao l.length cap, .bool false] 173)).cell? ⟨b, 0, none⟩ = some (.int .i16 ver) := ((keep_box (A := []) _).cell (p := ⟨b, 0, none⟩) hbl (by simp)).trans (cellOf hb 0 _ rfl)
  have h0 : ElSt w (w.alloc (.cells #[.slice ao l.length cap, .bool false] 173)) b w.heap.size G (l, false) [.int .i16 ver] [] [.slice none 0 0, .map none] [] 110 [] [] :=
    ⟨⟨_, heap_alloc_new w _, hl.keepF (hG.same (keep_box _)) (fun _ h => h)⟩, ((keep_box (A := []) _).block b hbl (by simp)).trans hb, ⟨rfl, rfl⟩, (keep_box (A := []) _).weaken (by simp), hG, hGb, (fun e => by have := hG _ e; omega), hbl, by omega⟩
  clear hb
  have HEQ0 : Hid (rdPart q_DescribeLogDirsRequest ver false (l, false) = (.mk 0 [] false [(rdF (.mk 11 0 (-1) 0 (-1) 0 10 q_DescribeLogDirsRequestTopic) ver false (l, false)).1] [], (rdF (.mk 11 0 (-1) 0 (-1) 0 10 q_DescribeLogDirsRequestTopic) ver false (l, false)).2)) := by
    show _ = _
    simp [rdPart, rdPartOf, q_DescribeLogDirsRequest, rdFs, (has_yes (show (0 : Int) ≤ ver by omega) (.inl (by decide)) : F.has (.mk 11 0 (-1) 0 (-1) 0 10 q_DescribeLogDirsRequestTopic) ver = true), rdF]
  go_enter Tryd.func122, Tryd.ntmps122
  have cl1 := h0.cellAt (o := 1) rfl
  go_upto_if 49 with (first
    | (go_at_call 121; refine (d_DescribeLogDirsRequest _ _).mono ?_; rintro e wd ⟨rfl, rfl⟩)
    | (go_at_call 154; go_loud (refine (len_any h0.rd h0.hG h0.nrb).mono ?_; rintro e w1 ⟨rfl, r1, k1⟩; have lr1 := rdLen_range (l, false); have h2 := h0.call r1 k1; clear r1 k1; generalize hl1 : (rdLen (l, false)).1 = L1 at *; have HL1 : Hid _ := hl1; clear h0 hl1)))
  go_cut [12] (fun av wx => Keep [] w1 wx ∧ V0 (¬ (0 : Int) ≤ ver ∨ L1 = 0) av)
  case first =>
    by_cases hp : L1 = 0
    · have hd : (L1 == 0) = true := by simp [hp]
      have HP : Hid _ := hp
      have HC : Hid (∀ P : Prop, (0 ≤ ver ∧ (L1 == 0) = false) → P) := fun P h => (by rw [hd] at h; simp at h)
      clear hp
      go_wp2_with (first | (go_meet; exact ⟨(Keep.refl _ _).alloc _, fun _ => ⟨_, rfl⟩, fun h => absurd (Or.inr HP.out) h⟩) | exact HC.out _ (by assumption))
    · have hd : (L1 == 0) = false := by simp [hp]
      have HP : Hid _ := hp
      have HC : Hid (∀ P : Prop, (ver < 0 ∨ (L1 == 0) = true) → P) := fun P h => (by rcases h with h | h; omega; rw [hd] at h; simp at h)
      clear hp
      go_wp2_with (first | (go_meet; exact ⟨Keep.refl _ _, fun h => (by rcases h with h | h; (exfalso; omega); exact (HP.out h).elim), fun _ => rfl⟩) | exact HC.out _ (by assumption))
  case rest =>
    obtain ⟨wv1, rfl⟩ : ∃ x : World, x = wc := ⟨_, rfl⟩
    obtain ⟨v0_1, rfl⟩ : ∃ x : Value, x = u12 := ⟨_, rfl⟩
    obtain ⟨kv1, vz1⟩ := hcut
    obtain ⟨⟨av0_1, rfl⟩, vs1, vi1⟩ := vz1.shape
    have h3 := h2.calm kv1
    clear h2 vz1
    cases hbad1 : (rdLen (l, false)).2.2
    case true =>
      have HB : (rdPart q_DescribeLogDirsRequest ver false (l, false)).2.2 = true := by rw [HEQ0.out]; (try dsimp only); exact (show (rdF (.mk 11 0 (-1) 0 (-1) 0 10 q_DescribeLogDirsRequestTopic) ver false (l, false)).2.2 = true from list_bad hbad1)
      have HBB : Hid _ := HB
      clear HB
      go_wp2_with (first
        | (go_at_call 155; refine (ok_any h3.rd).mono ?_; rintro e wo ⟨rfl, rfl⟩; rw [hbad1])
        | (go_at_call 156; go_loud (refine (complete_any h3.rd (hg.keep (h3.keep) (by simp; omega))).mono ?_; rintro e wz ⟨rfl, kz⟩; rw [hbad1])))
      go_ret
      rw [HBB.out]
      exact ⟨by simp, (Keep.fresh (B := [b]) (h3.keep) (by simp)).trans (kz.weaken (by simp)), fun e => by cases e⟩
    case false =>
      go_upto_if 57 with (go_at_call 155; refine (ok_any h3.rd).mono ?_; rintro e wo ⟨rfl, rfl⟩; rw [hbad1])
      go_cut [12] (fun av wx => RowIni wv1 wx (.slice av0_1 0 0) av L1.toNat [.string ⟨#[]⟩, .slice none 0 0, .map none] 115)
      case first =>
        by_cases hp : 0 < L1
        · obtain ⟨N, rfl⟩ : ∃ N : Nat, L1 = N := ⟨L1.toNat, by omega⟩
          obtain ⟨i0, hi, hz0, hz1, hz2⟩ := info_bd info_DescribeLogDirsRequestTopic
          have AP := run_append_empty_zeros (P := Tryd.prog) wv1 108 21 108 115 i0 _ .i32 .i32 Tryd.underlying108 Tryd.underlying21 hi hz0 N (by omega) (by omega) (by omega) (Nat.le_trans (Nat.mul_le_mul_left N hz2) (by omega)) av0_1
          go_wp2_with (first
            | (at_builtin; go_loud (refine Lib.wpList_append_run _ rfl (.tmp 58) (.tmp 59) 108 21 rfl _ _ rfl rfl _ _ AP ?_))
            | (go_meet; rw [Int.toNat_natCast]; exact RowIni.made2 (w := wv1) (z := .agg #[.string ⟨#[]⟩, .slice none 0 0, .map none]) (N := N) (e := 115) (show 0 < N by omega) rfl _))
        · go_wp2_with (go_meet; exact .inl ⟨by omega, rfl, rfl⟩)
      case rest =>
        have RR1 := RowRel.start hcut h3.rd h3.hG h3.nrb (gOf 10 false q_DescribeLogDirsRequestTopic ver) 3 10 q_DescribeLogDirsRequestTopic
        clear hcut
        obtain ⟨wl1, rfl⟩ : ∃ x : World, x = wc := ⟨_, rfl⟩
        obtain ⟨av1, rfl⟩ : ∃ x : Value, x = u12 := ⟨_, rfl⟩
        go_wp2_with fail
        go_loopw [14] (fun i wr => ∃ k : Nat, k ≤ L1.toNat ∧ i = .int .i32 (k : Int) ∧ RowRel wv1 wl1 wr w.heap.size G (gOf 10 false q_DescribeLogDirsRequestTopic ver) (rdLen (l, false)).2 L1.toNat 3 k [.string ⟨#[]⟩, .slice none 0 0, .map none] 115 10 q_DescribeLogDirsRequestTopic (.slice av0_1 0 0) av1) (fun i _ => L1.toNat - (intOf i).toNat)
        case atStart => exact ⟨0, Nat.zero_le _, rfl, RR1⟩
        case round =>
          obtain ⟨wr1, rfl⟩ : ∃ x : World, x = wr := ⟨_, rfl⟩
          obtain ⟨k4, hk4, rfl, RR⟩ := hrel
          have KR1 := RR.keep
          by_cases lt1 : (k4 : Int) < L1
          · obtain ⟨row1, cap1, pre1, post1, rfl, hcap1, hrw1, hpre1, e1, cont1⟩ := RR.elem (by omega : k4 < L1.toNat)
            clear RR RR1
            have hrx1 : w.heap.size ≤ row1 := by have := h3.keep.size; omega
            have KW1 : Keep [b, w.heap.size] w wr1 := Keep.trans (h3.keep) (KR1.weaken (by simp))
            have HBF1 : Hid (((gOf 10 false q_DescribeLogDirsRequestTopic ver) (rdTimes (gOf 10 false q_DescribeLogDirsRequestTopic ver) k4 (rdLen (l, false)).2).2).2.2 = true → (rdPart q_DescribeLogDirsRequest ver false (l, false)).2.2 = true) := fun h => by
              have hb : (rdF (.mk 11 0 (-1) 0 (-1) 0 10 q_DescribeLogDirsRequestTopic) ver false (l, false)).2.2 = true := by
                rw [rdF_nlist (show (0 : Int) ≤ 0 by decide) HL1.out]
                exact rdTimes_from (gOf_b 10 false q_DescribeLogDirsRequestTopic ver) _ (k4 + 1) h _ (by omega)
              exact by rw [HEQ0.out]; (try dsimp only); exact hb
            generalize (rdTimes (gOf 10 false q_DescribeLogDirsRequestTopic ver) k4 (rdLen (l, false)).2).2 = sk1 at *
            have HEQ1 : Hid ((gOf 10 false q_DescribeLogDirsRequestTopic ver) sk1 = (.mk 0 [] false [(.mk 0 (rdStr sk1).1 false [] []), (rdF (.mk 11 0 (-1) (-1) (-1) 0 3 []) ver false (rdStr sk1).2).1] [], (rdF (.mk 11 0 (-1) (-1) (-1) 0 3 []) ver false (rdStr sk1).2).2)) := by
              show _ = _
              simp [gOf, rdK, rdPartOf, q_DescribeLogDirsRequestTopic, rdFs, (has_yes (show (0 : Int) ≤ ver by omega) (.inl (by decide)) : F.has (.mk 8 0 (-1) (-1) (-1) 0 0 []) ver = true), (has_yes (show (0 : Int) ≤ ver by omega) (.inl (by decide)) : F.has (.mk 11 0 (-1) (-1) (-1) 0 3 []) ver = true), rdF]
            go_wp2_with (first
              | (go_at_call 177; go_loud (refine (d_DescribeLogDirsRequestTopic _ _).mono ?_; rintro e wd ⟨rfl, rfl⟩))
              | (go_at_call 167; go_loud (refine (string_any e1.rd e1.hG e1.nrb).mono ?_; rintro e w5 ⟨he5, r5, k5⟩; unfold str at he5; subst he5; have h6 := e1.call r5 k5; have c5 := h6.cellAt (o := k4 * 3) (el_at0 hpre1 rfl); have f5 := h6.free (k4 * 3); have h7 : ElSt wr1 (w5.setCell ⟨row1, k4 * 3, none⟩ (.string ⟨(rdStr sk1).1.toArray⟩)) row1 w.heap.size G (rdStr sk1).2 pre1 [.string ⟨(rdStr sk1).1.toArray⟩] [.slice none 0 0, .map none] post1 115 [.mk 8 0 (-1) (-1) (-1) 0 0 []] [(.mk 0 (rdStr sk1).1 false [] [])] := h6.put (o := k4 * 3) (el_at0 hpre1 rfl) (vf_str (by decide) _); clear r5 k5 e1 h6; have cl8 := h7.cellAt (o := k4 * 3 + 1) (el_at hpre1 rfl)))
              | (go_at_call 154; go_loud (refine (len_any h7.rd h7.hG h7.nrb).mono ?_; rintro e w8 ⟨rfl, r8, k8⟩; have lr8 := rdLen_range (rdStr sk1).2; have h9 := h7.call r8 k8; clear r8 k8; generalize hl8 : (rdLen (rdStr sk1).2).1 = L8 at *; have HL8 : Hid _ := hl8; clear h7 hl8)))
            cases hbad8 : (rdLen (rdStr sk1).2).2.2
            case true =>
              have HB : (rdPart q_DescribeLogDirsRequest ver false (l, false)).2.2 = true := HBF1.out (by rw [HEQ1.out]; (try dsimp only); exact (show (rdF (.mk 11 0 (-1) (-1) (-1) 0 3 []) ver false (rdStr sk1).2).2.2 = true from list_bad hbad8))
              have HBB : Hid _ := HB
              clear HB
              go_wp2_with (first
                | (go_at_call 155; refine (ok_any h9.rd).mono ?_; rintro e wo ⟨rfl, rfl⟩; rw [hbad8])
                | (go_at_call 156; go_loud (refine (complete_any h9.rd (hg.keep (Keep.fresh (B := [b, w.heap.size]) ((KW1.weaken (B := [b, w.heap.size, row1]) (by simp)).trans (h9.keep.weaken (by simp))) (by simp; omega)) (by simp; omega))).mono ?_; rintro e wz ⟨rfl, kz⟩; rw [hbad8])))
              go_ret
              rw [HBB.out]
              exact ⟨by simp, (Keep.fresh (B := [b]) (Keep.fresh (B := [b, w.heap.size]) ((KW1.weaken (B := [b, w.heap.size, row1]) (by simp)).trans (h9.keep.weaken (by simp))) (by simp; omega)) (by simp)).trans (kz.weaken (by simp)), fun e => by cases e⟩
            case false =>
              go_upto_if 97 with (go_at_call 155; refine (ok_any h9.rd).mono ?_; rintro e wo ⟨rfl, rfl⟩; rw [hbad8])
              go_cut [19] (fun av wx => RowIni w8 wx (.slice none 0 0) av L8.toNat [.int .i32 0] 21)
              case first =>
                by_cases hp : 0 < L8
                · obtain ⟨N, rfl⟩ : ∃ N : Nat, L8 = N := ⟨L8.toNat, by omega⟩
                  obtain ⟨i0, hi, hz0, hz1, hz2⟩ := info_bd info_one3
                  have AP := run_append_empty_zeros (P := Tryd.prog) w8 113 21 113 21 i0 _ .i32 .i32 Tryd.underlying113 Tryd.underlying21 hi hz0 N (by omega) (by omega) (by omega) (Nat.le_trans (Nat.mul_le_mul_left N hz2) (by omega)) none
                  go_wp2_with (first
                    | (at_builtin; go_loud (refine Lib.wpList_append_run _ rfl (.tmp 98) (.tmp 99) 113 21 rfl _ _ rfl rfl _ _ AP ?_))
                    | (go_meet; rw [Int.toNat_natCast]; exact RowIni.made2 (w := w8) (z := .int .i32 0) (N := N) (e := 21) (show 0 < N by omega) rfl _))
                · go_wp2_with (go_meet; exact .inl ⟨by omega, rfl, rfl⟩)
              case rest =>
                have RR8 := RowRel.start hcut h9.rd h9.hG h9.nrb (gOf 3 false [] ver) 1 3 []
                clear hcut
                obtain ⟨wl8, rfl⟩ : ∃ x : World, x = wc := ⟨_, rfl⟩
                obtain ⟨av8, rfl⟩ : ∃ x : Value, x = u19 := ⟨_, rfl⟩
                go_wp2_with fail
                go_loopw [21] (fun i wr => ∃ k : Nat, k ≤ L8.toNat ∧ i = .int .i32 (k : Int) ∧ RowRel w8 wl8 wr w.heap.size G (gOf 3 false [] ver) (rdLen (rdStr sk1).2).2 L8.toNat 1 k [.int .i32 0] 21 3 [] (.slice none 0 0) av8) (fun i _ => L8.toNat - (intOf i).toNat)
                case atStart => exact ⟨0, Nat.zero_le _, rfl, RR8⟩
                case round =>
                  obtain ⟨wr8, rfl⟩ : ∃ x : World, x = wr := ⟨_, rfl⟩
                  obtain ⟨k10, hk10, rfl, RR⟩ := hrel
                  have KR8 := RR.keep
                  by_cases lt8 : (k10 : Int) < L8
                  · obtain ⟨row8, cap8, pre8, post8, rfl, hcap8, hrw8, hpre8, e8, cont8⟩ := RR.elem (by omega : k10 < L8.toNat)
                    clear RR RR8
                    have hrx8 : w.heap.size ≤ row8 := by have := h9.keep.size; have := h3.keep.size; have := KR1.size; omega
                    have KW8 : Keep [b, w.heap.size] w wr8 := Keep.trans (Keep.fresh (B := [b, w.heap.size]) ((KW1.weaken (B := [b, w.heap.size, row1]) (by simp)).trans (h9.keep.weaken (by simp))) (by simp; omega)) (KR8.weaken (by simp))
                    have HBF8 : Hid (((gOf 3 false [] ver) (rdTimes (gOf 3 false [] ver) k10 (rdLen (rdStr sk1).2).2).2).2.2 = true → (rdPart q_DescribeLogDirsRequest ver false (l, false)).2.2 = true) := fun h => by
                      have hb : (rdF (.mk 11 0 (-1) (-1) (-1) 0 3 []) ver false (rdStr sk1).2).2.2 = true := by
                        rw [rdF_list HL8.out]
                        exact rdTimes_from (gOf_b 3 false [] ver) _ (k10 + 1) h _ (by omega)
                      exact HBF1.out (by rw [HEQ1.out]; (try dsimp only); exact hb)
                    generalize (rdTimes (gOf 3 false [] ver) k10 (rdLen (rdStr sk1).2).2).2 = sk8 at *
                    have HEQ8 : Hid ((gOf 3 false [] ver) sk8 = (.mk (rdI 4 sk8).1 [] false [] [], (rdI 4 sk8).2)) := by
                      show _ = _
                      simp [gOf, rdK]
                    go_wp2_with (first
                      | (go_at_call 152; go_loud (refine (int32_any e8.rd e8.hG e8.nrb).mono ?_; rintro e we8 ⟨rfl, r8, k8⟩; have h11 := e8.call r8 k8; have c8 := h11.cellAt (o := k10) (by rw [hpre8]; simp); have f8 := h11.free (k10); have h12 := h11.one (v := .int .i32 (rdI 4 sk8).1) (ofk := 3) (fs := []) (o := k10) (by rw [hpre8]; simp) (fun _ _ _ => vk_one3 (rdI_range4 _)); clear e8 h11))
                      | ( go_roundw; (case rel => exact ⟨k10 + 1, by omega, by go_num, cont8 _ _ _ _ h12 rfl HEQ8.out⟩); (case measure => (simp [intOf]; omega))))
                  · obtain ⟨rr, kr, ⟨ao8, cp8, rfl⟩, vl⟩ := RR.fin (by omega) (.inl rfl)
                    clear RR RR8
                    have LE := rdF_list (a := 0) (b := (-1)) (c := (-1)) (d := 0) (ofk := 3) (v := ver) (sub := []) HL8.out
                    have rr2 : Rd wr8 w.heap.size G (rdF (.mk 11 0 (-1) (-1) (-1) 0 3 []) ver false (rdStr sk1).2).2 := by rw [LE]; exact rr
                    have vl2 := vl (decide (L8 ≤ 0)) (by simp)
                    have vl3 : VL wr8 (Nw G w8 w.heap.size wr8) (VK wr8 (Nw G w8 w.heap.size wr8) 3 (-1) (VFs wr8 (Nw G w8 w.heap.size wr8) [])) 1 (.slice ao8 L8.toNat cp8) (rdF (.mk 11 0 (-1) (-1) (-1) 0 3 []) ver false (rdStr sk1).2).1 := by rw [LE]; exact vl2
                    have gr : ∀ i, Nw G w8 w.heap.size wr8 i → Nw G wr1 w.heap.size wr8 i := fun i hi => ⟨hi.1.imp id (Nat.le_trans h9.keep.size), hi.2⟩
                    have vl4 := VL.keepF (fun _ _ => rfl) gr (fun c t => VK.keepF (fun _ _ => rfl) gr (fun c l => VFs.keepF (fun _ _ => rfl) gr [])) vl3
                    have h13 := h9.call rr2 kr
                    clear rr rr2 vl vl2 vl3 LE
                    have c8 := h13.cellAt (o := k4 * 3 + 1) (el_at hpre1 rfl)
                    have f8 := h13.free (k4 * 3 + 1)
                    have h14 : ElSt wr1 (wr8.setCell ⟨row1, k4 * 3 + 1, none⟩ (.slice ao8 L8.toNat cp8)) row1 w.heap.size G (rdF (.mk 11 0 (-1) (-1) (-1) 0 3 []) ver false (rdStr sk1).2).2 pre1 [.string ⟨(rdStr sk1).1.toArray⟩, .slice ao8 L8.toNat cp8] [.map none] post1 115 [.mk 8 0 (-1) (-1) (-1) 0 0 [], .mk 11 0 (-1) (-1) (-1) 0 3 []] [(.mk 0 (rdStr sk1).1 false [] []), (rdF (.mk 11 0 (-1) (-1) (-1) 0 3 []) ver false (rdStr sk1).2).1] := h13.put (o := k4 * 3 + 1) (el_at hpre1 rfl) (vf_list rfl vl4)
                    clear h9 h13 vl4 gr
                    go_wp2_with (first
                      | (have he15 := h14.bare; go_roundw; (case rel => exact ⟨k4 + 1, by omega, by go_num, cont1 _ _ _ _ he15 rfl HEQ1.out⟩); (case measure => (simp [intOf]; omega))))
          · obtain ⟨rr, kr, ⟨ao1, cp1, rfl⟩, vl⟩ := RR.fin (by omega) (vs1)
            clear RR RR1
            have LE := rdF_nlist (show (0 : Int) ≤ 0 by decide) (a := 0) (b := (-1)) (c := (-1)) (d := 0) (ofk := 10) (v := ver) (sub := q_DescribeLogDirsRequestTopic) HL1.out
            have rr2 : Rd wr1 w.heap.size G (rdF (.mk 11 0 (-1) 0 (-1) 0 10 q_DescribeLogDirsRequestTopic) ver false (l, false)).2 := by rw [LE]; exact rr
            have vl2 := vl (decide ((0 : Int) ≤ ver) && decide (L1 < 0)) (by rw [vi1]; simp; omega)
            have vl3 : VL wr1 (Nw G wv1 w.heap.size wr1) (VK wr1 (Nw G wv1 w.heap.size wr1) 10 (-1) (VFs wr1 (Nw G wv1 w.heap.size wr1) q_DescribeLogDirsRequestTopic)) 3 (.slice ao1 L1.toNat cp1) (rdF (.mk 11 0 (-1) 0 (-1) 0 10 q_DescribeLogDirsRequestTopic) ver false (l, false)).1 := by rw [LE]; exact vl2
            have gr : ∀ i, Nw G wv1 w.heap.size wr1 i → Nw G w w.heap.size wr1 i := fun i hi => ⟨hi.1.imp id (Nat.le_trans h3.keep.size), hi.2⟩
            have vl4 := VL.keepF (fun _ _ => rfl) gr (fun c t => VK.keepF (fun _ _ => rfl) gr (fun c l => VFs.keepF (fun _ _ => rfl) gr q_DescribeLogDirsRequestTopic)) vl3
            have h16 := h3.call rr2 kr
            clear rr rr2 vl vl2 vl3 LE
            have c1 := h16.cellAt (o := 1) rfl
            have f1 := h16.free (1)
            have h17 : ElSt w (wr1.setCell ⟨b, 1, none⟩ (.slice ao1 L1.toNat cp1)) b w.heap.size G (rdF (.mk 11 0 (-1) 0 (-1) 0 10 q_DescribeLogDirsRequestTopic) ver false (l, false)).2 [.int .i16 ver] [.slice ao1 L1.toNat cp1] [.map none] [] 110 [.mk 11 0 (-1) 0 (-1) 0 10 q_DescribeLogDirsRequestTopic] [(rdF (.mk 11 0 (-1) 0 (-1) 0 10 q_DescribeLogDirsRequestTopic) ver false (l, false)).1] := h16.put (o := 1) rfl (vf_list rfl vl4)
            clear h3 h16 vl4 gr
            have he18 := h17.bare
            go_wp2_with (first
              | (go_at_call 156; go_loud (refine (complete_any he18.rd (hg.keep he18.keep (by simp; omega))).mono ?_; rintro e wz ⟨rfl, kz⟩)))
            go_ret
            have hz := he18.calm hG hGb hbl he18.rd.lt' kz
            obtain ⟨q1, q2⟩ := hz.vm (Nat.le_refl _)
            rw [HEQ0.out]
            dsimp only
            exact ⟨by simp, q1, fun _ => q2⟩
end Go.Proofs.YtbddchglganmdaaDoor
