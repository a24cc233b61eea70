/-
  DescribeShareGroupOffsetsRequest: reading.
-/
import Derived.Test.YtobbchmjgoaleaaGreatDoorMDsg1
import Derived.Deep.CutBlock
import Derived.Deep.DeepCutAuto
namespace Go.Proofs.YtobbchmjgoaleaaGreatDoor
open Go.ChangeShapes Go.WideShapes Go.ChangeAt Go.RowKit

set_option maxHeartbeats 4000000 in
set_option maxRecDepth 100000 in
theorem dsg_read_0s {G : Nat → Prop} {b : Nat} {p : Addr} {l : Bs} {src : Value} {w : World} {ver : Int} (hb : w.heap[b]? = some (.cells #[.int .i16 ver, .slice none 0 0, .map none] 158 (0, 0))) (hl : RB w G src l) (hG : There G w) (hGb : ¬ G b) (hg : Gl w p) (hp : b ≠ 1) (hv0 : 0 ≤ ver)  :
    Calls Tryz.prog 174 #[.pointer (some ⟨b, 0, none⟩), src, .bool false] w fun e w' => e = .returned (errV p (rdPart q_DescribeShareGroupOffsetsRequest ver true (l, false)).2.2) ∧ Keep [b] w w' ∧ ((rdPart q_DescribeShareGroupOffsetsRequest ver true (l, false)).2.2 = false → VM w' (New G w w') b q_DescribeShareGroupOffsetsRequest 158 ver (rdPart q_DescribeShareGroupOffsetsRequest ver true (l, false)).1) := by
  obtain ⟨ao, cap, rfl⟩ := RS.shape hl
  have hbl : b < w.heap.size := World.heap_lt hb
  have hp1 : 1 < w.heap.size := World.block_lt_of_cell? w _ hg
  have cv : (w.alloc (.cells #[.slice ao l.length cap, .bool false] 175)).cell? ⟨b, 0, none⟩ = some (.int .i16 ver) := ((keep_box (A := []) _).cell (p := ⟨b, 0, none⟩) hbl (by simp)).trans (cellOf hb 0 _ rfl)
  have h0 : ElSt w (w.alloc (.cells #[.slice ao l.length cap, .bool false] 175)) b w.heap.size G (l, false) [.int .i16 ver] [] [.slice none 0 0, .map none] [] 158 [] [] :=
    ⟨⟨_, heap_alloc_new w _, hl.keepF (hG.same (keep_box _)) (fun _ h => h)⟩, ((keep_box (A := []) _).block b hbl (by simp)).trans hb, ⟨rfl, rfl⟩, (keep_box (A := []) _).weaken (by simp), hG, hGb, (fun e => by have := hG _ e; omega), hbl, by omega⟩
  clear hb
  have HEQ0 : Hid (rdPart q_DescribeShareGroupOffsetsRequest ver true (l, false) = (.mk 0 [] false [(rdF (.mk 11 0 (-1) (-1) (-1) 0 10 q_DescribeShareGroupOffsetsRequestGroup) ver true (l, false)).1] (rdTags (rdF (.mk 11 0 (-1) (-1) (-1) 0 10 q_DescribeShareGroupOffsetsRequestGroup) ver true (l, false)).2).1, (rdTags (rdF (.mk 11 0 (-1) (-1) (-1) 0 10 q_DescribeShareGroupOffsetsRequestGroup) ver true (l, false)).2).2)) := by
    show _ = _
    simp [rdPart, rdPartOf, q_DescribeShareGroupOffsetsRequest, rdFs, (has_yes (show (0 : Int) ≤ ver by omega) (.inl (by decide)) : F.has (.mk 11 0 (-1) (-1) (-1) 0 10 q_DescribeShareGroupOffsetsRequestGroup) ver = true), rdF]
  go_enter Tryz.func174, Tryz.ntmps174
  have cl1 := h0.cellAt (o := 1) rfl
  go_wp2_with (first
    | (go_at_call 172; refine (d_DescribeShareGroupOffsetsRequest _ _).mono ?_; rintro e wd ⟨rfl, rfl⟩)
    | (go_at_call 201; go_loud (refine (clen_any h0.rd h0.hG h0.nrb).mono ?_; rintro e w1 ⟨rfl, r1, k1⟩; have lr1 := rdCLen_range (l, false); have h2 := h0.call r1 k1; clear r1; generalize hl1 : (rdCLen (l, false)).1 = L1 at *; have HL1 : Hid _ := hl1; clear h0 hl1)))
  cases hbad1 : (rdCLen (l, false)).2.2
  case true =>
    have HB : (rdPart q_DescribeShareGroupOffsetsRequest ver true (l, false)).2.2 = true := by rw [HEQ0.out]; exact rdTags_b _ ((show (rdF (.mk 11 0 (-1) (-1) (-1) 0 10 q_DescribeShareGroupOffsetsRequestGroup) ver true (l, false)).2.2 = true from clist_bad hbad1))
    have HBB : Hid _ := HB
    clear HB
    go_wp2_with (first
      | (go_at_call 203; refine (ok_any h2.rd).mono ?_; rintro e wo ⟨rfl, rfl⟩; rw [hbad1])
      | (go_at_call 188; go_loud (refine (complete_any h2.rd (hg.keep (h2.keep) (by simp; omega))).mono ?_; rintro e wz ⟨rfl, kz⟩; rw [hbad1])))
    go_ret
    rw [HBB.out]
    exact ⟨by simp, (Keep.fresh (B := [b]) (h2.keep) (by simp)).trans (kz.weaken (by simp)), fun e => by cases e⟩
  case false =>
    go_upto_if 57 with (go_at_call 203; refine (ok_any h2.rd).mono ?_; rintro e wo ⟨rfl, rfl⟩; rw [hbad1])
    go_cut [12] (fun av wx => RowIni w1 wx (.slice none 0 0) av L1.toNat [.string ⟨#[]⟩, .slice none 0 0, .map none] 162)
    case first =>
      by_cases hp : 0 < L1
      · obtain ⟨N, rfl⟩ : ∃ N : Nat, L1 = N := ⟨L1.toNat, by omega⟩
        obtain ⟨i0, hi, hz0, hz1, hz2⟩ := info_bd info_DescribeShareGroupOffsetsRequestGroup
        have AP := run_append_empty_zeros (P := Tryz.prog) w1 156 21 156 162 i0 _ .i32 .i32 Tryz.underlying156 Tryz.underlying21 hi hz0 N (by omega) (by omega) (by omega) (Nat.le_trans (Nat.mul_le_mul_left N hz2) (by omega)) none
        go_wp2_with (at_builtin; go_loud (refine Lib.wpList_append_run _ rfl (.tmp 58) (.tmp 59) 156 21 rfl _ _ rfl rfl _ _ AP ?_))
        go_meet
        rw [Int.toNat_natCast]
        exact RowIni.made2 (w := w1) (z := .agg #[.string ⟨#[]⟩, .slice none 0 0, .map none]) (N := N) (e := 162) (show 0 < N by omega) rfl _
      · go_wp2_with fail
        go_meet
        exact .inl ⟨by omega, rfl, rfl⟩
    case rest =>
      have RR1 := RowRel.start hcut h2.rd h2.hG h2.nrb (gOf 10 true q_DescribeShareGroupOffsetsRequestGroup ver) 3 10 q_DescribeShareGroupOffsetsRequestGroup
      clear hcut
      obtain ⟨wl1, rfl⟩ : ∃ x : World, x = wc := ⟨_, rfl⟩
      obtain ⟨av1, rfl⟩ : ∃ x : Value, x = u12 := ⟨_, rfl⟩
      go_wp2_with fail
      go_loopw [14] (fun i wr => ∃ k : Nat, k ≤ L1.toNat ∧ i = .int .i32 (k : Int) ∧ RowRel w1 wl1 wr w.heap.size G (gOf 10 true q_DescribeShareGroupOffsetsRequestGroup ver) (rdCLen (l, false)).2 L1.toNat 3 k [.string ⟨#[]⟩, .slice none 0 0, .map none] 162 10 q_DescribeShareGroupOffsetsRequestGroup (.slice none 0 0) av1) (fun i _ => L1.toNat - (intOf i).toNat)
      case atStart => exact ⟨0, Nat.zero_le _, rfl, RR1⟩
      case round =>
        obtain ⟨wr1, rfl⟩ : ∃ x : World, x = wr := ⟨_, rfl⟩
        obtain ⟨k3, hk3, rfl, RR⟩ := hrel
        have KR1 := RR.keep
        by_cases lt1 : (k3 : Int) < L1
        · obtain ⟨row1, cap1, pre1, post1, rfl, hcap1, hrw1, hpre1, e1, cont1⟩ := RR.elem (by omega : k3 < L1.toNat)
          clear RR RR1
          have hrx1 : w.heap.size ≤ row1 := by have := h2.keep.size; omega
          have KW1 : Keep [b, w.heap.size] w wr1 := Keep.trans (h2.keep) (KR1.weaken (by simp))
          have HBF1 : Hid (((gOf 10 true q_DescribeShareGroupOffsetsRequestGroup ver) (rdTimes (gOf 10 true q_DescribeShareGroupOffsetsRequestGroup ver) k3 (rdCLen (l, false)).2).2).2.2 = true → (rdPart q_DescribeShareGroupOffsetsRequest ver true (l, false)).2.2 = true) := fun h => by
            have hb : (rdF (.mk 11 0 (-1) (-1) (-1) 0 10 q_DescribeShareGroupOffsetsRequestGroup) ver true (l, false)).2.2 = true := by
              rw [rdF_clist HL1.out]
              exact rdTimes_from (gOf_b 10 true q_DescribeShareGroupOffsetsRequestGroup ver) _ (k3 + 1) h _ (by omega)
            exact by rw [HEQ0.out]; exact rdTags_b _ (hb)
          generalize (rdTimes (gOf 10 true q_DescribeShareGroupOffsetsRequestGroup ver) k3 (rdCLen (l, false)).2).2 = sk1 at *
          have HEQ1 : Hid ((gOf 10 true q_DescribeShareGroupOffsetsRequestGroup ver) sk1 = (.mk 0 [] false [(.mk 0 (rdCStr sk1).1 false [] []), (rdF (.mk 11 0 (-1) 0 (-1) 0 10 q_DescribeShareGroupOffsetsRequestGroupTopic) ver true (rdCStr sk1).2).1] (rdTags (rdF (.mk 11 0 (-1) 0 (-1) 0 10 q_DescribeShareGroupOffsetsRequestGroupTopic) ver true (rdCStr sk1).2).2).1, (rdTags (rdF (.mk 11 0 (-1) 0 (-1) 0 10 q_DescribeShareGroupOffsetsRequestGroupTopic) ver true (rdCStr sk1).2).2).2)) := by
            show _ = _
            simp [gOf, rdK, rdPartOf, q_DescribeShareGroupOffsetsRequestGroup, rdFs, (has_yes (show (0 : Int) ≤ ver by omega) (.inl (by decide)) : F.has (.mk 8 0 (-1) (-1) (-1) 0 0 []) ver = true), (has_yes (show (0 : Int) ≤ ver by omega) (.inl (by decide)) : F.has (.mk 11 0 (-1) 0 (-1) 0 10 q_DescribeShareGroupOffsetsRequestGroupTopic) ver = true), rdF]
          go_upto_if 96 with (first
            | (go_at_call 212; go_loud (refine (d_DescribeShareGroupOffsetsRequestGroup _ _).mono ?_; rintro e wd ⟨rfl, rfl⟩))
            | (go_at_call 196; go_loud (refine (cstring_any e1.rd e1.hG e1.nrb).mono ?_; rintro e w4 ⟨he4, r4, k4⟩; unfold str at he4; subst he4; have h5 := e1.call r4 k4; have c4 := h5.cellAt (o := k3 * 3) (el_at0 hpre1 rfl); have f4 := h5.free (k3 * 3); have h6 : ElSt wr1 (w4.setCell ⟨row1, k3 * 3, none⟩ (.string ⟨(rdCStr sk1).1.toArray⟩)) row1 w.heap.size G (rdCStr sk1).2 pre1 [.string ⟨(rdCStr sk1).1.toArray⟩] [.slice none 0 0, .map none] post1 162 [.mk 8 0 (-1) (-1) (-1) 0 0 []] [(.mk 0 (rdCStr sk1).1 false [] [])] := h5.put (o := k3 * 3) (el_at0 hpre1 rfl) (vf_str (by decide) _); clear e1 h5; have cl7 := h6.cellAt (o := k3 * 3 + 1) (el_at hpre1 rfl)))
            | (go_at_call 201; go_loud (refine (clen_any h6.rd h6.hG h6.nrb).mono ?_; rintro e w7 ⟨rfl, r7, k7⟩; have lr7 := rdCLen_range (rdCStr sk1).2; have h8 := h6.call r7 k7; clear r7; generalize hl7 : (rdCLen (rdCStr sk1).2).1 = L7 at *; have HL7 : Hid _ := hl7; clear h6 hl7)))
          go_cut [19] (fun av wx => Keep [] w7 wx ∧ V0 (¬ (0 : Int) ≤ ver ∨ L7 = 0) av)
          case first =>
            by_cases hp : L7 = 0
            · have hd : (L7 == 0) = true := by simp [hp]
              have HP : Hid _ := hp
              have HC : Hid (∀ P : Prop, (0 ≤ ver ∧ (L7 == 0) = false) → P) := fun P h => (by rw [hd] at h; simp at h)
              clear hp
              go_wp2_with fail
              all_goals first
                | (go_meet; exact ⟨(Keep.refl _ _).alloc _, fun _ => ⟨_, rfl⟩, fun h => absurd (Or.inr HP.out) h⟩)
                | exact HC.out _ (by assumption)
            · have hd : (L7 == 0) = false := by simp [hp]
              have HP : Hid _ := hp
              have HC : Hid (∀ P : Prop, (ver < 0 ∨ (L7 == 0) = true) → P) := fun P h => (by rcases h with h | h; omega; rw [hd] at h; simp at h)
              clear hp
              go_wp2_with fail
              all_goals first
                | (go_meet; exact ⟨Keep.refl _ _, fun h => (by rcases h with h | h; (exfalso; omega); exact (HP.out h).elim), fun _ => rfl⟩)
                | exact HC.out _ (by assumption)
          case rest =>
            obtain ⟨wv7, rfl⟩ : ∃ x : World, x = wc := ⟨_, rfl⟩
            obtain ⟨v0_7, rfl⟩ : ∃ x : Value, x = u19 := ⟨_, rfl⟩
            obtain ⟨kv7, vz7⟩ := hcut
            obtain ⟨⟨av0_7, rfl⟩, vs7, vi7⟩ := vz7.shape
            have h9 := h8.calm kv7
            clear h8 vz7
            cases hbad7 : (rdCLen (rdCStr sk1).2).2.2
            case true =>
              have HB : (rdPart q_DescribeShareGroupOffsetsRequest ver true (l, false)).2.2 = true := HBF1.out (by rw [HEQ1.out]; exact rdTags_b _ ((show (rdF (.mk 11 0 (-1) 0 (-1) 0 10 q_DescribeShareGroupOffsetsRequestGroupTopic) ver true (rdCStr sk1).2).2.2 = true from clist_bad hbad7)))
              have HBB : Hid _ := HB
              clear HB
              go_wp2_with (first
                | (go_at_call 203; refine (ok_any h9.rd).mono ?_; rintro e wo ⟨rfl, rfl⟩; rw [hbad7])
                | (go_at_call 188; go_loud (refine (complete_any h9.rd (hg.keep (Keep.fresh (B := [b, w.heap.size]) ((KW1.weaken (B := [b, w.heap.size, row1]) (by simp)).trans (h9.keep.weaken (by simp))) (by simp; omega)) (by simp; omega))).mono ?_; rintro e wz ⟨rfl, kz⟩; rw [hbad7])))
              go_ret
              rw [HBB.out]
              exact ⟨by simp, (Keep.fresh (B := [b]) (Keep.fresh (B := [b, w.heap.size]) ((KW1.weaken (B := [b, w.heap.size, row1]) (by simp)).trans (h9.keep.weaken (by simp))) (by simp; omega)) (by simp)).trans (kz.weaken (by simp)), fun e => by cases e⟩
            case false =>
              go_upto_if 104 with (go_at_call 203; refine (ok_any h9.rd).mono ?_; rintro e wo ⟨rfl, rfl⟩; rw [hbad7])
              go_cut [19] (fun av wx => RowIni wv7 wx (.slice av0_7 0 0) av L7.toNat [.string ⟨#[]⟩, .slice none 0 0, .map none] 166)
              case first =>
                by_cases hp : 0 < L7
                · obtain ⟨N, rfl⟩ : ∃ N : Nat, L7 = N := ⟨L7.toNat, by omega⟩
                  obtain ⟨i0, hi, hz0, hz1, hz2⟩ := info_bd info_DescribeShareGroupOffsetsRequestGroupTopic
                  have AP := run_append_empty_zeros (P := Tryz.prog) wv7 160 21 160 166 i0 _ .i32 .i32 Tryz.underlying160 Tryz.underlying21 hi hz0 N (by omega) (by omega) (by omega) (Nat.le_trans (Nat.mul_le_mul_left N hz2) (by omega)) av0_7
                  go_wp2_with (at_builtin; go_loud (refine Lib.wpList_append_run _ rfl (.tmp 105) (.tmp 106) 160 21 rfl _ _ rfl rfl _ _ AP ?_))
                  go_meet
                  rw [Int.toNat_natCast]
                  exact RowIni.made2 (w := wv7) (z := .agg #[.string ⟨#[]⟩, .slice none 0 0, .map none]) (N := N) (e := 166) (show 0 < N by omega) rfl _
                · go_wp2_with fail
                  go_meet
                  exact .inl ⟨by omega, rfl, rfl⟩
              case rest =>
                have RR7 := RowRel.start hcut h9.rd h9.hG h9.nrb (gOf 10 true q_DescribeShareGroupOffsetsRequestGroupTopic ver) 3 10 q_DescribeShareGroupOffsetsRequestGroupTopic
                clear hcut
                obtain ⟨wl7, rfl⟩ : ∃ x : World, x = wc := ⟨_, rfl⟩
                obtain ⟨av7, rfl⟩ : ∃ x : Value, x = u19 := ⟨_, rfl⟩
                go_wp2_with fail
                go_loopw [21] (fun i wr => ∃ k : Nat, k ≤ L7.toNat ∧ i = .int .i32 (k : Int) ∧ RowRel wv7 wl7 wr w.heap.size G (gOf 10 true q_DescribeShareGroupOffsetsRequestGroupTopic ver) (rdCLen (rdCStr sk1).2).2 L7.toNat 3 k [.string ⟨#[]⟩, .slice none 0 0, .map none] 166 10 q_DescribeShareGroupOffsetsRequestGroupTopic (.slice av0_7 0 0) av7) (fun i _ => L7.toNat - (intOf i).toNat)
                case atStart => exact ⟨0, Nat.zero_le _, rfl, RR7⟩
                case round =>
                  obtain ⟨wr7, rfl⟩ : ∃ x : World, x = wr := ⟨_, rfl⟩
                  obtain ⟨k10, hk10, rfl, RR⟩ := hrel
                  have KR7 := RR.keep
                  by_cases lt7 : (k10 : Int) < L7
                  · obtain ⟨row7, cap7, pre7, post7, rfl, hcap7, hrw7, hpre7, e7, cont7⟩ := RR.elem (by omega : k10 < L7.toNat)
                    clear RR RR7
                    have hrx7 : w.heap.size ≤ row7 := by have := h9.keep.size; have := h2.keep.size; have := KR1.size; omega
                    have KW7 : Keep [b, w.heap.size] w wr7 := Keep.trans (Keep.fresh (B := [b, w.heap.size]) ((KW1.weaken (B := [b, w.heap.size, row1]) (by simp)).trans (h9.keep.weaken (by simp))) (by simp; omega)) (KR7.weaken (by simp))
                    have HBF7 : Hid (((gOf 10 true q_DescribeShareGroupOffsetsRequestGroupTopic ver) (rdTimes (gOf 10 true q_DescribeShareGroupOffsetsRequestGroupTopic ver) k10 (rdCLen (rdCStr sk1).2).2).2).2.2 = true → (rdPart q_DescribeShareGroupOffsetsRequest ver true (l, false)).2.2 = true) := fun h => by
                      have hb : (rdF (.mk 11 0 (-1) 0 (-1) 0 10 q_DescribeShareGroupOffsetsRequestGroupTopic) ver true (rdCStr sk1).2).2.2 = true := by
                        rw [rdF_cnlist (show (0 : Int) ≤ 0 by decide) HL7.out]
                        exact rdTimes_from (gOf_b 10 true q_DescribeShareGroupOffsetsRequestGroupTopic ver) _ (k10 + 1) h _ (by omega)
                      exact HBF1.out (by rw [HEQ1.out]; exact rdTags_b _ (hb))
                    generalize (rdTimes (gOf 10 true q_DescribeShareGroupOffsetsRequestGroupTopic ver) k10 (rdCLen (rdCStr sk1).2).2).2 = sk7 at *
                    have HEQ7 : Hid ((gOf 10 true q_DescribeShareGroupOffsetsRequestGroupTopic ver) sk7 = (.mk 0 [] false [(.mk 0 (rdCStr sk7).1 false [] []), (rdF (.mk 11 0 (-1) (-1) (-1) 0 3 []) ver true (rdCStr sk7).2).1] (rdTags (rdF (.mk 11 0 (-1) (-1) (-1) 0 3 []) ver true (rdCStr sk7).2).2).1, (rdTags (rdF (.mk 11 0 (-1) (-1) (-1) 0 3 []) ver true (rdCStr sk7).2).2).2)) := by
                      show _ = _
                      simp [gOf, rdK, rdPartOf, q_DescribeShareGroupOffsetsRequestGroupTopic, rdFs, (has_yes (show (0 : Int) ≤ ver by omega) (.inl (by decide)) : F.has (.mk 8 0 (-1) (-1) (-1) 0 0 []) ver = true), (has_yes (show (0 : Int) ≤ ver by omega) (.inl (by decide)) : F.has (.mk 11 0 (-1) (-1) (-1) 0 3 []) ver = true), rdF]
                    go_wp2_with (first
                      | (go_at_call 213; go_loud (refine (d_DescribeShareGroupOffsetsRequestGroupTopic _ _).mono ?_; rintro e wd ⟨rfl, rfl⟩))
                      | (go_at_call 196; go_loud (refine (cstring_any e7.rd e7.hG e7.nrb).mono ?_; rintro e w11 ⟨he11, r11, k11⟩; unfold str at he11; subst he11; have h12 := e7.call r11 k11; have c11 := h12.cellAt (o := k10 * 3) (el_at0 hpre7 rfl); have f11 := h12.free (k10 * 3); have h13 : ElSt wr7 (w11.setCell ⟨row7, k10 * 3, none⟩ (.string ⟨(rdCStr sk7).1.toArray⟩)) row7 w.heap.size G (rdCStr sk7).2 pre7 [.string ⟨(rdCStr sk7).1.toArray⟩] [.slice none 0 0, .map none] post7 166 [.mk 8 0 (-1) (-1) (-1) 0 0 []] [(.mk 0 (rdCStr sk7).1 false [] [])] := h12.put (o := k10 * 3) (el_at0 hpre7 rfl) (vf_str (by decide) _); clear e7 h12; have cl14 := h13.cellAt (o := k10 * 3 + 1) (el_at hpre7 rfl)))
                      | (go_at_call 201; go_loud (refine (clen_any h13.rd h13.hG h13.nrb).mono ?_; rintro e w14 ⟨rfl, r14, k14⟩; have lr14 := rdCLen_range (rdCStr sk7).2; have h15 := h13.call r14 k14; clear r14; generalize hl14 : (rdCLen (rdCStr sk7).2).1 = L14 at *; have HL14 : Hid _ := hl14; clear h13 hl14)))
                    cases hbad14 : (rdCLen (rdCStr sk7).2).2.2
                    case true =>
                      have HB : (rdPart q_DescribeShareGroupOffsetsRequest ver true (l, false)).2.2 = true := HBF7.out (by rw [HEQ7.out]; exact rdTags_b _ ((show (rdF (.mk 11 0 (-1) (-1) (-1) 0 3 []) ver true (rdCStr sk7).2).2.2 = true from clist_bad hbad14)))
                      have HBB : Hid _ := HB
                      clear HB
                      go_wp2_with (first
                        | (go_at_call 203; refine (ok_any h15.rd).mono ?_; rintro e wo ⟨rfl, rfl⟩; rw [hbad14])
                        | (go_at_call 188; go_loud (refine (complete_any h15.rd (hg.keep (Keep.fresh (B := [b, w.heap.size]) ((KW7.weaken (B := [b, w.heap.size, row7]) (by simp)).trans (h15.keep.weaken (by simp))) (by simp; omega)) (by simp; omega))).mono ?_; rintro e wz ⟨rfl, kz⟩; rw [hbad14])))
                      go_ret
                      rw [HBB.out]
                      exact ⟨by simp, (Keep.fresh (B := [b]) (Keep.fresh (B := [b, w.heap.size]) ((KW7.weaken (B := [b, w.heap.size, row7]) (by simp)).trans (h15.keep.weaken (by simp))) (by simp; omega)) (by simp)).trans (kz.weaken (by simp)), fun e => by cases e⟩
                    case false =>
                      go_upto_if 144 with (go_at_call 203; refine (ok_any h15.rd).mono ?_; rintro e wo ⟨rfl, rfl⟩; rw [hbad14])
                      go_cut [26] (fun av wx => RowIni w14 wx (.slice none 0 0) av L14.toNat [.int .i32 0] 21)
                      case first =>
                        by_cases hp : 0 < L14
                        · obtain ⟨N, rfl⟩ : ∃ N : Nat, L14 = N := ⟨L14.toNat, by omega⟩
                          obtain ⟨i0, hi, hz0, hz1, hz2⟩ := info_bd info_one3
                          have AP := run_append_empty_zeros (P := Tryz.prog) w14 164 21 164 21 i0 _ .i32 .i32 Tryz.underlying164 Tryz.underlying21 hi hz0 N (by omega) (by omega) (by omega) (Nat.le_trans (Nat.mul_le_mul_left N hz2) (by omega)) none
                          go_wp2_with (at_builtin; go_loud (refine Lib.wpList_append_run _ rfl (.tmp 145) (.tmp 146) 164 21 rfl _ _ rfl rfl _ _ AP ?_))
                          go_meet
                          rw [Int.toNat_natCast]
                          exact RowIni.made2 (w := w14) (z := .int .i32 0) (N := N) (e := 21) (show 0 < N by omega) rfl _
                        · go_wp2_with fail
                          go_meet
                          exact .inl ⟨by omega, rfl, rfl⟩
                      case rest =>
                        have RR14 := RowRel.start hcut h15.rd h15.hG h15.nrb (gOf 3 true [] ver) 1 3 []
                        clear hcut
                        obtain ⟨wl14, rfl⟩ : ∃ x : World, x = wc := ⟨_, rfl⟩
                        obtain ⟨av14, rfl⟩ : ∃ x : Value, x = u26 := ⟨_, rfl⟩
                        go_wp2_with fail
                        go_loopw [28] (fun i wr => ∃ k : Nat, k ≤ L14.toNat ∧ i = .int .i32 (k : Int) ∧ RowRel w14 wl14 wr w.heap.size G (gOf 3 true [] ver) (rdCLen (rdCStr sk7).2).2 L14.toNat 1 k [.int .i32 0] 21 3 [] (.slice none 0 0) av14) (fun i _ => L14.toNat - (intOf i).toNat)
                        case atStart => exact ⟨0, Nat.zero_le _, rfl, RR14⟩
                        case round =>
                          obtain ⟨wr14, rfl⟩ : ∃ x : World, x = wr := ⟨_, rfl⟩
                          obtain ⟨k16, hk16, rfl, RR⟩ := hrel
                          have KR14 := RR.keep
                          by_cases lt14 : (k16 : Int) < L14
                          · obtain ⟨row14, cap14, pre14, post14, rfl, hcap14, hrw14, hpre14, e14, cont14⟩ := RR.elem (by omega : k16 < L14.toNat)
                            clear RR RR14
                            have hrx14 : w.heap.size ≤ row14 := by have := h15.keep.size; have := h2.keep.size; have := KR1.size; have := h9.keep.size; have := KR7.size; omega
                            have KW14 : Keep [b, w.heap.size] w wr14 := Keep.trans (Keep.fresh (B := [b, w.heap.size]) ((KW7.weaken (B := [b, w.heap.size, row7]) (by simp)).trans (h15.keep.weaken (by simp))) (by simp; omega)) (KR14.weaken (by simp))
                            have HBF14 : Hid (((gOf 3 true [] ver) (rdTimes (gOf 3 true [] ver) k16 (rdCLen (rdCStr sk7).2).2).2).2.2 = true → (rdPart q_DescribeShareGroupOffsetsRequest ver true (l, false)).2.2 = true) := fun h => by
                              have hb : (rdF (.mk 11 0 (-1) (-1) (-1) 0 3 []) ver true (rdCStr sk7).2).2.2 = true := by
                                rw [rdF_clist HL14.out]
                                exact rdTimes_from (gOf_b 3 true [] ver) _ (k16 + 1) h _ (by omega)
                              exact HBF7.out (by rw [HEQ7.out]; exact rdTags_b _ (hb))
                            generalize (rdTimes (gOf 3 true [] ver) k16 (rdCLen (rdCStr sk7).2).2).2 = sk14 at *
                            have HEQ14 : Hid ((gOf 3 true [] ver) sk14 = (.mk (rdI 4 sk14).1 [] false [] [], (rdI 4 sk14).2)) := by
                              show _ = _
                              simp [gOf, rdK]
                            go_wp2_with (go_at_call 181; go_loud (refine (int32_any e14.rd e14.hG e14.nrb).mono ?_; rintro e we14 ⟨rfl, r14, k14⟩; have h17 := e14.call r14 k14; have c14 := h17.cellAt (o := k16) (by rw [hpre14]; simp); have f14 := h17.free (k16); have h18 := h17.one (v := .int .i32 (rdI 4 sk14).1) (ofk := 3) (fs := []) (o := k16) (by rw [hpre14]; simp) (fun _ _ _ => vk_one3 (rdI_range4 _)); clear e14 h17))
                            go_roundw
                            case rel => exact ⟨k16 + 1, by omega, by go_num, cont14 _ _ _ _ h18 rfl HEQ14.out⟩
                            case measure => simp [intOf]; omega
                          · obtain ⟨rr, kr, ⟨ao14, cp14, rfl⟩, vl⟩ := RR.fin (by omega) (.inl rfl)
                            clear RR RR14
                            have LE := rdF_clist (a := 0) (b := (-1)) (c := (-1)) (d := 0) (ofk := 3) (v := ver) (sub := []) HL14.out
                            have rr2 : Rd wr14 w.heap.size G (rdF (.mk 11 0 (-1) (-1) (-1) 0 3 []) ver true (rdCStr sk7).2).2 := by rw [LE]; exact rr
                            have vl2 := vl (decide (L14 ≤ 0)) (by simp)
                            have vl3 : VL wr14 (Nw G w14 w.heap.size wr14) (VK wr14 (Nw G w14 w.heap.size wr14) 3 (-1) (VFs wr14 (Nw G w14 w.heap.size wr14) [])) 1 (.slice ao14 L14.toNat cp14) (rdF (.mk 11 0 (-1) (-1) (-1) 0 3 []) ver true (rdCStr sk7).2).1 := by rw [LE]; exact vl2
                            have gr : ∀ i, Nw G w14 w.heap.size wr14 i → Nw G wr7 w.heap.size wr14 i := fun i hi => ⟨hi.1.imp id (Nat.le_trans h15.keep.size), hi.2⟩
                            have vl4 := VL.keepF (fun _ _ => rfl) gr (fun c t => VK.keepF (fun _ _ => rfl) gr (fun c l => VFs.keepF (fun _ _ => rfl) gr [])) vl3
                            have h19 := h15.call rr2 kr
                            clear rr rr2 vl vl2 vl3 LE
                            have c14 := h19.cellAt (o := k10 * 3 + 1) (el_at hpre7 rfl)
                            have f14 := h19.free (k10 * 3 + 1)
                            have h20 : ElSt wr7 (wr14.setCell ⟨row7, k10 * 3 + 1, none⟩ (.slice ao14 L14.toNat cp14)) row7 w.heap.size G (rdF (.mk 11 0 (-1) (-1) (-1) 0 3 []) ver true (rdCStr sk7).2).2 pre7 [.string ⟨(rdCStr sk7).1.toArray⟩, .slice ao14 L14.toNat cp14] [.map none] post7 166 [.mk 8 0 (-1) (-1) (-1) 0 0 [], .mk 11 0 (-1) (-1) (-1) 0 3 []] [(.mk 0 (rdCStr sk7).1 false [] []), (rdF (.mk 11 0 (-1) (-1) (-1) 0 3 []) ver true (rdCStr sk7).2).1] := h19.put (o := k10 * 3 + 1) (el_at hpre7 rfl) (vf_list rfl vl4)
                            clear h15 h19 vl4 gr
                            go_wp2_with (first
                              | (go_at_call 187; go_loud (refine (rtags_any h20.rd h20.hG h20.nrb).mono ?_; rintro e w21 ⟨tv21, rfl, mp21, mb21, r21, k21⟩; obtain ⟨mr21, rfl⟩ := mp21.shape; have mq21 := mp21.keepF (fun _ _ => rfl) (h20.nwNew (W := w21)); have h22 := h20.call r21 k21; have c21 := h22.cellAt (o := k10 * 3 + 2) (el_at hpre7 rfl); have f21 := h22.free (k10 * 3 + 2); have he23 := h22.tags (o := k10 * 3 + 2) (el_at hpre7 rfl) mq21; clear h20 h22)))
                            go_roundw
                            case rel => exact ⟨k10 + 1, by omega, by go_num, cont7 _ _ _ _ he23 rfl HEQ7.out⟩
                            case measure => simp [intOf]; omega
                  · obtain ⟨rr, kr, ⟨ao7, cp7, rfl⟩, vl⟩ := RR.fin (by omega) (vs7)
                    clear RR RR7
                    have LE := rdF_cnlist (show (0 : Int) ≤ 0 by decide) (a := 0) (b := (-1)) (c := (-1)) (d := 0) (ofk := 10) (v := ver) (sub := q_DescribeShareGroupOffsetsRequestGroupTopic) HL7.out
                    have rr2 : Rd wr7 w.heap.size G (rdF (.mk 11 0 (-1) 0 (-1) 0 10 q_DescribeShareGroupOffsetsRequestGroupTopic) ver true (rdCStr sk1).2).2 := by rw [LE]; exact rr
                    have vl2 := vl (decide ((0 : Int) ≤ ver) && decide (L7 < 0)) (by rw [vi7]; simp; omega)
                    have vl3 : VL wr7 (Nw G wv7 w.heap.size wr7) (VK wr7 (Nw G wv7 w.heap.size wr7) 10 (-1) (VFs wr7 (Nw G wv7 w.heap.size wr7) q_DescribeShareGroupOffsetsRequestGroupTopic)) 3 (.slice ao7 L7.toNat cp7) (rdF (.mk 11 0 (-1) 0 (-1) 0 10 q_DescribeShareGroupOffsetsRequestGroupTopic) ver true (rdCStr sk1).2).1 := by rw [LE]; exact vl2
                    have gr : ∀ i, Nw G wv7 w.heap.size wr7 i → Nw G wr1 w.heap.size wr7 i := fun i hi => ⟨hi.1.imp id (Nat.le_trans h9.keep.size), hi.2⟩
                    have vl4 := VL.keepF (fun _ _ => rfl) gr (fun c t => VK.keepF (fun _ _ => rfl) gr (fun c l => VFs.keepF (fun _ _ => rfl) gr q_DescribeShareGroupOffsetsRequestGroupTopic)) vl3
                    have h24 := h9.call rr2 kr
                    clear rr rr2 vl vl2 vl3 LE
                    have c7 := h24.cellAt (o := k3 * 3 + 1) (el_at hpre1 rfl)
                    have f7 := h24.free (k3 * 3 + 1)
                    have h25 : ElSt wr1 (wr7.setCell ⟨row1, k3 * 3 + 1, none⟩ (.slice ao7 L7.toNat cp7)) row1 w.heap.size G (rdF (.mk 11 0 (-1) 0 (-1) 0 10 q_DescribeShareGroupOffsetsRequestGroupTopic) ver true (rdCStr sk1).2).2 pre1 [.string ⟨(rdCStr sk1).1.toArray⟩, .slice ao7 L7.toNat cp7] [.map none] post1 162 [.mk 8 0 (-1) (-1) (-1) 0 0 [], .mk 11 0 (-1) 0 (-1) 0 10 q_DescribeShareGroupOffsetsRequestGroupTopic] [(.mk 0 (rdCStr sk1).1 false [] []), (rdF (.mk 11 0 (-1) 0 (-1) 0 10 q_DescribeShareGroupOffsetsRequestGroupTopic) ver true (rdCStr sk1).2).1] := h24.put (o := k3 * 3 + 1) (el_at hpre1 rfl) (vf_list rfl vl4)
                    clear h9 h24 vl4 gr
                    go_wp2_with (first
                      | (go_at_call 187; go_loud (refine (rtags_any h25.rd h25.hG h25.nrb).mono ?_; rintro e w26 ⟨tv26, rfl, mp26, mb26, r26, k26⟩; obtain ⟨mr26, rfl⟩ := mp26.shape; have mq26 := mp26.keepF (fun _ _ => rfl) (h25.nwNew (W := w26)); have h27 := h25.call r26 k26; have c26 := h27.cellAt (o := k3 * 3 + 2) (el_at hpre1 rfl); have f26 := h27.free (k3 * 3 + 2); have he28 := h27.tags (o := k3 * 3 + 2) (el_at hpre1 rfl) mq26; clear h25 h27)))
                    go_roundw
                    case rel => exact ⟨k3 + 1, by omega, by go_num, cont1 _ _ _ _ he28 rfl HEQ1.out⟩
                    case measure => simp [intOf]; omega
        · obtain ⟨rr, kr, ⟨ao1, cp1, rfl⟩, vl⟩ := RR.fin (by omega) (.inl rfl)
          clear RR RR1
          have LE := rdF_clist (a := 0) (b := (-1)) (c := (-1)) (d := 0) (ofk := 10) (v := ver) (sub := q_DescribeShareGroupOffsetsRequestGroup) HL1.out
          have rr2 : Rd wr1 w.heap.size G (rdF (.mk 11 0 (-1) (-1) (-1) 0 10 q_DescribeShareGroupOffsetsRequestGroup) ver true (l, false)).2 := by rw [LE]; exact rr
          have vl2 := vl (decide (L1 ≤ 0)) (by simp)
          have vl3 : VL wr1 (Nw G w1 w.heap.size wr1) (VK wr1 (Nw G w1 w.heap.size wr1) 10 (-1) (VFs wr1 (Nw G w1 w.heap.size wr1) q_DescribeShareGroupOffsetsRequestGroup)) 3 (.slice ao1 L1.toNat cp1) (rdF (.mk 11 0 (-1) (-1) (-1) 0 10 q_DescribeShareGroupOffsetsRequestGroup) ver true (l, false)).1 := by rw [LE]; exact vl2
          have gr : ∀ i, Nw G w1 w.heap.size wr1 i → Nw G w w.heap.size wr1 i := fun i hi => ⟨hi.1.imp id (Nat.le_trans h2.keep.size), hi.2⟩
          have vl4 := VL.keepF (fun _ _ => rfl) gr (fun c t => VK.keepF (fun _ _ => rfl) gr (fun c l => VFs.keepF (fun _ _ => rfl) gr q_DescribeShareGroupOffsetsRequestGroup)) vl3
          have h29 := h2.call rr2 kr
          clear rr rr2 vl vl2 vl3 LE
          have c1 := h29.cellAt (o := 1) rfl
          have f1 := h29.free (1)
          have h30 : ElSt w (wr1.setCell ⟨b, 1, none⟩ (.slice ao1 L1.toNat cp1)) b w.heap.size G (rdF (.mk 11 0 (-1) (-1) (-1) 0 10 q_DescribeShareGroupOffsetsRequestGroup) ver true (l, false)).2 [.int .i16 ver] [.slice ao1 L1.toNat cp1] [.map none] [] 158 [.mk 11 0 (-1) (-1) (-1) 0 10 q_DescribeShareGroupOffsetsRequestGroup] [(rdF (.mk 11 0 (-1) (-1) (-1) 0 10 q_DescribeShareGroupOffsetsRequestGroup) ver true (l, false)).1] := h29.put (o := 1) rfl (vf_list rfl vl4)
          clear h2 h29 vl4 gr
          go_wp2_with (first
            | (go_at_call 187; go_loud (refine (rtags_any h30.rd h30.hG h30.nrb).mono ?_; rintro e w31 ⟨tv31, rfl, mp31, mb31, r31, k31⟩; obtain ⟨mr31, rfl⟩ := mp31.shape; have mq31 := mp31.keepF (fun _ _ => rfl) (h30.nwNew (W := w31)); have h32 := h30.call r31 k31; have c31 := h32.cellAt (o := 2) rfl; have f31 := h32.free (2); have he33 := h32.tags (o := 2) rfl mq31; clear h30 h32))
            | (go_at_call 188; go_loud (refine (complete_any he33.rd (hg.keep he33.keep (by simp; omega))).mono ?_; rintro e wz ⟨rfl, kz⟩)))
          go_ret
          have hz := he33.calm hG hGb hbl he33.rd.lt' kz
          obtain ⟨q1, q2⟩ := hz.vm (Nat.le_refl _)
          rw [HEQ0.out]
          dsimp only
          exact ⟨by simp, q1, fun _ => q2⟩
end Go.Proofs.YtobbchmjgoaleaaGreatDoor
