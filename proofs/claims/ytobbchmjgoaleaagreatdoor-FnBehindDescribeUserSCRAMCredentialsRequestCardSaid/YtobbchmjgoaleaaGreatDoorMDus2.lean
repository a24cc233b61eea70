/-
  DescribeUserSCRAMCredentialsRequest: reading.
-/
import Derived.Test.YtobbchmjgoaleaaGreatDoorMDus1
import Derived.Deep.CutBlock
import Derived.Deep.DeepCutAuto
namespace Go.Proofs.YtobbchmjgoaleaaGreatDoor
open Go.ChangeShapes Go.WideShapes Go.ChangeAt Go.RowKit

set_option maxHeartbeats 4000000 in
set_option maxRecDepth 100000 in
theorem dus_read_0s {G : Nat → Prop} {b : Nat} {p : Addr} {l : Bs} {src : Value} {w : World} {ver : Int} (hb : w.heap[b]? = some (.cells #[.int .i16 ver, .slice none 0 0, .map none] 111 (0, 0))) (hl : RB w G src l) (hG : There G w) (hGb : ¬ G b) (hg : Gl w p) (hp : b ≠ 1) (hv0 : 0 ≤ ver)  :
    Calls Tryz.prog 154 #[.pointer (some ⟨b, 0, none⟩), src, .bool false] w fun e w' => e = .returned (errV p (rdPart q_DescribeUserSCRAMCredentialsRequest ver true (l, false)).2.2) ∧ Keep [b] w w' ∧ ((rdPart q_DescribeUserSCRAMCredentialsRequest ver true (l, false)).2.2 = false → VM w' (New G w w') b q_DescribeUserSCRAMCredentialsRequest 111 ver (rdPart q_DescribeUserSCRAMCredentialsRequest ver true (l, false)).1) := by
  obtain ⟨ao, cap, rfl⟩ := RS.shape hl
  have hbl : b < w.heap.size := World.heap_lt hb
  have hp1 : 1 < w.heap.size := World.block_lt_of_cell? w _ hg
  have cv : (w.alloc (.cells #[.slice ao l.length cap, .bool false] 175)).cell? ⟨b, 0, none⟩ = some (.int .i16 ver) := ((keep_box (A := []) _).cell (p := ⟨b, 0, none⟩) hbl (by simp)).trans (cellOf hb 0 _ rfl)
  have h0 : ElSt w (w.alloc (.cells #[.slice ao l.length cap, .bool false] 175)) b w.heap.size G (l, false) [.int .i16 ver] [] [.slice none 0 0, .map none] [] 111 [] [] :=
    ⟨⟨_, heap_alloc_new w _, hl.keepF (hG.same (keep_box _)) (fun _ h => h)⟩, ((keep_box (A := []) _).block b hbl (by simp)).trans hb, ⟨rfl, rfl⟩, (keep_box (A := []) _).weaken (by simp), hG, hGb, (fun e => by have := hG _ e; omega), hbl, by omega⟩
  clear hb
  have HEQ0 : Hid (rdPart q_DescribeUserSCRAMCredentialsRequest ver true (l, false) = (.mk 0 [] false [(rdF (.mk 11 0 (-1) 0 (-1) 0 10 q_DescribeUserSCRAMCredentialsRequestUser) ver true (l, false)).1] (rdTags (rdF (.mk 11 0 (-1) 0 (-1) 0 10 q_DescribeUserSCRAMCredentialsRequestUser) ver true (l, false)).2).1, (rdTags (rdF (.mk 11 0 (-1) 0 (-1) 0 10 q_DescribeUserSCRAMCredentialsRequestUser) ver true (l, false)).2).2)) := by
    show _ = _
    simp [rdPart, rdPartOf, q_DescribeUserSCRAMCredentialsRequest, rdFs, (has_yes (show (0 : Int) ≤ ver by omega) (.inl (by decide)) : F.has (.mk 11 0 (-1) 0 (-1) 0 10 q_DescribeUserSCRAMCredentialsRequestUser) ver = true), rdF]
  go_enter Tryz.func154, Tryz.ntmps154
  have cl1 := h0.cellAt (o := 1) rfl
  go_upto_if 44 with (first
    | (go_at_call 153; refine (d_DescribeUserSCRAMCredentialsRequest _ _).mono ?_; rintro e wd ⟨rfl, rfl⟩)
    | (go_at_call 201; go_loud (refine (clen_any h0.rd h0.hG h0.nrb).mono ?_; rintro e w1 ⟨rfl, r1, k1⟩; have lr1 := rdCLen_range (l, false); have h2 := h0.call r1 k1; clear r1; generalize hl1 : (rdCLen (l, false)).1 = L1 at *; have HL1 : Hid _ := hl1; clear h0 hl1)))
  go_cut [12] (fun av wx => Keep [] w1 wx ∧ V0 (¬ (0 : Int) ≤ ver ∨ L1 = 0) av)
  case first =>
    by_cases hp : L1 = 0
    · have hd : (L1 == 0) = true := by simp [hp]
      have HP : Hid _ := hp
      have HC : Hid (∀ P : Prop, (0 ≤ ver ∧ (L1 == 0) = false) → P) := fun P h => (by rw [hd] at h; simp at h)
      clear hp
      go_wp2_with fail
      all_goals first
        | (go_meet; exact ⟨(Keep.refl _ _).alloc _, fun _ => ⟨_, rfl⟩, fun h => absurd (Or.inr HP.out) h⟩)
        | exact HC.out _ (by assumption)
    · have hd : (L1 == 0) = false := by simp [hp]
      have HP : Hid _ := hp
      have HC : Hid (∀ P : Prop, (ver < 0 ∨ (L1 == 0) = true) → P) := fun P h => (by rcases h with h | h; omega; rw [hd] at h; simp at h)
      clear hp
      go_wp2_with fail
      all_goals first
        | (go_meet; exact ⟨Keep.refl _ _, fun h => (by rcases h with h | h; (exfalso; omega); exact (HP.out h).elim), fun _ => rfl⟩)
        | exact HC.out _ (by assumption)
  case rest =>
    obtain ⟨wv1, rfl⟩ : ∃ x : World, x = wc := ⟨_, rfl⟩
    obtain ⟨v0_1, rfl⟩ : ∃ x : Value, x = u12 := ⟨_, rfl⟩
    obtain ⟨kv1, vz1⟩ := hcut
    obtain ⟨⟨av0_1, rfl⟩, vs1, vi1⟩ := vz1.shape
    have h3 := h2.calm kv1
    clear h2 vz1
    cases hbad1 : (rdCLen (l, false)).2.2
    case true =>
      have HB : (rdPart q_DescribeUserSCRAMCredentialsRequest ver true (l, false)).2.2 = true := by rw [HEQ0.out]; exact rdTags_b _ ((show (rdF (.mk 11 0 (-1) 0 (-1) 0 10 q_DescribeUserSCRAMCredentialsRequestUser) ver true (l, false)).2.2 = true from clist_bad hbad1))
      have HBB : Hid _ := HB
      clear HB
      go_wp2_with (first
        | (go_at_call 203; refine (ok_any h3.rd).mono ?_; rintro e wo ⟨rfl, rfl⟩; rw [hbad1])
        | (go_at_call 188; go_loud (refine (complete_any h3.rd (hg.keep (h3.keep) (by simp; omega))).mono ?_; rintro e wz ⟨rfl, kz⟩; rw [hbad1])))
      go_ret
      rw [HBB.out]
      exact ⟨by simp, (Keep.fresh (B := [b]) (h3.keep) (by simp)).trans (kz.weaken (by simp)), fun e => by cases e⟩
    case false =>
      go_upto_if 52 with (go_at_call 203; refine (ok_any h3.rd).mono ?_; rintro e wo ⟨rfl, rfl⟩; rw [hbad1])
      go_cut [12] (fun av wx => RowIni wv1 wx (.slice av0_1 0 0) av L1.toNat [.string ⟨#[]⟩, .map none] 115)
      case first =>
        by_cases hp : 0 < L1
        · obtain ⟨N, rfl⟩ : ∃ N : Nat, L1 = N := ⟨L1.toNat, by omega⟩
          obtain ⟨i0, hi, hz0, hz1, hz2⟩ := info_bd info_DescribeUserSCRAMCredentialsRequestUser
          have AP := run_append_empty_zeros (P := Tryz.prog) wv1 109 21 109 115 i0 _ .i32 .i32 Tryz.underlying109 Tryz.underlying21 hi hz0 N (by omega) (by omega) (by omega) (Nat.le_trans (Nat.mul_le_mul_left N hz2) (by omega)) av0_1
          go_wp2_with (at_builtin; go_loud (refine Lib.wpList_append_run _ rfl (.tmp 53) (.tmp 54) 109 21 rfl _ _ rfl rfl _ _ AP ?_))
          go_meet
          rw [Int.toNat_natCast]
          exact RowIni.made2 (w := wv1) (z := .agg #[.string ⟨#[]⟩, .map none]) (N := N) (e := 115) (show 0 < N by omega) rfl _
        · go_wp2_with fail
          go_meet
          exact .inl ⟨by omega, rfl, rfl⟩
      case rest =>
        have RR1 := RowRel.start hcut h3.rd h3.hG h3.nrb (gOf 10 true q_DescribeUserSCRAMCredentialsRequestUser ver) 2 10 q_DescribeUserSCRAMCredentialsRequestUser
        clear hcut
        obtain ⟨wl1, rfl⟩ : ∃ x : World, x = wc := ⟨_, rfl⟩
        obtain ⟨av1, rfl⟩ : ∃ x : Value, x = u12 := ⟨_, rfl⟩
        go_wp2_with fail
        go_loopw [14] (fun i wr => ∃ k : Nat, k ≤ L1.toNat ∧ i = .int .i32 (k : Int) ∧ RowRel wv1 wl1 wr w.heap.size G (gOf 10 true q_DescribeUserSCRAMCredentialsRequestUser ver) (rdCLen (l, false)).2 L1.toNat 2 k [.string ⟨#[]⟩, .map none] 115 10 q_DescribeUserSCRAMCredentialsRequestUser (.slice av0_1 0 0) av1) (fun i _ => L1.toNat - (intOf i).toNat)
        case atStart => exact ⟨0, Nat.zero_le _, rfl, RR1⟩
        case round =>
          obtain ⟨wr1, rfl⟩ : ∃ x : World, x = wr := ⟨_, rfl⟩
          obtain ⟨k4, hk4, rfl, RR⟩ := hrel
          have KR1 := RR.keep
          by_cases lt1 : (k4 : Int) < L1
          · obtain ⟨row1, cap1, pre1, post1, rfl, hcap1, hrw1, hpre1, e1, cont1⟩ := RR.elem (by omega : k4 < L1.toNat)
            clear RR RR1
            have hrx1 : w.heap.size ≤ row1 := by have := h3.keep.size; omega
            have KW1 : Keep [b, w.heap.size] w wr1 := Keep.trans (h3.keep) (KR1.weaken (by simp))
            have HBF1 : Hid (((gOf 10 true q_DescribeUserSCRAMCredentialsRequestUser ver) (rdTimes (gOf 10 true q_DescribeUserSCRAMCredentialsRequestUser ver) k4 (rdCLen (l, false)).2).2).2.2 = true → (rdPart q_DescribeUserSCRAMCredentialsRequest ver true (l, false)).2.2 = true) := fun h => by
              have hb : (rdF (.mk 11 0 (-1) 0 (-1) 0 10 q_DescribeUserSCRAMCredentialsRequestUser) ver true (l, false)).2.2 = true := by
                rw [rdF_cnlist (show (0 : Int) ≤ 0 by decide) HL1.out]
                exact rdTimes_from (gOf_b 10 true q_DescribeUserSCRAMCredentialsRequestUser ver) _ (k4 + 1) h _ (by omega)
              exact by rw [HEQ0.out]; exact rdTags_b _ (hb)
            generalize (rdTimes (gOf 10 true q_DescribeUserSCRAMCredentialsRequestUser ver) k4 (rdCLen (l, false)).2).2 = sk1 at *
            have HEQ1 : Hid ((gOf 10 true q_DescribeUserSCRAMCredentialsRequestUser ver) sk1 = (.mk 0 [] false [(.mk 0 (rdCStr sk1).1 false [] [])] (rdTags (rdCStr sk1).2).1, (rdTags (rdCStr sk1).2).2)) := by
              show _ = _
              simp [gOf, rdK, rdPartOf, q_DescribeUserSCRAMCredentialsRequestUser, rdFs, (has_yes (show (0 : Int) ≤ ver by omega) (.inl (by decide)) : F.has (.mk 8 0 (-1) (-1) (-1) 0 0 []) ver = true), rdF]
            go_wp2_with (first
              | (go_at_call 204; go_loud (refine (d_DescribeUserSCRAMCredentialsRequestUser _ _).mono ?_; rintro e wd ⟨rfl, rfl⟩))
              | (go_at_call 196; go_loud (refine (cstring_any e1.rd e1.hG e1.nrb).mono ?_; rintro e w5 ⟨he5, r5, k5⟩; unfold str at he5; subst he5; have h6 := e1.call r5 k5; have c5 := h6.cellAt (o := k4 * 2) (el_at0 hpre1 rfl); have f5 := h6.free (k4 * 2); have h7 : ElSt wr1 (w5.setCell ⟨row1, k4 * 2, none⟩ (.string ⟨(rdCStr sk1).1.toArray⟩)) row1 w.heap.size G (rdCStr sk1).2 pre1 [.string ⟨(rdCStr sk1).1.toArray⟩] [.map none] post1 115 [.mk 8 0 (-1) (-1) (-1) 0 0 []] [(.mk 0 (rdCStr sk1).1 false [] [])] := h6.put (o := k4 * 2) (el_at0 hpre1 rfl) (vf_str (by decide) _); clear e1 h6))
              | (go_at_call 187; go_loud (refine (rtags_any h7.rd h7.hG h7.nrb).mono ?_; rintro e w8 ⟨tv8, rfl, mp8, mb8, r8, k8⟩; obtain ⟨mr8, rfl⟩ := mp8.shape; have mq8 := mp8.keepF (fun _ _ => rfl) (h7.nwNew (W := w8)); have h9 := h7.call r8 k8; have c8 := h9.cellAt (o := k4 * 2 + 1) (el_at hpre1 rfl); have f8 := h9.free (k4 * 2 + 1); have he10 := h9.tags (o := k4 * 2 + 1) (el_at hpre1 rfl) mq8; clear h7 h9)))
            go_roundw
            case rel => exact ⟨k4 + 1, by omega, by go_num, cont1 _ _ _ _ he10 rfl HEQ1.out⟩
            case measure => simp [intOf]; omega
          · obtain ⟨rr, kr, ⟨ao1, cp1, rfl⟩, vl⟩ := RR.fin (by omega) (vs1)
            clear RR RR1
            have LE := rdF_cnlist (show (0 : Int) ≤ 0 by decide) (a := 0) (b := (-1)) (c := (-1)) (d := 0) (ofk := 10) (v := ver) (sub := q_DescribeUserSCRAMCredentialsRequestUser) HL1.out
            have rr2 : Rd wr1 w.heap.size G (rdF (.mk 11 0 (-1) 0 (-1) 0 10 q_DescribeUserSCRAMCredentialsRequestUser) ver true (l, false)).2 := by rw [LE]; exact rr
            have vl2 := vl (decide ((0 : Int) ≤ ver) && decide (L1 < 0)) (by rw [vi1]; simp; omega)
            have vl3 : VL wr1 (Nw G wv1 w.heap.size wr1) (VK wr1 (Nw G wv1 w.heap.size wr1) 10 (-1) (VFs wr1 (Nw G wv1 w.heap.size wr1) q_DescribeUserSCRAMCredentialsRequestUser)) 2 (.slice ao1 L1.toNat cp1) (rdF (.mk 11 0 (-1) 0 (-1) 0 10 q_DescribeUserSCRAMCredentialsRequestUser) ver true (l, false)).1 := by rw [LE]; exact vl2
            have gr : ∀ i, Nw G wv1 w.heap.size wr1 i → Nw G w w.heap.size wr1 i := fun i hi => ⟨hi.1.imp id (Nat.le_trans h3.keep.size), hi.2⟩
            have vl4 := VL.keepF (fun _ _ => rfl) gr (fun c t => VK.keepF (fun _ _ => rfl) gr (fun c l => VFs.keepF (fun _ _ => rfl) gr q_DescribeUserSCRAMCredentialsRequestUser)) vl3
            have h11 := h3.call rr2 kr
            clear rr rr2 vl vl2 vl3 LE
            have c1 := h11.cellAt (o := 1) rfl
            have f1 := h11.free (1)
            have h12 : ElSt w (wr1.setCell ⟨b, 1, none⟩ (.slice ao1 L1.toNat cp1)) b w.heap.size G (rdF (.mk 11 0 (-1) 0 (-1) 0 10 q_DescribeUserSCRAMCredentialsRequestUser) ver true (l, false)).2 [.int .i16 ver] [.slice ao1 L1.toNat cp1] [.map none] [] 111 [.mk 11 0 (-1) 0 (-1) 0 10 q_DescribeUserSCRAMCredentialsRequestUser] [(rdF (.mk 11 0 (-1) 0 (-1) 0 10 q_DescribeUserSCRAMCredentialsRequestUser) ver true (l, false)).1] := h11.put (o := 1) rfl (vf_list rfl vl4)
            clear h3 h11 vl4 gr
            go_wp2_with (first
              | (go_at_call 187; go_loud (refine (rtags_any h12.rd h12.hG h12.nrb).mono ?_; rintro e w13 ⟨tv13, rfl, mp13, mb13, r13, k13⟩; obtain ⟨mr13, rfl⟩ := mp13.shape; have mq13 := mp13.keepF (fun _ _ => rfl) (h12.nwNew (W := w13)); have h14 := h12.call r13 k13; have c13 := h14.cellAt (o := 2) rfl; have f13 := h14.free (2); have he15 := h14.tags (o := 2) rfl mq13; clear h12 h14))
              | (go_at_call 188; go_loud (refine (complete_any he15.rd (hg.keep he15.keep (by simp; omega))).mono ?_; rintro e wz ⟨rfl, kz⟩)))
            go_ret
            have hz := he15.calm hG hGb hbl he15.rd.lt' kz
            obtain ⟨q1, q2⟩ := hz.vm (Nat.le_refl _)
            rw [HEQ0.out]
            dsimp only
            exact ⟨by simp, q1, fun _ => q2⟩
end Go.Proofs.YtobbchmjgoaleaaGreatDoor
