/-
  MetadataRequest: reading.
-/
import Derived.Test.YtalogafpnfnohaaGreatDoorMMdr1
import Derived.Deep.CutBlock
import Derived.Deep.DeepCutAuto
namespace Go.Proofs.YtalogafpnfnohaaGreatDoor
open Go.ChangeShapes Go.WideShapes Go.ChangeAt Go.RowKit

set_option maxHeartbeats 40000000 in
set_option maxRecDepth 100000 in
theorem mdr_read_5s {G : Nat → Prop} {b : Nat} {p : Addr} {l : Bs} {src : Value} {w : World} {ver : Int} (hb : w.heap[b]? = some (.cells #[.int .i16 ver, .slice none 0 0, .bool false, .bool false, .bool false, .map none] 120 (0, 0))) (hl : RB w G src l) (hG : There G w) (hGb : ¬ G b) (hg : Gl w p) (hp : b ≠ 1) (hv0 : 0 ≤ ver) (_B1 : 1 ≤ ver) (_B4 : 4 ≤ ver) (_B8 : 8 ≤ ver) (_B9 : 9 ≤ ver) (_B10 : 10 ≤ ver) (_B11 : ¬ 11 ≤ ver) :
    Calls Tryz.prog 131 #[.pointer (some ⟨b, 0, none⟩), src, .bool false] w fun e w' => e = .returned (errV p (rdPart q_MetadataRequest ver true (l, false)).2.2) ∧ Keep [b] w w' ∧ ((rdPart q_MetadataRequest ver true (l, false)).2.2 = false → VM w' (New G w w') b q_MetadataRequest 120 ver (rdPart q_MetadataRequest ver true (l, false)).1) := by
  obtain ⟨ao, cap, rfl⟩ := RS.shape hl
  have hbl : b < w.heap.size := World.heap_lt hb
  have hp1 : 1 < w.heap.size := World.block_lt_of_cell? w _ hg
  have cv : (w.alloc (.cells #[.slice ao l.length cap, .bool false] 209)).cell? ⟨b, 0, none⟩ = some (.int .i16 ver) := ((keep_box (A := []) _).cell (p := ⟨b, 0, none⟩) hbl (by simp)).trans (cellOf hb 0 _ rfl)
  have h0 : ElSt w (w.alloc (.cells #[.slice ao l.length cap, .bool false] 209)) b w.heap.size G (l, false) [.int .i16 ver] [] [.slice none 0 0, .bool false, .bool false, .bool false, .map none] [] 120 [] [] :=
    ⟨⟨_, heap_alloc_new w _, hl.keepF (hG.same (keep_box _)) (fun _ h => h)⟩, ((keep_box (A := []) _).block b hbl (by simp)).trans hb, ⟨rfl, rfl⟩, (keep_box (A := []) _).weaken (by simp), hG, hGb, (fun e => by have := hG _ e; omega), hbl, by omega⟩
  clear hb
  have HEQ0 : Hid (rdPart q_MetadataRequest ver true (l, false) = (.mk 0 [] false [(rdF (.mk 11 0 (-1) 1 (-1) 0 10 q_MetadataRequestTopic) ver true (l, false)).1, (.mk (if (rdBool (rdF (.mk 11 0 (-1) 1 (-1) 0 10 q_MetadataRequestTopic) ver true (l, false)).2).1 then 1 else 0) [] false [] []), (.mk (if (rdBool (rdBool (rdF (.mk 11 0 (-1) 1 (-1) 0 10 q_MetadataRequestTopic) ver true (l, false)).2).2).1 then 1 else 0) [] false [] []), (.mk (if (rdBool (rdBool (rdBool (rdF (.mk 11 0 (-1) 1 (-1) 0 10 q_MetadataRequestTopic) ver true (l, false)).2).2).2).1 then 1 else 0) [] false [] [])] (rdTags (rdBool (rdBool (rdBool (rdF (.mk 11 0 (-1) 1 (-1) 0 10 q_MetadataRequestTopic) ver true (l, false)).2).2).2).2).1, (rdTags (rdBool (rdBool (rdBool (rdF (.mk 11 0 (-1) 1 (-1) 0 10 q_MetadataRequestTopic) ver true (l, false)).2).2).2).2).2)) := by
    show _ = _
    simp [rdPart, rdK, rdPartOf, q_MetadataRequest, rdFs, (has_yes (show (0 : Int) ≤ ver by omega) (.inl (by decide)) : F.has (.mk 11 0 (-1) 1 (-1) 0 10 q_MetadataRequestTopic) ver = true), (has_yes (show (4 : Int) ≤ ver by omega) (.inl (by decide)) : F.has (.mk 0 4 (-1) (-1) (-1) 0 0 []) ver = true), (has_yes (show (8 : Int) ≤ ver by omega) (.inr (show ver ≤ 10 by omega)) : F.has (.mk 0 8 10 (-1) (-1) 0 0 []) ver = true), (has_yes (show (8 : Int) ≤ ver by omega) (.inl (by decide)) : F.has (.mk 0 8 (-1) (-1) (-1) 0 0 []) ver = true), rdF]
  go_enter Tryz.func131, Tryz.ntmps131
  have cl1 := h0.cellAt (o := 1) rfl
  go_upto_if 49 with (first
    | (go_at_call 130; refine (d_MetadataRequest _ _).mono ?_; rintro e wd ⟨rfl, rfl⟩)
    | (go_at_call 168; go_loud (refine (clen_any h0.rd h0.hG h0.nrb).mono ?_; rintro e w1 ⟨rfl, r1, k1⟩; have lr1 := rdCLen_range (l, false); have h2 := h0.call r1 k1; clear r1 k1; generalize hl1 : (rdCLen (l, false)).1 = L1 at *; have HL1 : Hid _ := hl1; clear h0 hl1)))
  go_cut [12] (fun av wx => Keep [] w1 wx ∧ V0 (¬ (1 : Int) ≤ ver ∨ L1 = 0) av)
  case first =>
    by_cases hp : L1 = 0
    · have hd : (L1 == 0) = true := by simp [hp]
      have HP : Hid _ := hp
      have HC : Hid (∀ P : Prop, (1 ≤ ver ∧ (L1 == 0) = false) → P) := fun P h => (by rw [hd] at h; simp at h)
      clear hp
      go_wp2_with (first | (go_meet; exact ⟨(Keep.refl _ _).alloc _, fun _ => ⟨_, rfl⟩, fun h => absurd (Or.inr HP.out) h⟩) | exact HC.out _ (by assumption))
    · have hd : (L1 == 0) = false := by simp [hp]
      have HP : Hid _ := hp
      have HC : Hid (∀ P : Prop, (ver < 1 ∨ (L1 == 0) = true) → P) := fun P h => (by rcases h with h | h; omega; rw [hd] at h; simp at h)
      clear hp
      go_wp2_with (first | (go_meet; exact ⟨Keep.refl _ _, fun h => (by rcases h with h | h; (exfalso; omega); exact (HP.out h).elim), fun _ => rfl⟩) | exact HC.out _ (by assumption))
  case rest =>
    obtain ⟨wv1, rfl⟩ : ∃ x : World, x = wc := ⟨_, rfl⟩
    obtain ⟨v0_1, rfl⟩ : ∃ x : Value, x = u12 := ⟨_, rfl⟩
    obtain ⟨kv1, vz1⟩ := hcut
    obtain ⟨⟨av0_1, rfl⟩, vs1, vi1⟩ := vz1.shape
    have h3 := h2.calm kv1
    clear h2 vz1
    cases hbad1 : (rdCLen (l, false)).2.2
    case true =>
      have HB : (rdPart q_MetadataRequest ver true (l, false)).2.2 = true := by rw [HEQ0.out]; (try dsimp only); exact rdTags_b _ (rdN_b 1 _ (rdN_b 1 _ (rdN_b 1 _ ((show (rdF (.mk 11 0 (-1) 1 (-1) 0 10 q_MetadataRequestTopic) ver true (l, false)).2.2 = true from clist_bad hbad1)))))
      have HBB : Hid _ := HB
      clear HB
      go_wp2_with (first
        | (go_at_call 170; refine (ok_any h3.rd).mono ?_; rintro e wo ⟨rfl, rfl⟩; rw [hbad1])
        | (go_at_call 171; go_loud (refine (complete_any h3.rd (hg.keep (h3.keep) (by simp; omega))).mono ?_; rintro e wz ⟨rfl, kz⟩; rw [hbad1])))
      go_ret
      rw [HBB.out]
      exact ⟨by simp, (Keep.fresh (B := [b]) (h3.keep) (by simp)).trans (kz.weaken (by simp)), fun e => by cases e⟩
    case false =>
      go_upto_if 57 with (go_at_call 170; refine (ok_any h3.rd).mono ?_; rintro e wo ⟨rfl, rfl⟩; rw [hbad1])
      go_cut [12] (fun av wx => RowIni wv1 wx (.slice av0_1 0 0) av L1.toNat [.int .u8 0, .int .u8 0, .int .u8 0, .int .u8 0, .int .u8 0, .int .u8 0, .int .u8 0, .int .u8 0, .int .u8 0, .int .u8 0, .int .u8 0, .int .u8 0, .int .u8 0, .int .u8 0, .int .u8 0, .int .u8 0, .pointer none, .map none] 125)
      case first =>
        by_cases hp : 0 < L1
        · obtain ⟨N, rfl⟩ : ∃ N : Nat, L1 = N := ⟨L1.toNat, by omega⟩
          obtain ⟨i0, hi, hz0, hz1, hz2⟩ := info_bd info_MetadataRequestTopic
          have AP := run_append_empty_zeros (P := Tryz.prog) wv1 118 21 118 125 i0 _ .i32 .i32 Tryz.underlying118 Tryz.underlying21 hi hz0 N (by omega) (by omega) (by omega) (Nat.le_trans (Nat.mul_le_mul_left N hz2) (by omega)) av0_1
          go_wp2_with (first
            | (at_builtin; go_loud (refine Lib.wpList_append_run _ rfl (.tmp 58) (.tmp 59) 118 21 rfl _ _ rfl rfl _ _ AP ?_))
            | (go_meet; rw [Int.toNat_natCast]; exact RowIni.made2 (w := wv1) (z := .agg #[.int .u8 0, .int .u8 0, .int .u8 0, .int .u8 0, .int .u8 0, .int .u8 0, .int .u8 0, .int .u8 0, .int .u8 0, .int .u8 0, .int .u8 0, .int .u8 0, .int .u8 0, .int .u8 0, .int .u8 0, .int .u8 0, .pointer none, .map none]) (N := N) (e := 125) (show 0 < N by omega) rfl _))
        · go_wp2_with (go_meet; exact .inl ⟨by omega, rfl, rfl⟩)
      case rest =>
        have RR1 := RowRel.start hcut h3.rd h3.hG h3.nrb (gOf 10 true q_MetadataRequestTopic ver) 18 10 q_MetadataRequestTopic
        clear hcut
        obtain ⟨wl1, rfl⟩ : ∃ x : World, x = wc := ⟨_, rfl⟩
        obtain ⟨av1, rfl⟩ : ∃ x : Value, x = u12 := ⟨_, rfl⟩
        go_wp2_with fail
        go_loopw [14] (fun i wr => ∃ k : Nat, k ≤ L1.toNat ∧ i = .int .i32 (k : Int) ∧ RowRel wv1 wl1 wr w.heap.size G (gOf 10 true q_MetadataRequestTopic ver) (rdCLen (l, false)).2 L1.toNat 18 k [.int .u8 0, .int .u8 0, .int .u8 0, .int .u8 0, .int .u8 0, .int .u8 0, .int .u8 0, .int .u8 0, .int .u8 0, .int .u8 0, .int .u8 0, .int .u8 0, .int .u8 0, .int .u8 0, .int .u8 0, .int .u8 0, .pointer none, .map none] 125 10 q_MetadataRequestTopic (.slice av0_1 0 0) av1) (fun i _ => L1.toNat - (intOf i).toNat)
        case atStart => exact ⟨0, Nat.zero_le _, rfl, RR1⟩
        case round =>
          obtain ⟨wr1, rfl⟩ : ∃ x : World, x = wr := ⟨_, rfl⟩
          obtain ⟨k4, hk4, rfl, RR⟩ := hrel
          have KR1 := RR.keep
          by_cases lt1 : (k4 : Int) < L1
          · obtain ⟨row1, cap1, pre1, post1, rfl, hcap1, hrw1, hpre1, e1, cont1⟩ := RR.elem (by omega : k4 < L1.toNat)
            clear RR RR1
            have hrx1 : w.heap.size ≤ row1 := by have := h3.keep.size; omega
            have KW1 : Keep [b, w.heap.size] w wr1 := Keep.trans (h3.keep) (KR1.weaken (by simp))
            have HBF1 : Hid (((gOf 10 true q_MetadataRequestTopic ver) (rdTimes (gOf 10 true q_MetadataRequestTopic ver) k4 (rdCLen (l, false)).2).2).2.2 = true → (rdPart q_MetadataRequest ver true (l, false)).2.2 = true) := fun h => by
              have hb : (rdF (.mk 11 0 (-1) 1 (-1) 0 10 q_MetadataRequestTopic) ver true (l, false)).2.2 = true := by
                rw [rdF_cnlist (show (0 : Int) ≤ 1 by decide) HL1.out]
                exact rdTimes_from (gOf_b 10 true q_MetadataRequestTopic ver) _ (k4 + 1) h _ (by omega)
              exact by rw [HEQ0.out]; (try dsimp only); exact rdTags_b _ (rdN_b 1 _ (rdN_b 1 _ (rdN_b 1 _ (hb))))
            generalize (rdTimes (gOf 10 true q_MetadataRequestTopic ver) k4 (rdCLen (l, false)).2).2 = sk1 at *
            have HEQ1 : Hid ((gOf 10 true q_MetadataRequestTopic ver) sk1 = (.mk 0 [] false [(.mk 0 (rdUuid sk1).1 false [] []), (nstrT (rdCNStr (rdUuid sk1).2).1)] (rdTags (rdCNStr (rdUuid sk1).2).2).1, (rdTags (rdCNStr (rdUuid sk1).2).2).2)) := by
              show _ = _
              simp [gOf, rdK, rdPartOf, q_MetadataRequestTopic, rdFs, (has_yes (show (10 : Int) ≤ ver by omega) (.inl (by decide)) : F.has (.mk 7 10 (-1) (-1) (-1) 0 0 []) ver = true), (has_yes (show (0 : Int) ≤ ver by omega) (.inl (by decide)) : F.has (.mk 8 0 (-1) 10 (-1) 0 0 []) ver = true), rdF, (show (10 : Int) ≤ ver by omega)]
            go_wp2_with (first
              | (go_at_call 190; go_loud (refine (d_MetadataRequestTopic _ _).mono ?_; rintro e wd ⟨rfl, rfl⟩))
              | (go_at_call 191; go_loud (refine (uuid_lit e1.rd e1.hG e1.nrb).mono ?_; rintro e w5 ⟨y5_0, y5_1, y5_2, y5_3, y5_4, y5_5, y5_6, y5_7, y5_8, y5_9, y5_10, y5_11, y5_12, y5_13, y5_14, y5_15, hx5, rfl, r5, k5⟩; have h6 := e1.call r5 k5; have h7 := h6.calm (U' := (w5.alloc (.cells #[.int .u8 (y5_0.toNat : Int), .int .u8 (y5_1.toNat : Int), .int .u8 (y5_2.toNat : Int), .int .u8 (y5_3.toNat : Int), .int .u8 (y5_4.toNat : Int), .int .u8 (y5_5.toNat : Int), .int .u8 (y5_6.toNat : Int), .int .u8 (y5_7.toNat : Int), .int .u8 (y5_8.toNat : Int), .int .u8 (y5_9.toNat : Int), .int .u8 (y5_10.toNat : Int), .int .u8 (y5_11.toNat : Int), .int .u8 (y5_12.toNat : Int), .int .u8 (y5_13.toNat : Int), .int .u8 (y5_14.toNat : Int), .int .u8 (y5_15.toNat : Int)] 123))) (keep_box _); have c5_0 := h7.cellN 0 (o := k4 * 18) rfl (el_atN0 hpre1 rfl); have f5_0 := h7.free (k4 * 18); have c5_1 := h7.cellN 1 (o := k4 * 18 + 1) rfl (el_atN hpre1 rfl); have f5_1 := h7.free (k4 * 18 + 1); have c5_2 := h7.cellN 2 (o := k4 * 18 + 2) rfl (el_atN hpre1 rfl); have f5_2 := h7.free (k4 * 18 + 2); have c5_3 := h7.cellN 3 (o := k4 * 18 + 3) rfl (el_atN hpre1 rfl); have f5_3 := h7.free (k4 * 18 + 3); have c5_4 := h7.cellN 4 (o := k4 * 18 + 4) rfl (el_atN hpre1 rfl); have f5_4 := h7.free (k4 * 18 + 4); have c5_5 := h7.cellN 5 (o := k4 * 18 + 5) rfl (el_atN hpre1 rfl); have f5_5 := h7.free (k4 * 18 + 5); have c5_6 := h7.cellN 6 (o := k4 * 18 + 6) rfl (el_atN hpre1 rfl); have f5_6 := h7.free (k4 * 18 + 6); have c5_7 := h7.cellN 7 (o := k4 * 18 + 7) rfl (el_atN hpre1 rfl); have f5_7 := h7.free (k4 * 18 + 7); have c5_8 := h7.cellN 8 (o := k4 * 18 + 8) rfl (el_atN hpre1 rfl); have f5_8 := h7.free (k4 * 18 + 8); have c5_9 := h7.cellN 9 (o := k4 * 18 + 9) rfl (el_atN hpre1 rfl); have f5_9 := h7.free (k4 * 18 + 9); have c5_10 := h7.cellN 10 (o := k4 * 18 + 10) rfl (el_atN hpre1 rfl); have f5_10 := h7.free (k4 * 18 + 10); have c5_11 := h7.cellN 11 (o := k4 * 18 + 11) rfl (el_atN hpre1 rfl); have f5_11 := h7.free (k4 * 18 + 11); have c5_12 := h7.cellN 12 (o := k4 * 18 + 12) rfl (el_atN hpre1 rfl); have f5_12 := h7.free (k4 * 18 + 12); have c5_13 := h7.cellN 13 (o := k4 * 18 + 13) rfl (el_atN hpre1 rfl); have f5_13 := h7.free (k4 * 18 + 13); have c5_14 := h7.cellN 14 (o := k4 * 18 + 14) rfl (el_atN hpre1 rfl); have f5_14 := h7.free (k4 * 18 + 14); have c5_15 := h7.cellN 15 (o := k4 * 18 + 15) rfl (el_atN hpre1 rfl); have f5_15 := h7.free (k4 * 18 + 15); obtain ⟨cu5, hl_cu5, h8⟩ : ∃ cu5 : List Value, cu5.length = 16 ∧ ElSt wr1 (((((((((((((((((w5.alloc (.cells #[.int .u8 (y5_0.toNat : Int), .int .u8 (y5_1.toNat : Int), .int .u8 (y5_2.toNat : Int), .int .u8 (y5_3.toNat : Int), .int .u8 (y5_4.toNat : Int), .int .u8 (y5_5.toNat : Int), .int .u8 (y5_6.toNat : Int), .int .u8 (y5_7.toNat : Int), .int .u8 (y5_8.toNat : Int), .int .u8 (y5_9.toNat : Int), .int .u8 (y5_10.toNat : Int), .int .u8 (y5_11.toNat : Int), .int .u8 (y5_12.toNat : Int), .int .u8 (y5_13.toNat : Int), .int .u8 (y5_14.toNat : Int), .int .u8 (y5_15.toNat : Int)] 123)).setCell ⟨row1, k4 * 18, none⟩ (.int .u8 (y5_0.toNat : Int))).setCell ⟨row1, k4 * 18 + 1, none⟩ (.int .u8 (y5_1.toNat : Int))).setCell ⟨row1, k4 * 18 + 2, none⟩ (.int .u8 (y5_2.toNat : Int))).setCell ⟨row1, k4 * 18 + 3, none⟩ (.int .u8 (y5_3.toNat : Int))).setCell ⟨row1, k4 * 18 + 4, none⟩ (.int .u8 (y5_4.toNat : Int))).setCell ⟨row1, k4 * 18 + 5, none⟩ (.int .u8 (y5_5.toNat : Int))).setCell ⟨row1, k4 * 18 + 6, none⟩ (.int .u8 (y5_6.toNat : Int))).setCell ⟨row1, k4 * 18 + 7, none⟩ (.int .u8 (y5_7.toNat : Int))).setCell ⟨row1, k4 * 18 + 8, none⟩ (.int .u8 (y5_8.toNat : Int))).setCell ⟨row1, k4 * 18 + 9, none⟩ (.int .u8 (y5_9.toNat : Int))).setCell ⟨row1, k4 * 18 + 10, none⟩ (.int .u8 (y5_10.toNat : Int))).setCell ⟨row1, k4 * 18 + 11, none⟩ (.int .u8 (y5_11.toNat : Int))).setCell ⟨row1, k4 * 18 + 12, none⟩ (.int .u8 (y5_12.toNat : Int))).setCell ⟨row1, k4 * 18 + 13, none⟩ (.int .u8 (y5_13.toNat : Int))).setCell ⟨row1, k4 * 18 + 14, none⟩ (.int .u8 (y5_14.toNat : Int))).setCell ⟨row1, k4 * 18 + 15, none⟩ (.int .u8 (y5_15.toNat : Int))) row1 w.heap.size G (rdUuid sk1).2 pre1 ([] ++ cu5) [.pointer none, .map none] post1 125 [.mk 7 10 (-1) (-1) (-1) 0 0 []] [(.mk 0 (rdUuid sk1).1 false [] [])] := ⟨_, rfl, h7.put16 (el_at0 hpre1 rfl) (el_atN hpre1 rfl) (el_atN hpre1 rfl) (el_atN hpre1 rfl) (el_atN hpre1 rfl) (el_atN hpre1 rfl) (el_atN hpre1 rfl) (el_atN hpre1 rfl) (el_atN hpre1 rfl) (el_atN hpre1 rfl) (el_atN hpre1 rfl) (el_atN hpre1 rfl) (el_atN hpre1 rfl) (el_atN hpre1 rfl) (el_atN hpre1 rfl) (el_atN hpre1 rfl) (vf_uuid2 (x := (rdUuid sk1).1) (by rw [hx5]; rfl) (pad16_length _))⟩; clear r5 k5 e1 h6 h7))
              | (go_at_call 165; go_loud (clear c5_0 f5_0 c5_1 f5_1 c5_2 f5_2 c5_3 f5_3 c5_4 f5_4 c5_5 f5_5 c5_6 f5_6 c5_7 f5_7 c5_8 f5_8 c5_9 f5_9 c5_10 f5_10 c5_11 f5_11 c5_12 f5_12 c5_13 f5_13 c5_14 f5_14 c5_15 f5_15 hx5; refine (cnstring_any h8.rd h8.hG h8.nrb).mono ?_; rintro e w9 ⟨pv9, rfl, ps9, r9, k9⟩; obtain ⟨pa9, rfl⟩ := ps9.shape; have nw9 := h8.nwOf (W := w9); have h10 := h8.call r9 k9; have c9 := h10.cellAt (o := k4 * 18 + 16) (el_at hpre1 (by simp [hl_cu5])); have f9 := h10.free (k4 * 18 + 16); have h11 : ElSt wr1 (w9.setCell ⟨row1, k4 * 18 + 16, none⟩ (.pointer pa9)) row1 w.heap.size G (rdCNStr (rdUuid sk1).2).2 pre1 (([] ++ cu5) ++ [.pointer pa9]) [.map none] post1 125 [.mk 7 10 (-1) (-1) (-1) 0 0 [], .mk 8 0 (-1) 10 (-1) 0 0 []] [(.mk 0 (rdUuid sk1).1 false [] []), (nstrT (rdCNStr (rdUuid sk1).2).1)] := h10.put (o := k4 * 18 + 16) (el_at hpre1 (by simp [hl_cu5])) (vf_nstr (by decide) (ps9.keepF (fun _ _ => rfl) nw9)); clear r9 k9 h8 h10))
              | (go_at_call 178; go_loud (refine (rtags_any h11.rd h11.hG h11.nrb).mono ?_; rintro e w12 ⟨tv12, rfl, mp12, mb12, r12, k12⟩; obtain ⟨mr12, rfl⟩ := mp12.shape; have mq12 := mp12.keepF (fun _ _ => rfl) (h11.nwNew (W := w12)); have h13 := h11.call r12 k12; have c12 := h13.cellAt (o := k4 * 18 + 17) (el_at hpre1 (by simp [hl_cu5])); have f12 := h13.free (k4 * 18 + 17); have he14 := h13.tags (o := k4 * 18 + 17) (el_at hpre1 (by simp [hl_cu5])) mq12; clear r12 k12 h11 h13))
              | ( go_roundw; (case rel => exact ⟨k4 + 1, by omega, by go_num, cont1 _ _ _ _ he14 (by simp [hl_cu5]) HEQ1.out⟩); (case measure => (simp [intOf]; omega))))
          · obtain ⟨rr, kr, ⟨ao1, cp1, rfl⟩, vl⟩ := RR.fin (by omega) (vs1)
            clear RR RR1
            have LE := rdF_cnlist (show (0 : Int) ≤ 1 by decide) (a := 0) (b := (-1)) (c := (-1)) (d := 0) (ofk := 10) (v := ver) (sub := q_MetadataRequestTopic) HL1.out
            have rr2 : Rd wr1 w.heap.size G (rdF (.mk 11 0 (-1) 1 (-1) 0 10 q_MetadataRequestTopic) ver true (l, false)).2 := by rw [LE]; exact rr
            have vl2 := vl (decide ((1 : Int) ≤ ver) && decide (L1 < 0)) (by rw [vi1]; simp; omega)
            have vl3 : VL wr1 (Nw G wv1 w.heap.size wr1) (VK wr1 (Nw G wv1 w.heap.size wr1) 10 (-1) (VFs wr1 (Nw G wv1 w.heap.size wr1) q_MetadataRequestTopic)) 18 (.slice ao1 L1.toNat cp1) (rdF (.mk 11 0 (-1) 1 (-1) 0 10 q_MetadataRequestTopic) ver true (l, false)).1 := by rw [LE]; exact vl2
            have gr : ∀ i, Nw G wv1 w.heap.size wr1 i → Nw G w w.heap.size wr1 i := fun i hi => ⟨hi.1.imp id (Nat.le_trans h3.keep.size), hi.2⟩
            have vl4 := VL.keepF (fun _ _ => rfl) gr (fun c t => VK.keepF (fun _ _ => rfl) gr (fun c l => VFs.keepF (fun _ _ => rfl) gr q_MetadataRequestTopic)) vl3
            have h15 := h3.call rr2 kr
            clear rr rr2 vl vl2 vl3 LE
            have c1 := h15.cellAt (o := 1) rfl
            have f1 := h15.free (1)
            have h16 : ElSt w (wr1.setCell ⟨b, 1, none⟩ (.slice ao1 L1.toNat cp1)) b w.heap.size G (rdF (.mk 11 0 (-1) 1 (-1) 0 10 q_MetadataRequestTopic) ver true (l, false)).2 [.int .i16 ver] [.slice ao1 L1.toNat cp1] [.bool false, .bool false, .bool false, .map none] [] 120 [.mk 11 0 (-1) 1 (-1) 0 10 q_MetadataRequestTopic] [(rdF (.mk 11 0 (-1) 1 (-1) 0 10 q_MetadataRequestTopic) ver true (l, false)).1] := h15.put (o := 1) rfl (vf_list rfl vl4)
            clear h3 h15 vl4 gr
            go_wp2_with (first
              | (go_at_call 187; go_loud (refine (bool_any h16.rd h16.hG h16.nrb).mono ?_; rintro e w17 ⟨rfl, r17, k17⟩; have h18 := h16.call r17 k17; have c17 := h18.cellAt (o := 2) rfl; have f17 := h18.free (2); have h19 : ElSt w (w17.setCell ⟨b, 2, none⟩ (.bool (rdBool (rdF (.mk 11 0 (-1) 1 (-1) 0 10 q_MetadataRequestTopic) ver true (l, false)).2).1)) b w.heap.size G (rdBool (rdF (.mk 11 0 (-1) 1 (-1) 0 10 q_MetadataRequestTopic) ver true (l, false)).2).2 [.int .i16 ver] [.slice ao1 L1.toNat cp1, .bool (rdBool (rdF (.mk 11 0 (-1) 1 (-1) 0 10 q_MetadataRequestTopic) ver true (l, false)).2).1] [.bool false, .bool false, .map none] [] 120 [.mk 11 0 (-1) 1 (-1) 0 10 q_MetadataRequestTopic, .mk 0 4 (-1) (-1) (-1) 0 0 []] [(rdF (.mk 11 0 (-1) 1 (-1) 0 10 q_MetadataRequestTopic) ver true (l, false)).1, (.mk (if (rdBool (rdF (.mk 11 0 (-1) 1 (-1) 0 10 q_MetadataRequestTopic) ver true (l, false)).2).1 then 1 else 0) [] false [] [])] := h18.put (o := 2) rfl (vf_bool); clear r17 k17 h16 h18))
              | (go_at_call 187; go_loud (refine (bool_any h19.rd h19.hG h19.nrb).mono ?_; rintro e w20 ⟨rfl, r20, k20⟩; have h21 := h19.call r20 k20; have c20 := h21.cellAt (o := 3) rfl; have f20 := h21.free (3); have h22 : ElSt w (w20.setCell ⟨b, 3, none⟩ (.bool (rdBool (rdBool (rdF (.mk 11 0 (-1) 1 (-1) 0 10 q_MetadataRequestTopic) ver true (l, false)).2).2).1)) b w.heap.size G (rdBool (rdBool (rdF (.mk 11 0 (-1) 1 (-1) 0 10 q_MetadataRequestTopic) ver true (l, false)).2).2).2 [.int .i16 ver] [.slice ao1 L1.toNat cp1, .bool (rdBool (rdF (.mk 11 0 (-1) 1 (-1) 0 10 q_MetadataRequestTopic) ver true (l, false)).2).1, .bool (rdBool (rdBool (rdF (.mk 11 0 (-1) 1 (-1) 0 10 q_MetadataRequestTopic) ver true (l, false)).2).2).1] [.bool false, .map none] [] 120 [.mk 11 0 (-1) 1 (-1) 0 10 q_MetadataRequestTopic, .mk 0 4 (-1) (-1) (-1) 0 0 [], .mk 0 8 10 (-1) (-1) 0 0 []] [(rdF (.mk 11 0 (-1) 1 (-1) 0 10 q_MetadataRequestTopic) ver true (l, false)).1, (.mk (if (rdBool (rdF (.mk 11 0 (-1) 1 (-1) 0 10 q_MetadataRequestTopic) ver true (l, false)).2).1 then 1 else 0) [] false [] []), (.mk (if (rdBool (rdBool (rdF (.mk 11 0 (-1) 1 (-1) 0 10 q_MetadataRequestTopic) ver true (l, false)).2).2).1 then 1 else 0) [] false [] [])] := h21.put (o := 3) rfl (vf_bool); clear r20 k20 h19 h21))
              | (go_at_call 187; go_loud (refine (bool_any h22.rd h22.hG h22.nrb).mono ?_; rintro e w23 ⟨rfl, r23, k23⟩; have h24 := h22.call r23 k23; have c23 := h24.cellAt (o := 4) rfl; have f23 := h24.free (4); have h25 : ElSt w (w23.setCell ⟨b, 4, none⟩ (.bool (rdBool (rdBool (rdBool (rdF (.mk 11 0 (-1) 1 (-1) 0 10 q_MetadataRequestTopic) ver true (l, false)).2).2).2).1)) b w.heap.size G (rdBool (rdBool (rdBool (rdF (.mk 11 0 (-1) 1 (-1) 0 10 q_MetadataRequestTopic) ver true (l, false)).2).2).2).2 [.int .i16 ver] [.slice ao1 L1.toNat cp1, .bool (rdBool (rdF (.mk 11 0 (-1) 1 (-1) 0 10 q_MetadataRequestTopic) ver true (l, false)).2).1, .bool (rdBool (rdBool (rdF (.mk 11 0 (-1) 1 (-1) 0 10 q_MetadataRequestTopic) ver true (l, false)).2).2).1, .bool (rdBool (rdBool (rdBool (rdF (.mk 11 0 (-1) 1 (-1) 0 10 q_MetadataRequestTopic) ver true (l, false)).2).2).2).1] [.map none] [] 120 [.mk 11 0 (-1) 1 (-1) 0 10 q_MetadataRequestTopic, .mk 0 4 (-1) (-1) (-1) 0 0 [], .mk 0 8 10 (-1) (-1) 0 0 [], .mk 0 8 (-1) (-1) (-1) 0 0 []] [(rdF (.mk 11 0 (-1) 1 (-1) 0 10 q_MetadataRequestTopic) ver true (l, false)).1, (.mk (if (rdBool (rdF (.mk 11 0 (-1) 1 (-1) 0 10 q_MetadataRequestTopic) ver true (l, false)).2).1 then 1 else 0) [] false [] []), (.mk (if (rdBool (rdBool (rdF (.mk 11 0 (-1) 1 (-1) 0 10 q_MetadataRequestTopic) ver true (l, false)).2).2).1 then 1 else 0) [] false [] []), (.mk (if (rdBool (rdBool (rdBool (rdF (.mk 11 0 (-1) 1 (-1) 0 10 q_MetadataRequestTopic) ver true (l, false)).2).2).2).1 then 1 else 0) [] false [] [])] := h24.put (o := 4) rfl (vf_bool); clear r23 k23 h22 h24))
              | (go_at_call 178; go_loud (refine (rtags_any h25.rd h25.hG h25.nrb).mono ?_; rintro e w26 ⟨tv26, rfl, mp26, mb26, r26, k26⟩; obtain ⟨mr26, rfl⟩ := mp26.shape; have mq26 := mp26.keepF (fun _ _ => rfl) (h25.nwNew (W := w26)); have h27 := h25.call r26 k26; have c26 := h27.cellAt (o := 5) rfl; have f26 := h27.free (5); have he28 := h27.tags (o := 5) rfl mq26; clear r26 k26 h25 h27))
              | (go_at_call 171; go_loud (refine (complete_any he28.rd (hg.keep he28.keep (by simp; omega))).mono ?_; rintro e wz ⟨rfl, kz⟩)))
            go_ret
            have hz := he28.calm hG hGb hbl he28.rd.lt' kz
            obtain ⟨q1, q2⟩ := hz.vm (Nat.le_refl _)
            rw [HEQ0.out]
            dsimp only
            exact ⟨by simp, q1, fun _ => q2⟩
end Go.Proofs.YtalogafpnfnohaaGreatDoor
