/-
  MetadataRequest: reading.
-/
import Derived.Test.YtalogafpnfnohaaGreatDoorMMdr1
import Derived.Deep.CutBlock
import Derived.Deep.DeepCutAuto
namespace Go.Proofs.YtalogafpnfnohaaGreatDoor
open Go.ChangeShapes Go.WideShapes Go.ChangeAt Go.RowKit

set_option maxHeartbeats 40000000 in
set_option maxRecDepth 100000 in
theorem mdr_read_0s {G : Nat → Prop} {b : Nat} {p : Addr} {l : Bs} {src : Value} {w : World} {ver : Int} (hb : w.heap[b]? = some (.cells #[.int .i16 ver, .slice none 0 0, .bool false, .bool false, .bool false, .map none] 120 (0, 0))) (hl : RB w G src l) (hG : There G w) (hGb : ¬ G b) (hg : Gl w p) (hp : b ≠ 1) (hv0 : 0 ≤ ver) (_B1 : ¬ 1 ≤ ver) (_B4 : ¬ 4 ≤ ver) (_B8 : ¬ 8 ≤ ver) (_B9 : ¬ 9 ≤ ver) (_B10 : ¬ 10 ≤ ver) (_B11 : ¬ 11 ≤ ver) :
    Calls Tryz.prog 131 #[.pointer (some ⟨b, 0, none⟩), src, .bool false] w fun e w' => e = .returned (errV p (rdPart q_MetadataRequest ver false (l, false)).2.2) ∧ Keep [b] w w' ∧ ((rdPart q_MetadataRequest ver false (l, false)).2.2 = false → VM w' (New G w w') b q_MetadataRequest 120 ver (rdPart q_MetadataRequest ver false (l, false)).1) := by
  obtain ⟨ao, cap, rfl⟩ := RS.shape hl
  have hbl : b < w.heap.size := World.heap_lt hb
  have hp1 : 1 < w.heap.size := World.block_lt_of_cell? w _ hg
  have cv : (w.alloc (.cells #[.slice ao l.length cap, .bool false] 209)).cell? ⟨b, 0, none⟩ = some (.int .i16 ver) := ((keep_box (A := []) _).cell (p := ⟨b, 0, none⟩) hbl (by simp)).trans (cellOf hb 0 _ rfl)
  have h0 : ElSt w (w.alloc (.cells #[.slice ao l.length cap, .bool false] 209)) b w.heap.size G (l, false) [.int .i16 ver] [] [.slice none 0 0, .bool false, .bool false, .bool false, .map none] [] 120 [] [] :=
    ⟨⟨_, heap_alloc_new w _, hl.keepF (hG.same (keep_box _)) (fun _ h => h)⟩, ((keep_box (A := []) _).block b hbl (by simp)).trans hb, ⟨rfl, rfl⟩, (keep_box (A := []) _).weaken (by simp), hG, hGb, (fun e => by have := hG _ e; omega), hbl, by omega⟩
  clear hb
  have HEQ0 : Hid (rdPart q_MetadataRequest ver false (l, false) = (.mk 0 [] false [(rdF (.mk 11 0 (-1) 1 (-1) 0 10 q_MetadataRequestTopic) ver false (l, false)).1, (.mk 0 [] false [] []), (.mk 0 [] false [] []), (.mk 0 [] false [] [])] [], (rdF (.mk 11 0 (-1) 1 (-1) 0 10 q_MetadataRequestTopic) ver false (l, false)).2)) := by
    show _ = _
    simp [rdPart, rdPartOf, q_MetadataRequest, rdFs, (has_yes (show (0 : Int) ≤ ver by omega) (.inl (by decide)) : F.has (.mk 11 0 (-1) 1 (-1) 0 10 q_MetadataRequestTopic) ver = true), (has_no1 (show ¬ (4 : Int) ≤ ver by omega) : F.has (.mk 0 4 (-1) (-1) (-1) 0 0 []) ver = false), (has_no1 (show ¬ (8 : Int) ≤ ver by omega) : F.has (.mk 0 8 10 (-1) (-1) 0 0 []) ver = false), (has_no1 (show ¬ (8 : Int) ≤ ver by omega) : F.has (.mk 0 8 (-1) (-1) (-1) 0 0 []) ver = false), rdF, dflF]
  go_enter Tryz.func131, Tryz.ntmps131
  have cl1 := h0.cellAt (o := 1) rfl
  go_upto_if 49 with (first
    | (go_at_call 130; refine (d_MetadataRequest _ _).mono ?_; rintro e wd ⟨rfl, rfl⟩)
    | (go_at_call 169; go_loud (refine (len_any h0.rd h0.hG h0.nrb).mono ?_; rintro e w1 ⟨rfl, r1, k1⟩; have lr1 := rdLen_range (l, false); have h2 := h0.call r1 k1; clear r1 k1; generalize hl1 : (rdLen (l, false)).1 = L1 at *; have HL1 : Hid _ := hl1; clear h0 hl1)))
  go_cut [12] (fun av wx => Keep [] w1 wx ∧ V0 (¬ (1 : Int) ≤ ver ∨ L1 = 0) av)
  case first =>
    have hq : ver < 1 := by omega
    go_wp2_with (go_meet; exact ⟨(Keep.refl _ _).alloc _, fun _ => ⟨_, rfl⟩, fun h => absurd (Or.inl (by omega)) h⟩)
  case rest =>
    obtain ⟨wv1, rfl⟩ : ∃ x : World, x = wc := ⟨_, rfl⟩
    obtain ⟨v0_1, rfl⟩ : ∃ x : Value, x = u12 := ⟨_, rfl⟩
    obtain ⟨kv1, vz1⟩ := hcut
    obtain ⟨⟨av0_1, rfl⟩, vs1, vi1⟩ := vz1.shape
    have h3 := h2.calm kv1
    clear h2 vz1
    cases hbad1 : (rdLen (l, false)).2.2
    case true =>
      have HB : (rdPart q_MetadataRequest ver false (l, false)).2.2 = true := by rw [HEQ0.out]; (try dsimp only); exact (show (rdF (.mk 11 0 (-1) 1 (-1) 0 10 q_MetadataRequestTopic) ver false (l, false)).2.2 = true from list_bad hbad1)
      have HBB : Hid _ := HB
      clear HB
      go_wp2_with (first
        | (go_at_call 170; refine (ok_any h3.rd).mono ?_; rintro e wo ⟨rfl, rfl⟩; rw [hbad1])
        | (go_at_call 171; go_loud (refine (complete_any h3.rd (hg.keep (h3.keep) (by simp; omega))).mono ?_; rintro e wz ⟨rfl, kz⟩; rw [hbad1])))
      go_ret
      rw [HBB.out]
      exact ⟨by simp, (Keep.fresh (B := [b]) (h3.keep) (by simp)).trans (kz.weaken (by simp)), fun e => by cases e⟩
    case false =>
      go_upto_if 57 with (go_at_call 170; refine (ok_any h3.rd).mono ?_; rintro e wo ⟨rfl, rfl⟩; rw [hbad1])
      go_cut [12] (fun av wx => RowIni wv1 wx (.slice av0_1 0 0) av L1.toNat [.int .u8 0, .int .u8 0, .int .u8 0, .int .u8 0, .int .u8 0, .int .u8 0, .int .u8 0, .int .u8 0, .int .u8 0, .int .u8 0, .int .u8 0, .int .u8 0, .int .u8 0, .int .u8 0, .int .u8 0, .int .u8 0, .pointer none, .map none] 125)
      case first =>
        by_cases hp : 0 < L1
        · obtain ⟨N, rfl⟩ : ∃ N : Nat, L1 = N := ⟨L1.toNat, by omega⟩
          obtain ⟨i0, hi, hz0, hz1, hz2⟩ := info_bd info_MetadataRequestTopic
          have AP := run_append_empty_zeros (P := Tryz.prog) wv1 118 21 118 125 i0 _ .i32 .i32 Tryz.underlying118 Tryz.underlying21 hi hz0 N (by omega) (by omega) (by omega) (Nat.le_trans (Nat.mul_le_mul_left N hz2) (by omega)) av0_1
          go_wp2_with (first
            | (at_builtin; go_loud (refine Lib.wpList_append_run _ rfl (.tmp 58) (.tmp 59) 118 21 rfl _ _ rfl rfl _ _ AP ?_))
            | (go_meet; rw [Int.toNat_natCast]; exact RowIni.made2 (w := wv1) (z := .agg #[.int .u8 0, .int .u8 0, .int .u8 0, .int .u8 0, .int .u8 0, .int .u8 0, .int .u8 0, .int .u8 0, .int .u8 0, .int .u8 0, .int .u8 0, .int .u8 0, .int .u8 0, .int .u8 0, .int .u8 0, .int .u8 0, .pointer none, .map none]) (N := N) (e := 125) (show 0 < N by omega) rfl _))
        · go_wp2_with (go_meet; exact .inl ⟨by omega, rfl, rfl⟩)
      case rest =>
        have RR1 := RowRel.start hcut h3.rd h3.hG h3.nrb (gOf 10 false q_MetadataRequestTopic ver) 18 10 q_MetadataRequestTopic
        clear hcut
        obtain ⟨wl1, rfl⟩ : ∃ x : World, x = wc := ⟨_, rfl⟩
        obtain ⟨av1, rfl⟩ : ∃ x : Value, x = u12 := ⟨_, rfl⟩
        go_wp2_with fail
        go_loopw [14] (fun i wr => ∃ k : Nat, k ≤ L1.toNat ∧ i = .int .i32 (k : Int) ∧ RowRel wv1 wl1 wr w.heap.size G (gOf 10 false q_MetadataRequestTopic ver) (rdLen (l, false)).2 L1.toNat 18 k [.int .u8 0, .int .u8 0, .int .u8 0, .int .u8 0, .int .u8 0, .int .u8 0, .int .u8 0, .int .u8 0, .int .u8 0, .int .u8 0, .int .u8 0, .int .u8 0, .int .u8 0, .int .u8 0, .int .u8 0, .int .u8 0, .pointer none, .map none] 125 10 q_MetadataRequestTopic (.slice av0_1 0 0) av1) (fun i _ => L1.toNat - (intOf i).toNat)
        case atStart => exact ⟨0, Nat.zero_le _, rfl, RR1⟩
        case round =>
          obtain ⟨wr1, rfl⟩ : ∃ x : World, x = wr := ⟨_, rfl⟩
          obtain ⟨k4, hk4, rfl, RR⟩ := hrel
          have KR1 := RR.keep
          by_cases lt1 : (k4 : Int) < L1
          · obtain ⟨row1, cap1, pre1, post1, rfl, hcap1, hrw1, hpre1, e1, cont1⟩ := RR.elem (by omega : k4 < L1.toNat)
            clear RR RR1
            have hrx1 : w.heap.size ≤ row1 := by have := h3.keep.size; omega
            have KW1 : Keep [b, w.heap.size] w wr1 := Keep.trans (h3.keep) (KR1.weaken (by simp))
            have HBF1 : Hid (((gOf 10 false q_MetadataRequestTopic ver) (rdTimes (gOf 10 false q_MetadataRequestTopic ver) k4 (rdLen (l, false)).2).2).2.2 = true → (rdPart q_MetadataRequest ver false (l, false)).2.2 = true) := fun h => by
              have hb : (rdF (.mk 11 0 (-1) 1 (-1) 0 10 q_MetadataRequestTopic) ver false (l, false)).2.2 = true := by
                rw [rdF_nlist (show (0 : Int) ≤ 1 by decide) HL1.out]
                exact rdTimes_from (gOf_b 10 false q_MetadataRequestTopic ver) _ (k4 + 1) h _ (by omega)
              exact by rw [HEQ0.out]; (try dsimp only); exact hb
            generalize (rdTimes (gOf 10 false q_MetadataRequestTopic ver) k4 (rdLen (l, false)).2).2 = sk1 at *
            have HEQ1 : Hid ((gOf 10 false q_MetadataRequestTopic ver) sk1 = (.mk 0 [] false [(.mk 0 (List.replicate 16 0) false [] []), (.mk 0 (rdStr sk1).1 false [] [])] [], (rdStr sk1).2)) := by
              show _ = _
              simp [gOf, rdK, rdPartOf, q_MetadataRequestTopic, rdFs, (has_no1 (show ¬ (10 : Int) ≤ ver by omega) : F.has (.mk 7 10 (-1) (-1) (-1) 0 0 []) ver = false), (has_yes (show (0 : Int) ≤ ver by omega) (.inl (by decide)) : F.has (.mk 8 0 (-1) 10 (-1) 0 0 []) ver = true), rdF, dflF, (show ¬ (10 : Int) ≤ ver by omega)]
            go_wp2_with (first
              | (go_at_call 190; go_loud (refine (d_MetadataRequestTopic _ _).mono ?_; rintro e wd ⟨rfl, rfl⟩))
              | (go_at_call 176; go_loud (have h5 : ElSt wr1 wr1 row1 w.heap.size G sk1 pre1 [.int .u8 0, .int .u8 0, .int .u8 0, .int .u8 0, .int .u8 0, .int .u8 0, .int .u8 0, .int .u8 0, .int .u8 0, .int .u8 0, .int .u8 0, .int .u8 0, .int .u8 0, .int .u8 0, .int .u8 0, .int .u8 0] [.pointer none, .map none] post1 125 [.mk 7 10 (-1) (-1) (-1) 0 0 []] [(.mk 0 (List.replicate 16 0) false [] [])] := e1.passN (xs := [.int .u8 0, .int .u8 0, .int .u8 0, .int .u8 0, .int .u8 0, .int .u8 0, .int .u8 0, .int .u8 0, .int .u8 0, .int .u8 0, .int .u8 0, .int .u8 0, .int .u8 0, .int .u8 0, .int .u8 0, .int .u8 0]) (rest := [.pointer none, .map none]) (vf_uuid2 (x := List.replicate 16 0) rfl (by decide)); clear e1; have h7 := h5.calm (U' := (wr1.alloc (.cells #[.string ⟨#[]⟩] 9))) (keep_box _); refine (string_any h7.rd h7.hG h7.nrb).mono ?_; rintro e w6 ⟨he6, r6, k6⟩; unfold str at he6; subst he6; obtain ⟨cb6, fb6, h8, ps6⟩ := h5.boxed (x := (rdStr sk1).1) r6 k6; unfold str at h8 ps6; have c6 := h8.cellAt (o := k4 * 18 + 16) (el_at hpre1 rfl); have f6 := h8.free (k4 * 18 + 16); have h9 : ElSt wr1 ((w6.setCell ⟨wr1.heap.size, 0, none⟩ (.string ⟨(rdStr sk1).1.toArray⟩)).setCell ⟨row1, k4 * 18 + 16, none⟩ (.pointer (some ⟨wr1.heap.size, 0, none⟩))) row1 w.heap.size G (rdStr sk1).2 pre1 [.int .u8 0, .int .u8 0, .int .u8 0, .int .u8 0, .int .u8 0, .int .u8 0, .int .u8 0, .int .u8 0, .int .u8 0, .int .u8 0, .int .u8 0, .int .u8 0, .int .u8 0, .int .u8 0, .int .u8 0, .int .u8 0, .pointer (some ⟨wr1.heap.size, 0, none⟩)] [.map none] post1 125 [.mk 7 10 (-1) (-1) (-1) 0 0 [], .mk 8 0 (-1) 10 (-1) 0 0 []] [(.mk 0 (List.replicate 16 0) false [] []), (.mk 0 (rdStr sk1).1 false [] [])] := h8.put (o := k4 * 18 + 16) (el_at hpre1 rfl) (vf_nstr (by decide) ps6); clear r6 k6 h5 h7 h8))
              | (have he10 := h9.bare; go_roundw; (case rel => exact ⟨k4 + 1, by omega, by go_num, cont1 _ _ _ _ he10 rfl HEQ1.out⟩); (case measure => (simp [intOf]; omega))))
          · obtain ⟨rr, kr, ⟨ao1, cp1, rfl⟩, vl⟩ := RR.fin (by omega) (vs1)
            clear RR RR1
            have LE := rdF_nlist (show (0 : Int) ≤ 1 by decide) (a := 0) (b := (-1)) (c := (-1)) (d := 0) (ofk := 10) (v := ver) (sub := q_MetadataRequestTopic) HL1.out
            have rr2 : Rd wr1 w.heap.size G (rdF (.mk 11 0 (-1) 1 (-1) 0 10 q_MetadataRequestTopic) ver false (l, false)).2 := by rw [LE]; exact rr
            have vl2 := vl (decide ((1 : Int) ≤ ver) && decide (L1 < 0)) (by rw [vi1]; simp; omega)
            have vl3 : VL wr1 (Nw G wv1 w.heap.size wr1) (VK wr1 (Nw G wv1 w.heap.size wr1) 10 (-1) (VFs wr1 (Nw G wv1 w.heap.size wr1) q_MetadataRequestTopic)) 18 (.slice ao1 L1.toNat cp1) (rdF (.mk 11 0 (-1) 1 (-1) 0 10 q_MetadataRequestTopic) ver false (l, false)).1 := by rw [LE]; exact vl2
            have gr : ∀ i, Nw G wv1 w.heap.size wr1 i → Nw G w w.heap.size wr1 i := fun i hi => ⟨hi.1.imp id (Nat.le_trans h3.keep.size), hi.2⟩
            have vl4 := VL.keepF (fun _ _ => rfl) gr (fun c t => VK.keepF (fun _ _ => rfl) gr (fun c l => VFs.keepF (fun _ _ => rfl) gr q_MetadataRequestTopic)) vl3
            have h11 := h3.call rr2 kr
            clear rr rr2 vl vl2 vl3 LE
            have c1 := h11.cellAt (o := 1) rfl
            have f1 := h11.free (1)
            have h12 : ElSt w (wr1.setCell ⟨b, 1, none⟩ (.slice ao1 L1.toNat cp1)) b w.heap.size G (rdF (.mk 11 0 (-1) 1 (-1) 0 10 q_MetadataRequestTopic) ver false (l, false)).2 [.int .i16 ver] [.slice ao1 L1.toNat cp1] [.bool false, .bool false, .bool false, .map none] [] 120 [.mk 11 0 (-1) 1 (-1) 0 10 q_MetadataRequestTopic] [(rdF (.mk 11 0 (-1) 1 (-1) 0 10 q_MetadataRequestTopic) ver false (l, false)).1] := h11.put (o := 1) rfl (vf_list rfl vl4)
            clear h3 h11 vl4 gr
            have h13 : ElSt w (wr1.setCell ⟨b, 1, none⟩ (.slice ao1 L1.toNat cp1)) b w.heap.size G (rdF (.mk 11 0 (-1) 1 (-1) 0 10 q_MetadataRequestTopic) ver false (l, false)).2 [.int .i16 ver] [.slice ao1 L1.toNat cp1, .bool false] [.bool false, .bool false, .map none] [] 120 [.mk 11 0 (-1) 1 (-1) 0 10 q_MetadataRequestTopic, .mk 0 4 (-1) (-1) (-1) 0 0 []] [(rdF (.mk 11 0 (-1) 1 (-1) 0 10 q_MetadataRequestTopic) ver false (l, false)).1, (.mk 0 [] false [] [])] := h12.pass (vf_bool (x := false))
            clear h12
            have h14 : ElSt w (wr1.setCell ⟨b, 1, none⟩ (.slice ao1 L1.toNat cp1)) b w.heap.size G (rdF (.mk 11 0 (-1) 1 (-1) 0 10 q_MetadataRequestTopic) ver false (l, false)).2 [.int .i16 ver] [.slice ao1 L1.toNat cp1, .bool false, .bool false] [.bool false, .map none] [] 120 [.mk 11 0 (-1) 1 (-1) 0 10 q_MetadataRequestTopic, .mk 0 4 (-1) (-1) (-1) 0 0 [], .mk 0 8 10 (-1) (-1) 0 0 []] [(rdF (.mk 11 0 (-1) 1 (-1) 0 10 q_MetadataRequestTopic) ver false (l, false)).1, (.mk 0 [] false [] []), (.mk 0 [] false [] [])] := h13.pass (vf_bool (x := false))
            clear h13
            have h15 : ElSt w (wr1.setCell ⟨b, 1, none⟩ (.slice ao1 L1.toNat cp1)) b w.heap.size G (rdF (.mk 11 0 (-1) 1 (-1) 0 10 q_MetadataRequestTopic) ver false (l, false)).2 [.int .i16 ver] [.slice ao1 L1.toNat cp1, .bool false, .bool false, .bool false] [.map none] [] 120 [.mk 11 0 (-1) 1 (-1) 0 10 q_MetadataRequestTopic, .mk 0 4 (-1) (-1) (-1) 0 0 [], .mk 0 8 10 (-1) (-1) 0 0 [], .mk 0 8 (-1) (-1) (-1) 0 0 []] [(rdF (.mk 11 0 (-1) 1 (-1) 0 10 q_MetadataRequestTopic) ver false (l, false)).1, (.mk 0 [] false [] []), (.mk 0 [] false [] []), (.mk 0 [] false [] [])] := h14.pass (vf_bool (x := false))
            clear h14
            have he16 := h15.bare
            go_wp2_with (first
              | (go_at_call 171; go_loud (refine (complete_any he16.rd (hg.keep he16.keep (by simp; omega))).mono ?_; rintro e wz ⟨rfl, kz⟩)))
            go_ret
            have hz := he16.calm hG hGb hbl he16.rd.lt' kz
            obtain ⟨q1, q2⟩ := hz.vm (Nat.le_refl _)
            rw [HEQ0.out]
            dsimp only
            exact ⟨by simp, q1, fun _ => q2⟩
end Go.Proofs.YtalogafpnfnohaaGreatDoor
