/-
  AlterConfigsResponse: reading.
-/
import Derived.Test.YtbddchglganmdaaDoorMAcr1
import Derived.Deep.CutBlock
import Derived.Deep.DeepCutAuto
namespace Go.Proofs.YtbddchglganmdaaDoor
open Go.ChangeShapes Go.WideShapes Go.ChangeAt Go.RowKit

set_option maxHeartbeats 4000000 in
set_option maxRecDepth 100000 in
theorem acr_read_0u {G : Nat → Prop} {b : Nat} {p : Addr} {l : Bs} {src : Value} {w : World} {ver : Int} (hb : w.heap[b]? = some (.cells #[.int .i16 ver, .int .i32 0, .slice none 0 0, .map none] 84 (0, 0))) (hl : RB w G src l) (hG : There G w) (hGb : ¬ G b) (hg : Gl w p) (hp : b ≠ 1) (hv0 : 0 ≤ ver) (_B2 : ¬ 2 ≤ ver) :
    Calls Tryd.prog 108 #[.pointer (some ⟨b, 0, none⟩), src, .bool true] w fun e w' => e = .returned (errV p (rdPart q_AlterConfigsResponse ver false (l, false)).2.2) ∧ Keep [b] w w' ∧ ((rdPart q_AlterConfigsResponse ver false (l, false)).2.2 = false → VM w' (New G w w') b q_AlterConfigsResponse 84 ver (rdPart q_AlterConfigsResponse ver false (l, false)).1) := by
  obtain ⟨ao, cap, rfl⟩ := RS.shape hl
  have hbl : b < w.heap.size := World.heap_lt hb
  have hp1 : 1 < w.heap.size := World.block_lt_of_cell? w _ hg
  have cv : (w.alloc (.cells #[.slice ao l.length cap, .bool false] 173)).cell? ⟨b, 0, none⟩ = some (.int .i16 ver) := ((keep_box (A := []) _).cell (p := ⟨b, 0, none⟩) hbl (by simp)).trans (cellOf hb 0 _ rfl)
  have h0 : ElSt w (w.alloc (.cells #[.slice ao l.length cap, .bool false] 173)) b w.heap.size G (l, false) [.int .i16 ver] [] [.int .i32 0, .slice none 0 0, .map none] [] 84 [] [] :=
    ⟨⟨_, heap_alloc_new w _, hl.keepF (hG.same (keep_box _)) (fun _ h => h)⟩, ((keep_box (A := []) _).block b hbl (by simp)).trans hb, ⟨rfl, rfl⟩, (keep_box (A := []) _).weaken (by simp), hG, hGb, (fun e => by have := hG _ e; omega), hbl, by omega⟩
  clear hb
  have HEQ0 : Hid (rdPart q_AlterConfigsResponse ver false (l, false) = (.mk 0 [] false [(.mk (rdI 4 (l, false)).1 [] false [] []), (rdF (.mk 11 0 (-1) (-1) (-1) 0 10 q_AlterConfigsResponseResource) ver false (rdI 4 (l, false)).2).1] [], (rdF (.mk 11 0 (-1) (-1) (-1) 0 10 q_AlterConfigsResponseResource) ver false (rdI 4 (l, false)).2).2)) := by
    show _ = _
    simp [rdPart, rdK, rdPartOf, q_AlterConfigsResponse, rdFs, (has_yes (show (0 : Int) ≤ ver by omega) (.inl (by decide)) : F.has (.mk 3 0 (-1) (-1) (-1) 0 0 []) ver = true), (has_yes (show (0 : Int) ≤ ver by omega) (.inl (by decide)) : F.has (.mk 11 0 (-1) (-1) (-1) 0 10 q_AlterConfigsResponseResource) ver = true), rdF]
  go_enter Tryd.func108, Tryd.ntmps108
  go_wp2_with (first
    | (go_at_call 107; refine (d_AlterConfigsResponse _ _).mono ?_; rintro e wd ⟨rfl, rfl⟩)
    | (go_at_call 152; go_loud (refine (int32_any h0.rd h0.hG h0.nrb).mono ?_; rintro e w1 ⟨rfl, r1, k1⟩; have h2 := h0.call r1 k1; have c1 := h2.cellAt (o := 1) rfl; have f1 := h2.free (1); have h3 : ElSt w (w1.setCell ⟨b, 1, none⟩ (.int .i32 (rdI 4 (l, false)).1)) b w.heap.size G (rdI 4 (l, false)).2 [.int .i16 ver] [.int .i32 (rdI 4 (l, false)).1] [.slice none 0 0, .map none] [] 84 [.mk 3 0 (-1) (-1) (-1) 0 0 []] [(.mk (rdI 4 (l, false)).1 [] false [] [])] := h2.put (o := 1) rfl (vf_i32 (rdI_range4 _)); clear r1 k1 h0 h2; have cl4 := h3.cellAt (o := 2) rfl))
    | (go_at_call 154; go_loud (refine (len_any h3.rd h3.hG h3.nrb).mono ?_; rintro e w4 ⟨rfl, r4, k4⟩; have lr4 := rdLen_range (rdI 4 (l, false)).2; have h5 := h3.call r4 k4; clear r4 k4; generalize hl4 : (rdLen (rdI 4 (l, false)).2).1 = L4 at *; have HL4 : Hid _ := hl4; clear h3 hl4)))
  cases hbad4 : (rdLen (rdI 4 (l, false)).2).2.2
  case true =>
    have HB : (rdPart q_AlterConfigsResponse ver false (l, false)).2.2 = true := by rw [HEQ0.out]; (try dsimp only); exact (show (rdF (.mk 11 0 (-1) (-1) (-1) 0 10 q_AlterConfigsResponseResource) ver false (rdI 4 (l, false)).2).2.2 = true from list_bad hbad4)
    have HBB : Hid _ := HB
    clear HB
    go_wp2_with (first
      | (go_at_call 155; refine (ok_any h5.rd).mono ?_; rintro e wo ⟨rfl, rfl⟩; rw [hbad4])
      | (go_at_call 156; go_loud (refine (complete_any h5.rd (hg.keep (h5.keep) (by simp; omega))).mono ?_; rintro e wz ⟨rfl, kz⟩; rw [hbad4])))
    go_ret
    rw [HBB.out]
    exact ⟨by simp, (Keep.fresh (B := [b]) (h5.keep) (by simp)).trans (kz.weaken (by simp)), fun e => by cases e⟩
  case false =>
    go_upto_if 56 with (go_at_call 155; refine (ok_any h5.rd).mono ?_; rintro e wo ⟨rfl, rfl⟩; rw [hbad4])
    go_cut [13] (fun av wx => RowIni w4 wx (.slice none 0 0) av L4.toNat [.int .i16 0, .pointer none, .int .i8 0, .string ⟨#[]⟩, .map none] 92)
    case first =>
      by_cases hp : 0 < L4
      · obtain ⟨N, rfl⟩ : ∃ N : Nat, L4 = N := ⟨L4.toNat, by omega⟩
        obtain ⟨i0, hi, hz0, hz1, hz2⟩ := info_bd info_AlterConfigsResponseResource
        have AP := run_append_empty_zeros (P := Tryd.prog) w4 79 21 79 92 i0 _ .i32 .i32 Tryd.underlying79 Tryd.underlying21 hi hz0 N (by omega) (by omega) (by omega) (Nat.le_trans (Nat.mul_le_mul_left N hz2) (by omega)) none
        go_wp2_with (first
          | (at_builtin; go_loud (refine Lib.wpList_append_run _ rfl (.tmp 57) (.tmp 58) 79 21 rfl _ _ rfl rfl _ _ AP ?_))
          | (go_meet; rw [Int.toNat_natCast]; exact RowIni.made2 (w := w4) (z := .agg #[.int .i16 0, .pointer none, .int .i8 0, .string ⟨#[]⟩, .map none]) (N := N) (e := 92) (show 0 < N by omega) rfl _))
      · go_wp2_with (go_meet; exact .inl ⟨by omega, rfl, rfl⟩)
    case rest =>
      have RR4 := RowRel.start hcut h5.rd h5.hG h5.nrb (gOf 10 false q_AlterConfigsResponseResource ver) 5 10 q_AlterConfigsResponseResource
      clear hcut
      obtain ⟨wl4, rfl⟩ : ∃ x : World, x = wc := ⟨_, rfl⟩
      obtain ⟨av4, rfl⟩ : ∃ x : Value, x = u13 := ⟨_, rfl⟩
      go_wp2_with fail
      go_loopw [15] (fun i wr => ∃ k : Nat, k ≤ L4.toNat ∧ i = .int .i32 (k : Int) ∧ RowRel w4 wl4 wr w.heap.size G (gOf 10 false q_AlterConfigsResponseResource ver) (rdLen (rdI 4 (l, false)).2).2 L4.toNat 5 k [.int .i16 0, .pointer none, .int .i8 0, .string ⟨#[]⟩, .map none] 92 10 q_AlterConfigsResponseResource (.slice none 0 0) av4) (fun i _ => L4.toNat - (intOf i).toNat)
      case atStart => exact ⟨0, Nat.zero_le _, rfl, RR4⟩
      case round =>
        obtain ⟨wr4, rfl⟩ : ∃ x : World, x = wr := ⟨_, rfl⟩
        obtain ⟨k6, hk6, rfl, RR⟩ := hrel
        have KR4 := RR.keep
        by_cases lt4 : (k6 : Int) < L4
        · obtain ⟨row4, cap4, pre4, post4, rfl, hcap4, hrw4, hpre4, e4, cont4⟩ := RR.elem (by omega : k6 < L4.toNat)
          clear RR RR4
          have hrx4 : w.heap.size ≤ row4 := by have := h5.keep.size; omega
          have KW4 : Keep [b, w.heap.size] w wr4 := Keep.trans (h5.keep) (KR4.weaken (by simp))
          have HBF4 : Hid (((gOf 10 false q_AlterConfigsResponseResource ver) (rdTimes (gOf 10 false q_AlterConfigsResponseResource ver) k6 (rdLen (rdI 4 (l, false)).2).2).2).2.2 = true → (rdPart q_AlterConfigsResponse ver false (l, false)).2.2 = true) := fun h => by
            have hb : (rdF (.mk 11 0 (-1) (-1) (-1) 0 10 q_AlterConfigsResponseResource) ver false (rdI 4 (l, false)).2).2.2 = true := by
              rw [rdF_list HL4.out]
              exact rdTimes_from (gOf_b 10 false q_AlterConfigsResponseResource ver) _ (k6 + 1) h _ (by omega)
            exact by rw [HEQ0.out]; (try dsimp only); exact hb
          generalize (rdTimes (gOf 10 false q_AlterConfigsResponseResource ver) k6 (rdLen (rdI 4 (l, false)).2).2).2 = sk4 at *
          have HEQ4 : Hid ((gOf 10 false q_AlterConfigsResponseResource ver) sk4 = (.mk 0 [] false [(.mk (rdI 2 sk4).1 [] false [] []), (nstrT (rdNStr (rdI 2 sk4).2).1), (.mk (rdI 1 (rdNStr (rdI 2 sk4).2).2).1 [] false [] []), (.mk 0 (rdStr (rdI 1 (rdNStr (rdI 2 sk4).2).2).2).1 false [] [])] [], (rdStr (rdI 1 (rdNStr (rdI 2 sk4).2).2).2).2)) := by
            show _ = _
            simp [gOf, rdK, rdPartOf, q_AlterConfigsResponseResource, rdFs, (has_yes (show (0 : Int) ≤ ver by omega) (.inl (by decide)) : F.has (.mk 2 0 (-1) (-1) (-1) 0 0 []) ver = true), (has_yes (show (0 : Int) ≤ ver by omega) (.inl (by decide)) : F.has (.mk 8 0 (-1) 0 (-1) 0 0 []) ver = true), (has_yes (show (0 : Int) ≤ ver by omega) (.inl (by decide)) : F.has (.mk 1 0 (-1) (-1) (-1) 0 0 []) ver = true), (has_yes (show (0 : Int) ≤ ver by omega) (.inl (by decide)) : F.has (.mk 8 0 (-1) (-1) (-1) 0 0 []) ver = true), rdF, hv0]
          go_wp2_with (first
            | (go_at_call 157; go_loud (refine (d_AlterConfigsResponseResource _ _).mono ?_; rintro e wd ⟨rfl, rfl⟩))
            | (go_at_call 158; go_loud (refine (int16_any e4.rd e4.hG e4.nrb).mono ?_; rintro e w7 ⟨rfl, r7, k7⟩; have h8 := e4.call r7 k7; have c7 := h8.cellAt (o := k6 * 5) (el_at0 hpre4 rfl); have f7 := h8.free (k6 * 5); have h9 : ElSt wr4 (w7.setCell ⟨row4, k6 * 5, none⟩ (.int .i16 (rdI 2 sk4).1)) row4 w.heap.size G (rdI 2 sk4).2 pre4 [.int .i16 (rdI 2 sk4).1] [.pointer none, .int .i8 0, .string ⟨#[]⟩, .map none] post4 92 [.mk 2 0 (-1) (-1) (-1) 0 0 []] [(.mk (rdI 2 sk4).1 [] false [] [])] := h8.put (o := k6 * 5) (el_at0 hpre4 rfl) (vf_i16 (rdI_range2 _)); clear r7 k7 e4 h8))
            | (go_at_call 161; go_loud (refine (unstring_any h9.rd h9.hG h9.nrb).mono ?_; rintro e w10 ⟨pv10, rfl, ps10, r10, k10⟩; obtain ⟨pa10, rfl⟩ := ps10.shape; have nw10 := h9.nwOf (W := w10); have h11 := h9.call r10 k10; have c10 := h11.cellAt (o := k6 * 5 + 1) (el_at hpre4 rfl); have f10 := h11.free (k6 * 5 + 1); have h12 : ElSt wr4 (w10.setCell ⟨row4, k6 * 5 + 1, none⟩ (.pointer pa10)) row4 w.heap.size G (rdNStr (rdI 2 sk4).2).2 pre4 [.int .i16 (rdI 2 sk4).1, .pointer pa10] [.int .i8 0, .string ⟨#[]⟩, .map none] post4 92 [.mk 2 0 (-1) (-1) (-1) 0 0 [], .mk 8 0 (-1) 0 (-1) 0 0 []] [(.mk (rdI 2 sk4).1 [] false [] []), (nstrT (rdNStr (rdI 2 sk4).2).1)] := h11.put (o := k6 * 5 + 1) (el_at hpre4 rfl) (vf_nstr (by decide) (ps10.keepF (fun _ _ => rfl) nw10)); clear r10 k10 h9 h11))
            | (go_at_call 163; go_loud (refine (int8_any h12.rd h12.hG h12.nrb).mono ?_; rintro e w13 ⟨rfl, r13, k13⟩; have h14 := h12.call r13 k13; have c13 := h14.cellAt (o := k6 * 5 + 2) (el_at hpre4 rfl); have f13 := h14.free (k6 * 5 + 2); have h15 : ElSt wr4 (w13.setCell ⟨row4, k6 * 5 + 2, none⟩ (.int .i8 (rdI 1 (rdNStr (rdI 2 sk4).2).2).1)) row4 w.heap.size G (rdI 1 (rdNStr (rdI 2 sk4).2).2).2 pre4 [.int .i16 (rdI 2 sk4).1, .pointer pa10, .int .i8 (rdI 1 (rdNStr (rdI 2 sk4).2).2).1] [.string ⟨#[]⟩, .map none] post4 92 [.mk 2 0 (-1) (-1) (-1) 0 0 [], .mk 8 0 (-1) 0 (-1) 0 0 [], .mk 1 0 (-1) (-1) (-1) 0 0 []] [(.mk (rdI 2 sk4).1 [] false [] []), (nstrT (rdNStr (rdI 2 sk4).2).1), (.mk (rdI 1 (rdNStr (rdI 2 sk4).2).2).1 [] false [] [])] := h14.put (o := k6 * 5 + 2) (el_at hpre4 rfl) (vf_i8 (rdI_range1 _)); clear r13 k13 h12 h14))
            | (go_at_call 165; go_loud (refine (ustring_any h15.rd h15.hG h15.nrb).mono ?_; rintro e w16 ⟨he16, r16, k16⟩; unfold str at he16; subst he16; have h17 := h15.call r16 k16; have c16 := h17.cellAt (o := k6 * 5 + 3) (el_at hpre4 rfl); have f16 := h17.free (k6 * 5 + 3); have h18 : ElSt wr4 (w16.setCell ⟨row4, k6 * 5 + 3, none⟩ (.string ⟨(rdStr (rdI 1 (rdNStr (rdI 2 sk4).2).2).2).1.toArray⟩)) row4 w.heap.size G (rdStr (rdI 1 (rdNStr (rdI 2 sk4).2).2).2).2 pre4 [.int .i16 (rdI 2 sk4).1, .pointer pa10, .int .i8 (rdI 1 (rdNStr (rdI 2 sk4).2).2).1, .string ⟨(rdStr (rdI 1 (rdNStr (rdI 2 sk4).2).2).2).1.toArray⟩] [.map none] post4 92 [.mk 2 0 (-1) (-1) (-1) 0 0 [], .mk 8 0 (-1) 0 (-1) 0 0 [], .mk 1 0 (-1) (-1) (-1) 0 0 [], .mk 8 0 (-1) (-1) (-1) 0 0 []] [(.mk (rdI 2 sk4).1 [] false [] []), (nstrT (rdNStr (rdI 2 sk4).2).1), (.mk (rdI 1 (rdNStr (rdI 2 sk4).2).2).1 [] false [] []), (.mk 0 (rdStr (rdI 1 (rdNStr (rdI 2 sk4).2).2).2).1 false [] [])] := h17.put (o := k6 * 5 + 3) (el_at hpre4 rfl) (vf_str (by decide) _); clear r16 k16 h15 h17))
            | (have he19 := h18.bare; go_roundw; (case rel => exact ⟨k6 + 1, by omega, by go_num, cont4 _ _ _ _ he19 rfl HEQ4.out⟩); (case measure => (simp [intOf]; omega))))
        · obtain ⟨rr, kr, ⟨ao4, cp4, rfl⟩, vl⟩ := RR.fin (by omega) (.inl rfl)
          clear RR RR4
          have LE := rdF_list (a := 0) (b := (-1)) (c := (-1)) (d := 0) (ofk := 10) (v := ver) (sub := q_AlterConfigsResponseResource) HL4.out
          have rr2 : Rd wr4 w.heap.size G (rdF (.mk 11 0 (-1) (-1) (-1) 0 10 q_AlterConfigsResponseResource) ver false (rdI 4 (l, false)).2).2 := by rw [LE]; exact rr
          have vl2 := vl (decide (L4 ≤ 0)) (by simp)
          have vl3 : VL wr4 (Nw G w4 w.heap.size wr4) (VK wr4 (Nw G w4 w.heap.size wr4) 10 (-1) (VFs wr4 (Nw G w4 w.heap.size wr4) q_AlterConfigsResponseResource)) 5 (.slice ao4 L4.toNat cp4) (rdF (.mk 11 0 (-1) (-1) (-1) 0 10 q_AlterConfigsResponseResource) ver false (rdI 4 (l, false)).2).1 := by rw [LE]; exact vl2
          have gr : ∀ i, Nw G w4 w.heap.size wr4 i → Nw G w w.heap.size wr4 i := fun i hi => ⟨hi.1.imp id (Nat.le_trans h5.keep.size), hi.2⟩
          have vl4 := VL.keepF (fun _ _ => rfl) gr (fun c t => VK.keepF (fun _ _ => rfl) gr (fun c l => VFs.keepF (fun _ _ => rfl) gr q_AlterConfigsResponseResource)) vl3
          have h20 := h5.call rr2 kr
          clear rr rr2 vl vl2 vl3 LE
          have c4 := h20.cellAt (o := 2) rfl
          have f4 := h20.free (2)
          have h21 : ElSt w (wr4.setCell ⟨b, 2, none⟩ (.slice ao4 L4.toNat cp4)) b w.heap.size G (rdF (.mk 11 0 (-1) (-1) (-1) 0 10 q_AlterConfigsResponseResource) ver false (rdI 4 (l, false)).2).2 [.int .i16 ver] [.int .i32 (rdI 4 (l, false)).1, .slice ao4 L4.toNat cp4] [.map none] [] 84 [.mk 3 0 (-1) (-1) (-1) 0 0 [], .mk 11 0 (-1) (-1) (-1) 0 10 q_AlterConfigsResponseResource] [(.mk (rdI 4 (l, false)).1 [] false [] []), (rdF (.mk 11 0 (-1) (-1) (-1) 0 10 q_AlterConfigsResponseResource) ver false (rdI 4 (l, false)).2).1] := h20.put (o := 2) rfl (vf_list rfl vl4)
          clear h5 h20 vl4 gr
          have he22 := h21.bare
          go_wp2_with (first
            | (go_at_call 156; go_loud (refine (complete_any he22.rd (hg.keep he22.keep (by simp; omega))).mono ?_; rintro e wz ⟨rfl, kz⟩)))
          go_ret
          have hz := he22.calm hG hGb hbl he22.rd.lt' kz
          obtain ⟨q1, q2⟩ := hz.vm (Nat.le_refl _)
          rw [HEQ0.out]
          dsimp only
          exact ⟨by simp, q1, fun _ => q2⟩
end Go.Proofs.YtbddchglganmdaaDoor
