/-
  OffsetForLeaderEpochResponse: reading.
-/
import Derived.Test.YtdebdgofomnpoaaGreatDoorMOfl1
import Derived.Test.YtdebdgofomnpoaaGreatDoorMOfl6
import Derived.Deep.CutBlock
import Derived.Deep.DeepCutAuto
namespace Go.Proofs.YtdebdgofomnpoaaGreatDoor
open Go.ChangeShapes Go.WideShapes Go.ChangeAt Go.RowKit

set_option maxHeartbeats 4000000 in
set_option maxRecDepth 100000 in
theorem ofl_read_1s {G : Nat → Prop} {b : Nat} {p : Addr} {l : Bs} {src : Value} {w : World} {ver : Int} (hb : w.heap[b]? = some (.cells #[.int .i16 ver, .int .i32 0, .slice none 0 0, .map none] 147 (0, 0))) (hl : RB w G src l) (hG : There G w) (hGb : ¬ G b) (hg : Gl w p) (hp : b ≠ 1) (hv0 : 0 ≤ ver) (_B1 : 1 ≤ ver) (_B2 : ¬ 2 ≤ ver) (_B4 : ¬ 4 ≤ ver) :
    Calls Tryz.prog 169 #[.pointer (some ⟨b, 0, none⟩), src, .bool false] w fun e w' => e = .returned (errV p (rdPart q_OffsetForLeaderEpochResponse ver false (l, false)).2.2) ∧ Keep [b] w w' ∧ ((rdPart q_OffsetForLeaderEpochResponse ver false (l, false)).2.2 = false → VM w' (New G w w') b q_OffsetForLeaderEpochResponse 147 ver (rdPart q_OffsetForLeaderEpochResponse ver false (l, false)).1) := by
  obtain ⟨ao, cap, rfl⟩ := RS.shape hl
  have hbl : b < w.heap.size := World.heap_lt hb
  have hp1 : 1 < w.heap.size := World.block_lt_of_cell? w _ hg
  have cv : (w.alloc (.cells #[.slice ao l.length cap, .bool false] 230)).cell? ⟨b, 0, none⟩ = some (.int .i16 ver) := ((keep_box (A := []) _).cell (p := ⟨b, 0, none⟩) hbl (by simp)).trans (cellOf hb 0 _ rfl)
  have h0 : ElSt w (w.alloc (.cells #[.slice ao l.length cap, .bool false] 230)) b w.heap.size G (l, false) [.int .i16 ver] [] [.int .i32 0, .slice none 0 0, .map none] [] 147 [] [] :=
    ⟨⟨_, heap_alloc_new w _, hl.keepF (hG.same (keep_box _)) (fun _ h => h)⟩, ((keep_box (A := []) _).block b hbl (by simp)).trans hb, ⟨rfl, rfl⟩, (keep_box (A := []) _).weaken (by simp), hG, hGb, (fun e => by have := hG _ e; omega), hbl, by omega⟩
  clear hb
  have HEQ0 : Hid (rdPart q_OffsetForLeaderEpochResponse ver false (l, false) = (.mk 0 [] false [(.mk 0 [] false [] []), (rdF (.mk 11 0 (-1) (-1) (-1) 0 10 q_OffsetForLeaderEpochResponseTopic) ver false (l, false)).1] [], (rdF (.mk 11 0 (-1) (-1) (-1) 0 10 q_OffsetForLeaderEpochResponseTopic) ver false (l, false)).2)) := by
    show _ = _
    simp [rdPart, rdPartOf, q_OffsetForLeaderEpochResponse, rdFs, (has_no1 (show ¬ (2 : Int) ≤ ver by omega) : F.has (.mk 3 2 (-1) (-1) (-1) 0 0 []) ver = false), (has_yes (show (0 : Int) ≤ ver by omega) (.inl (by decide)) : F.has (.mk 11 0 (-1) (-1) (-1) 0 10 q_OffsetForLeaderEpochResponseTopic) ver = true), rdF, dflF]
  go_enter Tryz.func169, Tryz.ntmps169
  have h1 : ElSt w (w.alloc (.cells #[.slice ao l.length cap, .bool false] 230)) b w.heap.size G (l, false) [.int .i16 ver] [.int .i32 0] [.slice none 0 0, .map none] [] 147 [.mk 3 2 (-1) (-1) (-1) 0 0 []] [(.mk 0 [] false [] [])] := h0.pass (vf_i32 (by decide))
  clear h0
  have cl2 := h1.cellAt (o := 2) rfl
  go_wp2_with (first
    | (go_at_call 167; refine (d_OffsetForLeaderEpochResponse _ _).mono ?_; rintro e wd ⟨rfl, rfl⟩)
    | (go_at_call 214; go_loud (refine (len_any h1.rd h1.hG h1.nrb).mono ?_; rintro e w2 ⟨rfl, r2, k2⟩; have lr2 := rdLen_range (l, false); have h3 := h1.call r2 k2; clear r2 k2; generalize hl2 : (rdLen (l, false)).1 = L2 at *; have HL2 : Hid _ := hl2; clear h1 hl2)))
  cases hbad2 : (rdLen (l, false)).2.2
  case true =>
    have HB : (rdPart q_OffsetForLeaderEpochResponse ver false (l, false)).2.2 = true := by rw [HEQ0.out]; (try dsimp only); exact (show (rdF (.mk 11 0 (-1) (-1) (-1) 0 10 q_OffsetForLeaderEpochResponseTopic) ver false (l, false)).2.2 = true from list_bad hbad2)
    have HBB : Hid _ := HB
    clear HB
    go_wp2_with (first
      | (go_at_call 215; refine (ok_any h3.rd).mono ?_; rintro e wo ⟨rfl, rfl⟩; rw [hbad2])
      | (go_at_call 216; go_loud (refine (complete_any h3.rd (hg.keep (h3.keep) (by simp; omega))).mono ?_; rintro e wz ⟨rfl, kz⟩; rw [hbad2])))
    go_ret
    rw [HBB.out]
    exact ⟨by simp, (Keep.fresh (B := [b]) (h3.keep) (by simp)).trans (kz.weaken (by simp)), fun e => by cases e⟩
  case false =>
    go_upto_if 63 with (go_at_call 215; refine (ok_any h3.rd).mono ?_; rintro e wo ⟨rfl, rfl⟩; rw [hbad2])
    go_cut [13] (fun av wx => RowIni w2 wx (.slice none 0 0) av L2.toNat [.string ⟨#[]⟩, .slice none 0 0, .map none] 152)
    case first =>
      by_cases hp : 0 < L2
      · obtain ⟨N, rfl⟩ : ∃ N : Nat, L2 = N := ⟨L2.toNat, by omega⟩
        obtain ⟨i0, hi, hz0, hz1, hz2⟩ := info_bd info_OffsetForLeaderEpochResponseTopic
        have AP := run_append_empty_zeros (P := Tryz.prog) w2 145 21 145 152 i0 _ .i32 .i32 Tryz.underlying145 Tryz.underlying21 hi hz0 N (by omega) (by omega) (by omega) (Nat.le_trans (Nat.mul_le_mul_left N hz2) (by omega)) none
        go_wp2_with (first
          | (at_builtin; go_loud (refine Lib.wpList_append_run _ rfl (.tmp 64) (.tmp 65) 145 21 rfl _ _ rfl rfl _ _ AP ?_))
          | (go_meet; rw [Int.toNat_natCast]; exact RowIni.made2 (w := w2) (z := .agg #[.string ⟨#[]⟩, .slice none 0 0, .map none]) (N := N) (e := 152) (show 0 < N by omega) rfl _))
      · go_wp2_with (go_meet; exact .inl ⟨by omega, rfl, rfl⟩)
    case rest =>
      have RR2 := RowRel.start hcut h3.rd h3.hG h3.nrb (gOf 10 false q_OffsetForLeaderEpochResponseTopic ver) 3 10 q_OffsetForLeaderEpochResponseTopic
      clear hcut
      obtain ⟨wl2, rfl⟩ : ∃ x : World, x = wc := ⟨_, rfl⟩
      obtain ⟨av2, rfl⟩ : ∃ x : Value, x = u13 := ⟨_, rfl⟩
      go_wp2_with fail
      refine ofl_l0p1s (p := p) (by first | rfl | (simp; done) | (simp; omega)) RR2 lr2 h3.hG h3.nrb h3.rd.lt' (hg.keep (h3.keep) (by simp; omega)) (by have := hp1; omega) hv0 (by omega) ?hret ?hexit
      case hret =>
        show ∀ (a' : Act) (wz : World), _
        intro a' wz z1 z2 z3 z4
        have HB : (rdPart q_OffsetForLeaderEpochResponse ver false (l, false)).2.2 = true := by rw [HEQ0.out]; (try dsimp only); exact (show (rdF (.mk 11 0 (-1) (-1) (-1) 0 10 q_OffsetForLeaderEpochResponseTopic) ver false (l, false)).2.2 = true by rw [rdF_list HL2.out]; exact z4)
        repeat (first | refine inBlock_ret ?_ | refine then_ret ?_)
        refine ret_post (fn := Tryz.f169) rfl z1 z2 ?_
        rw [HB]
        exact ⟨by simp, Keep.fresh (B := [b]) (Keep.trans (h3.keep) (z3.weaken (by simp))) (by simp), fun e => by cases e⟩
      case hexit =>
        intro wr2 y6 y15 y16 y17 y18 y19 y20 y21 y22 y23 y24 y25 y26 y27 y28 y67 y68 y69 y70 y71 y72 y73 y74 y75 y76 y77 y78 y79 y80 y81 y82 y83 y84 y85 y86 y87 y88 y89 y90 y91 y92 y93 y94 y95 y96 y97 y98 y99 y100 y101 y102 y103 y104 y105 y106 y107 y108 y109 y110 y111 y112 y113 y114 y115 y116 y117 y118 y119 y120 y121 y122 y123 y124 y125 y126 y127 y128 y129 y130 y131 y132 y133 y134 y135 y136 y137 y138 y139 y140 y141 y142 y143 y144 y145 y146 y147 y148 y149 y150 y151 y152 y153 y154 RR
        have KR2 := RR.keep
        obtain ⟨rr, kr, ⟨ao2, cp2, rfl⟩, vl⟩ := RR.fin (by omega) (.inl rfl)
        clear RR RR2
        have LE := rdF_list (a := 0) (b := (-1)) (c := (-1)) (d := 0) (ofk := 10) (v := ver) (sub := q_OffsetForLeaderEpochResponseTopic) HL2.out
        have rr2 : Rd wr2 w.heap.size G (rdF (.mk 11 0 (-1) (-1) (-1) 0 10 q_OffsetForLeaderEpochResponseTopic) ver false (l, false)).2 := by rw [LE]; exact rr
        have vl2 := vl (decide (L2 ≤ 0)) (by simp)
        have vl3 : VL wr2 (Nw G w2 w.heap.size wr2) (VK wr2 (Nw G w2 w.heap.size wr2) 10 (-1) (VFs wr2 (Nw G w2 w.heap.size wr2) q_OffsetForLeaderEpochResponseTopic)) 3 (.slice ao2 L2.toNat cp2) (rdF (.mk 11 0 (-1) (-1) (-1) 0 10 q_OffsetForLeaderEpochResponseTopic) ver false (l, false)).1 := by rw [LE]; exact vl2
        have gr : ∀ i, Nw G w2 w.heap.size wr2 i → Nw G w w.heap.size wr2 i := fun i hi => ⟨hi.1.imp id (Nat.le_trans h3.keep.size), hi.2⟩
        have vl4 := VL.keepF (fun _ _ => rfl) gr (fun c t => VK.keepF (fun _ _ => rfl) gr (fun c l => VFs.keepF (fun _ _ => rfl) gr q_OffsetForLeaderEpochResponseTopic)) vl3
        have h4 := h3.call rr2 kr
        clear rr rr2 vl vl2 vl3 LE
        have c2 := h4.cellAt (o := 2) rfl
        have f2 := h4.free (2)
        have h5 : ElSt w (wr2.setCell ⟨b, 2, none⟩ (.slice ao2 L2.toNat cp2)) b w.heap.size G (rdF (.mk 11 0 (-1) (-1) (-1) 0 10 q_OffsetForLeaderEpochResponseTopic) ver false (l, false)).2 [.int .i16 ver] [.int .i32 0, .slice ao2 L2.toNat cp2] [.map none] [] 147 [.mk 3 2 (-1) (-1) (-1) 0 0 [], .mk 11 0 (-1) (-1) (-1) 0 10 q_OffsetForLeaderEpochResponseTopic] [(.mk 0 [] false [] []), (rdF (.mk 11 0 (-1) (-1) (-1) 0 10 q_OffsetForLeaderEpochResponseTopic) ver false (l, false)).1] := h4.put (o := 2) rfl (vf_list rfl vl4)
        clear h3 h4 vl4 gr
        have he6 := h5.bare
        go_wp2_with (first
          | (go_at_call 216; go_loud (refine (complete_any he6.rd (hg.keep he6.keep (by simp; omega))).mono ?_; rintro e wz ⟨rfl, kz⟩)))
        go_ret
        have hz := he6.calm hG hGb hbl he6.rd.lt' kz
        obtain ⟨q1, q2⟩ := hz.vm (Nat.le_refl _)
        rw [HEQ0.out]
        dsimp only
        exact ⟨by simp, q1, fun _ => q2⟩
end Go.Proofs.YtdebdgofomnpoaaGreatDoor
