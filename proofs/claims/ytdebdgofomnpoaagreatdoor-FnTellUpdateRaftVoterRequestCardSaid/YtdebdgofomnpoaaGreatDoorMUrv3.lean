/-
  UpdateRaftVoterRequest: reading.
-/
import Derived.Test.YtdebdgofomnpoaaGreatDoorMUrv1
import Derived.Test.YtdebdgofomnpoaaGreatDoorMUrv2
import Derived.Deep.CutBlock
import Derived.Deep.DeepCutAuto
namespace Go.Proofs.YtdebdgofomnpoaaGreatDoor
open Go.ChangeShapes Go.WideShapes Go.ChangeAt Go.RowKit

set_option maxHeartbeats 40000000 in
set_option maxRecDepth 100000 in
theorem urv_read_0s {G : Nat → Prop} {b : Nat} {p : Addr} {l : Bs} {src : Value} {w : World} {ver : Int} (hb : w.heap[b]? = some (.cells #[.int .i16 ver, .pointer none, .int .i32 0, .int .i32 0, .int .u8 0, .int .u8 0, .int .u8 0, .int .u8 0, .int .u8 0, .int .u8 0, .int .u8 0, .int .u8 0, .int .u8 0, .int .u8 0, .int .u8 0, .int .u8 0, .int .u8 0, .int .u8 0, .int .u8 0, .int .u8 0, .slice none 0 0, .int .i16 0, .int .i16 0, .map none, .map none] 185 (0, 0))) (hl : RB w G src l) (hG : There G w) (hGb : ¬ G b) (hg : Gl w p) (hp : b ≠ 1) (hv0 : 0 ≤ ver)  :
    Calls Tryz.prog 188 #[.pointer (some ⟨b, 0, none⟩), src, .bool false] w fun e w' => e = .returned (errV p (rdPart q_UpdateRaftVoterRequest ver true (l, false)).2.2) ∧ Keep [b] w w' ∧ ((rdPart q_UpdateRaftVoterRequest ver true (l, false)).2.2 = false → VM w' (New G w w') b q_UpdateRaftVoterRequest 185 ver (rdPart q_UpdateRaftVoterRequest ver true (l, false)).1) := by
  obtain ⟨ao, cap, rfl⟩ := RS.shape hl
  have hbl : b < w.heap.size := World.heap_lt hb
  have hp1 : 1 < w.heap.size := World.block_lt_of_cell? w _ hg
  have cv : (w.alloc (.cells #[.slice ao l.length cap, .bool false] 230)).cell? ⟨b, 0, none⟩ = some (.int .i16 ver) := ((keep_box (A := []) _).cell (p := ⟨b, 0, none⟩) hbl (by simp)).trans (cellOf hb 0 _ rfl)
  have h0 : ElSt w (w.alloc (.cells #[.slice ao l.length cap, .bool false] 230)) b w.heap.size G (l, false) [.int .i16 ver] [] [.pointer none, .int .i32 0, .int .i32 0, .int .u8 0, .int .u8 0, .int .u8 0, .int .u8 0, .int .u8 0, .int .u8 0, .int .u8 0, .int .u8 0, .int .u8 0, .int .u8 0, .int .u8 0, .int .u8 0, .int .u8 0, .int .u8 0, .int .u8 0, .int .u8 0, .slice none 0 0, .int .i16 0, .int .i16 0, .map none, .map none] [] 185 [] [] :=
    ⟨⟨_, heap_alloc_new w _, hl.keepF (hG.same (keep_box _)) (fun _ h => h)⟩, ((keep_box (A := []) _).block b hbl (by simp)).trans hb, ⟨rfl, rfl⟩, (keep_box (A := []) _).weaken (by simp), hG, hGb, (fun e => by have := hG _ e; omega), hbl, by omega⟩
  clear hb
  have HEQ0 : Hid (rdPart q_UpdateRaftVoterRequest ver true (l, false) = (.mk 0 [] false [(nstrT (rdCNStr (l, false)).1), (.mk (rdI 4 (rdCNStr (l, false)).2).1 [] false [] []), (.mk (rdI 4 (rdI 4 (rdCNStr (l, false)).2).2).1 [] false [] []), (.mk 0 (rdUuid (rdI 4 (rdI 4 (rdCNStr (l, false)).2).2).2).1 false [] []), (rdF (.mk 11 0 (-1) (-1) (-1) 0 10 q_UpdateRaftVoterRequestListener) ver true (rdUuid (rdI 4 (rdI 4 (rdCNStr (l, false)).2).2).2).2).1, (.mk 0 [] false [(.mk (rdI 2 (rdF (.mk 11 0 (-1) (-1) (-1) 0 10 q_UpdateRaftVoterRequestListener) ver true (rdUuid (rdI 4 (rdI 4 (rdCNStr (l, false)).2).2).2).2).2).1 [] false [] []), (.mk (rdI 2 (rdI 2 (rdF (.mk 11 0 (-1) (-1) (-1) 0 10 q_UpdateRaftVoterRequestListener) ver true (rdUuid (rdI 4 (rdI 4 (rdCNStr (l, false)).2).2).2).2).2).2).1 [] false [] [])] (rdTags (rdI 2 (rdI 2 (rdF (.mk 11 0 (-1) (-1) (-1) 0 10 q_UpdateRaftVoterRequestListener) ver true (rdUuid (rdI 4 (rdI 4 (rdCNStr (l, false)).2).2).2).2).2).2).2).1)] (rdTags (rdTags (rdI 2 (rdI 2 (rdF (.mk 11 0 (-1) (-1) (-1) 0 10 q_UpdateRaftVoterRequestListener) ver true (rdUuid (rdI 4 (rdI 4 (rdCNStr (l, false)).2).2).2).2).2).2).2).2).1, (rdTags (rdTags (rdI 2 (rdI 2 (rdF (.mk 11 0 (-1) (-1) (-1) 0 10 q_UpdateRaftVoterRequestListener) ver true (rdUuid (rdI 4 (rdI 4 (rdCNStr (l, false)).2).2).2).2).2).2).2).2).2)) := by
    show _ = _
    simp [rdPart, rdK, rdPartOf, q_UpdateRaftVoterRequest, rdFs, (has_yes (show (0 : Int) ≤ ver by omega) (.inl (by decide)) : F.has (.mk 8 0 (-1) 0 (-1) 0 0 []) ver = true), (has_yes (show (0 : Int) ≤ ver by omega) (.inl (by decide)) : F.has (.mk 3 0 (-1) (-1) (-1) 0 0 []) ver = true), (has_yes (show (0 : Int) ≤ ver by omega) (.inl (by decide)) : F.has (.mk 7 0 (-1) (-1) (-1) 0 0 []) ver = true), (has_yes (show (0 : Int) ≤ ver by omega) (.inl (by decide)) : F.has (.mk 11 0 (-1) (-1) (-1) 0 10 q_UpdateRaftVoterRequestListener) ver = true), (fun sb => has_yes (show (0 : Int) ≤ ver by omega) (.inl (by decide)) : ∀ sb, F.has (.mk 10 0 (-1) (-1) (-1) 0 0 sb) ver = true), q_UpdateRaftVoterRequestKRaftVersionFeature, (has_yes (show (0 : Int) ≤ ver by omega) (.inl (by decide)) : F.has (.mk 2 0 (-1) (-1) (-1) 0 0 []) ver = true), rdF, hv0]
  go_enter Tryz.func188, Tryz.ntmps188
  go_upto_region 22 with (first
    | (go_at_call 187; refine (d_UpdateRaftVoterRequest _ _).mono ?_; rintro e wd ⟨rfl, rfl⟩)
    | (go_at_call 239; go_loud (refine (cnstring_any h0.rd h0.hG h0.nrb).mono ?_; rintro e w1 ⟨pv1, rfl, ps1, r1, k1⟩; obtain ⟨pa1, rfl⟩ := ps1.shape; have nw1 := h0.nwOf (W := w1); have h2 := h0.call r1 k1; have c1 := h2.cellAt (o := 1) rfl; have f1 := h2.free (1); have h3 : ElSt w (w1.setCell ⟨b, 1, none⟩ (.pointer pa1)) b w.heap.size G (rdCNStr (l, false)).2 [.int .i16 ver] [.pointer pa1] [.int .i32 0, .int .i32 0, .int .u8 0, .int .u8 0, .int .u8 0, .int .u8 0, .int .u8 0, .int .u8 0, .int .u8 0, .int .u8 0, .int .u8 0, .int .u8 0, .int .u8 0, .int .u8 0, .int .u8 0, .int .u8 0, .int .u8 0, .int .u8 0, .slice none 0 0, .int .i16 0, .int .i16 0, .map none, .map none] [] 185 [.mk 8 0 (-1) 0 (-1) 0 0 []] [(nstrT (rdCNStr (l, false)).1)] := h2.put (o := 1) rfl (vf_nstr (by decide) (ps1.keepF (fun _ _ => rfl) nw1)); clear r1 k1 h0 h2; generalize (rdCNStr (l, false)).2 = zs1 at *))
    | (go_at_call 212; go_loud (refine (int32_any h3.rd h3.hG h3.nrb).mono ?_; rintro e w4 ⟨rfl, r4, k4⟩; have h5 := h3.call r4 k4; have c4 := h5.cellAt (o := 2) rfl; have f4 := h5.free (2); have h6 : ElSt w (w4.setCell ⟨b, 2, none⟩ (.int .i32 (rdI 4 zs1).1)) b w.heap.size G (rdI 4 zs1).2 [.int .i16 ver] [.pointer pa1, .int .i32 (rdI 4 zs1).1] [.int .i32 0, .int .u8 0, .int .u8 0, .int .u8 0, .int .u8 0, .int .u8 0, .int .u8 0, .int .u8 0, .int .u8 0, .int .u8 0, .int .u8 0, .int .u8 0, .int .u8 0, .int .u8 0, .int .u8 0, .int .u8 0, .int .u8 0, .slice none 0 0, .int .i16 0, .int .i16 0, .map none, .map none] [] 185 [.mk 8 0 (-1) 0 (-1) 0 0 [], .mk 3 0 (-1) (-1) (-1) 0 0 []] [(nstrT (rdCNStr (l, false)).1), (.mk (rdI 4 zs1).1 [] false [] [])] := h5.put (o := 2) rfl (vf_i32 (rdI_range4 _)); clear r4 k4 h3 h5; generalize (rdI 4 zs1).2 = zs4 at *))
    | (go_at_call 212; go_loud (refine (int32_any h6.rd h6.hG h6.nrb).mono ?_; rintro e w7 ⟨rfl, r7, k7⟩; have h8 := h6.call r7 k7; have c7 := h8.cellAt (o := 3) rfl; have f7 := h8.free (3); have h9 : ElSt w (w7.setCell ⟨b, 3, none⟩ (.int .i32 (rdI 4 zs4).1)) b w.heap.size G (rdI 4 zs4).2 [.int .i16 ver] [.pointer pa1, .int .i32 (rdI 4 zs1).1, .int .i32 (rdI 4 zs4).1] [.int .u8 0, .int .u8 0, .int .u8 0, .int .u8 0, .int .u8 0, .int .u8 0, .int .u8 0, .int .u8 0, .int .u8 0, .int .u8 0, .int .u8 0, .int .u8 0, .int .u8 0, .int .u8 0, .int .u8 0, .int .u8 0, .slice none 0 0, .int .i16 0, .int .i16 0, .map none, .map none] [] 185 [.mk 8 0 (-1) 0 (-1) 0 0 [], .mk 3 0 (-1) (-1) (-1) 0 0 [], .mk 3 0 (-1) (-1) (-1) 0 0 []] [(nstrT (rdCNStr (l, false)).1), (.mk (rdI 4 zs1).1 [] false [] []), (.mk (rdI 4 zs4).1 [] false [] [])] := h8.put (o := 3) rfl (vf_i32 (rdI_range4 _)); clear r7 k7 h6 h8; generalize (rdI 4 zs4).2 = zs7 at *))
    | (go_at_call 222; go_loud (refine (uuid_lit h9.rd h9.hG h9.nrb).mono ?_; rintro e w10 ⟨y10_0, y10_1, y10_2, y10_3, y10_4, y10_5, y10_6, y10_7, y10_8, y10_9, y10_10, y10_11, y10_12, y10_13, y10_14, y10_15, hx10, rfl, r10, k10⟩; have h11 := h9.call r10 k10; clear h9 r10 k10)))
  have h12 := h11.calm (U' := (w10.alloc (.cells #[.int .u8 (y10_0.toNat : Int), .int .u8 (y10_1.toNat : Int), .int .u8 (y10_2.toNat : Int), .int .u8 (y10_3.toNat : Int), .int .u8 (y10_4.toNat : Int), .int .u8 (y10_5.toNat : Int), .int .u8 (y10_6.toNat : Int), .int .u8 (y10_7.toNat : Int), .int .u8 (y10_8.toNat : Int), .int .u8 (y10_9.toNat : Int), .int .u8 (y10_10.toNat : Int), .int .u8 (y10_11.toNat : Int), .int .u8 (y10_12.toNat : Int), .int .u8 (y10_13.toNat : Int), .int .u8 (y10_14.toNat : Int), .int .u8 (y10_15.toNat : Int)] 113))) (keep_box _)
  have hbx10 := heap_alloc_new w10 (.cells #[.int .u8 (y10_0.toNat : Int), .int .u8 (y10_1.toNat : Int), .int .u8 (y10_2.toNat : Int), .int .u8 (y10_3.toNat : Int), .int .u8 (y10_4.toNat : Int), .int .u8 (y10_5.toNat : Int), .int .u8 (y10_6.toNat : Int), .int .u8 (y10_7.toNat : Int), .int .u8 (y10_8.toNat : Int), .int .u8 (y10_9.toNat : Int), .int .u8 (y10_10.toNat : Int), .int .u8 (y10_11.toNat : Int), .int .u8 (y10_12.toNat : Int), .int .u8 (y10_13.toNat : Int), .int .u8 (y10_14.toNat : Int), .int .u8 (y10_15.toNat : Int)] 113)
  clear h11
  generalize (w10.alloc (.cells #[.int .u8 (y10_0.toNat : Int), .int .u8 (y10_1.toNat : Int), .int .u8 (y10_2.toNat : Int), .int .u8 (y10_3.toNat : Int), .int .u8 (y10_4.toNat : Int), .int .u8 (y10_5.toNat : Int), .int .u8 (y10_6.toNat : Int), .int .u8 (y10_7.toNat : Int), .int .u8 (y10_8.toNat : Int), .int .u8 (y10_9.toNat : Int), .int .u8 (y10_10.toNat : Int), .int .u8 (y10_11.toNat : Int), .int .u8 (y10_12.toNat : Int), .int .u8 (y10_13.toNat : Int), .int .u8 (y10_14.toNat : Int), .int .u8 (y10_15.toNat : Int)] 113)) = ub10 at *
  go_cut [] (fun wx => ∃ cu10 : List Value, cu10.length = 16 ∧ ElSt w wx b w.heap.size G (rdUuid zs7).2 [.int .i16 ver] ([.pointer pa1, .int .i32 (rdI 4 zs1).1, .int .i32 (rdI 4 zs4).1] ++ cu10) [.slice none 0 0, .int .i16 0, .int .i16 0, .map none, .map none] [] 185 [.mk 8 0 (-1) 0 (-1) 0 0 [], .mk 3 0 (-1) (-1) (-1) 0 0 [], .mk 3 0 (-1) (-1) (-1) 0 0 [], .mk 7 0 (-1) (-1) (-1) 0 0 []] [(nstrT (rdCNStr (l, false)).1), (.mk (rdI 4 zs1).1 [] false [] []), (.mk (rdI 4 zs4).1 [] false [] []), (.mk 0 (rdUuid zs7).1 false [] [])])
  case first =>
    have c10_0 := h12.cellN 0 (o := 4) rfl rfl
    have f10_0 := h12.free (4)
    have b10_0 := cellOf hbx10 0 _ rfl
    have c10_1 := h12.cellN 1 (o := 5) rfl rfl
    have f10_1 := h12.free (5)
    have b10_1 := cellOf hbx10 1 _ rfl
    have c10_2 := h12.cellN 2 (o := 6) rfl rfl
    have f10_2 := h12.free (6)
    have b10_2 := cellOf hbx10 2 _ rfl
    have c10_3 := h12.cellN 3 (o := 7) rfl rfl
    have f10_3 := h12.free (7)
    have b10_3 := cellOf hbx10 3 _ rfl
    have c10_4 := h12.cellN 4 (o := 8) rfl rfl
    have f10_4 := h12.free (8)
    have b10_4 := cellOf hbx10 4 _ rfl
    have c10_5 := h12.cellN 5 (o := 9) rfl rfl
    have f10_5 := h12.free (9)
    have b10_5 := cellOf hbx10 5 _ rfl
    have c10_6 := h12.cellN 6 (o := 10) rfl rfl
    have f10_6 := h12.free (10)
    have b10_6 := cellOf hbx10 6 _ rfl
    have c10_7 := h12.cellN 7 (o := 11) rfl rfl
    have f10_7 := h12.free (11)
    have b10_7 := cellOf hbx10 7 _ rfl
    have c10_8 := h12.cellN 8 (o := 12) rfl rfl
    have f10_8 := h12.free (12)
    have b10_8 := cellOf hbx10 8 _ rfl
    have c10_9 := h12.cellN 9 (o := 13) rfl rfl
    have f10_9 := h12.free (13)
    have b10_9 := cellOf hbx10 9 _ rfl
    have c10_10 := h12.cellN 10 (o := 14) rfl rfl
    have f10_10 := h12.free (14)
    have b10_10 := cellOf hbx10 10 _ rfl
    have c10_11 := h12.cellN 11 (o := 15) rfl rfl
    have f10_11 := h12.free (15)
    have b10_11 := cellOf hbx10 11 _ rfl
    have c10_12 := h12.cellN 12 (o := 16) rfl rfl
    have f10_12 := h12.free (16)
    have b10_12 := cellOf hbx10 12 _ rfl
    have c10_13 := h12.cellN 13 (o := 17) rfl rfl
    have f10_13 := h12.free (17)
    have b10_13 := cellOf hbx10 13 _ rfl
    have c10_14 := h12.cellN 14 (o := 18) rfl rfl
    have f10_14 := h12.free (18)
    have b10_14 := cellOf hbx10 14 _ rfl
    have c10_15 := h12.cellN 15 (o := 19) rfl rfl
    have f10_15 := h12.free (19)
    have b10_15 := cellOf hbx10 15 _ rfl
    have HU10 : Hid (∃ cu10 : List Value, cu10.length = 16 ∧ ElSt w ((((((((((((((((ub10.setCell ⟨b, 4, none⟩ (.int .u8 (y10_0.toNat : Int))).setCell ⟨b, 5, none⟩ (.int .u8 (y10_1.toNat : Int))).setCell ⟨b, 6, none⟩ (.int .u8 (y10_2.toNat : Int))).setCell ⟨b, 7, none⟩ (.int .u8 (y10_3.toNat : Int))).setCell ⟨b, 8, none⟩ (.int .u8 (y10_4.toNat : Int))).setCell ⟨b, 9, none⟩ (.int .u8 (y10_5.toNat : Int))).setCell ⟨b, 10, none⟩ (.int .u8 (y10_6.toNat : Int))).setCell ⟨b, 11, none⟩ (.int .u8 (y10_7.toNat : Int))).setCell ⟨b, 12, none⟩ (.int .u8 (y10_8.toNat : Int))).setCell ⟨b, 13, none⟩ (.int .u8 (y10_9.toNat : Int))).setCell ⟨b, 14, none⟩ (.int .u8 (y10_10.toNat : Int))).setCell ⟨b, 15, none⟩ (.int .u8 (y10_11.toNat : Int))).setCell ⟨b, 16, none⟩ (.int .u8 (y10_12.toNat : Int))).setCell ⟨b, 17, none⟩ (.int .u8 (y10_13.toNat : Int))).setCell ⟨b, 18, none⟩ (.int .u8 (y10_14.toNat : Int))).setCell ⟨b, 19, none⟩ (.int .u8 (y10_15.toNat : Int))) b w.heap.size G (rdUuid zs7).2 [.int .i16 ver] ([.pointer pa1, .int .i32 (rdI 4 zs1).1, .int .i32 (rdI 4 zs4).1] ++ cu10) [.slice none 0 0, .int .i16 0, .int .i16 0, .map none, .map none] [] 185 [.mk 8 0 (-1) 0 (-1) 0 0 [], .mk 3 0 (-1) (-1) (-1) 0 0 [], .mk 3 0 (-1) (-1) (-1) 0 0 [], .mk 7 0 (-1) (-1) (-1) 0 0 []] [(nstrT (rdCNStr (l, false)).1), (.mk (rdI 4 zs1).1 [] false [] []), (.mk (rdI 4 zs4).1 [] false [] []), (.mk 0 (rdUuid zs7).1 false [] [])]) := ⟨_, rfl, h12.put16 rfl rfl rfl rfl rfl rfl rfl rfl rfl rfl rfl rfl rfl rfl rfl rfl (vf_uuid2 (x := (rdUuid zs7).1) (by rw [hx10]; rfl) (pad16_length _))⟩
    clear h12 hx10 hbx10
    go_wp2_with (go_meet; exact HU10.out)
  case rest =>
    obtain ⟨cu10, hl_cu10, h13⟩ := hcut
    obtain ⟨wu10, rfl⟩ : ∃ x : World, x = wc := ⟨_, rfl⟩
    clear h12 hbx10 hx10
    generalize (rdUuid zs7).2 = zs10 at *
    have cl14 := h13.cellAt (o := 20) (by simp [hl_cu10])
    go_wp2_with (first
      | (go_at_call 213; go_loud (refine (clen_any h13.rd h13.hG h13.nrb).mono ?_; rintro e w14 ⟨rfl, r14, k14⟩; have lr14 := rdCLen_range zs10; have h15 := h13.call r14 k14; clear r14 k14; generalize hl14 : (rdCLen zs10).1 = L14 at *; have HL14 : Hid _ := hl14; clear h13 hl14)))
    cases hbad14 : (rdCLen zs10).2.2
    case true =>
      have HB : (rdPart q_UpdateRaftVoterRequest ver true (l, false)).2.2 = true := by rw [HEQ0.out]; (try dsimp only); exact rdTags_b _ (rdTags_b _ (rdI_b 2 _ (rdI_b 2 _ ((show (rdF (.mk 11 0 (-1) (-1) (-1) 0 10 q_UpdateRaftVoterRequestListener) ver true zs10).2.2 = true from clist_bad hbad14)))))
      have HBB : Hid _ := HB
      clear HB
      go_wp2_with (first
        | (go_at_call 215; refine (ok_any h15.rd).mono ?_; rintro e wo ⟨rfl, rfl⟩; rw [hbad14])
        | (go_at_call 216; go_loud (refine (complete_any h15.rd (hg.keep (h15.keep) (by simp; omega))).mono ?_; rintro e wz ⟨rfl, kz⟩; rw [hbad14])))
      go_ret
      rw [HBB.out]
      exact ⟨by simp, (Keep.fresh (B := [b]) (h15.keep) (by simp)).trans (kz.weaken (by simp)), fun e => by cases e⟩
    case false =>
      go_upto_if 81 with (go_at_call 215; refine (ok_any h15.rd).mono ?_; rintro e wo ⟨rfl, rfl⟩; rw [hbad14])
      go_cut [16] (fun av wx => RowIni w14 wx (.slice none 0 0) av L14.toNat [.string ⟨#[]⟩, .string ⟨#[]⟩, .int .u16 0, .map none] 190)
      case first =>
        by_cases hp : 0 < L14
        · obtain ⟨N, rfl⟩ : ∃ N : Nat, L14 = N := ⟨L14.toNat, by omega⟩
          obtain ⟨i0, hi, hz0, hz1, hz2⟩ := info_bd info_UpdateRaftVoterRequestListener
          have AP := run_append_empty_zeros (P := Tryz.prog) w14 181 21 181 190 i0 _ .i32 .i32 Tryz.underlying181 Tryz.underlying21 hi hz0 N (by omega) (by omega) (by omega) (Nat.le_trans (Nat.mul_le_mul_left N hz2) (by omega)) none
          go_wp2_with (first
            | (at_builtin; go_loud (refine Lib.wpList_append_run _ rfl (.tmp 82) (.tmp 83) 181 21 rfl _ _ rfl rfl _ _ AP ?_))
            | (go_meet; rw [Int.toNat_natCast]; exact RowIni.made2 (w := w14) (z := .agg #[.string ⟨#[]⟩, .string ⟨#[]⟩, .int .u16 0, .map none]) (N := N) (e := 190) (show 0 < N by omega) rfl _))
        · go_wp2_with (go_meet; exact .inl ⟨by omega, rfl, rfl⟩)
      case rest =>
        have RR14 := RowRel.start hcut h15.rd h15.hG h15.nrb (gOf 10 true q_UpdateRaftVoterRequestListener ver) 4 10 q_UpdateRaftVoterRequestListener
        clear hcut
        obtain ⟨wl14, rfl⟩ : ∃ x : World, x = wc := ⟨_, rfl⟩
        obtain ⟨av14, rfl⟩ : ∃ x : Value, x = u16 := ⟨_, rfl⟩
        go_wp2_with fail
        refine urv_l0fs (p := p) (by first | rfl | (simp; done) | (simp; omega)) RR14 lr14 h15.hG h15.nrb h15.rd.lt' (hg.keep (h15.keep) (by simp; omega)) (by have := hp1; omega) hv0 ?hret ?hexit
        case hret =>
          show ∀ (a' : Act) (wz : World), _
          intro a' wz z1 z2 z3 z4
          have HB : (rdPart q_UpdateRaftVoterRequest ver true (l, false)).2.2 = true := by rw [HEQ0.out]; (try dsimp only); exact rdTags_b _ (rdTags_b _ (rdI_b 2 _ (rdI_b 2 _ ((show (rdF (.mk 11 0 (-1) (-1) (-1) 0 10 q_UpdateRaftVoterRequestListener) ver true zs10).2.2 = true by rw [rdF_clist HL14.out]; exact z4)))))
          repeat (first | refine inBlock_ret ?_ | refine then_ret ?_)
          refine ret_post (fn := Tryz.f188) rfl z1 z2 ?_
          rw [HB]
          exact ⟨by simp, Keep.fresh (B := [b]) (Keep.trans (h15.keep) (z3.weaken (by simp))) (by simp), fun e => by cases e⟩
        case hexit =>
          intro wr14 y18 y19 y20 y21 y22 y23 y85 y86 y87 y88 y89 y90 y91 y92 y93 y94 y95 y96 y97 y98 y99 y100 y101 y102 y103 y104 y105 y106 y107 y108 y109 y110 y111 y112 y113 y114 y115 y116 y117 y118 y119 y120 y121 y122 y123 y124 y125 y126 y127 RR
          have KR14 := RR.keep
          obtain ⟨rr, kr, ⟨ao14, cp14, rfl⟩, vl⟩ := RR.fin (by omega) (.inl rfl)
          clear RR RR14
          have LE := rdF_clist (a := 0) (b := (-1)) (c := (-1)) (d := 0) (ofk := 10) (v := ver) (sub := q_UpdateRaftVoterRequestListener) HL14.out
          have rr2 : Rd wr14 w.heap.size G (rdF (.mk 11 0 (-1) (-1) (-1) 0 10 q_UpdateRaftVoterRequestListener) ver true zs10).2 := by rw [LE]; exact rr
          have vl2 := vl (decide (L14 ≤ 0)) (by simp)
          have vl3 : VL wr14 (Nw G w14 w.heap.size wr14) (VK wr14 (Nw G w14 w.heap.size wr14) 10 (-1) (VFs wr14 (Nw G w14 w.heap.size wr14) q_UpdateRaftVoterRequestListener)) 4 (.slice ao14 L14.toNat cp14) (rdF (.mk 11 0 (-1) (-1) (-1) 0 10 q_UpdateRaftVoterRequestListener) ver true zs10).1 := by rw [LE]; exact vl2
          have gr : ∀ i, Nw G w14 w.heap.size wr14 i → Nw G w w.heap.size wr14 i := fun i hi => ⟨hi.1.imp id (Nat.le_trans h15.keep.size), hi.2⟩
          have vl4 := VL.keepF (fun _ _ => rfl) gr (fun c t => VK.keepF (fun _ _ => rfl) gr (fun c l => VFs.keepF (fun _ _ => rfl) gr q_UpdateRaftVoterRequestListener)) vl3
          have h16 := h15.call rr2 kr
          clear rr rr2 vl vl2 vl3 LE
          have c14 := h16.cellAt (o := 20) (by simp [hl_cu10])
          have f14 := h16.free (20)
          have h17 : ElSt w (wr14.setCell ⟨b, 20, none⟩ (.slice ao14 L14.toNat cp14)) b w.heap.size G (rdF (.mk 11 0 (-1) (-1) (-1) 0 10 q_UpdateRaftVoterRequestListener) ver true zs10).2 [.int .i16 ver] (([.pointer pa1, .int .i32 (rdI 4 zs1).1, .int .i32 (rdI 4 zs4).1] ++ cu10) ++ [.slice ao14 L14.toNat cp14]) [.int .i16 0, .int .i16 0, .map none, .map none] [] 185 [.mk 8 0 (-1) 0 (-1) 0 0 [], .mk 3 0 (-1) (-1) (-1) 0 0 [], .mk 3 0 (-1) (-1) (-1) 0 0 [], .mk 7 0 (-1) (-1) (-1) 0 0 [], .mk 11 0 (-1) (-1) (-1) 0 10 q_UpdateRaftVoterRequestListener] [(nstrT (rdCNStr (l, false)).1), (.mk (rdI 4 zs1).1 [] false [] []), (.mk (rdI 4 zs4).1 [] false [] []), (.mk 0 (rdUuid zs7).1 false [] []), (rdF (.mk 11 0 (-1) (-1) (-1) 0 10 q_UpdateRaftVoterRequestListener) ver true zs10).1] := h16.put (o := 20) (by simp [hl_cu10]) (vf_list rfl vl4)
          clear h15 h16 vl4 gr
          generalize (rdF (.mk 11 0 (-1) (-1) (-1) 0 10 q_UpdateRaftVoterRequestListener) ver true zs10).2 = zs14 at *
          go_wp2_with (first
            | (go_at_call 261; go_loud (refine (d_UpdateRaftVoterRequestKRaftVersionFeature _ _).mono ?_; rintro e wd ⟨rfl, rfl⟩; have h18 := ElSt.into (zs := [.int .i16 0, .int .i16 0, .map none]) (rest := [.map none]) h17))
            | (go_at_call 224; go_loud (refine (int16_any h18.rd h18.hG h18.nrb).mono ?_; rintro e w19 ⟨rfl, r19, k19⟩; have h20 := h18.call r19 k19; have c19 := h20.cellAt (o := 21) (by simp [hl_cu10]); have f19 := h20.free (21); have h21 : ElSt (wr14.setCell ⟨b, 20, none⟩ (.slice ao14 L14.toNat cp14)) (w19.setCell ⟨b, 21, none⟩ (.int .i16 (rdI 2 zs14).1)) b w.heap.size G (rdI 2 zs14).2 ([.int .i16 ver] ++ (([.pointer pa1, .int .i32 (rdI 4 zs1).1, .int .i32 (rdI 4 zs4).1] ++ cu10) ++ [.slice ao14 L14.toNat cp14])) [.int .i16 (rdI 2 zs14).1] [.int .i16 0, .map none] ([.map none] ++ []) 185 [.mk 2 0 (-1) (-1) (-1) 0 0 []] [(.mk (rdI 2 zs14).1 [] false [] [])] := h20.put (o := 21) (by simp [hl_cu10]) (vf_i16 (rdI_range2 _)); clear r19 k19 h18 h20; generalize (rdI 2 zs14).2 = zs19 at *))
            | (go_at_call 224; go_loud (refine (int16_any h21.rd h21.hG h21.nrb).mono ?_; rintro e w22 ⟨rfl, r22, k22⟩; have h23 := h21.call r22 k22; have c22 := h23.cellAt (o := 22) (by simp [hl_cu10]); have f22 := h23.free (22); have h24 : ElSt (wr14.setCell ⟨b, 20, none⟩ (.slice ao14 L14.toNat cp14)) (w22.setCell ⟨b, 22, none⟩ (.int .i16 (rdI 2 zs19).1)) b w.heap.size G (rdI 2 zs19).2 ([.int .i16 ver] ++ (([.pointer pa1, .int .i32 (rdI 4 zs1).1, .int .i32 (rdI 4 zs4).1] ++ cu10) ++ [.slice ao14 L14.toNat cp14])) [.int .i16 (rdI 2 zs14).1, .int .i16 (rdI 2 zs19).1] [.map none] ([.map none] ++ []) 185 [.mk 2 0 (-1) (-1) (-1) 0 0 [], .mk 2 0 (-1) (-1) (-1) 0 0 []] [(.mk (rdI 2 zs14).1 [] false [] []), (.mk (rdI 2 zs19).1 [] false [] [])] := h23.put (o := 22) (by simp [hl_cu10]) (vf_i16 (rdI_range2 _)); clear r22 k22 h21 h23; generalize (rdI 2 zs19).2 = zs22 at *))
            | (go_at_call 225; go_loud (refine (rtags_any h24.rd h24.hG h24.nrb).mono ?_; rintro e w25 ⟨tv25, rfl, mp25, mb25, r25, k25⟩; obtain ⟨mr25, rfl⟩ := mp25.shape; have mq25 := mp25.keepF (fun _ _ => rfl) (h24.nwNew (W := w25)); have h26 := h24.call r25 k25; have c25 := h26.cellAt (o := 23) (by simp [hl_cu10]); have f25 := h26.free (23); have he27 := h26.tags (o := 23) (by simp [hl_cu10]) mq25; clear r25 k25 h24 h26; have h28 : ElSt w (w25.setCell ⟨b, 23, none⟩ (.map mr25)) b w.heap.size G (rdTags zs22).2 [.int .i16 ver] ((([.pointer pa1, .int .i32 (rdI 4 zs1).1, .int .i32 (rdI 4 zs4).1] ++ cu10) ++ [.slice ao14 L14.toNat cp14]) ++ [.int .i16 (rdI 2 zs14).1, .int .i16 (rdI 2 zs19).1, .map mr25]) [.map none] [] 185 [.mk 8 0 (-1) 0 (-1) 0 0 [], .mk 3 0 (-1) (-1) (-1) 0 0 [], .mk 3 0 (-1) (-1) (-1) 0 0 [], .mk 7 0 (-1) (-1) (-1) 0 0 [], .mk 11 0 (-1) (-1) (-1) 0 10 q_UpdateRaftVoterRequestListener, .mk 10 0 (-1) (-1) (-1) 0 0 q_UpdateRaftVoterRequestKRaftVersionFeature] [(nstrT (rdCNStr (l, false)).1), (.mk (rdI 4 zs1).1 [] false [] []), (.mk (rdI 4 zs4).1 [] false [] []), (.mk 0 (rdUuid zs7).1 false [] []), (rdF (.mk 11 0 (-1) (-1) (-1) 0 10 q_UpdateRaftVoterRequestListener) ver true zs10).1, (.mk 0 [] false [(.mk (rdI 2 zs14).1 [] false [] []), (.mk (rdI 2 zs19).1 [] false [] [])] (rdTags zs22).1)] := h17.out (zs := [.int .i16 0, .int .i16 0, .map none]) (rest := [.map none]) he27; clear h17 he27; generalize (rdTags zs22).2 = zs29 at *))
            | (go_at_call 225; go_loud (refine (rtags_any h28.rd h28.hG h28.nrb).mono ?_; rintro e w30 ⟨tv30, rfl, mp30, mb30, r30, k30⟩; obtain ⟨mr30, rfl⟩ := mp30.shape; have mq30 := mp30.keepF (fun _ _ => rfl) (h28.nwNew (W := w30)); have h31 := h28.call r30 k30; have c30 := h31.cellAt (o := 24) (by simp [hl_cu10]); have f30 := h31.free (24); have he32 := h31.tags (o := 24) (by simp [hl_cu10]) mq30; clear r30 k30 h28 h31))
            | (go_at_call 216; go_loud (refine (complete_any he32.rd (hg.keep he32.keep (by simp; omega))).mono ?_; rintro e wz ⟨rfl, kz⟩)))
          go_ret
          have hz := he32.calm hG hGb hbl he32.rd.lt' kz
          obtain ⟨q1, q2⟩ := hz.vm (Nat.le_refl _)
          rw [HEQ0.out]
          dsimp only
          exact ⟨by simp, q1, fun _ => q2⟩
end Go.Proofs.YtdebdgofomnpoaaGreatDoor
