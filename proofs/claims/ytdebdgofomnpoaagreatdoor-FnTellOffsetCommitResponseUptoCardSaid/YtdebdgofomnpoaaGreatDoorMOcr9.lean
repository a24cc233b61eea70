/-
  OffsetCommitResponse: reading, a list's loop.
-/
import Derived.Test.YtdebdgofomnpoaaGreatDoorMOcr1
import Derived.Test.YtdebdgofomnpoaaGreatDoorMOcr6
import Derived.Deep.CutBlock
import Derived.Deep.DeepCutAuto
namespace Go.Proofs.YtdebdgofomnpoaaGreatDoor
open Go.ChangeShapes Go.WideShapes Go.ChangeAt Go.RowKit

set_option maxHeartbeats 40000000 in
set_option maxRecDepth 100000 in
theorem ocr_l0f1s {Q : Exit → Act → World → Prop} {G : Nat → Prop} {rb : Nat} {p : Addr} {ver : Int} {U1 wl : World} {s0 : St} {L : Int} {v0 av x0 x1 x3 x4 x5 x6 x10 x11 x12 x16 x17 x18 x19 x20 x21 x22 x23 x24 x25 x26 x27 x28 x29 x30 x31 x32 x33 x34 x35 x36 x37 x38 x39 x40 x41 x42 x43 x44 x45 x46 x47 x48 x49 x50 x51 x52 x53 x54 x55 x56 x57 x58 x59 x60 x61 x62 x63 x64 x65 x66 x67 x68 x69 x70 x71 x72 x73 x74 x75 x76 x77 x78 x79 x80 x81 x82 x83 x84 x85 x86 x87 x88 x89 x90 x91 x92 x93 x94 x95 x96 x97 x98 x99 x100 x101 x102 x103 x104 x105 x106 x107 x108 x109 x110 x111 x112 x113 x114 x115 x116 x117 x118 x119 x120 x121 x122 x123 x124 x125 x126 x127 x128 x129 x130 x131 x132 x133 x134 x135 x136 x137 x138 x139 x140 x141 x142 x143 x144 x145 x146 x147 x148 x149 x150 x151 x152 x153 x154 x155 x156 x157 x158 x159 x160 x161 x162 x163 x164 x165 : Value} {fl : Bool} (hfl : fl = true) (RR0 : RowRel U1 wl wl rb G (gOf 10 true q_OffsetCommitResponseTopic ver) s0 L.toNat 19 0 [.string ⟨#[]⟩, .int .u8 0, .int .u8 0, .int .u8 0, .int .u8 0, .int .u8 0, .int .u8 0, .int .u8 0, .int .u8 0, .int .u8 0, .int .u8 0, .int .u8 0, .int .u8 0, .int .u8 0, .int .u8 0, .int .u8 0, .int .u8 0, .slice none 0 0, .map none] 116 10 q_OffsetCommitResponseTopic v0 av) (_lr : -2147483648 ≤ L ∧ L ≤ 2147483647) (_hG : There G U1) (_hnb : ¬ G rb) (_hrl : rb < U1.heap.size) (hg : Gl U1 p) (hE : 1 ≠ rb) (hv0 : 0 ≤ ver) (_B10 : 10 ≤ ver)
    (HRET : Hid (∀ (a' : Act) (wz : World), a'.defers = [] → a'.tmps.getD 6 undef = errV p true → Keep [rb] U1 wz → (rdTimes (gOf 10 true q_OffsetCommitResponseTopic ver) L.toNat s0).2.2 = true → Q .ret a' wz))
    (HEX : Hid (∀ (wr : World) (y6 y15 y16 y17 y18 y19 y20 y21 y22 y23 y24 y25 y26 y27 y66 y67 y68 y69 y70 y71 y72 y73 y74 y75 y76 y77 y78 y79 y80 y81 y82 y83 y84 y85 y86 y87 y88 y89 y90 y91 y92 y93 y94 y95 y96 y97 y98 y99 y100 y101 y102 y103 y104 y105 y106 y107 y108 y109 y110 y111 y112 y113 y114 y115 y116 y117 y118 y119 y120 y121 y122 y123 y124 y125 y126 y127 y128 y129 y130 y131 y132 y133 y134 y135 y136 y137 y138 y139 y140 y141 y142 y143 y144 y145 y146 y147 y148 y149 y150 y151 y152 y153 y154 : Value), RowRel U1 wl wr rb G (gOf 10 true q_OffsetCommitResponseTopic ver) s0 L.toNat 19 L.toNat [.string ⟨#[]⟩, .int .u8 0, .int .u8 0, .int .u8 0, .int .u8 0, .int .u8 0, .int .u8 0, .int .u8 0, .int .u8 0, .int .u8 0, .int .u8 0, .int .u8 0, .int .u8 0, .int .u8 0, .int .u8 0, .int .u8 0, .int .u8 0, .slice none 0 0, .map none] 116 10 q_OffsetCommitResponseTopic v0 av → Q (.exit 0) ⟨(x0 :: x1 :: .bool false :: x3 :: x4 :: x5 :: y6 :: .pointer (some ⟨rb, 0, none⟩) :: .int .i16 ver :: .bool fl :: x10 :: x11 :: x12 :: av :: .int .i32 L :: y15 :: y16 :: y17 :: y18 :: y19 :: y20 :: y21 :: y22 :: y23 :: y24 :: y25 :: y26 :: y27 :: x28 :: x29 :: x30 :: x31 :: x32 :: x33 :: x34 :: x35 :: x36 :: x37 :: x38 :: x39 :: x40 :: x41 :: x42 :: x43 :: x44 :: x45 :: x46 :: x47 :: x48 :: x49 :: x50 :: x51 :: x52 :: x53 :: x54 :: x55 :: x56 :: x57 :: x58 :: x59 :: x60 :: x61 :: x62 :: x63 :: x64 :: x65 :: y66 :: y67 :: y68 :: y69 :: y70 :: y71 :: y72 :: y73 :: y74 :: y75 :: y76 :: y77 :: y78 :: y79 :: y80 :: y81 :: y82 :: y83 :: y84 :: y85 :: y86 :: y87 :: y88 :: y89 :: y90 :: y91 :: y92 :: y93 :: y94 :: y95 :: y96 :: y97 :: y98 :: y99 :: y100 :: y101 :: y102 :: y103 :: y104 :: y105 :: y106 :: y107 :: y108 :: y109 :: y110 :: y111 :: y112 :: y113 :: y114 :: y115 :: y116 :: y117 :: y118 :: y119 :: y120 :: y121 :: y122 :: y123 :: y124 :: y125 :: y126 :: y127 :: y128 :: y129 :: y130 :: y131 :: y132 :: y133 :: y134 :: y135 :: y136 :: y137 :: y138 :: y139 :: y140 :: y141 :: y142 :: y143 :: y144 :: y145 :: y146 :: y147 :: y148 :: y149 :: y150 :: y151 :: y152 :: y153 :: y154 :: x155 :: x156 :: x157 :: x158 :: x159 :: x160 :: x161 :: x162 :: x163 :: x164 :: x165 :: []).toArray, []⟩ wr)) :
    Code.wp Tryz.prog (codeAt [true, true, true, true, true, true, true, true, true, false, true, true, true, true, true, true, true, false, true, false] (Tryz.f144.body.getD .skip)) Q ⟨(x0 :: x1 :: .bool false :: x3 :: x4 :: x5 :: x6 :: .pointer (some ⟨rb, 0, none⟩) :: .int .i16 ver :: .bool fl :: x10 :: x11 :: x12 :: av :: .int .i32 L :: .int .i32 0 :: x16 :: x17 :: x18 :: x19 :: x20 :: x21 :: x22 :: x23 :: x24 :: x25 :: x26 :: x27 :: x28 :: x29 :: x30 :: x31 :: x32 :: x33 :: x34 :: x35 :: x36 :: x37 :: x38 :: x39 :: x40 :: x41 :: x42 :: x43 :: x44 :: x45 :: x46 :: x47 :: x48 :: x49 :: x50 :: x51 :: x52 :: x53 :: x54 :: x55 :: x56 :: x57 :: x58 :: x59 :: x60 :: x61 :: x62 :: x63 :: x64 :: x65 :: x66 :: x67 :: x68 :: x69 :: x70 :: x71 :: x72 :: x73 :: x74 :: x75 :: x76 :: x77 :: x78 :: x79 :: x80 :: x81 :: x82 :: x83 :: x84 :: x85 :: x86 :: x87 :: x88 :: x89 :: x90 :: x91 :: x92 :: x93 :: x94 :: x95 :: x96 :: x97 :: x98 :: x99 :: x100 :: x101 :: x102 :: x103 :: x104 :: x105 :: x106 :: x107 :: x108 :: x109 :: x110 :: x111 :: x112 :: x113 :: x114 :: x115 :: x116 :: x117 :: x118 :: x119 :: x120 :: x121 :: x122 :: x123 :: x124 :: x125 :: x126 :: x127 :: x128 :: x129 :: x130 :: x131 :: x132 :: x133 :: x134 :: x135 :: x136 :: x137 :: x138 :: x139 :: x140 :: x141 :: x142 :: x143 :: x144 :: x145 :: x146 :: x147 :: x148 :: x149 :: x150 :: x151 :: x152 :: x153 :: x154 :: x155 :: x156 :: x157 :: x158 :: x159 :: x160 :: x161 :: x162 :: x163 :: x164 :: x165 :: []).toArray, []⟩ wl := by
  subst hfl
  conv => arg 2; whnf
  let _QX : Exit → Act → World → Prop := bodyPost Tryz.prog Tryz.f144 (fun _ _ => True)
  go_loopw [15] (fun i wr => ∃ k : Nat, k ≤ L.toNat ∧ i = .int .i32 (k : Int) ∧ RowRel U1 wl wr rb G (gOf 10 true q_OffsetCommitResponseTopic ver) s0 L.toNat 19 k [.string ⟨#[]⟩, .int .u8 0, .int .u8 0, .int .u8 0, .int .u8 0, .int .u8 0, .int .u8 0, .int .u8 0, .int .u8 0, .int .u8 0, .int .u8 0, .int .u8 0, .int .u8 0, .int .u8 0, .int .u8 0, .int .u8 0, .int .u8 0, .slice none 0 0, .map none] 116 10 q_OffsetCommitResponseTopic v0 av) (fun i _ => L.toNat - (intOf i).toNat)
  case atStart => exact ⟨0, Nat.zero_le _, rfl, RR0⟩
  case round =>
    obtain ⟨k, hk, rfl, RR⟩ := hrel
    clear RR0
    have KR := RR.keep
    by_cases lt : (k : Int) < L
    · obtain ⟨row, cap, pre, post, rfl, _hcap, _hrw, hpre, e0, cont⟩ := RR.elem (by omega : k < L.toNat)
      obtain ⟨wk, rfl⟩ : ∃ x : World, x = wr := ⟨_, rfl⟩
      clear RR
      have HBF : Hid (((gOf 10 true q_OffsetCommitResponseTopic ver) (rdTimes (gOf 10 true q_OffsetCommitResponseTopic ver) k s0).2).2.2 = true → (rdTimes (gOf 10 true q_OffsetCommitResponseTopic ver) L.toNat s0).2.2 = true) := fun h => rdTimes_from (gOf_b 10 true q_OffsetCommitResponseTopic ver) _ (k + 1) h _ (by omega)
      generalize (rdTimes (gOf 10 true q_OffsetCommitResponseTopic ver) k s0).2 = sk at *
      have HEQ : Hid ((gOf 10 true q_OffsetCommitResponseTopic ver) sk = (.mk 0 [] false [(.mk 0 [] false [] []), (.mk 0 (rdUuid sk).1 false [] []), (rdF (.mk 11 0 (-1) (-1) (-1) 0 10 q_OffsetCommitResponseTopicPartition) ver true (rdUuid sk).2).1] (rdTags (rdF (.mk 11 0 (-1) (-1) (-1) 0 10 q_OffsetCommitResponseTopicPartition) ver true (rdUuid sk).2).2).1, (rdTags (rdF (.mk 11 0 (-1) (-1) (-1) 0 10 q_OffsetCommitResponseTopicPartition) ver true (rdUuid sk).2).2).2)) := by
        show _ = _
        simp [gOf, rdK, rdPartOf, q_OffsetCommitResponseTopic, rdFs, (has_no2 (show ¬ ver ≤ (9 : Int) by omega) (by decide) : F.has (.mk 8 0 9 (-1) (-1) 0 0 []) ver = false), (has_yes (show (10 : Int) ≤ ver by omega) (.inl (by decide)) : F.has (.mk 7 10 (-1) (-1) (-1) 0 0 []) ver = true), (has_yes (show (0 : Int) ≤ ver by omega) (.inl (by decide)) : F.has (.mk 11 0 (-1) (-1) (-1) 0 10 q_OffsetCommitResponseTopicPartition) ver = true), rdF, dflF]
      go_upto_region 40 with (first
        | (go_at_call 217; go_loud (refine (d_OffsetCommitResponseTopic _ _).mono ?_; rintro e wd ⟨rfl, rfl⟩))
        | (go_at_call 222; go_loud (have h1 : ElSt wk wk row rb G sk pre [.string ⟨#[]⟩] [.int .u8 0, .int .u8 0, .int .u8 0, .int .u8 0, .int .u8 0, .int .u8 0, .int .u8 0, .int .u8 0, .int .u8 0, .int .u8 0, .int .u8 0, .int .u8 0, .int .u8 0, .int .u8 0, .int .u8 0, .int .u8 0, .slice none 0 0, .map none] post 116 [.mk 8 0 9 (-1) (-1) 0 0 []] [(.mk 0 [] false [] [])] := e0.pass (vf_str (by decide) []); clear e0; refine (uuid_lit h1.rd h1.hG h1.nrb).mono ?_; rintro e w2 ⟨y2_0, y2_1, y2_2, y2_3, y2_4, y2_5, y2_6, y2_7, y2_8, y2_9, y2_10, y2_11, y2_12, y2_13, y2_14, y2_15, hx2, rfl, r2, k2⟩; have h3 := h1.call r2 k2; clear h1 r2 k2)))
      have h4 := h3.calm (U' := (w2.alloc (.cells #[.int .u8 (y2_0.toNat : Int), .int .u8 (y2_1.toNat : Int), .int .u8 (y2_2.toNat : Int), .int .u8 (y2_3.toNat : Int), .int .u8 (y2_4.toNat : Int), .int .u8 (y2_5.toNat : Int), .int .u8 (y2_6.toNat : Int), .int .u8 (y2_7.toNat : Int), .int .u8 (y2_8.toNat : Int), .int .u8 (y2_9.toNat : Int), .int .u8 (y2_10.toNat : Int), .int .u8 (y2_11.toNat : Int), .int .u8 (y2_12.toNat : Int), .int .u8 (y2_13.toNat : Int), .int .u8 (y2_14.toNat : Int), .int .u8 (y2_15.toNat : Int)] 113))) (keep_box _)
      have hbx2 := heap_alloc_new w2 (.cells #[.int .u8 (y2_0.toNat : Int), .int .u8 (y2_1.toNat : Int), .int .u8 (y2_2.toNat : Int), .int .u8 (y2_3.toNat : Int), .int .u8 (y2_4.toNat : Int), .int .u8 (y2_5.toNat : Int), .int .u8 (y2_6.toNat : Int), .int .u8 (y2_7.toNat : Int), .int .u8 (y2_8.toNat : Int), .int .u8 (y2_9.toNat : Int), .int .u8 (y2_10.toNat : Int), .int .u8 (y2_11.toNat : Int), .int .u8 (y2_12.toNat : Int), .int .u8 (y2_13.toNat : Int), .int .u8 (y2_14.toNat : Int), .int .u8 (y2_15.toNat : Int)] 113)
      clear h3
      generalize (w2.alloc (.cells #[.int .u8 (y2_0.toNat : Int), .int .u8 (y2_1.toNat : Int), .int .u8 (y2_2.toNat : Int), .int .u8 (y2_3.toNat : Int), .int .u8 (y2_4.toNat : Int), .int .u8 (y2_5.toNat : Int), .int .u8 (y2_6.toNat : Int), .int .u8 (y2_7.toNat : Int), .int .u8 (y2_8.toNat : Int), .int .u8 (y2_9.toNat : Int), .int .u8 (y2_10.toNat : Int), .int .u8 (y2_11.toNat : Int), .int .u8 (y2_12.toNat : Int), .int .u8 (y2_13.toNat : Int), .int .u8 (y2_14.toNat : Int), .int .u8 (y2_15.toNat : Int)] 113)) = ub2 at *
      go_cut [] (fun wx => ∃ cu2 : List Value, cu2.length = 16 ∧ ElSt wk wx row rb G (rdUuid sk).2 pre ([.string ⟨#[]⟩] ++ cu2) [.slice none 0 0, .map none] post 116 [.mk 8 0 9 (-1) (-1) 0 0 [], .mk 7 10 (-1) (-1) (-1) 0 0 []] [(.mk 0 [] false [] []), (.mk 0 (rdUuid sk).1 false [] [])])
      case first =>
        have c2_0 := h4.cellN 0 (o := k * 19 + 1) rfl (el_atN hpre rfl)
        have f2_0 := h4.free (k * 19 + 1)
        have b2_0 := cellOf hbx2 0 _ rfl
        have c2_1 := h4.cellN 1 (o := k * 19 + 2) rfl (el_atN hpre rfl)
        have f2_1 := h4.free (k * 19 + 2)
        have b2_1 := cellOf hbx2 1 _ rfl
        have c2_2 := h4.cellN 2 (o := k * 19 + 3) rfl (el_atN hpre rfl)
        have f2_2 := h4.free (k * 19 + 3)
        have b2_2 := cellOf hbx2 2 _ rfl
        have c2_3 := h4.cellN 3 (o := k * 19 + 4) rfl (el_atN hpre rfl)
        have f2_3 := h4.free (k * 19 + 4)
        have b2_3 := cellOf hbx2 3 _ rfl
        have c2_4 := h4.cellN 4 (o := k * 19 + 5) rfl (el_atN hpre rfl)
        have f2_4 := h4.free (k * 19 + 5)
        have b2_4 := cellOf hbx2 4 _ rfl
        have c2_5 := h4.cellN 5 (o := k * 19 + 6) rfl (el_atN hpre rfl)
        have f2_5 := h4.free (k * 19 + 6)
        have b2_5 := cellOf hbx2 5 _ rfl
        have c2_6 := h4.cellN 6 (o := k * 19 + 7) rfl (el_atN hpre rfl)
        have f2_6 := h4.free (k * 19 + 7)
        have b2_6 := cellOf hbx2 6 _ rfl
        have c2_7 := h4.cellN 7 (o := k * 19 + 8) rfl (el_atN hpre rfl)
        have f2_7 := h4.free (k * 19 + 8)
        have b2_7 := cellOf hbx2 7 _ rfl
        have c2_8 := h4.cellN 8 (o := k * 19 + 9) rfl (el_atN hpre rfl)
        have f2_8 := h4.free (k * 19 + 9)
        have b2_8 := cellOf hbx2 8 _ rfl
        have c2_9 := h4.cellN 9 (o := k * 19 + 10) rfl (el_atN hpre rfl)
        have f2_9 := h4.free (k * 19 + 10)
        have b2_9 := cellOf hbx2 9 _ rfl
        have c2_10 := h4.cellN 10 (o := k * 19 + 11) rfl (el_atN hpre rfl)
        have f2_10 := h4.free (k * 19 + 11)
        have b2_10 := cellOf hbx2 10 _ rfl
        have c2_11 := h4.cellN 11 (o := k * 19 + 12) rfl (el_atN hpre rfl)
        have f2_11 := h4.free (k * 19 + 12)
        have b2_11 := cellOf hbx2 11 _ rfl
        have c2_12 := h4.cellN 12 (o := k * 19 + 13) rfl (el_atN hpre rfl)
        have f2_12 := h4.free (k * 19 + 13)
        have b2_12 := cellOf hbx2 12 _ rfl
        have c2_13 := h4.cellN 13 (o := k * 19 + 14) rfl (el_atN hpre rfl)
        have f2_13 := h4.free (k * 19 + 14)
        have b2_13 := cellOf hbx2 13 _ rfl
        have c2_14 := h4.cellN 14 (o := k * 19 + 15) rfl (el_atN hpre rfl)
        have f2_14 := h4.free (k * 19 + 15)
        have b2_14 := cellOf hbx2 14 _ rfl
        have c2_15 := h4.cellN 15 (o := k * 19 + 16) rfl (el_atN hpre rfl)
        have f2_15 := h4.free (k * 19 + 16)
        have b2_15 := cellOf hbx2 15 _ rfl
        have HU2 : Hid (∃ cu2 : List Value, cu2.length = 16 ∧ ElSt wk ((((((((((((((((ub2.setCell ⟨row, k * 19 + 1, none⟩ (.int .u8 (y2_0.toNat : Int))).setCell ⟨row, k * 19 + 2, none⟩ (.int .u8 (y2_1.toNat : Int))).setCell ⟨row, k * 19 + 3, none⟩ (.int .u8 (y2_2.toNat : Int))).setCell ⟨row, k * 19 + 4, none⟩ (.int .u8 (y2_3.toNat : Int))).setCell ⟨row, k * 19 + 5, none⟩ (.int .u8 (y2_4.toNat : Int))).setCell ⟨row, k * 19 + 6, none⟩ (.int .u8 (y2_5.toNat : Int))).setCell ⟨row, k * 19 + 7, none⟩ (.int .u8 (y2_6.toNat : Int))).setCell ⟨row, k * 19 + 8, none⟩ (.int .u8 (y2_7.toNat : Int))).setCell ⟨row, k * 19 + 9, none⟩ (.int .u8 (y2_8.toNat : Int))).setCell ⟨row, k * 19 + 10, none⟩ (.int .u8 (y2_9.toNat : Int))).setCell ⟨row, k * 19 + 11, none⟩ (.int .u8 (y2_10.toNat : Int))).setCell ⟨row, k * 19 + 12, none⟩ (.int .u8 (y2_11.toNat : Int))).setCell ⟨row, k * 19 + 13, none⟩ (.int .u8 (y2_12.toNat : Int))).setCell ⟨row, k * 19 + 14, none⟩ (.int .u8 (y2_13.toNat : Int))).setCell ⟨row, k * 19 + 15, none⟩ (.int .u8 (y2_14.toNat : Int))).setCell ⟨row, k * 19 + 16, none⟩ (.int .u8 (y2_15.toNat : Int))) row rb G (rdUuid sk).2 pre ([.string ⟨#[]⟩] ++ cu2) [.slice none 0 0, .map none] post 116 [.mk 8 0 9 (-1) (-1) 0 0 [], .mk 7 10 (-1) (-1) (-1) 0 0 []] [(.mk 0 [] false [] []), (.mk 0 (rdUuid sk).1 false [] [])]) := ⟨_, rfl, h4.put16 (el_at hpre rfl) (el_atN hpre rfl) (el_atN hpre rfl) (el_atN hpre rfl) (el_atN hpre rfl) (el_atN hpre rfl) (el_atN hpre rfl) (el_atN hpre rfl) (el_atN hpre rfl) (el_atN hpre rfl) (el_atN hpre rfl) (el_atN hpre rfl) (el_atN hpre rfl) (el_atN hpre rfl) (el_atN hpre rfl) (el_atN hpre rfl) (vf_uuid2 (x := (rdUuid sk).1) (by rw [hx2]; rfl) (pad16_length _))⟩
        clear h4 hx2 hbx2
        go_wp2_with (go_meet; exact HU2.out)
      case rest =>
        obtain ⟨cu2, hl_cu2, h5⟩ := hcut
        obtain ⟨wu2, rfl⟩ : ∃ x : World, x = wc := ⟨_, rfl⟩
        clear h4 hbx2 hx2
        have cl6 := h5.cellAt (o := k * 19 + 17) (el_at hpre (by simp [hl_cu2]))
        go_wp2_with (first
          | (go_at_call 213; go_loud (refine (clen_any h5.rd h5.hG h5.nrb).mono ?_; rintro e w6 ⟨rfl, r6, k6⟩; have lr6 := rdCLen_range (rdUuid sk).2; have h7 := h5.call r6 k6; clear r6 k6; generalize hl6 : (rdCLen (rdUuid sk).2).1 = L6 at *; have HL6 : Hid _ := hl6; clear h5 hl6)))
        cases hbad6 : (rdCLen (rdUuid sk).2).2.2
        case true =>
          have HB : (rdTimes (gOf 10 true q_OffsetCommitResponseTopic ver) L.toNat s0).2.2 = true := HBF.out (by rw [HEQ.out]; (try dsimp only); exact rdTags_b _ ((show (rdF (.mk 11 0 (-1) (-1) (-1) 0 10 q_OffsetCommitResponseTopicPartition) ver true (rdUuid sk).2).2.2 = true from clist_bad hbad6)))
          have HBB : Hid _ := HB
          clear HB
          go_wp2_with (first
            | (go_at_call 215; refine (ok_any h7.rd).mono ?_; rintro e wo ⟨rfl, rfl⟩; rw [hbad6])
            | (go_at_call 216; go_loud (refine (complete_any h7.rd (hg.keep (Keep.fresh (B := [rb]) ((KR.weaken (B := [rb, row]) (by simp)).trans (h7.keep.weaken (by simp))) (by simp; omega)) (by simp; omega))).mono ?_; rintro e wz ⟨rfl, kz⟩; rw [hbad6])))
          exact HRET.out _ _ rfl rfl (Keep.trans (Keep.fresh (B := [rb]) ((KR.weaken (B := [rb, row]) (by simp)).trans (h7.keep.weaken (by simp))) (by simp; omega)) (kz.weaken (by simp))) HBB.out
        case false =>
          go_upto_if 115 with (go_at_call 215; refine (ok_any h7.rd).mono ?_; rintro e wo ⟨rfl, rfl⟩; rw [hbad6])
          go_cut [21] (fun av wx => RowIni w6 wx (.slice none 0 0) av L6.toNat [.int .i32 0, .int .i16 0, .map none] 238)
          case first =>
            by_cases hp : 0 < L6
            · obtain ⟨N, rfl⟩ : ∃ N : Nat, L6 = N := ⟨L6.toNat, by omega⟩
              obtain ⟨i0, hi, hz0, hz1, hz2⟩ := info_bd info_OffsetCommitResponseTopicPartition
              have AP := run_append_empty_zeros (P := Tryz.prog) w6 114 21 114 238 i0 _ .i32 .i32 Tryz.underlying114 Tryz.underlying21 hi hz0 N (by omega) (by omega) (by omega) (Nat.le_trans (Nat.mul_le_mul_left N hz2) (by omega)) none
              go_wp2_with (first
                | (at_builtin; go_loud (refine Lib.wpList_append_run _ rfl (.tmp 116) (.tmp 117) 114 21 rfl _ _ rfl rfl _ _ AP ?_))
                | (go_meet; rw [Int.toNat_natCast]; exact RowIni.made2 (w := w6) (z := .agg #[.int .i32 0, .int .i16 0, .map none]) (N := N) (e := 238) (show 0 < N by omega) rfl _))
            · go_wp2_with (go_meet; exact .inl ⟨by omega, rfl, rfl⟩)
          case rest =>
            have RR6 := RowRel.start hcut h7.rd h7.hG h7.nrb (gOf 10 true q_OffsetCommitResponseTopicPartition ver) 3 10 q_OffsetCommitResponseTopicPartition
            clear hcut
            obtain ⟨wl6, rfl⟩ : ∃ x : World, x = wc := ⟨_, rfl⟩
            obtain ⟨av6, rfl⟩ : ∃ x : Value, x = u21 := ⟨_, rfl⟩
            go_wp2_with fail
            refine ocr_l1f (p := p) (by first | rfl | (simp; done) | (simp; omega)) RR6 lr6 h7.hG h7.nrb h7.rd.lt' (hg.keep (Keep.fresh (B := [rb]) ((KR.weaken (B := [rb, row]) (by simp)).trans (h7.keep.weaken (by simp))) (by simp; omega)) (by simp; omega)) hE hv0 ?hret ?hexit
            case hret =>
              exact fun a' wz z1 z2 z3 z4 => HRET.out a' wz z1 z2 (Keep.trans (Keep.fresh (B := [rb]) ((KR.weaken (B := [rb, row]) (by simp)).trans (h7.keep.weaken (by simp))) (by simp; omega)) z3) (HBF.out (by rw [HEQ.out]; (try dsimp only); exact rdTags_b _ ((show (rdF (.mk 11 0 (-1) (-1) (-1) 0 10 q_OffsetCommitResponseTopicPartition) ver true (rdUuid sk).2).2.2 = true by rw [rdF_clist HL6.out]; exact z4))))
            case hexit =>
              intro wr6 y23 y24 y25 y26 y27 y119 y120 y121 y122 y123 y124 y125 y126 y127 y128 y129 y130 y131 y132 y133 y134 y135 y136 y137 y138 y139 y140 y141 y142 y143 y144 RR
              have KR6 := RR.keep
              obtain ⟨rr, kr, ⟨ao6, cp6, rfl⟩, vl⟩ := RR.fin (by omega) (.inl rfl)
              clear RR RR6
              have LE := rdF_clist (a := 0) (b := (-1)) (c := (-1)) (d := 0) (ofk := 10) (v := ver) (sub := q_OffsetCommitResponseTopicPartition) HL6.out
              have rr2 : Rd wr6 rb G (rdF (.mk 11 0 (-1) (-1) (-1) 0 10 q_OffsetCommitResponseTopicPartition) ver true (rdUuid sk).2).2 := by rw [LE]; exact rr
              have vl2 := vl (decide (L6 ≤ 0)) (by simp)
              have vl3 : VL wr6 (Nw G w6 rb wr6) (VK wr6 (Nw G w6 rb wr6) 10 (-1) (VFs wr6 (Nw G w6 rb wr6) q_OffsetCommitResponseTopicPartition)) 3 (.slice ao6 L6.toNat cp6) (rdF (.mk 11 0 (-1) (-1) (-1) 0 10 q_OffsetCommitResponseTopicPartition) ver true (rdUuid sk).2).1 := by rw [LE]; exact vl2
              have gr : ∀ i, Nw G w6 rb wr6 i → Nw G wk rb wr6 i := fun i hi => ⟨hi.1.imp id (Nat.le_trans h7.keep.size), hi.2⟩
              have vl4 := VL.keepF (fun _ _ => rfl) gr (fun c t => VK.keepF (fun _ _ => rfl) gr (fun c l => VFs.keepF (fun _ _ => rfl) gr q_OffsetCommitResponseTopicPartition)) vl3
              have h8 := h7.call rr2 kr
              clear rr rr2 vl vl2 vl3 LE
              have c6 := h8.cellAt (o := k * 19 + 17) (el_at hpre (by simp [hl_cu2]))
              have f6 := h8.free (k * 19 + 17)
              have h9 : ElSt wk (wr6.setCell ⟨row, k * 19 + 17, none⟩ (.slice ao6 L6.toNat cp6)) row rb G (rdF (.mk 11 0 (-1) (-1) (-1) 0 10 q_OffsetCommitResponseTopicPartition) ver true (rdUuid sk).2).2 pre (([.string ⟨#[]⟩] ++ cu2) ++ [.slice ao6 L6.toNat cp6]) [.map none] post 116 [.mk 8 0 9 (-1) (-1) 0 0 [], .mk 7 10 (-1) (-1) (-1) 0 0 [], .mk 11 0 (-1) (-1) (-1) 0 10 q_OffsetCommitResponseTopicPartition] [(.mk 0 [] false [] []), (.mk 0 (rdUuid sk).1 false [] []), (rdF (.mk 11 0 (-1) (-1) (-1) 0 10 q_OffsetCommitResponseTopicPartition) ver true (rdUuid sk).2).1] := h8.put (o := k * 19 + 17) (el_at hpre (by simp [hl_cu2])) (vf_list rfl vl4)
              clear h7 h8 vl4 gr
              go_wp2_with (first
                | (go_at_call 225; go_loud (refine (rtags_any h9.rd h9.hG h9.nrb).mono ?_; rintro e w10 ⟨tv10, rfl, mp10, mb10, r10, k10⟩; obtain ⟨mr10, rfl⟩ := mp10.shape; have mq10 := mp10.keepF (fun _ _ => rfl) (h9.nwNew (W := w10)); have h11 := h9.call r10 k10; have c10 := h11.cellAt (o := k * 19 + 18) (el_at hpre (by simp [hl_cu2])); have f10 := h11.free (k * 19 + 18); have he12 := h11.tags (o := k * 19 + 18) (el_at hpre (by simp [hl_cu2])) mq10; clear r10 k10 h9 h11))
                | ( go_roundw; (case rel => exact ⟨k + 1, by omega, by go_num, cont _ _ _ _ he12 (by simp [hl_cu2]) HEQ.out⟩); (case measure => (simp [intOf]; omega))))
    · have RE := RR.at_end (by omega)
      clear RR
      go_wp2_with fail
      exact HEX.out _ _ _ _ _ _ _ _ _ _ _ _ _ _ _ _ _ _ _ _ _ _ _ _ _ _ _ _ _ _ _ _ _ _ _ _ _ _ _ _ _ _ _ _ _ _ _ _ _ _ _ _ _ _ _ _ _ _ _ _ _ _ _ _ _ _ _ _ _ _ _ _ _ _ _ _ _ _ _ _ _ _ _ _ _ _ _ _ _ _ _ _ _ _ _ _ _ _ _ _ _ _ _ _ RE
end Go.Proofs.YtdebdgofomnpoaaGreatDoor
