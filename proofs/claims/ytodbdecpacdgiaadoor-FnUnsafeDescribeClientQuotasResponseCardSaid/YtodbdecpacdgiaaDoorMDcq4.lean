/-
  DescribeClientQuotasResponse: reading, a list's loop.
-/
import Derived.Test.YtodbdecpacdgiaaDoorMDcq1
import Derived.Test.YtodbdecpacdgiaaDoorMB13
import Derived.Test.YtodbdecpacdgiaaDoorMDcq2
import Derived.Test.YtodbdecpacdgiaaDoorMDcq3
import Derived.Deep.CutBlock
import Derived.Deep.DeepCutAuto
namespace Go.Proofs.YtodbdecpacdgiaaDoor
open Go.ChangeShapes Go.WideShapes Go.ChangeAt Go.RowKit

set_option maxHeartbeats 4000000 in
set_option maxRecDepth 100000 in
theorem dcq_l0ps {Q : Exit → Act → World → Prop} {G : Nat → Prop} {rb : Nat} {p : Addr} {ver : Int} {U1 wl : World} {s0 : St} {L : Int} {v0 av x0 x1 x3 x4 x5 x6 x8 x10 x11 x12 x13 x14 x18 x19 x20 x21 x22 x23 x24 x25 x26 x27 x28 x29 x30 x31 x32 x33 x34 x35 x36 x37 x38 x39 x40 x41 x42 x43 x44 x45 x46 x47 x48 x49 x50 x51 x52 x53 x54 x55 x56 x57 x58 x59 x60 x61 x62 x63 x64 x65 x66 x67 x68 x69 x70 x71 x72 x73 x74 x75 x76 x77 x78 x79 x80 x81 x82 x83 x84 x85 x86 x87 x88 x89 x90 x91 x92 x93 x94 x95 x96 x97 x98 x99 x100 x101 x102 x103 x104 x105 x106 x107 x108 x109 x110 x111 x112 x113 x114 x115 x116 x117 x118 x119 x120 x121 x122 x123 x124 x125 x126 x127 x128 x129 x130 x131 x132 x133 x134 x135 x136 x137 x138 x139 x140 x141 x142 x143 x144 x145 x146 x147 x148 x149 x150 x151 x152 x153 x154 x155 x156 x157 x158 x159 x160 x161 x162 x163 x164 x165 x166 x167 x168 x169 x170 x171 x172 x173 x174 x175 x176 x177 x178 x179 x180 x181 x182 x183 x184 x185 x186 x187 x188 x189 x190 x191 x192 x193 x194 x195 x196 x197 x198 x199 x200 x201 x202 x203 x204 x205 x206 x207 x208 x209 x210 x211 x212 x213 x214 x215 x216 x217 x218 x219 x220 x221 x222 x223 x224 x225 x226 x227 x228 x229 x230 x231 x232 x233 x234 x235 x236 x237 : Value} {fl : Bool} (hfl : fl = false) (RR0 : RowRel U1 wl wl rb G (gOf 10 false q_DescribeClientQuotasResponseEntry ver) s0 L.toNat 3 0 [.slice none 0 0, .slice none 0 0, .map none] 120 10 q_DescribeClientQuotasResponseEntry v0 av) (_lr : -2147483648 ≤ L ∧ L ≤ 2147483647) (_hG : There G U1) (_hnb : ¬ G rb) (_hrl : rb < U1.heap.size) (hg : Gl U1 p) (hE : 0 ≠ rb) (hv0 : 0 ≤ ver)
    (HRET : Hid (∀ (a' : Act) (wz : World), a'.defers = [] → a'.tmps.getD 6 undef = errV p true → Keep [rb] U1 wz → (rdTimes (gOf 10 false q_DescribeClientQuotasResponseEntry ver) L.toNat s0).2.2 = true → Q .ret a' wz))
    (HEX : Hid (∀ (wr : World) (y6 y17 y18 y19 y20 y21 y22 y23 y24 y25 y26 y27 y28 y29 y30 y31 y32 y33 y34 y35 y95 y96 y97 y98 y99 y100 y101 y102 y103 y104 y105 y106 y107 y108 y109 y110 y111 y112 y113 y114 y115 y116 y117 y118 y119 y120 y121 y122 y123 y124 y125 y126 y127 y128 y129 y130 y131 y132 y133 y134 y135 y136 y137 y138 y139 y140 y141 y142 y143 y144 y145 y146 y147 y148 y149 y150 y151 y152 y153 y154 y155 y156 y157 y158 y159 y160 y161 y162 y163 y164 y165 y166 y167 y168 y169 y170 y171 y172 y173 y174 y175 y176 y177 y178 y179 y180 y181 y182 y183 y184 y185 y186 y187 y188 y189 y190 y191 y192 y193 y194 y195 y196 y197 y198 y199 y200 y201 y202 y203 y204 y205 y206 y207 y208 y209 y210 y211 y212 y213 y214 y215 y216 y217 y218 y219 y220 y221 y222 y223 y224 y225 y226 : Value), RowRel U1 wl wr rb G (gOf 10 false q_DescribeClientQuotasResponseEntry ver) s0 L.toNat 3 L.toNat [.slice none 0 0, .slice none 0 0, .map none] 120 10 q_DescribeClientQuotasResponseEntry v0 av → Q (.exit 0) ⟨(x0 :: x1 :: .bool false :: x3 :: x4 :: x5 :: y6 :: .pointer (some ⟨rb, 0, none⟩) :: x8 :: .bool fl :: x10 :: x11 :: x12 :: x13 :: x14 :: av :: .int .i32 L :: y17 :: y18 :: y19 :: y20 :: y21 :: y22 :: y23 :: y24 :: y25 :: y26 :: y27 :: y28 :: y29 :: y30 :: y31 :: y32 :: y33 :: y34 :: y35 :: x36 :: x37 :: x38 :: x39 :: x40 :: x41 :: x42 :: x43 :: x44 :: x45 :: x46 :: x47 :: x48 :: x49 :: x50 :: x51 :: x52 :: x53 :: x54 :: x55 :: x56 :: x57 :: x58 :: x59 :: x60 :: x61 :: x62 :: x63 :: x64 :: x65 :: x66 :: x67 :: x68 :: x69 :: x70 :: x71 :: x72 :: x73 :: x74 :: x75 :: x76 :: x77 :: x78 :: x79 :: x80 :: x81 :: x82 :: x83 :: x84 :: x85 :: x86 :: x87 :: x88 :: x89 :: x90 :: x91 :: x92 :: x93 :: x94 :: y95 :: y96 :: y97 :: y98 :: y99 :: y100 :: y101 :: y102 :: y103 :: y104 :: y105 :: y106 :: y107 :: y108 :: y109 :: y110 :: y111 :: y112 :: y113 :: y114 :: y115 :: y116 :: y117 :: y118 :: y119 :: y120 :: y121 :: y122 :: y123 :: y124 :: y125 :: y126 :: y127 :: y128 :: y129 :: y130 :: y131 :: y132 :: y133 :: y134 :: y135 :: y136 :: y137 :: y138 :: y139 :: y140 :: y141 :: y142 :: y143 :: y144 :: y145 :: y146 :: y147 :: y148 :: y149 :: y150 :: y151 :: y152 :: y153 :: y154 :: y155 :: y156 :: y157 :: y158 :: y159 :: y160 :: y161 :: y162 :: y163 :: y164 :: y165 :: y166 :: y167 :: y168 :: y169 :: y170 :: y171 :: y172 :: y173 :: y174 :: y175 :: y176 :: y177 :: y178 :: y179 :: y180 :: y181 :: y182 :: y183 :: y184 :: y185 :: y186 :: y187 :: y188 :: y189 :: y190 :: y191 :: y192 :: y193 :: y194 :: y195 :: y196 :: y197 :: y198 :: y199 :: y200 :: y201 :: y202 :: y203 :: y204 :: y205 :: y206 :: y207 :: y208 :: y209 :: y210 :: y211 :: y212 :: y213 :: y214 :: y215 :: y216 :: y217 :: y218 :: y219 :: y220 :: y221 :: y222 :: y223 :: y224 :: y225 :: y226 :: x227 :: x228 :: x229 :: x230 :: x231 :: x232 :: x233 :: x234 :: x235 :: x236 :: x237 :: []).toArray, []⟩ wr)) :
    Code.wp Tryd.prog (codeAt [true, true, true, true, true, true, true, true, true, true, true, false, true, true, true, true, true, true, true, true, false, true, false] (Tryd.f79.body.getD .skip)) Q ⟨(x0 :: x1 :: .bool false :: x3 :: x4 :: x5 :: x6 :: .pointer (some ⟨rb, 0, none⟩) :: x8 :: .bool fl :: x10 :: x11 :: x12 :: x13 :: x14 :: av :: .int .i32 L :: .int .i32 0 :: x18 :: x19 :: x20 :: x21 :: x22 :: x23 :: x24 :: x25 :: x26 :: x27 :: x28 :: x29 :: x30 :: x31 :: x32 :: x33 :: x34 :: x35 :: x36 :: x37 :: x38 :: x39 :: x40 :: x41 :: x42 :: x43 :: x44 :: x45 :: x46 :: x47 :: x48 :: x49 :: x50 :: x51 :: x52 :: x53 :: x54 :: x55 :: x56 :: x57 :: x58 :: x59 :: x60 :: x61 :: x62 :: x63 :: x64 :: x65 :: x66 :: x67 :: x68 :: x69 :: x70 :: x71 :: x72 :: x73 :: x74 :: x75 :: x76 :: x77 :: x78 :: x79 :: x80 :: x81 :: x82 :: x83 :: x84 :: x85 :: x86 :: x87 :: x88 :: x89 :: x90 :: x91 :: x92 :: x93 :: x94 :: x95 :: x96 :: x97 :: x98 :: x99 :: x100 :: x101 :: x102 :: x103 :: x104 :: x105 :: x106 :: x107 :: x108 :: x109 :: x110 :: x111 :: x112 :: x113 :: x114 :: x115 :: x116 :: x117 :: x118 :: x119 :: x120 :: x121 :: x122 :: x123 :: x124 :: x125 :: x126 :: x127 :: x128 :: x129 :: x130 :: x131 :: x132 :: x133 :: x134 :: x135 :: x136 :: x137 :: x138 :: x139 :: x140 :: x141 :: x142 :: x143 :: x144 :: x145 :: x146 :: x147 :: x148 :: x149 :: x150 :: x151 :: x152 :: x153 :: x154 :: x155 :: x156 :: x157 :: x158 :: x159 :: x160 :: x161 :: x162 :: x163 :: x164 :: x165 :: x166 :: x167 :: x168 :: x169 :: x170 :: x171 :: x172 :: x173 :: x174 :: x175 :: x176 :: x177 :: x178 :: x179 :: x180 :: x181 :: x182 :: x183 :: x184 :: x185 :: x186 :: x187 :: x188 :: x189 :: x190 :: x191 :: x192 :: x193 :: x194 :: x195 :: x196 :: x197 :: x198 :: x199 :: x200 :: x201 :: x202 :: x203 :: x204 :: x205 :: x206 :: x207 :: x208 :: x209 :: x210 :: x211 :: x212 :: x213 :: x214 :: x215 :: x216 :: x217 :: x218 :: x219 :: x220 :: x221 :: x222 :: x223 :: x224 :: x225 :: x226 :: x227 :: x228 :: x229 :: x230 :: x231 :: x232 :: x233 :: x234 :: x235 :: x236 :: x237 :: []).toArray, []⟩ wl := by
  subst hfl
  conv => arg 2; whnf
  have hsf := run_store_f64
  let _QX : Exit → Act → World → Prop := bodyPost Tryd.prog Tryd.f79 (fun _ _ => True)
  go_loopw [17] (fun i wr => ∃ k : Nat, k ≤ L.toNat ∧ i = .int .i32 (k : Int) ∧ RowRel U1 wl wr rb G (gOf 10 false q_DescribeClientQuotasResponseEntry ver) s0 L.toNat 3 k [.slice none 0 0, .slice none 0 0, .map none] 120 10 q_DescribeClientQuotasResponseEntry v0 av) (fun i _ => L.toNat - (intOf i).toNat)
  case atStart => exact ⟨0, Nat.zero_le _, rfl, RR0⟩
  case round =>
    obtain ⟨k, hk, rfl, RR⟩ := hrel
    clear RR0
    have KR := RR.keep
    by_cases lt : (k : Int) < L
    · obtain ⟨row, cap, pre, post, rfl, _hcap, _hrw, hpre, e0, cont⟩ := RR.elem (by omega : k < L.toNat)
      obtain ⟨wk, rfl⟩ : ∃ x : World, x = wr := ⟨_, rfl⟩
      clear RR
      have HBF : Hid (((gOf 10 false q_DescribeClientQuotasResponseEntry ver) (rdTimes (gOf 10 false q_DescribeClientQuotasResponseEntry ver) k s0).2).2.2 = true → (rdTimes (gOf 10 false q_DescribeClientQuotasResponseEntry ver) L.toNat s0).2.2 = true) := fun h => rdTimes_from (gOf_b 10 false q_DescribeClientQuotasResponseEntry ver) _ (k + 1) h _ (by omega)
      generalize (rdTimes (gOf 10 false q_DescribeClientQuotasResponseEntry ver) k s0).2 = sk at *
      have HEQ : Hid ((gOf 10 false q_DescribeClientQuotasResponseEntry ver) sk = (.mk 0 [] false [(rdF (.mk 11 0 (-1) (-1) (-1) 0 10 q_DescribeClientQuotasResponseEntryEntity) ver false sk).1, (rdF (.mk 11 0 (-1) (-1) (-1) 0 10 q_DescribeClientQuotasResponseEntryValue) ver false (rdF (.mk 11 0 (-1) (-1) (-1) 0 10 q_DescribeClientQuotasResponseEntryEntity) ver false sk).2).1] [], (rdF (.mk 11 0 (-1) (-1) (-1) 0 10 q_DescribeClientQuotasResponseEntryValue) ver false (rdF (.mk 11 0 (-1) (-1) (-1) 0 10 q_DescribeClientQuotasResponseEntryEntity) ver false sk).2).2)) := by
        show _ = _
        simp [gOf, rdK, rdPartOf, q_DescribeClientQuotasResponseEntry, rdFs, (has_yes (show (0 : Int) ≤ ver by omega) (.inl (by decide)) : F.has (.mk 11 0 (-1) (-1) (-1) 0 10 q_DescribeClientQuotasResponseEntryEntity) ver = true), (has_yes (show (0 : Int) ≤ ver by omega) (.inl (by decide)) : F.has (.mk 11 0 (-1) (-1) (-1) 0 10 q_DescribeClientQuotasResponseEntryValue) ver = true), rdF]
      go_wp2_with (first
        | (go_at_call 125; go_loud (refine (d_DescribeClientQuotasResponseEntry _ _).mono ?_; rintro e wd ⟨rfl, rfl⟩; have cl1 := e0.cellAt (o := k * 3) (el_at0 hpre rfl)))
        | (go_at_call 87; go_loud (refine (len_any e0.rd e0.hG e0.nrb).mono ?_; rintro e w1 ⟨rfl, r1, k1⟩; have lr1 := rdLen_range sk; have h2 := e0.call r1 k1; clear r1 k1; generalize hl1 : (rdLen sk).1 = L1 at *; have HL1 : Hid _ := hl1; clear e0 hl1)))
      cases hbad1 : (rdLen sk).2.2
      case true =>
        have HB : (rdTimes (gOf 10 false q_DescribeClientQuotasResponseEntry ver) L.toNat s0).2.2 = true := HBF.out (by rw [HEQ.out]; (try dsimp only); exact rdF_b (.mk 11 0 (-1) (-1) (-1) 0 10 q_DescribeClientQuotasResponseEntryValue) ver false _ ((show (rdF (.mk 11 0 (-1) (-1) (-1) 0 10 q_DescribeClientQuotasResponseEntryEntity) ver false sk).2.2 = true from list_bad hbad1)))
        have HBB : Hid _ := HB
        clear HB
        go_wp2_with (first
          | (go_at_call 88; refine (ok_any h2.rd).mono ?_; rintro e wo ⟨rfl, rfl⟩; rw [hbad1])
          | (go_at_call 89; go_loud (refine (complete_any h2.rd (hg.keep (Keep.fresh (B := [rb]) ((KR.weaken (B := [rb, row]) (by simp)).trans (h2.keep.weaken (by simp))) (by simp; omega)) (by simp; omega))).mono ?_; rintro e wz ⟨rfl, kz⟩; rw [hbad1])))
        exact HRET.out _ _ rfl rfl (Keep.trans (Keep.fresh (B := [rb]) ((KR.weaken (B := [rb, row]) (by simp)).trans (h2.keep.weaken (by simp))) (by simp; omega)) (kz.weaken (by simp))) HBB.out
      case false =>
        go_upto_if 120 with (go_at_call 88; refine (ok_any h2.rd).mono ?_; rintro e wo ⟨rfl, rfl⟩; rw [hbad1])
        go_cut [21] (fun av wx => RowIni w1 wx (.slice none 0 0) av L1.toNat [.string ⟨#[]⟩, .pointer none, .map none] 162)
        case first =>
          by_cases hp : 0 < L1
          · obtain ⟨N, rfl⟩ : ∃ N : Nat, L1 = N := ⟨L1.toNat, by omega⟩
            obtain ⟨i0, hi, hz0, hz1, hz2⟩ := info_bd info_DescribeClientQuotasResponseEntryEntity
            have AP := run_append_empty_zeros (P := Tryd.prog) w1 117 21 117 162 i0 _ .i32 .i32 Tryd.underlying117 Tryd.underlying21 hi hz0 N (by omega) (by omega) (by omega) (Nat.le_trans (Nat.mul_le_mul_left N hz2) (by omega)) none
            go_wp2_with (first
              | (at_builtin; go_loud (refine Lib.wpList_append_run _ rfl (.tmp 121) (.tmp 122) 117 21 rfl _ _ rfl rfl _ _ AP ?_))
              | (go_meet; rw [Int.toNat_natCast]; exact RowIni.made2 (w := w1) (z := .agg #[.string ⟨#[]⟩, .pointer none, .map none]) (N := N) (e := 162) (show 0 < N by omega) rfl _))
          · go_wp2_with (go_meet; exact .inl ⟨by omega, rfl, rfl⟩)
        case rest =>
          have RR1 := RowRel.start hcut h2.rd h2.hG h2.nrb (gOf 10 false q_DescribeClientQuotasResponseEntryEntity ver) 3 10 q_DescribeClientQuotasResponseEntryEntity
          clear hcut
          obtain ⟨wl1, rfl⟩ : ∃ x : World, x = wc := ⟨_, rfl⟩
          obtain ⟨av1, rfl⟩ : ∃ x : Value, x = u21 := ⟨_, rfl⟩
          go_wp2_with fail
          refine dcq_l1ps (p := p) (by first | rfl | (simp; done) | (simp; omega)) RR1 lr1 h2.hG h2.nrb h2.rd.lt' (hg.keep (Keep.fresh (B := [rb]) ((KR.weaken (B := [rb, row]) (by simp)).trans (h2.keep.weaken (by simp))) (by simp; omega)) (by simp; omega)) hE hv0 ?hret ?hexit
          case hret =>
            exact fun a' wz z1 z2 z3 z4 => HRET.out a' wz z1 z2 (Keep.trans (Keep.fresh (B := [rb]) ((KR.weaken (B := [rb, row]) (by simp)).trans (h2.keep.weaken (by simp))) (by simp; omega)) z3) (HBF.out (by rw [HEQ.out]; (try dsimp only); exact rdF_b (.mk 11 0 (-1) (-1) (-1) 0 10 q_DescribeClientQuotasResponseEntryValue) ver false _ ((show (rdF (.mk 11 0 (-1) (-1) (-1) 0 10 q_DescribeClientQuotasResponseEntryEntity) ver false sk).2.2 = true by rw [rdF_list HL1.out]; exact z4))))
          case hexit =>
            intro wr1 y23 y24 y25 y26 y27 y124 y125 y126 y127 y128 y129 y130 y131 y132 y133 y134 y135 y136 y137 y138 y139 y140 y141 y142 y143 y144 y145 y146 y147 y148 y149 y150 y151 y152 y153 y154 y155 y156 y157 y158 y159 y160 y161 RR
            have KR1 := RR.keep
            obtain ⟨rr, kr, ⟨ao1, cp1, rfl⟩, vl⟩ := RR.fin (by omega) (.inl rfl)
            clear RR RR1
            have LE := rdF_list (a := 0) (b := (-1)) (c := (-1)) (d := 0) (ofk := 10) (v := ver) (sub := q_DescribeClientQuotasResponseEntryEntity) HL1.out
            have rr2 : Rd wr1 rb G (rdF (.mk 11 0 (-1) (-1) (-1) 0 10 q_DescribeClientQuotasResponseEntryEntity) ver false sk).2 := by rw [LE]; exact rr
            have vl2 := vl (decide (L1 ≤ 0)) (by simp)
            have vl3 : VL wr1 (Nw G w1 rb wr1) (VK wr1 (Nw G w1 rb wr1) 10 (-1) (VFs wr1 (Nw G w1 rb wr1) q_DescribeClientQuotasResponseEntryEntity)) 3 (.slice ao1 L1.toNat cp1) (rdF (.mk 11 0 (-1) (-1) (-1) 0 10 q_DescribeClientQuotasResponseEntryEntity) ver false sk).1 := by rw [LE]; exact vl2
            have gr : ∀ i, Nw G w1 rb wr1 i → Nw G wk rb wr1 i := fun i hi => ⟨hi.1.imp id (Nat.le_trans h2.keep.size), hi.2⟩
            have vl4 := VL.keepF (fun _ _ => rfl) gr (fun c t => VK.keepF (fun _ _ => rfl) gr (fun c l => VFs.keepF (fun _ _ => rfl) gr q_DescribeClientQuotasResponseEntryEntity)) vl3
            have h3 := h2.call rr2 kr
            clear rr rr2 vl vl2 vl3 LE
            have c1 := h3.cellAt (o := k * 3) (el_at0 hpre rfl)
            have f1 := h3.free (k * 3)
            have h4 : ElSt wk (wr1.setCell ⟨row, k * 3, none⟩ (.slice ao1 L1.toNat cp1)) row rb G (rdF (.mk 11 0 (-1) (-1) (-1) 0 10 q_DescribeClientQuotasResponseEntryEntity) ver false sk).2 pre [.slice ao1 L1.toNat cp1] [.slice none 0 0, .map none] post 120 [.mk 11 0 (-1) (-1) (-1) 0 10 q_DescribeClientQuotasResponseEntryEntity] [(rdF (.mk 11 0 (-1) (-1) (-1) 0 10 q_DescribeClientQuotasResponseEntryEntity) ver false sk).1] := h3.put (o := k * 3) (el_at0 hpre rfl) (vf_list rfl vl4)
            clear h2 h3 vl4 gr
            generalize (rdF (.mk 11 0 (-1) (-1) (-1) 0 10 q_DescribeClientQuotasResponseEntryEntity) ver false sk).2 = zs1 at *
            have cl5 := h4.cellAt (o := k * 3 + 1) (el_at hpre rfl)
            go_wp2_with (first
              | (go_at_call 87; go_loud (refine (len_any h4.rd h4.hG h4.nrb).mono ?_; rintro e w5 ⟨rfl, r5, k5⟩; have lr5 := rdLen_range zs1; have h6 := h4.call r5 k5; clear r5 k5; generalize hl5 : (rdLen zs1).1 = L5 at *; have HL5 : Hid _ := hl5; clear h4 hl5)))
            cases hbad5 : (rdLen zs1).2.2
            case true =>
              have HB : (rdTimes (gOf 10 false q_DescribeClientQuotasResponseEntry ver) L.toNat s0).2.2 = true := HBF.out (by rw [HEQ.out]; (try dsimp only); exact (show (rdF (.mk 11 0 (-1) (-1) (-1) 0 10 q_DescribeClientQuotasResponseEntryValue) ver false zs1).2.2 = true from list_bad hbad5))
              have HBB : Hid _ := HB
              clear HB
              go_wp2_with (first
                | (go_at_call 88; refine (ok_any h6.rd).mono ?_; rintro e wo ⟨rfl, rfl⟩; rw [hbad5])
                | (go_at_call 89; go_loud (refine (complete_any h6.rd (hg.keep (Keep.fresh (B := [rb]) ((KR.weaken (B := [rb, row]) (by simp)).trans (h6.keep.weaken (by simp))) (by simp; omega)) (by simp; omega))).mono ?_; rintro e wz ⟨rfl, kz⟩; rw [hbad5])))
              exact HRET.out _ _ rfl rfl (Keep.trans (Keep.fresh (B := [rb]) ((KR.weaken (B := [rb, row]) (by simp)).trans (h6.keep.weaken (by simp))) (by simp; omega)) (kz.weaken (by simp))) HBB.out
            case false =>
              go_upto_if 181 with (go_at_call 88; refine (ok_any h6.rd).mono ?_; rintro e wo ⟨rfl, rfl⟩; rw [hbad5])
              go_cut [29] (fun av wx => RowIni w5 wx (.slice none 0 0) av L5.toNat [.string ⟨#[]⟩, .float .f64 0, .map none] 165)
              case first =>
                by_cases hp : 0 < L5
                · obtain ⟨N, rfl⟩ : ∃ N : Nat, L5 = N := ⟨L5.toNat, by omega⟩
                  obtain ⟨i0, hi, hz0, hz1, hz2⟩ := info_bd info_DescribeClientQuotasResponseEntryValue
                  have AP := run_append_empty_zeros (P := Tryd.prog) w5 118 21 118 165 i0 _ .i32 .i32 Tryd.underlying118 Tryd.underlying21 hi hz0 N (by omega) (by omega) (by omega) (Nat.le_trans (Nat.mul_le_mul_left N hz2) (by omega)) none
                  go_wp2_with (first
                    | (at_builtin; go_loud (refine Lib.wpList_append_run _ rfl (.tmp 182) (.tmp 183) 118 21 rfl _ _ rfl rfl _ _ AP ?_))
                    | (go_meet; rw [Int.toNat_natCast]; exact RowIni.made2 (w := w5) (z := .agg #[.string ⟨#[]⟩, .float .f64 0, .map none]) (N := N) (e := 165) (show 0 < N by omega) rfl _))
                · go_wp2_with (go_meet; exact .inl ⟨by omega, rfl, rfl⟩)
              case rest =>
                have RR5 := RowRel.start hcut h6.rd h6.hG h6.nrb (gOf 10 false q_DescribeClientQuotasResponseEntryValue ver) 3 10 q_DescribeClientQuotasResponseEntryValue
                clear hcut
                obtain ⟨wl5, rfl⟩ : ∃ x : World, x = wc := ⟨_, rfl⟩
                obtain ⟨av5, rfl⟩ : ∃ x : Value, x = u29 := ⟨_, rfl⟩
                go_wp2_with fail
                refine dcq_l2ps (p := p) (by first | rfl | (simp; done) | (simp; omega)) RR5 lr5 h6.hG h6.nrb h6.rd.lt' (hg.keep (Keep.fresh (B := [rb]) ((KR.weaken (B := [rb, row]) (by simp)).trans (h6.keep.weaken (by simp))) (by simp; omega)) (by simp; omega)) hE hv0 ?hret ?hexit
                case hret =>
                  exact fun a' wz z1 z2 z3 z4 => HRET.out a' wz z1 z2 (Keep.trans (Keep.fresh (B := [rb]) ((KR.weaken (B := [rb, row]) (by simp)).trans (h6.keep.weaken (by simp))) (by simp; omega)) z3) (HBF.out (by rw [HEQ.out]; (try dsimp only); exact (show (rdF (.mk 11 0 (-1) (-1) (-1) 0 10 q_DescribeClientQuotasResponseEntryValue) ver false zs1).2.2 = true by rw [rdF_list HL5.out]; exact z4)))
                case hexit =>
                  intro wr5 y31 y32 y33 y34 y35 y185 y186 y187 y188 y189 y190 y191 y192 y193 y194 y195 y196 y197 y198 y199 y200 y201 y202 y203 y204 y205 y206 y207 y208 y209 y210 y211 y212 y213 y214 y215 y216 RR
                  have KR5 := RR.keep
                  obtain ⟨rr, kr, ⟨ao5, cp5, rfl⟩, vl⟩ := RR.fin (by omega) (.inl rfl)
                  clear RR RR5
                  have LE := rdF_list (a := 0) (b := (-1)) (c := (-1)) (d := 0) (ofk := 10) (v := ver) (sub := q_DescribeClientQuotasResponseEntryValue) HL5.out
                  have rr2 : Rd wr5 rb G (rdF (.mk 11 0 (-1) (-1) (-1) 0 10 q_DescribeClientQuotasResponseEntryValue) ver false zs1).2 := by rw [LE]; exact rr
                  have vl2 := vl (decide (L5 ≤ 0)) (by simp)
                  have vl3 : VL wr5 (Nw G w5 rb wr5) (VK wr5 (Nw G w5 rb wr5) 10 (-1) (VFs wr5 (Nw G w5 rb wr5) q_DescribeClientQuotasResponseEntryValue)) 3 (.slice ao5 L5.toNat cp5) (rdF (.mk 11 0 (-1) (-1) (-1) 0 10 q_DescribeClientQuotasResponseEntryValue) ver false zs1).1 := by rw [LE]; exact vl2
                  have gr : ∀ i, Nw G w5 rb wr5 i → Nw G wk rb wr5 i := fun i hi => ⟨hi.1.imp id (Nat.le_trans h6.keep.size), hi.2⟩
                  have vl4 := VL.keepF (fun _ _ => rfl) gr (fun c t => VK.keepF (fun _ _ => rfl) gr (fun c l => VFs.keepF (fun _ _ => rfl) gr q_DescribeClientQuotasResponseEntryValue)) vl3
                  have h7 := h6.call rr2 kr
                  clear rr rr2 vl vl2 vl3 LE
                  have c5 := h7.cellAt (o := k * 3 + 1) (el_at hpre rfl)
                  have f5 := h7.free (k * 3 + 1)
                  have h8 : ElSt wk (wr5.setCell ⟨row, k * 3 + 1, none⟩ (.slice ao5 L5.toNat cp5)) row rb G (rdF (.mk 11 0 (-1) (-1) (-1) 0 10 q_DescribeClientQuotasResponseEntryValue) ver false zs1).2 pre [.slice ao1 L1.toNat cp1, .slice ao5 L5.toNat cp5] [.map none] post 120 [.mk 11 0 (-1) (-1) (-1) 0 10 q_DescribeClientQuotasResponseEntryEntity, .mk 11 0 (-1) (-1) (-1) 0 10 q_DescribeClientQuotasResponseEntryValue] [(rdF (.mk 11 0 (-1) (-1) (-1) 0 10 q_DescribeClientQuotasResponseEntryEntity) ver false sk).1, (rdF (.mk 11 0 (-1) (-1) (-1) 0 10 q_DescribeClientQuotasResponseEntryValue) ver false zs1).1] := h7.put (o := k * 3 + 1) (el_at hpre rfl) (vf_list rfl vl4)
                  clear h6 h7 vl4 gr
                  generalize (rdF (.mk 11 0 (-1) (-1) (-1) 0 10 q_DescribeClientQuotasResponseEntryValue) ver false zs1).2 = zs5 at *
                  go_wp2_with (first
                    | (have he9 := h8.bare; go_roundw; (case rel => exact ⟨k + 1, by omega, by go_num, cont _ _ _ _ he9 rfl HEQ.out⟩); (case measure => (simp [intOf]; omega))))
    · have RE := RR.at_end (by omega)
      clear RR
      go_wp2_with fail
      exact HEX.out _ _ _ _ _ _ _ _ _ _ _ _ _ _ _ _ _ _ _ _ _ _ _ _ _ _ _ _ _ _ _ _ _ _ _ _ _ _ _ _ _ _ _ _ _ _ _ _ _ _ _ _ _ _ _ _ _ _ _ _ _ _ _ _ _ _ _ _ _ _ _ _ _ _ _ _ _ _ _ _ _ _ _ _ _ _ _ _ _ _ _ _ _ _ _ _ _ _ _ _ _ _ _ _ _ _ _ _ _ _ _ _ _ _ _ _ _ _ _ _ _ _ _ _ _ _ _ _ _ _ _ _ _ _ _ _ _ _ _ _ _ _ _ _ _ _ _ _ _ _ _ _ _ RE
end Go.Proofs.YtodbdecpacdgiaaDoor
