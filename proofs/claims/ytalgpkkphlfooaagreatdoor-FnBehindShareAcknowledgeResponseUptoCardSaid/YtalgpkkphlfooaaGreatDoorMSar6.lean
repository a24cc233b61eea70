/-
  ShareAcknowledgeResponse: writing, a list's loop.
-/
import Derived.Test.YtalgpkkphlfooaaGreatDoorMB16
import Derived.Test.YtalgpkkphlfooaaGreatDoorMB13
import Derived.Test.YtalgpkkphlfooaaGreatDoorMSar1
import Derived.Deep.CutBlock
namespace Go.Proofs.YtalgpkkphlfooaaGreatDoor
open Go.ChangeShapes Go.WideShapes Go.ChangeAt Go.RowKit

set_option maxHeartbeats 4000000 in
set_option maxRecDepth 100000 in
theorem sar_al1f {Q : Exit → Act → World → Prop} {G : Nat → Prop} {B : Nat} {w wl : World} {ver : Int} {ao : Option Addr} {cp : Nat} {nu : Bool} {lx : List T} {FF rest : Bs} {dv x0 x2 x3 x4 x5 x7 x8 x9 x10 x11 x12 x13 x14 x16 x17 x18 x19 x20 x21 x22 x23 x24 x25 x26 x27 x28 x29 x30 x31 x32 x33 x34 x35 x36 x37 x38 x39 x40 x41 x42 x43 x44 x45 x46 x47 x48 x49 x50 x51 x52 x53 x54 x55 x56 x57 x58 x59 x60 x61 x62 x63 x64 x65 x66 x67 x68 x69 x70 x71 x72 x73 x74 x75 x76 x77 x78 x79 x80 x81 x82 x83 x84 x85 x86 x87 x88 x89 x90 x91 x92 x93 x94 x95 x96 x97 x98 x99 x100 x101 x102 x103 x104 x105 x106 x107 x108 x109 x110 x111 x112 x113 x114 x117 x118 x119 x120 x121 x122 x123 x124 x125 x126 x127 x128 x129 x130 x131 x132 x133 x134 x135 x136 x137 x138 x139 x140 x141 x142 x143 x144 x145 x146 x147 x148 x149 x150 x151 x152 x153 x154 x155 x156 x157 x158 x159 x160 x161 x162 x163 x164 x165 x166 x167 x168 x169 x170 x171 x172 x173 x174 x175 x176 x177 x178 x179 x180 x181 x182 x183 x184 x185 x186 x187 x188 x189 x190 x191 x192 x193 x194 x195 x196 x197 x198 x199 x200 x201 x202 x203 x204 x205 x206 x207 x208 x209 x210 x211 x212 x213 x214 x215 x216 x217 x218 x219 x220 x221 x222 x223 x224 x225 x226 x227 x228 x229 x230 x231 x232 x233 x234 x235 x236 x237 x238 x239 x240 x241 x242 x243 x244 x245 x246 x247 x248 x249 x250 x251 x252 x253 x254 x255 x256 x257 x258 x259 x260 x261 x262 x263 x264 x265 x266 x267 x268 x269 x270 x271 x272 x273 x274 x275 x276 x277 x278 x279 x280 x281 x282 x283 x284 x285 x286 x287 x288 x289 x290 x291 x292 x293 x294 : Value} {fl : Bool} (hfl : fl = true) (hvl : VL w G (VK w G 10 (-1) (VFs w G q_ShareAcknowledgeResponseTopicPartition)) 7 (.slice ao lx.length cp) (.mk 0 [] nu lx [])) (_hll : lx.length ≤ 1000000) (hsl : smalls 1000000 lx) (hG : ∀ k, G k → k < B) (_hv0 : 0 ≤ ver)
    (SC : ApSt w wl B dv FF (lx.flatMap (apE 10 q_ShareAcknowledgeResponseTopicPartition ver true) ++ rest))
    (HEX : Hid (∀ (wr : World) (y1 y16 y17 y18 y19 y20 y21 y22 y23 y116 y117 y118 y119 y120 y121 y122 y123 y124 y125 y126 y127 y128 y129 y130 y131 y132 y133 y134 y135 y136 y137 y138 y139 y140 y141 y142 y143 y144 y145 y146 y147 y148 y149 y150 y151 y152 y153 y154 y155 y156 y157 y158 y159 y160 y161 y162 y163 y164 y165 y166 y167 y168 y169 y170 y171 y172 y173 y174 y175 y176 y177 y178 y179 y180 y181 y182 y183 y184 y185 y186 y187 y188 y189 y190 y191 y192 : Value), ApSt w wr B y1 FF rest → Q (.exit 2) ⟨(x0 :: y1 :: x2 :: x3 :: x4 :: x5 :: .bool fl :: x7 :: x8 :: x9 :: x10 :: x11 :: x12 :: x13 :: x14 :: .slice ao lx.length cp :: y16 :: y17 :: y18 :: y19 :: y20 :: y21 :: y22 :: y23 :: x24 :: x25 :: x26 :: x27 :: x28 :: x29 :: x30 :: x31 :: x32 :: x33 :: x34 :: x35 :: x36 :: x37 :: x38 :: x39 :: x40 :: x41 :: x42 :: x43 :: x44 :: x45 :: x46 :: x47 :: x48 :: x49 :: x50 :: x51 :: x52 :: x53 :: x54 :: x55 :: x56 :: x57 :: x58 :: x59 :: x60 :: x61 :: x62 :: x63 :: x64 :: x65 :: x66 :: x67 :: x68 :: x69 :: x70 :: x71 :: x72 :: x73 :: x74 :: x75 :: x76 :: x77 :: x78 :: x79 :: x80 :: x81 :: x82 :: x83 :: x84 :: x85 :: x86 :: x87 :: x88 :: x89 :: x90 :: x91 :: x92 :: x93 :: x94 :: x95 :: x96 :: x97 :: x98 :: x99 :: x100 :: x101 :: x102 :: x103 :: x104 :: x105 :: x106 :: x107 :: x108 :: x109 :: x110 :: x111 :: x112 :: x113 :: x114 :: .int .i64 (lx.length : Int) :: y116 :: y117 :: y118 :: y119 :: y120 :: y121 :: y122 :: y123 :: y124 :: y125 :: y126 :: y127 :: y128 :: y129 :: y130 :: y131 :: y132 :: y133 :: y134 :: y135 :: y136 :: y137 :: y138 :: y139 :: y140 :: y141 :: y142 :: y143 :: y144 :: y145 :: y146 :: y147 :: y148 :: y149 :: y150 :: y151 :: y152 :: y153 :: y154 :: y155 :: y156 :: y157 :: y158 :: y159 :: y160 :: y161 :: y162 :: y163 :: y164 :: y165 :: y166 :: y167 :: y168 :: y169 :: y170 :: y171 :: y172 :: y173 :: y174 :: y175 :: y176 :: y177 :: y178 :: y179 :: y180 :: y181 :: y182 :: y183 :: y184 :: y185 :: y186 :: y187 :: y188 :: y189 :: y190 :: y191 :: y192 :: x193 :: x194 :: x195 :: x196 :: x197 :: x198 :: x199 :: x200 :: x201 :: x202 :: x203 :: x204 :: x205 :: x206 :: x207 :: x208 :: x209 :: x210 :: x211 :: x212 :: x213 :: x214 :: x215 :: x216 :: x217 :: x218 :: x219 :: x220 :: x221 :: x222 :: x223 :: x224 :: x225 :: x226 :: x227 :: x228 :: x229 :: x230 :: x231 :: x232 :: x233 :: x234 :: x235 :: x236 :: x237 :: x238 :: x239 :: x240 :: x241 :: x242 :: x243 :: x244 :: x245 :: x246 :: x247 :: x248 :: x249 :: x250 :: x251 :: x252 :: x253 :: x254 :: x255 :: x256 :: x257 :: x258 :: x259 :: x260 :: x261 :: x262 :: x263 :: x264 :: x265 :: x266 :: x267 :: x268 :: x269 :: x270 :: x271 :: x272 :: x273 :: x274 :: x275 :: x276 :: x277 :: x278 :: x279 :: x280 :: x281 :: x282 :: x283 :: x284 :: x285 :: x286 :: x287 :: x288 :: x289 :: x290 :: x291 :: x292 :: x293 :: x294 :: []).toArray, []⟩ wr)) :
    Code.wp Tryz.prog (codeAt [true, true, true, true, true, true, true, true, true, false, true, true, true, false, false, true, true, false, false, true, true, true, false, true, true, true, false] (Tryz.f60.body.getD .skip)) Q ⟨(x0 :: dv :: x2 :: x3 :: x4 :: x5 :: .bool fl :: x7 :: x8 :: x9 :: x10 :: x11 :: x12 :: x13 :: x14 :: .slice ao lx.length cp :: x16 :: x17 :: x18 :: x19 :: x20 :: x21 :: x22 :: x23 :: x24 :: x25 :: x26 :: x27 :: x28 :: x29 :: x30 :: x31 :: x32 :: x33 :: x34 :: x35 :: x36 :: x37 :: x38 :: x39 :: x40 :: x41 :: x42 :: x43 :: x44 :: x45 :: x46 :: x47 :: x48 :: x49 :: x50 :: x51 :: x52 :: x53 :: x54 :: x55 :: x56 :: x57 :: x58 :: x59 :: x60 :: x61 :: x62 :: x63 :: x64 :: x65 :: x66 :: x67 :: x68 :: x69 :: x70 :: x71 :: x72 :: x73 :: x74 :: x75 :: x76 :: x77 :: x78 :: x79 :: x80 :: x81 :: x82 :: x83 :: x84 :: x85 :: x86 :: x87 :: x88 :: x89 :: x90 :: x91 :: x92 :: x93 :: x94 :: x95 :: x96 :: x97 :: x98 :: x99 :: x100 :: x101 :: x102 :: x103 :: x104 :: x105 :: x106 :: x107 :: x108 :: x109 :: x110 :: x111 :: x112 :: x113 :: x114 :: .int .i64 (lx.length : Int) :: .int .i64 0 :: x117 :: x118 :: x119 :: x120 :: x121 :: x122 :: x123 :: x124 :: x125 :: x126 :: x127 :: x128 :: x129 :: x130 :: x131 :: x132 :: x133 :: x134 :: x135 :: x136 :: x137 :: x138 :: x139 :: x140 :: x141 :: x142 :: x143 :: x144 :: x145 :: x146 :: x147 :: x148 :: x149 :: x150 :: x151 :: x152 :: x153 :: x154 :: x155 :: x156 :: x157 :: x158 :: x159 :: x160 :: x161 :: x162 :: x163 :: x164 :: x165 :: x166 :: x167 :: x168 :: x169 :: x170 :: x171 :: x172 :: x173 :: x174 :: x175 :: x176 :: x177 :: x178 :: x179 :: x180 :: x181 :: x182 :: x183 :: x184 :: x185 :: x186 :: x187 :: x188 :: x189 :: x190 :: x191 :: x192 :: x193 :: x194 :: x195 :: x196 :: x197 :: x198 :: x199 :: x200 :: x201 :: x202 :: x203 :: x204 :: x205 :: x206 :: x207 :: x208 :: x209 :: x210 :: x211 :: x212 :: x213 :: x214 :: x215 :: x216 :: x217 :: x218 :: x219 :: x220 :: x221 :: x222 :: x223 :: x224 :: x225 :: x226 :: x227 :: x228 :: x229 :: x230 :: x231 :: x232 :: x233 :: x234 :: x235 :: x236 :: x237 :: x238 :: x239 :: x240 :: x241 :: x242 :: x243 :: x244 :: x245 :: x246 :: x247 :: x248 :: x249 :: x250 :: x251 :: x252 :: x253 :: x254 :: x255 :: x256 :: x257 :: x258 :: x259 :: x260 :: x261 :: x262 :: x263 :: x264 :: x265 :: x266 :: x267 :: x268 :: x269 :: x270 :: x271 :: x272 :: x273 :: x274 :: x275 :: x276 :: x277 :: x278 :: x279 :: x280 :: x281 :: x282 :: x283 :: x284 :: x285 :: x286 :: x287 :: x288 :: x289 :: x290 :: x291 :: x292 :: x293 :: x294 :: []).toArray, []⟩ wl := by
  subst hfl
  obtain ⟨nu0, css, lx0, HE, ev, hrw, -, e⟩ := hvl
  cases e
  have HEQ : Hid _ := HE
  rw [HE] at hrw
  clear HE
  have hd : ApSt w wl B dv FF ((lx.drop 0).flatMap (apE 10 q_ShareAcknowledgeResponseTopicPartition ver true) ++ (rest)) := by rw [List.drop_zero]; exact SC
  clear SC
  conv => arg 2; whnf
  go_loopw [116, 16, 1] (fun k _ dv wr => ∃ j : Nat, k = .int .i64 (j : Int) ∧ j ≤ lx.length ∧ ApSt w wr B dv FF ((lx.drop j).flatMap (apE 10 q_ShareAcknowledgeResponseTopicPartition ver true) ++ (rest))) (fun k _ _ _ => lx.length - (intOf k).toNat)
  case atStart => exact ⟨0, rfl, Nat.zero_le _, hd⟩
  case round =>
    clear hd
    obtain ⟨wr1, rfl⟩ : ∃ x : World, x = wr := ⟨_, rfl⟩
    obtain ⟨j1, rfl, hj1, sc1⟩ := hrel
    by_cases hlt1 : j1 < lx.length
    · have hjc : j1 < css.length := by rw [HEQ.out]; exact hlt1
      obtain ⟨row1, cap1, hsl0, hcap1, hGr1, hpt1⟩ := hrw.part (m := 7) HEQ.out (fun c hc => by obtain ⟨q, hq, rfl⟩ := List.getElem_of_mem hc; exact (ev q (by rw [← HEQ.out]; exact hq) hq).1) hjc
      simp only [Value.slice.injEq] at hsl0
      obtain ⟨rfl, _, rfl⟩ := hsl0
      have hrb1 : row1 < B := hG _ hGr1
      have hvj := (ev j1 hlt1 hjc).2
      have hsj := smalls_mem hsl _ (List.getElem_mem hlt1)
      rw [List.drop_eq_getElem_cons hlt1, List.flatMap_cons] at sc1
      generalize css[j1] = cj at *
      generalize lx[j1] = tj at *
      obtain ⟨cs1, tv1, l1, tg1, rfl, hf1, hmp1, rfl⟩ : ∃ cs v l u, cj = cs ++ [v] ∧ VFs w G q_ShareAcknowledgeResponseTopicPartition cs l ∧ MP w G v u ∧ tj = .mk 0 [] false l u := hvj
      simp only [small] at hsj
      obtain ⟨_, _, ht2_1, ht1_1, hsl1⟩ := hsj
      unfold q_ShareAcknowledgeResponseTopicPartition at hf1
      obtain ⟨c1_0, cr1_0, t1_0, l1_0, rfl, rfl, hf1_0, hr1_0⟩ := hf1
      obtain ⟨c1_1, cr1_1, t1_1, l1_1, rfl, rfl, hf1_1, hr1_1⟩ := hr1_0
      obtain ⟨c1_2, cr1_2, t1_2, l1_2, rfl, rfl, hf1_2, hr1_2⟩ := hr1_1
      obtain ⟨c1_3, cr1_3, t1_3, l1_3, rfl, rfl, hf1_3, hr1_3⟩ := hr1_2
      obtain ⟨rfl, rfl⟩ := hr1_3
      have hs1_0 : small 1000000 t1_0 := smalls_mem hsl1 _ (by simp)
      obtain ⟨n1_0, rfl, ⟨ra1_0, rb1_0⟩, rfl⟩ := vf_i32_inv hf1_0
      have hs1_1 : small 1000000 t1_1 := smalls_mem hsl1 _ (by simp)
      obtain ⟨n1_1, rfl, ⟨ra1_1, rb1_1⟩, rfl⟩ := vf_i16_inv hf1_1
      have hs1_2 : small 1000000 t1_2 := smalls_mem hsl1 _ (by simp)
      obtain ⟨n1_2, o1_2, rfl, ps1_2, rfl⟩ := vf_nstr_inv (by decide) hf1_2
      have hl1_2 := small_text hs1_2
      have hs1_3 : small 1000000 t1_3 := smalls_mem hsl1 _ (by simp)
      obtain ⟨cs2, tv2, l2, tg2, rfl, hf2, hmp2, rfl⟩ := vf_part_inv hf1_3
      obtain ⟨_, _, ht2_2, ht1_2, hsl2⟩ := hs1_3
      unfold q_ShareAcknowledgeResponseTopicPartitionCurrentLeader at hf2
      obtain ⟨c2_0, cr2_0, t2_0, l2_0, rfl, rfl, hf2_0, hr2_0⟩ := hf2
      obtain ⟨c2_1, cr2_1, t2_1, l2_1, rfl, rfl, hf2_1, hr2_1⟩ := hr2_0
      obtain ⟨rfl, rfl⟩ := hr2_1
      have hs2_0 : small 1000000 t2_0 := smalls_mem hsl2 _ (by simp)
      obtain ⟨n2_0, rfl, ⟨ra2_0, rb2_0⟩, rfl⟩ := vf_i32_inv hf2_0
      have hs2_1 : small 1000000 t2_1 := smalls_mem hsl2 _ (by simp)
      obtain ⟨n2_1, rfl, ⟨ra2_1, rb2_1⟩, rfl⟩ := vf_i32_inv hf2_1
      clear hf2_0
      clear hf2_1
      clear hf1_0
      clear hf1_1
      clear hf1_2
      simp only [List.cons_append, List.nil_append] at hpt1
      try simp only [List.append_assoc, List.cons_append, List.nil_append] at hpt1
      have cw1_0 : w.cell? ⟨row1, j1 * 7, none⟩ = some _ := hpt1.cell (o := j1 * 7) (j := 0) rfl rfl
      have cw1_1 : w.cell? ⟨row1, j1 * 7 + 1, none⟩ = some _ := hpt1.cell (o := j1 * 7 + 1) (j := 1) rfl rfl
      have cw1_2 : w.cell? ⟨row1, j1 * 7 + 2, none⟩ = some _ := hpt1.cell (o := j1 * 7 + 2) (j := 2) rfl rfl
      have cw2_0 : w.cell? ⟨row1, j1 * 7 + 3, none⟩ = some _ := hpt1.cell (o := j1 * 7 + 3) (j := 3) rfl rfl
      have cw2_1 : w.cell? ⟨row1, j1 * 7 + 4, none⟩ = some _ := hpt1.cell (o := j1 * 7 + 4) (j := 4) rfl rfl
      have hel : apE 10 q_ShareAcknowledgeResponseTopicPartition ver true (.mk 0 [] false [(.mk n1_0 [] false [] []), (.mk n1_1 [] false [] []), (nstrT o1_2), (.mk 0 [] false [(.mk n2_0 [] false [] []), (.mk n2_1 [] false [] [])] tg2)] tg1) ++ ((lx.drop (j1 + 1)).flatMap (apE 10 q_ShareAcknowledgeResponseTopicPartition ver true) ++ (rest)) = fixedP n1_0 4 ++ (fixedP n1_1 2 ++ (cnstrP o1_2 ++ (fixedP n2_0 4 ++ (fixedP n2_1 4 ++ (uvarP tg2.length ++ ((tg2.map tagP).flatten ++ (uvarP tg1.length ++ ((tg1.map tagP).flatten ++ ((lx.drop (j1 + 1)).flatMap (apE 10 q_ShareAcknowledgeResponseTopicPartition ver true) ++ (rest)))))))))) := by
        simp [apE_cpart, q_ShareAcknowledgeResponseTopicPartition, apFs, (has_yes (show (0 : Int) ≤ ver by omega) (.inl (by decide)) : F.has (.mk 3 0 (-1) (-1) (-1) 0 0 []) ver = true), apF_cnstr (show (0 : Int) ≤ 0 by decide) (show (0 : Int) ≤ ver by omega), apF_cpart, apF_i16, apF_i32, q_ShareAcknowledgeResponseTopicPartitionCurrentLeader, (has_yes (show (0 : Int) ≤ ver by omega) (.inl (by decide)) : F.has (.mk 2 0 (-1) (-1) (-1) 0 0 []) ver = true), (has_yes (show (0 : Int) ≤ ver by omega) (.inl (by decide)) : F.has (.mk 8 0 (-1) 0 (-1) 0 0 []) ver = true), (fun sb => has_yes (show (0 : Int) ≤ ver by omega) (.inl (by decide)) : ∀ sb, F.has (.mk 10 0 (-1) (-1) (-1) 0 0 sb) ver = true)]
      rw [List.append_assoc, hel] at sc1
      clear hel
      have d1_0 := sc1.at_ cw1_0 hrb1
      go_wp2_with (first
        | (go_at_call 73; go_loud (refine (sc1.i32).mono ?_; rintro e w3 ⟨v3, rfl, h3⟩; clear sc1; have d1_1 := h3.at_ cw1_1 hrb1))
        | (go_at_call 74; go_loud (refine (h3.i16).mono ?_; rintro e w4 ⟨v4, rfl, h4⟩; clear h3; have d1_2 := h4.at_ cw1_2 hrb1))
        | (go_at_call 75; go_loud (refine (h4.cnst ps1_2 hG hl1_2).mono ?_; rintro e w5 ⟨v5, rfl, h5⟩; clear h4; have d2_0 := h5.at_ cw2_0 hrb1))
        | (go_at_call 73; go_loud (refine (h5.i32).mono ?_; rintro e w6 ⟨v6, rfl, h6⟩; clear h5; have d2_1 := h6.at_ cw2_1 hrb1))
        | (go_at_call 73; go_loud (refine (h6.i32).mono ?_; rintro e w7 ⟨v7, rfl, h7⟩; clear h6))
        | (go_at_call 82; go_loud (refine (ApSt.tlen (i := j1 * 7 + 5) (j := 5) h7 hpt1 rfl rfl hmp2 hrb1 hG).mono ?_; rintro e wt ⟨rfl, rfl⟩))
        | (go_at_call 81; go_loud (refine (ApSt.uv h7 ht2_2).mono ?_; rintro e w8 ⟨v8, rfl, h8⟩; clear h7))
        | (go_at_call 83; go_loud (refine (ApSt.tg (i := j1 * 7 + 5) (j := 5) h8 hpt1 rfl rfl hmp2 hrb1 hG ht1_2).mono ?_; rintro e w9 ⟨v9, rfl, h9⟩; clear h8))
        | (go_at_call 82; go_loud (refine (ApSt.tlen (i := j1 * 7 + 6) (j := 6) h9 hpt1 rfl rfl hmp1 hrb1 hG).mono ?_; rintro e wt ⟨rfl, rfl⟩))
        | (go_at_call 81; go_loud (refine (ApSt.uv h9 ht2_1).mono ?_; rintro e w10 ⟨v10, rfl, h10⟩; clear h9))
        | (go_at_call 83; go_loud (refine (ApSt.tg (i := j1 * 7 + 6) (j := 6) h10 hpt1 rfl rfl hmp1 hrb1 hG ht1_1).mono ?_; rintro e w11 ⟨v11, rfl, h11⟩; clear h10))
        | (go_roundw; (case rel => exact ⟨j1 + 1, by go_num, by omega, h11⟩); (case measure => (simp [intOf]; omega))))
    · rw [List.drop_of_length_le (by omega), List.flatMap_nil, List.nil_append] at sc1
      go_wp2_with fail
      exact HEX.out _ _ _ _ _ _ _ _ _ _ _ _ _ _ _ _ _ _ _ _ _ _ _ _ _ _ _ _ _ _ _ _ _ _ _ _ _ _ _ _ _ _ _ _ _ _ _ _ _ _ _ _ _ _ _ _ _ _ _ _ _ _ _ _ _ _ _ _ _ _ _ _ _ _ _ _ _ _ _ _ _ _ _ _ _ _ _ sc1
end Go.Proofs.YtalgpkkphlfooaaGreatDoor
