/-
  ShareAcknowledgeResponse: writing, a list's loop.
-/
import Derived.Test.YtalgpkkphlfooaaGreatDoorMB16
import Derived.Test.YtalgpkkphlfooaaGreatDoorMB13
import Derived.Test.YtalgpkkphlfooaaGreatDoorMSar1
import Derived.Test.YtalgpkkphlfooaaGreatDoorMSar6
import Derived.Deep.CutBlock
namespace Go.Proofs.YtalgpkkphlfooaaGreatDoor
open Go.ChangeShapes Go.WideShapes Go.ChangeAt Go.RowKit

set_option maxHeartbeats 4000000 in
set_option maxRecDepth 100000 in
theorem sar_al0f {Q : Exit → Act → World → Prop} {G : Nat → Prop} {B : Nat} {w wl : World} {ver : Int} {ao : Option Addr} {cp : Nat} {nu : Bool} {lx : List T} {FF rest : Bs} {dv x0 x2 x3 x4 x5 x7 x8 x9 x10 x12 x13 x14 x15 x16 x17 x18 x19 x20 x21 x22 x23 x24 x25 x26 x27 x28 x29 x30 x31 x32 x33 x34 x35 x36 x37 x38 x39 x40 x41 x42 x43 x44 x45 x46 x47 x48 x49 x50 x51 x52 x53 x54 x55 x56 x57 x58 x59 x60 x61 x62 x63 x64 x65 x66 x67 x68 x69 x70 x71 x72 x73 x74 x75 x76 x77 x78 x79 x80 x81 x82 x83 x84 x85 x86 x89 x90 x91 x92 x93 x94 x95 x96 x97 x98 x99 x100 x101 x102 x103 x104 x105 x106 x107 x108 x109 x110 x111 x112 x113 x114 x115 x116 x117 x118 x119 x120 x121 x122 x123 x124 x125 x126 x127 x128 x129 x130 x131 x132 x133 x134 x135 x136 x137 x138 x139 x140 x141 x142 x143 x144 x145 x146 x147 x148 x149 x150 x151 x152 x153 x154 x155 x156 x157 x158 x159 x160 x161 x162 x163 x164 x165 x166 x167 x168 x169 x170 x171 x172 x173 x174 x175 x176 x177 x178 x179 x180 x181 x182 x183 x184 x185 x186 x187 x188 x189 x190 x191 x192 x193 x194 x195 x196 x197 x198 x199 x200 x201 x202 x203 x204 x205 x206 x207 x208 x209 x210 x211 x212 x213 x214 x215 x216 x217 x218 x219 x220 x221 x222 x223 x224 x225 x226 x227 x228 x229 x230 x231 x232 x233 x234 x235 x236 x237 x238 x239 x240 x241 x242 x243 x244 x245 x246 x247 x248 x249 x250 x251 x252 x253 x254 x255 x256 x257 x258 x259 x260 x261 x262 x263 x264 x265 x266 x267 x268 x269 x270 x271 x272 x273 x274 x275 x276 x277 x278 x279 x280 x281 x282 x283 x284 x285 x286 x287 x288 x289 x290 x291 x292 x293 x294 : Value} {fl : Bool} (hfl : fl = true) (hvl : VL w G (VK w G 10 (-1) (VFs w G q_ShareAcknowledgeResponseTopic)) 18 (.slice ao lx.length cp) (.mk 0 [] nu lx [])) (_hll : lx.length ≤ 1000000) (hsl : smalls 1000000 lx) (hG : ∀ k, G k → k < B) (hv0 : 0 ≤ ver)
    (SC : ApSt w wl B dv FF (lx.flatMap (apE 10 q_ShareAcknowledgeResponseTopic ver true) ++ rest))
    (HEX : Hid (∀ (wr : World) (y1 y12 y13 y14 y15 y16 y17 y18 y19 y20 y21 y22 y23 y88 y89 y90 y91 y92 y93 y94 y95 y96 y97 y98 y99 y100 y101 y102 y103 y104 y105 y106 y107 y108 y109 y110 y111 y112 y113 y114 y115 y116 y117 y118 y119 y120 y121 y122 y123 y124 y125 y126 y127 y128 y129 y130 y131 y132 y133 y134 y135 y136 y137 y138 y139 y140 y141 y142 y143 y144 y145 y146 y147 y148 y149 y150 y151 y152 y153 y154 y155 y156 y157 y158 y159 y160 y161 y162 y163 y164 y165 y166 y167 y168 y169 y170 y171 y172 y173 y174 y175 y176 y177 y178 y179 y180 y181 y182 y183 y184 y185 y186 y187 y188 y189 y190 y191 y192 y193 y194 y195 y196 y197 y198 y199 y200 y201 y202 y203 y204 y205 y206 y207 : Value), ApSt w wr B y1 FF rest → Q (.exit 0) ⟨(x0 :: y1 :: x2 :: x3 :: x4 :: x5 :: .bool fl :: x7 :: x8 :: x9 :: x10 :: .slice ao lx.length cp :: y12 :: y13 :: y14 :: y15 :: y16 :: y17 :: y18 :: y19 :: y20 :: y21 :: y22 :: y23 :: x24 :: x25 :: x26 :: x27 :: x28 :: x29 :: x30 :: x31 :: x32 :: x33 :: x34 :: x35 :: x36 :: x37 :: x38 :: x39 :: x40 :: x41 :: x42 :: x43 :: x44 :: x45 :: x46 :: x47 :: x48 :: x49 :: x50 :: x51 :: x52 :: x53 :: x54 :: x55 :: x56 :: x57 :: x58 :: x59 :: x60 :: x61 :: x62 :: x63 :: x64 :: x65 :: x66 :: x67 :: x68 :: x69 :: x70 :: x71 :: x72 :: x73 :: x74 :: x75 :: x76 :: x77 :: x78 :: x79 :: x80 :: x81 :: x82 :: x83 :: x84 :: x85 :: x86 :: .int .i64 (lx.length : Int) :: y88 :: y89 :: y90 :: y91 :: y92 :: y93 :: y94 :: y95 :: y96 :: y97 :: y98 :: y99 :: y100 :: y101 :: y102 :: y103 :: y104 :: y105 :: y106 :: y107 :: y108 :: y109 :: y110 :: y111 :: y112 :: y113 :: y114 :: y115 :: y116 :: y117 :: y118 :: y119 :: y120 :: y121 :: y122 :: y123 :: y124 :: y125 :: y126 :: y127 :: y128 :: y129 :: y130 :: y131 :: y132 :: y133 :: y134 :: y135 :: y136 :: y137 :: y138 :: y139 :: y140 :: y141 :: y142 :: y143 :: y144 :: y145 :: y146 :: y147 :: y148 :: y149 :: y150 :: y151 :: y152 :: y153 :: y154 :: y155 :: y156 :: y157 :: y158 :: y159 :: y160 :: y161 :: y162 :: y163 :: y164 :: y165 :: y166 :: y167 :: y168 :: y169 :: y170 :: y171 :: y172 :: y173 :: y174 :: y175 :: y176 :: y177 :: y178 :: y179 :: y180 :: y181 :: y182 :: y183 :: y184 :: y185 :: y186 :: y187 :: y188 :: y189 :: y190 :: y191 :: y192 :: y193 :: y194 :: y195 :: y196 :: y197 :: y198 :: y199 :: y200 :: y201 :: y202 :: y203 :: y204 :: y205 :: y206 :: y207 :: x208 :: x209 :: x210 :: x211 :: x212 :: x213 :: x214 :: x215 :: x216 :: x217 :: x218 :: x219 :: x220 :: x221 :: x222 :: x223 :: x224 :: x225 :: x226 :: x227 :: x228 :: x229 :: x230 :: x231 :: x232 :: x233 :: x234 :: x235 :: x236 :: x237 :: x238 :: x239 :: x240 :: x241 :: x242 :: x243 :: x244 :: x245 :: x246 :: x247 :: x248 :: x249 :: x250 :: x251 :: x252 :: x253 :: x254 :: x255 :: x256 :: x257 :: x258 :: x259 :: x260 :: x261 :: x262 :: x263 :: x264 :: x265 :: x266 :: x267 :: x268 :: x269 :: x270 :: x271 :: x272 :: x273 :: x274 :: x275 :: x276 :: x277 :: x278 :: x279 :: x280 :: x281 :: x282 :: x283 :: x284 :: x285 :: x286 :: x287 :: x288 :: x289 :: x290 :: x291 :: x292 :: x293 :: x294 :: []).toArray, []⟩ wr)) :
    Code.wp Tryz.prog (codeAt [true, true, true, true, true, true, true, true, true, false, true, true, true, false] (Tryz.f60.body.getD .skip)) Q ⟨(x0 :: dv :: x2 :: x3 :: x4 :: x5 :: .bool fl :: x7 :: x8 :: x9 :: x10 :: .slice ao lx.length cp :: x12 :: x13 :: x14 :: x15 :: x16 :: x17 :: x18 :: x19 :: x20 :: x21 :: x22 :: x23 :: x24 :: x25 :: x26 :: x27 :: x28 :: x29 :: x30 :: x31 :: x32 :: x33 :: x34 :: x35 :: x36 :: x37 :: x38 :: x39 :: x40 :: x41 :: x42 :: x43 :: x44 :: x45 :: x46 :: x47 :: x48 :: x49 :: x50 :: x51 :: x52 :: x53 :: x54 :: x55 :: x56 :: x57 :: x58 :: x59 :: x60 :: x61 :: x62 :: x63 :: x64 :: x65 :: x66 :: x67 :: x68 :: x69 :: x70 :: x71 :: x72 :: x73 :: x74 :: x75 :: x76 :: x77 :: x78 :: x79 :: x80 :: x81 :: x82 :: x83 :: x84 :: x85 :: x86 :: .int .i64 (lx.length : Int) :: .int .i64 0 :: x89 :: x90 :: x91 :: x92 :: x93 :: x94 :: x95 :: x96 :: x97 :: x98 :: x99 :: x100 :: x101 :: x102 :: x103 :: x104 :: x105 :: x106 :: x107 :: x108 :: x109 :: x110 :: x111 :: x112 :: x113 :: x114 :: x115 :: x116 :: x117 :: x118 :: x119 :: x120 :: x121 :: x122 :: x123 :: x124 :: x125 :: x126 :: x127 :: x128 :: x129 :: x130 :: x131 :: x132 :: x133 :: x134 :: x135 :: x136 :: x137 :: x138 :: x139 :: x140 :: x141 :: x142 :: x143 :: x144 :: x145 :: x146 :: x147 :: x148 :: x149 :: x150 :: x151 :: x152 :: x153 :: x154 :: x155 :: x156 :: x157 :: x158 :: x159 :: x160 :: x161 :: x162 :: x163 :: x164 :: x165 :: x166 :: x167 :: x168 :: x169 :: x170 :: x171 :: x172 :: x173 :: x174 :: x175 :: x176 :: x177 :: x178 :: x179 :: x180 :: x181 :: x182 :: x183 :: x184 :: x185 :: x186 :: x187 :: x188 :: x189 :: x190 :: x191 :: x192 :: x193 :: x194 :: x195 :: x196 :: x197 :: x198 :: x199 :: x200 :: x201 :: x202 :: x203 :: x204 :: x205 :: x206 :: x207 :: x208 :: x209 :: x210 :: x211 :: x212 :: x213 :: x214 :: x215 :: x216 :: x217 :: x218 :: x219 :: x220 :: x221 :: x222 :: x223 :: x224 :: x225 :: x226 :: x227 :: x228 :: x229 :: x230 :: x231 :: x232 :: x233 :: x234 :: x235 :: x236 :: x237 :: x238 :: x239 :: x240 :: x241 :: x242 :: x243 :: x244 :: x245 :: x246 :: x247 :: x248 :: x249 :: x250 :: x251 :: x252 :: x253 :: x254 :: x255 :: x256 :: x257 :: x258 :: x259 :: x260 :: x261 :: x262 :: x263 :: x264 :: x265 :: x266 :: x267 :: x268 :: x269 :: x270 :: x271 :: x272 :: x273 :: x274 :: x275 :: x276 :: x277 :: x278 :: x279 :: x280 :: x281 :: x282 :: x283 :: x284 :: x285 :: x286 :: x287 :: x288 :: x289 :: x290 :: x291 :: x292 :: x293 :: x294 :: []).toArray, []⟩ wl := by
  subst hfl
  obtain ⟨nu0, css, lx0, HE, ev, hrw, -, e⟩ := hvl
  cases e
  have HEQ : Hid _ := HE
  rw [HE] at hrw
  clear HE
  have hd : ApSt w wl B dv FF ((lx.drop 0).flatMap (apE 10 q_ShareAcknowledgeResponseTopic ver true) ++ (rest)) := by rw [List.drop_zero]; exact SC
  clear SC
  conv => arg 2; whnf
  go_loopw [88, 12, 1] (fun k _ dv wr => ∃ j : Nat, k = .int .i64 (j : Int) ∧ j ≤ lx.length ∧ ApSt w wr B dv FF ((lx.drop j).flatMap (apE 10 q_ShareAcknowledgeResponseTopic ver true) ++ (rest))) (fun k _ _ _ => lx.length - (intOf k).toNat)
  case atStart => exact ⟨0, rfl, Nat.zero_le _, hd⟩
  case round =>
    clear hd
    obtain ⟨wr1, rfl⟩ : ∃ x : World, x = wr := ⟨_, rfl⟩
    obtain ⟨j1, rfl, hj1, sc1⟩ := hrel
    by_cases hlt1 : j1 < lx.length
    · have hjc : j1 < css.length := by rw [HEQ.out]; exact hlt1
      obtain ⟨row1, cap1, hsl0, hcap1, hGr1, hpt1⟩ := hrw.part (m := 18) HEQ.out (fun c hc => by obtain ⟨q, hq, rfl⟩ := List.getElem_of_mem hc; exact (ev q (by rw [← HEQ.out]; exact hq) hq).1) hjc
      simp only [Value.slice.injEq] at hsl0
      obtain ⟨rfl, _, rfl⟩ := hsl0
      have hrb1 : row1 < B := hG _ hGr1
      have hvj := (ev j1 hlt1 hjc).2
      have hsj := smalls_mem hsl _ (List.getElem_mem hlt1)
      rw [List.drop_eq_getElem_cons hlt1, List.flatMap_cons] at sc1
      generalize css[j1] = cj at *
      generalize lx[j1] = tj at *
      obtain ⟨cs1, tv1, l1, tg1, rfl, hf1, hmp1, rfl⟩ : ∃ cs v l u, cj = cs ++ [v] ∧ VFs w G q_ShareAcknowledgeResponseTopic cs l ∧ MP w G v u ∧ tj = .mk 0 [] false l u := hvj
      simp only [small] at hsj
      obtain ⟨_, _, ht2_1, ht1_1, hsl1⟩ := hsj
      unfold q_ShareAcknowledgeResponseTopic at hf1
      obtain ⟨c1_0, cr1_0, t1_0, l1_0, rfl, rfl, hf1_0, hr1_0⟩ := hf1
      obtain ⟨c1_1, cr1_1, t1_1, l1_1, rfl, rfl, hf1_1, hr1_1⟩ := hr1_0
      obtain ⟨rfl, rfl⟩ := hr1_1
      have hs1_0 : small 1000000 t1_0 := smalls_mem hsl1 _ (by simp)
      obtain ⟨n1_0, hn1_0, rfl, rfl⟩ := vf_uuid_inv hf1_0
      obtain ⟨y1_0_0, y1_0_1, y1_0_2, y1_0_3, y1_0_4, y1_0_5, y1_0_6, y1_0_7, y1_0_8, y1_0_9, y1_0_10, y1_0_11, y1_0_12, y1_0_13, y1_0_14, y1_0_15, rfl⟩ := sixteen_of hn1_0
      have hs1_1 : small 1000000 t1_1 := smalls_mem hsl1 _ (by simp)
      obtain ⟨v1_1, rfl, vl1_1⟩ := vf_list_inv hf1_1
      obtain ⟨nu1_1, css1_1, lx1_1, eq1_1, ev1_1, hrw1_1, hnil1_1, rfl⟩ := vl1_1
      obtain ⟨ao1_1, cp1_1, rfl, hcp1_1, hcn1_1⟩ := hrw1_1.shape
      rw [eq1_1] at hrw1_1 hcp1_1 hcn1_1 hnil1_1 hpt1
      have HEQ1_1 : Hid _ := eq1_1
      clear eq1_1
      obtain ⟨_, hll1_1, _, _, hsl1_1⟩ := hs1_1
      clear hf1_0
      clear hf1_1
      simp only [List.cons_append, List.nil_append, List.map_cons, List.map_nil, bv] at hpt1
      have cw1_0_0 : w.cell? ⟨row1, j1 * 18, none⟩ = some _ := hpt1.cell (o := j1 * 18) (j := 0) rfl rfl
      have cw1_0_1 : w.cell? ⟨row1, j1 * 18 + 1, none⟩ = some _ := hpt1.cell (o := j1 * 18 + 1) (j := 1) rfl rfl
      have cw1_0_2 : w.cell? ⟨row1, j1 * 18 + 2, none⟩ = some _ := hpt1.cell (o := j1 * 18 + 2) (j := 2) rfl rfl
      have cw1_0_3 : w.cell? ⟨row1, j1 * 18 + 3, none⟩ = some _ := hpt1.cell (o := j1 * 18 + 3) (j := 3) rfl rfl
      have cw1_0_4 : w.cell? ⟨row1, j1 * 18 + 4, none⟩ = some _ := hpt1.cell (o := j1 * 18 + 4) (j := 4) rfl rfl
      have cw1_0_5 : w.cell? ⟨row1, j1 * 18 + 5, none⟩ = some _ := hpt1.cell (o := j1 * 18 + 5) (j := 5) rfl rfl
      have cw1_0_6 : w.cell? ⟨row1, j1 * 18 + 6, none⟩ = some _ := hpt1.cell (o := j1 * 18 + 6) (j := 6) rfl rfl
      have cw1_0_7 : w.cell? ⟨row1, j1 * 18 + 7, none⟩ = some _ := hpt1.cell (o := j1 * 18 + 7) (j := 7) rfl rfl
      have cw1_0_8 : w.cell? ⟨row1, j1 * 18 + 8, none⟩ = some _ := hpt1.cell (o := j1 * 18 + 8) (j := 8) rfl rfl
      have cw1_0_9 : w.cell? ⟨row1, j1 * 18 + 9, none⟩ = some _ := hpt1.cell (o := j1 * 18 + 9) (j := 9) rfl rfl
      have cw1_0_10 : w.cell? ⟨row1, j1 * 18 + 10, none⟩ = some _ := hpt1.cell (o := j1 * 18 + 10) (j := 10) rfl rfl
      have cw1_0_11 : w.cell? ⟨row1, j1 * 18 + 11, none⟩ = some _ := hpt1.cell (o := j1 * 18 + 11) (j := 11) rfl rfl
      have cw1_0_12 : w.cell? ⟨row1, j1 * 18 + 12, none⟩ = some _ := hpt1.cell (o := j1 * 18 + 12) (j := 12) rfl rfl
      have cw1_0_13 : w.cell? ⟨row1, j1 * 18 + 13, none⟩ = some _ := hpt1.cell (o := j1 * 18 + 13) (j := 13) rfl rfl
      have cw1_0_14 : w.cell? ⟨row1, j1 * 18 + 14, none⟩ = some _ := hpt1.cell (o := j1 * 18 + 14) (j := 14) rfl rfl
      have cw1_0_15 : w.cell? ⟨row1, j1 * 18 + 15, none⟩ = some _ := hpt1.cell (o := j1 * 18 + 15) (j := 15) rfl rfl
      have cw1_1 : w.cell? ⟨row1, j1 * 18 + 16, none⟩ = some _ := hpt1.cell (o := j1 * 18 + 16) (j := 16) rfl rfl
      have hel : apE 10 q_ShareAcknowledgeResponseTopic ver true (.mk 0 [] false [(.mk 0 [y1_0_0, y1_0_1, y1_0_2, y1_0_3, y1_0_4, y1_0_5, y1_0_6, y1_0_7, y1_0_8, y1_0_9, y1_0_10, y1_0_11, y1_0_12, y1_0_13, y1_0_14, y1_0_15] false [] []), (.mk 0 [] nu1_1 lx1_1 [])] tg1) ++ ((lx.drop (j1 + 1)).flatMap (apE 10 q_ShareAcknowledgeResponseTopic ver true) ++ (rest)) = [y1_0_0, y1_0_1, y1_0_2, y1_0_3, y1_0_4, y1_0_5, y1_0_6, y1_0_7, y1_0_8, y1_0_9, y1_0_10, y1_0_11, y1_0_12, y1_0_13, y1_0_14, y1_0_15] ++ (uvarP (lx1_1.length + 1) ++ (lx1_1.flatMap (apE 10 q_ShareAcknowledgeResponseTopicPartition ver true) ++ (uvarP tg1.length ++ ((tg1.map tagP).flatten ++ ((lx.drop (j1 + 1)).flatMap (apE 10 q_ShareAcknowledgeResponseTopic ver true) ++ (rest)))))) := by
        simp [apE_cpart, q_ShareAcknowledgeResponseTopic, apFs, apF_clist (show (-1 : Int) < 0 by decide), apF_uuid, (has_yes (show (0 : Int) ≤ ver by omega) (.inl (by decide)) : F.has (.mk 7 0 (-1) (-1) (-1) 0 0 []) ver = true), (has_yes (show (0 : Int) ≤ ver by omega) (.inl (by decide)) : F.has (.mk 11 0 (-1) (-1) (-1) 0 10 q_ShareAcknowledgeResponseTopicPartition) ver = true)]
      rw [List.append_assoc, hel] at sc1
      clear hel
      have d1_0_0 := sc1.at_ cw1_0_0 hrb1; have d1_0_1 := sc1.at_ cw1_0_1 hrb1; have d1_0_2 := sc1.at_ cw1_0_2 hrb1; have d1_0_3 := sc1.at_ cw1_0_3 hrb1; have d1_0_4 := sc1.at_ cw1_0_4 hrb1; have d1_0_5 := sc1.at_ cw1_0_5 hrb1; have d1_0_6 := sc1.at_ cw1_0_6 hrb1; have d1_0_7 := sc1.at_ cw1_0_7 hrb1; have d1_0_8 := sc1.at_ cw1_0_8 hrb1; have d1_0_9 := sc1.at_ cw1_0_9 hrb1; have d1_0_10 := sc1.at_ cw1_0_10 hrb1; have d1_0_11 := sc1.at_ cw1_0_11 hrb1; have d1_0_12 := sc1.at_ cw1_0_12 hrb1; have d1_0_13 := sc1.at_ cw1_0_13 hrb1; have d1_0_14 := sc1.at_ cw1_0_14 hrb1; have d1_0_15 := sc1.at_ cw1_0_15 hrb1
      go_wp2_with (first
        | (go_at_call 92; go_loud (have sc1u := sc1.calm (keep_box (A := []) (.cells #[.int .u8 (y1_0_0.toNat : Int), .int .u8 (y1_0_1.toNat : Int), .int .u8 (y1_0_2.toNat : Int), .int .u8 (y1_0_3.toNat : Int), .int .u8 (y1_0_4.toNat : Int), .int .u8 (y1_0_5.toNat : Int), .int .u8 (y1_0_6.toNat : Int), .int .u8 (y1_0_7.toNat : Int), .int .u8 (y1_0_8.toNat : Int), .int .u8 (y1_0_9.toNat : Int), .int .u8 (y1_0_10.toNat : Int), .int .u8 (y1_0_11.toNat : Int), .int .u8 (y1_0_12.toNat : Int), .int .u8 (y1_0_13.toNat : Int), .int .u8 (y1_0_14.toNat : Int), .int .u8 (y1_0_15.toNat : Int)] 114)); refine (sc1u.uuid16).mono ?_; rintro e w2 ⟨v2, rfl, h2⟩; clear sc1 sc1u; have d1_1 := h2.at_ cw1_1 hrb1))
        | (go_at_call 77; go_loud (clear d1_0_0 d1_0_1 d1_0_2 d1_0_3 d1_0_4 d1_0_5 d1_0_6 d1_0_7 d1_0_8 d1_0_9 d1_0_10 d1_0_11 d1_0_12 d1_0_13 d1_0_14 d1_0_15; refine (h2.cln hll1_1).mono ?_; rintro e w3 ⟨v3, rfl, h3⟩; clear h2)))
      refine sar_al1f (w := w) (nu := nu1_1) rfl ⟨nu1_1, css1_1, lx1_1, HEQ1_1.out, ev1_1, by rw [HEQ1_1.out]; exact hrw1_1, hnil1_1, rfl⟩ hll1_1 hsl1_1 hG hv0 h3 ?hexit
      case hexit =>
        show ∀ (wr : World) (y1 y16 y17 y18 y19 y20 y21 y22 y23 y116 y117 y118 y119 y120 y121 y122 y123 y124 y125 y126 y127 y128 y129 y130 y131 y132 y133 y134 y135 y136 y137 y138 y139 y140 y141 y142 y143 y144 y145 y146 y147 y148 y149 y150 y151 y152 y153 y154 y155 y156 y157 y158 y159 y160 y161 y162 y163 y164 y165 y166 y167 y168 y169 y170 y171 y172 y173 y174 y175 y176 y177 y178 y179 y180 y181 y182 y183 y184 y185 y186 y187 y188 y189 y190 y191 y192 : Value), _
        intro wq4 dq4 _ _ _ _ _ _ _ _ _ _ _ _ _ _ _ _ _ _ _ _ _ _ _ _ _ _ _ _ _ _ _ _ _ _ _ _ _ _ _ _ _ _ _ _ _ _ _ _ _ _ _ _ _ _ _ _ _ _ _ _ _ _ _ _ _ _ _ _ _ _ _ _ _ _ _ _ _ _ _ _ _ _ _ _ _ sc4
        clear h3
        go_wp2_with (first
          | (go_at_call 82; go_loud (refine (ApSt.tlen (i := j1 * 18 + 17) (j := 17) sc4 hpt1 rfl rfl hmp1 hrb1 hG).mono ?_; rintro e wt ⟨rfl, rfl⟩))
          | (go_at_call 81; go_loud (refine (ApSt.uv sc4 ht2_1).mono ?_; rintro e w5 ⟨v5, rfl, h5⟩; clear sc4))
          | (go_at_call 83; go_loud (refine (ApSt.tg (i := j1 * 18 + 17) (j := 17) h5 hpt1 rfl rfl hmp1 hrb1 hG ht1_1).mono ?_; rintro e w6 ⟨v6, rfl, h6⟩; clear h5))
          | (go_roundw; (case rel => exact ⟨j1 + 1, by go_num, by omega, h6⟩); (case measure => (simp [intOf]; omega))))
    · rw [List.drop_of_length_le (by omega), List.flatMap_nil, List.nil_append] at sc1
      go_wp2_with fail
      exact HEX.out _ _ _ _ _ _ _ _ _ _ _ _ _ _ _ _ _ _ _ _ _ _ _ _ _ _ _ _ _ _ _ _ _ _ _ _ _ _ _ _ _ _ _ _ _ _ _ _ _ _ _ _ _ _ _ _ _ _ _ _ _ _ _ _ _ _ _ _ _ _ _ _ _ _ _ _ _ _ _ _ _ _ _ _ _ _ _ _ _ _ _ _ _ _ _ _ _ _ _ _ _ _ _ _ _ _ _ _ _ _ _ _ _ _ _ _ _ _ _ _ _ _ _ _ _ _ _ _ _ _ _ _ _ _ sc1
end Go.Proofs.YtalgpkkphlfooaaGreatDoor
