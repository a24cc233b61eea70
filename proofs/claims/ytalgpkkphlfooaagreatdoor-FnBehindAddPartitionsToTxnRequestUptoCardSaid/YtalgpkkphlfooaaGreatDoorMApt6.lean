/-
  AddPartitionsToTxnRequest: writing, a list's loop.
-/
import Derived.Test.YtalgpkkphlfooaaGreatDoorMB16
import Derived.Test.YtalgpkkphlfooaaGreatDoorMB13
import Derived.Test.YtalgpkkphlfooaaGreatDoorMApt1
import Derived.Test.YtalgpkkphlfooaaGreatDoorMApt5
import Derived.Deep.CutBlock
namespace Go.Proofs.YtalgpkkphlfooaaGreatDoor
open Go.ChangeShapes Go.WideShapes Go.ChangeAt Go.RowKit

set_option maxHeartbeats 4000000 in
set_option maxRecDepth 100000 in
theorem apt_al0p {Q : Exit → Act → World → Prop} {G : Nat → Prop} {B : Nat} {w wl : World} {ver : Int} {ao : Option Addr} {cp : Nat} {nu : Bool} {lx : List T} {FF rest : Bs} {dv x0 x2 x3 x4 x5 x7 x8 x9 x11 x12 x13 x14 x15 x16 x17 x18 x19 x20 x21 x22 x23 x24 x25 x26 x27 x28 x29 x30 x31 x32 x33 x34 x35 x36 x37 x38 x39 x40 x41 x42 x43 x44 x45 x46 x47 x48 x49 x50 x51 x52 x53 x54 x55 x56 x57 x58 x59 x60 x61 x62 x63 x64 x65 x66 x67 x68 x69 x70 x71 x72 x73 x74 x75 x76 x77 x78 x79 x80 x81 x82 x83 x84 x85 x86 x87 x88 x89 x90 x91 x92 x93 x94 x95 x96 x97 x98 x99 x100 x101 x104 x105 x106 x107 x108 x109 x110 x111 x112 x113 x114 x115 x116 x117 x118 x119 x120 x121 x122 x123 x124 x125 x126 x127 x128 x129 x130 x131 x132 x133 x134 x135 x136 x137 x138 x139 x140 x141 x142 x143 x144 x145 x146 x147 x148 x149 x150 x151 x152 x153 x154 x155 x156 x157 x158 x159 x160 x161 x162 x163 x164 x165 x166 x167 x168 x169 x170 x171 x172 x173 x174 x175 x176 x177 x178 x179 x180 x181 x182 x183 x184 x185 x186 x187 x188 x189 x190 x191 x192 x193 x194 x195 x196 x197 x198 x199 x200 x201 x202 x203 x204 x205 x206 x207 x208 x209 x210 x211 x212 x213 x214 x215 x216 x217 x218 x219 x220 x221 x222 x223 x224 x225 x226 x227 x228 x229 x230 x231 x232 x233 x234 x235 x236 x237 x238 x239 x240 x241 x242 x243 x244 x245 x246 x247 x248 x249 x250 x251 x252 x253 x254 x255 x256 x257 x258 x259 x260 x261 x262 x263 x264 x265 x266 x267 x268 x269 x270 x271 x272 x273 x274 x275 x276 x277 x278 x279 x280 x281 x282 x283 x284 x285 x286 x287 x288 x289 x290 x291 x292 x293 x294 x295 x296 x297 x298 x299 x300 x301 x302 x303 x304 x305 x306 x307 x308 x309 x310 x311 x312 x313 x314 x315 x316 x317 x318 : Value} {fl : Bool} (hfl : fl = false) (hvl : VL w G (VK w G 10 (-1) (VFs w G q_AddPartitionsToTxnRequestTopic)) 3 (.slice ao lx.length cp) (.mk 0 [] nu lx [])) (_hll : lx.length ≤ 1000000) (hsl : smalls 1000000 lx) (hG : ∀ k, G k → k < B) (hv0 : 0 ≤ ver)
    (SC : ApSt w wl B dv FF (lx.flatMap (apE 10 q_AddPartitionsToTxnRequestTopic ver false) ++ rest))
    (HEX : Hid (∀ (wr : World) (y1 y11 y12 y13 y14 y15 y16 y103 y104 y105 y106 y107 y108 y109 y110 y111 y112 y113 y114 y115 y116 y117 y118 y119 y120 y121 y122 y123 y124 y125 y126 y127 y128 y129 y130 y131 y132 y133 y134 y135 y136 y137 y138 y139 y140 y141 y142 y143 y144 y145 y146 y147 y148 y149 y150 y151 y152 y153 y154 y155 y156 y157 y158 y159 y160 : Value), ApSt w wr B y1 FF rest → Q (.exit 0) ⟨(x0 :: y1 :: x2 :: x3 :: x4 :: x5 :: .bool fl :: x7 :: x8 :: x9 :: .slice ao lx.length cp :: y11 :: y12 :: y13 :: y14 :: y15 :: y16 :: x17 :: x18 :: x19 :: x20 :: x21 :: x22 :: x23 :: x24 :: x25 :: x26 :: x27 :: x28 :: x29 :: x30 :: x31 :: x32 :: x33 :: x34 :: x35 :: x36 :: x37 :: x38 :: x39 :: x40 :: x41 :: x42 :: x43 :: x44 :: x45 :: x46 :: x47 :: x48 :: x49 :: x50 :: x51 :: x52 :: x53 :: x54 :: x55 :: x56 :: x57 :: x58 :: x59 :: x60 :: x61 :: x62 :: x63 :: x64 :: x65 :: x66 :: x67 :: x68 :: x69 :: x70 :: x71 :: x72 :: x73 :: x74 :: x75 :: x76 :: x77 :: x78 :: x79 :: x80 :: x81 :: x82 :: x83 :: x84 :: x85 :: x86 :: x87 :: x88 :: x89 :: x90 :: x91 :: x92 :: x93 :: x94 :: x95 :: x96 :: x97 :: x98 :: x99 :: x100 :: x101 :: .int .i64 (lx.length : Int) :: y103 :: y104 :: y105 :: y106 :: y107 :: y108 :: y109 :: y110 :: y111 :: y112 :: y113 :: y114 :: y115 :: y116 :: y117 :: y118 :: y119 :: y120 :: y121 :: y122 :: y123 :: y124 :: y125 :: y126 :: y127 :: y128 :: y129 :: y130 :: y131 :: y132 :: y133 :: y134 :: y135 :: y136 :: y137 :: y138 :: y139 :: y140 :: y141 :: y142 :: y143 :: y144 :: y145 :: y146 :: y147 :: y148 :: y149 :: y150 :: y151 :: y152 :: y153 :: y154 :: y155 :: y156 :: y157 :: y158 :: y159 :: y160 :: x161 :: x162 :: x163 :: x164 :: x165 :: x166 :: x167 :: x168 :: x169 :: x170 :: x171 :: x172 :: x173 :: x174 :: x175 :: x176 :: x177 :: x178 :: x179 :: x180 :: x181 :: x182 :: x183 :: x184 :: x185 :: x186 :: x187 :: x188 :: x189 :: x190 :: x191 :: x192 :: x193 :: x194 :: x195 :: x196 :: x197 :: x198 :: x199 :: x200 :: x201 :: x202 :: x203 :: x204 :: x205 :: x206 :: x207 :: x208 :: x209 :: x210 :: x211 :: x212 :: x213 :: x214 :: x215 :: x216 :: x217 :: x218 :: x219 :: x220 :: x221 :: x222 :: x223 :: x224 :: x225 :: x226 :: x227 :: x228 :: x229 :: x230 :: x231 :: x232 :: x233 :: x234 :: x235 :: x236 :: x237 :: x238 :: x239 :: x240 :: x241 :: x242 :: x243 :: x244 :: x245 :: x246 :: x247 :: x248 :: x249 :: x250 :: x251 :: x252 :: x253 :: x254 :: x255 :: x256 :: x257 :: x258 :: x259 :: x260 :: x261 :: x262 :: x263 :: x264 :: x265 :: x266 :: x267 :: x268 :: x269 :: x270 :: x271 :: x272 :: x273 :: x274 :: x275 :: x276 :: x277 :: x278 :: x279 :: x280 :: x281 :: x282 :: x283 :: x284 :: x285 :: x286 :: x287 :: x288 :: x289 :: x290 :: x291 :: x292 :: x293 :: x294 :: x295 :: x296 :: x297 :: x298 :: x299 :: x300 :: x301 :: x302 :: x303 :: x304 :: x305 :: x306 :: x307 :: x308 :: x309 :: x310 :: x311 :: x312 :: x313 :: x314 :: x315 :: x316 :: x317 :: x318 :: []).toArray, []⟩ wr)) :
    Code.wp Tryz.prog (codeAt [true, true, true, true, true, true, true, true, false, true, false, true, true, true, false] (Tryz.f41.body.getD .skip)) Q ⟨(x0 :: dv :: x2 :: x3 :: x4 :: x5 :: .bool fl :: x7 :: x8 :: x9 :: .slice ao lx.length cp :: x11 :: x12 :: x13 :: x14 :: x15 :: x16 :: x17 :: x18 :: x19 :: x20 :: x21 :: x22 :: x23 :: x24 :: x25 :: x26 :: x27 :: x28 :: x29 :: x30 :: x31 :: x32 :: x33 :: x34 :: x35 :: x36 :: x37 :: x38 :: x39 :: x40 :: x41 :: x42 :: x43 :: x44 :: x45 :: x46 :: x47 :: x48 :: x49 :: x50 :: x51 :: x52 :: x53 :: x54 :: x55 :: x56 :: x57 :: x58 :: x59 :: x60 :: x61 :: x62 :: x63 :: x64 :: x65 :: x66 :: x67 :: x68 :: x69 :: x70 :: x71 :: x72 :: x73 :: x74 :: x75 :: x76 :: x77 :: x78 :: x79 :: x80 :: x81 :: x82 :: x83 :: x84 :: x85 :: x86 :: x87 :: x88 :: x89 :: x90 :: x91 :: x92 :: x93 :: x94 :: x95 :: x96 :: x97 :: x98 :: x99 :: x100 :: x101 :: .int .i64 (lx.length : Int) :: .int .i64 0 :: x104 :: x105 :: x106 :: x107 :: x108 :: x109 :: x110 :: x111 :: x112 :: x113 :: x114 :: x115 :: x116 :: x117 :: x118 :: x119 :: x120 :: x121 :: x122 :: x123 :: x124 :: x125 :: x126 :: x127 :: x128 :: x129 :: x130 :: x131 :: x132 :: x133 :: x134 :: x135 :: x136 :: x137 :: x138 :: x139 :: x140 :: x141 :: x142 :: x143 :: x144 :: x145 :: x146 :: x147 :: x148 :: x149 :: x150 :: x151 :: x152 :: x153 :: x154 :: x155 :: x156 :: x157 :: x158 :: x159 :: x160 :: x161 :: x162 :: x163 :: x164 :: x165 :: x166 :: x167 :: x168 :: x169 :: x170 :: x171 :: x172 :: x173 :: x174 :: x175 :: x176 :: x177 :: x178 :: x179 :: x180 :: x181 :: x182 :: x183 :: x184 :: x185 :: x186 :: x187 :: x188 :: x189 :: x190 :: x191 :: x192 :: x193 :: x194 :: x195 :: x196 :: x197 :: x198 :: x199 :: x200 :: x201 :: x202 :: x203 :: x204 :: x205 :: x206 :: x207 :: x208 :: x209 :: x210 :: x211 :: x212 :: x213 :: x214 :: x215 :: x216 :: x217 :: x218 :: x219 :: x220 :: x221 :: x222 :: x223 :: x224 :: x225 :: x226 :: x227 :: x228 :: x229 :: x230 :: x231 :: x232 :: x233 :: x234 :: x235 :: x236 :: x237 :: x238 :: x239 :: x240 :: x241 :: x242 :: x243 :: x244 :: x245 :: x246 :: x247 :: x248 :: x249 :: x250 :: x251 :: x252 :: x253 :: x254 :: x255 :: x256 :: x257 :: x258 :: x259 :: x260 :: x261 :: x262 :: x263 :: x264 :: x265 :: x266 :: x267 :: x268 :: x269 :: x270 :: x271 :: x272 :: x273 :: x274 :: x275 :: x276 :: x277 :: x278 :: x279 :: x280 :: x281 :: x282 :: x283 :: x284 :: x285 :: x286 :: x287 :: x288 :: x289 :: x290 :: x291 :: x292 :: x293 :: x294 :: x295 :: x296 :: x297 :: x298 :: x299 :: x300 :: x301 :: x302 :: x303 :: x304 :: x305 :: x306 :: x307 :: x308 :: x309 :: x310 :: x311 :: x312 :: x313 :: x314 :: x315 :: x316 :: x317 :: x318 :: []).toArray, []⟩ wl := by
  subst hfl
  obtain ⟨nu0, css, lx0, HE, ev, hrw, -, e⟩ := hvl
  cases e
  have HEQ : Hid _ := HE
  rw [HE] at hrw
  clear HE
  have hd : ApSt w wl B dv FF ((lx.drop 0).flatMap (apE 10 q_AddPartitionsToTxnRequestTopic ver false) ++ (rest)) := by rw [List.drop_zero]; exact SC
  clear SC
  conv => arg 2; whnf
  go_loopw [103, 11, 1] (fun k _ dv wr => ∃ j : Nat, k = .int .i64 (j : Int) ∧ j ≤ lx.length ∧ ApSt w wr B dv FF ((lx.drop j).flatMap (apE 10 q_AddPartitionsToTxnRequestTopic ver false) ++ (rest))) (fun k _ _ _ => lx.length - (intOf k).toNat)
  case atStart => exact ⟨0, rfl, Nat.zero_le _, hd⟩
  case round =>
    clear hd
    obtain ⟨wr1, rfl⟩ : ∃ x : World, x = wr := ⟨_, rfl⟩
    obtain ⟨j1, rfl, hj1, sc1⟩ := hrel
    by_cases hlt1 : j1 < lx.length
    · have hjc : j1 < css.length := by rw [HEQ.out]; exact hlt1
      obtain ⟨row1, cap1, hsl0, hcap1, hGr1, hpt1⟩ := hrw.part (m := 3) HEQ.out (fun c hc => by obtain ⟨q, hq, rfl⟩ := List.getElem_of_mem hc; exact (ev q (by rw [← HEQ.out]; exact hq) hq).1) hjc
      simp only [Value.slice.injEq] at hsl0
      obtain ⟨rfl, _, rfl⟩ := hsl0
      have hrb1 : row1 < B := hG _ hGr1
      have hvj := (ev j1 hlt1 hjc).2
      have hsj := smalls_mem hsl _ (List.getElem_mem hlt1)
      rw [List.drop_eq_getElem_cons hlt1, List.flatMap_cons] at sc1
      generalize css[j1] = cj at *
      generalize lx[j1] = tj at *
      obtain ⟨cs1, tv1, l1, tg1, rfl, hf1, hmp1, rfl⟩ : ∃ cs v l u, cj = cs ++ [v] ∧ VFs w G q_AddPartitionsToTxnRequestTopic cs l ∧ MP w G v u ∧ tj = .mk 0 [] false l u := hvj
      simp only [small] at hsj
      obtain ⟨_, _, ht2_1, ht1_1, hsl1⟩ := hsj
      unfold q_AddPartitionsToTxnRequestTopic at hf1
      obtain ⟨c1_0, cr1_0, t1_0, l1_0, rfl, rfl, hf1_0, hr1_0⟩ := hf1
      obtain ⟨c1_1, cr1_1, t1_1, l1_1, rfl, rfl, hf1_1, hr1_1⟩ := hr1_0
      obtain ⟨rfl, rfl⟩ := hr1_1
      have hs1_0 : small 1000000 t1_0 := smalls_mem hsl1 _ (by simp)
      obtain ⟨n1_0, rfl, rfl⟩ := vf_str_inv (by decide) hf1_0
      have hl1_0 : n1_0.length ≤ 1000000 := hs1_0.1
      have hs1_1 : small 1000000 t1_1 := smalls_mem hsl1 _ (by simp)
      obtain ⟨v1_1, rfl, vl1_1⟩ := vf_list_inv hf1_1
      obtain ⟨nu1_1, css1_1, lx1_1, eq1_1, ev1_1, hrw1_1, hnil1_1, rfl⟩ := vl1_1
      obtain ⟨ao1_1, cp1_1, rfl, hcp1_1, hcn1_1⟩ := hrw1_1.shape
      rw [eq1_1] at hrw1_1 hcp1_1 hcn1_1 hnil1_1 hpt1
      have HEQ1_1 : Hid _ := eq1_1
      clear eq1_1
      obtain ⟨_, hll1_1, _, _, hsl1_1⟩ := hs1_1
      clear hf1_0
      clear hf1_1
      simp only [List.cons_append, List.nil_append] at hpt1
      have cw1_0 : w.cell? ⟨row1, j1 * 3, none⟩ = some _ := hpt1.cell (o := j1 * 3) (j := 0) rfl rfl
      have cw1_1 : w.cell? ⟨row1, j1 * 3 + 1, none⟩ = some _ := hpt1.cell (o := j1 * 3 + 1) (j := 1) rfl rfl
      have hel : apE 10 q_AddPartitionsToTxnRequestTopic ver false (.mk 0 [] false [(.mk 0 n1_0 false [] []), (.mk 0 [] nu1_1 lx1_1 [])] tg1) ++ ((lx.drop (j1 + 1)).flatMap (apE 10 q_AddPartitionsToTxnRequestTopic ver false) ++ (rest)) = (fixedP n1_0.length 2 ++ n1_0) ++ (fixedP lx1_1.length 4 ++ (lx1_1.flatMap (apE 3 [] ver false) ++ ((lx.drop (j1 + 1)).flatMap (apE 10 q_AddPartitionsToTxnRequestTopic ver false) ++ (rest)))) := by
        simp [apE_part, q_AddPartitionsToTxnRequestTopic, apFs, apF_list (show (-1 : Int) < 0 by decide), apF_str, (has_yes (show (0 : Int) ≤ ver by omega) (.inl (by decide)) : F.has (.mk 8 0 (-1) (-1) (-1) 0 0 []) ver = true), (has_yes (show (0 : Int) ≤ ver by omega) (.inl (by decide)) : F.has (.mk 11 0 (-1) (-1) (-1) 0 3 []) ver = true)]
      rw [List.append_assoc, hel] at sc1
      clear hel
      have d1_0 := sc1.at_ cw1_0 hrb1
      go_wp2_with (first
        | (go_at_call 80; go_loud (refine (sc1.st hl1_0).mono ?_; rintro e w2 ⟨v2, rfl, h2⟩; clear sc1; have d1_1 := h2.at_ cw1_1 hrb1))
        | (go_at_call 78; go_loud (refine (h2.ln hll1_1).mono ?_; rintro e w3 ⟨v3, rfl, h3⟩; clear h2)))
      refine apt_al1p (w := w) (nu := nu1_1) ⟨nu1_1, css1_1, lx1_1, HEQ1_1.out, ev1_1, by rw [HEQ1_1.out]; exact hrw1_1, hnil1_1, rfl⟩ hll1_1 hsl1_1 hG hv0 h3 ?hexit
      case hexit =>
        show ∀ (wr : World) (y1 y15 y16 y135 y136 y137 y138 y139 y140 y141 y142 y143 y144 y145 : Value), _
        intro wq4 dq4 _ _ _ _ _ _ _ _ _ _ _ _ _ sc4
        clear h3
        go_wp2_with (first
          | (go_roundw; (case rel => exact ⟨j1 + 1, by go_num, by omega, sc4⟩); (case measure => (simp [intOf]; omega))))
    · rw [List.drop_of_length_le (by omega), List.flatMap_nil, List.nil_append] at sc1
      go_wp2_with fail
      exact HEX.out _ _ _ _ _ _ _ _ _ _ _ _ _ _ _ _ _ _ _ _ _ _ _ _ _ _ _ _ _ _ _ _ _ _ _ _ _ _ _ _ _ _ _ _ _ _ _ _ _ _ _ _ _ _ _ _ _ _ _ _ _ _ _ _ _ _ sc1
end Go.Proofs.YtalgpkkphlfooaaGreatDoor
