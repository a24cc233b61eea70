/-
  AlterPartitionRequest: reading, a list's loop.
-/
import Derived.Test.YtdebdgofomnpoaaGreatDoorMApr1
import Derived.Test.YtdebdgofomnpoaaGreatDoorMApr12
import Derived.Deep.CutBlock
import Derived.Deep.DeepCutAuto
namespace Go.Proofs.YtdebdgofomnpoaaGreatDoor
open Go.ChangeShapes Go.WideShapes Go.ChangeAt Go.RowKit

set_option maxHeartbeats 40000000 in
set_option maxRecDepth 100000 in
theorem apr_l0f111s {Q : Exit → Act → World → Prop} {G : Nat → Prop} {rb : Nat} {p : Addr} {ver : Int} {U1 wl : World} {s0 : St} {L : Int} {v0 av x0 x1 x3 x4 x5 x6 x10 x11 x12 x13 x17 x18 x19 x20 x21 x22 x23 x24 x25 x26 x27 x28 x29 x30 x31 x32 x33 x34 x35 x36 x37 x38 x39 x40 x41 x42 x43 x44 x45 x46 x47 x48 x49 x50 x51 x52 x53 x54 x55 x56 x57 x58 x59 x60 x61 x62 x63 x64 x65 x66 x67 x68 x69 x70 x71 x72 x73 x74 x75 x76 x77 x78 x79 x80 x81 x82 x83 x84 x85 x86 x87 x88 x89 x90 x91 x92 x93 x94 x95 x96 x97 x98 x99 x100 x101 x102 x103 x104 x105 x106 x107 x108 x109 x110 x111 x112 x113 x114 x115 x116 x117 x118 x119 x120 x121 x122 x123 x124 x125 x126 x127 x128 x129 x130 x131 x132 x133 x134 x135 x136 x137 x138 x139 x140 x141 x142 x143 x144 x145 x146 x147 x148 x149 x150 x151 x152 x153 x154 x155 x156 x157 x158 x159 x160 x161 x162 x163 x164 x165 x166 x167 x168 x169 x170 x171 x172 x173 x174 x175 x176 x177 x178 x179 x180 x181 x182 x183 x184 x185 x186 x187 x188 x189 x190 x191 x192 x193 x194 x195 x196 x197 x198 x199 x200 x201 x202 x203 x204 x205 x206 x207 x208 x209 x210 x211 x212 x213 x214 x215 x216 x217 x218 x219 x220 x221 x222 x223 x224 x225 x226 x227 x228 x229 x230 x231 x232 x233 x234 x235 x236 x237 x238 x239 x240 x241 x242 x243 x244 x245 x246 x247 x248 x249 x250 x251 x252 x253 x254 x255 x256 x257 x258 x259 x260 x261 x262 x263 x264 x265 x266 x267 x268 x269 x270 x271 x272 x273 x274 x275 x276 x277 x278 x279 x280 x281 x282 x283 x284 x285 x286 : Value} {fl : Bool} (hfl : fl = true) (RR0 : RowRel U1 wl wl rb G (gOf 10 true q_AlterPartitionRequestTopic ver) s0 L.toNat 19 0 [.string ⟨#[]⟩, .int .u8 0, .int .u8 0, .int .u8 0, .int .u8 0, .int .u8 0, .int .u8 0, .int .u8 0, .int .u8 0, .int .u8 0, .int .u8 0, .int .u8 0, .int .u8 0, .int .u8 0, .int .u8 0, .int .u8 0, .int .u8 0, .slice none 0 0, .map none] 208 10 q_AlterPartitionRequestTopic v0 av) (_lr : -2147483648 ≤ L ∧ L ≤ 2147483647) (_hG : There G U1) (_hnb : ¬ G rb) (_hrl : rb < U1.heap.size) (hg : Gl U1 p) (hE : 1 ≠ rb) (hv0 : 0 ≤ ver) (_B1 : 1 ≤ ver) (_B2 : 2 ≤ ver) (_B3 : 3 ≤ ver)
    (HRET : Hid (∀ (a' : Act) (wz : World), a'.defers = [] → a'.tmps.getD 6 undef = errV p true → Keep [rb] U1 wz → (rdTimes (gOf 10 true q_AlterPartitionRequestTopic ver) L.toNat s0).2.2 = true → Q .ret a' wz))
    (HEX : Hid (∀ (wr : World) (y6 y16 y17 y18 y19 y20 y21 y22 y23 y24 y25 y26 y27 y28 y29 y30 y31 y32 y33 y34 y35 y36 y37 y38 y39 y40 y41 y42 y43 y85 y86 y87 y88 y89 y90 y91 y92 y93 y94 y95 y96 y97 y98 y99 y100 y101 y102 y103 y104 y105 y106 y107 y108 y109 y110 y111 y112 y113 y114 y115 y116 y117 y118 y119 y120 y121 y122 y123 y124 y125 y126 y127 y128 y129 y130 y131 y132 y133 y134 y135 y136 y137 y138 y139 y140 y141 y142 y143 y144 y145 y146 y147 y148 y149 y150 y151 y152 y153 y154 y155 y156 y157 y158 y159 y160 y161 y162 y163 y164 y165 y166 y167 y168 y169 y170 y171 y172 y173 y174 y175 y176 y177 y178 y179 y180 y181 y182 y183 y184 y185 y186 y187 y188 y189 y190 y191 y192 y193 y194 y195 y196 y197 y198 y199 y200 y201 y202 y203 y204 y205 y206 y207 y208 y209 y210 y211 y212 y213 y214 y215 y216 y217 y218 y219 y220 y221 y222 y223 y224 y225 y226 y227 y228 y229 y230 y231 y232 y233 y234 y235 y236 y237 y238 y239 y240 y241 y242 y243 y244 y245 y246 y247 y248 y249 y250 y251 y252 y253 y254 y255 y256 y257 y258 y259 y260 y261 y262 y263 y264 y265 y266 y267 y268 y269 y270 y271 y272 y273 y274 y275 : Value), RowRel U1 wl wr rb G (gOf 10 true q_AlterPartitionRequestTopic ver) s0 L.toNat 19 L.toNat [.string ⟨#[]⟩, .int .u8 0, .int .u8 0, .int .u8 0, .int .u8 0, .int .u8 0, .int .u8 0, .int .u8 0, .int .u8 0, .int .u8 0, .int .u8 0, .int .u8 0, .int .u8 0, .int .u8 0, .int .u8 0, .int .u8 0, .int .u8 0, .slice none 0 0, .map none] 208 10 q_AlterPartitionRequestTopic v0 av → Q (.exit 0) ⟨(x0 :: x1 :: .bool false :: x3 :: x4 :: x5 :: y6 :: .pointer (some ⟨rb, 0, none⟩) :: .int .i16 ver :: .bool fl :: x10 :: x11 :: x12 :: x13 :: av :: .int .i32 L :: y16 :: y17 :: y18 :: y19 :: y20 :: y21 :: y22 :: y23 :: y24 :: y25 :: y26 :: y27 :: y28 :: y29 :: y30 :: y31 :: y32 :: y33 :: y34 :: y35 :: y36 :: y37 :: y38 :: y39 :: y40 :: y41 :: y42 :: y43 :: x44 :: x45 :: x46 :: x47 :: x48 :: x49 :: x50 :: x51 :: x52 :: x53 :: x54 :: x55 :: x56 :: x57 :: x58 :: x59 :: x60 :: x61 :: x62 :: x63 :: x64 :: x65 :: x66 :: x67 :: x68 :: x69 :: x70 :: x71 :: x72 :: x73 :: x74 :: x75 :: x76 :: x77 :: x78 :: x79 :: x80 :: x81 :: x82 :: x83 :: x84 :: y85 :: y86 :: y87 :: y88 :: y89 :: y90 :: y91 :: y92 :: y93 :: y94 :: y95 :: y96 :: y97 :: y98 :: y99 :: y100 :: y101 :: y102 :: y103 :: y104 :: y105 :: y106 :: y107 :: y108 :: y109 :: y110 :: y111 :: y112 :: y113 :: y114 :: y115 :: y116 :: y117 :: y118 :: y119 :: y120 :: y121 :: y122 :: y123 :: y124 :: y125 :: y126 :: y127 :: y128 :: y129 :: y130 :: y131 :: y132 :: y133 :: y134 :: y135 :: y136 :: y137 :: y138 :: y139 :: y140 :: y141 :: y142 :: y143 :: y144 :: y145 :: y146 :: y147 :: y148 :: y149 :: y150 :: y151 :: y152 :: y153 :: y154 :: y155 :: y156 :: y157 :: y158 :: y159 :: y160 :: y161 :: y162 :: y163 :: y164 :: y165 :: y166 :: y167 :: y168 :: y169 :: y170 :: y171 :: y172 :: y173 :: y174 :: y175 :: y176 :: y177 :: y178 :: y179 :: y180 :: y181 :: y182 :: y183 :: y184 :: y185 :: y186 :: y187 :: y188 :: y189 :: y190 :: y191 :: y192 :: y193 :: y194 :: y195 :: y196 :: y197 :: y198 :: y199 :: y200 :: y201 :: y202 :: y203 :: y204 :: y205 :: y206 :: y207 :: y208 :: y209 :: y210 :: y211 :: y212 :: y213 :: y214 :: y215 :: y216 :: y217 :: y218 :: y219 :: y220 :: y221 :: y222 :: y223 :: y224 :: y225 :: y226 :: y227 :: y228 :: y229 :: y230 :: y231 :: y232 :: y233 :: y234 :: y235 :: y236 :: y237 :: y238 :: y239 :: y240 :: y241 :: y242 :: y243 :: y244 :: y245 :: y246 :: y247 :: y248 :: y249 :: y250 :: y251 :: y252 :: y253 :: y254 :: y255 :: y256 :: y257 :: y258 :: y259 :: y260 :: y261 :: y262 :: y263 :: y264 :: y265 :: y266 :: y267 :: y268 :: y269 :: y270 :: y271 :: y272 :: y273 :: y274 :: y275 :: x276 :: x277 :: x278 :: x279 :: x280 :: x281 :: x282 :: x283 :: x284 :: x285 :: x286 :: []).toArray, []⟩ wr)) :
    Code.wp Tryz.prog (codeAt [true, true, true, true, true, true, true, true, true, true, false, true, true, true, true, true, true, true, false, true, false] (Tryz.f199.body.getD .skip)) Q ⟨(x0 :: x1 :: .bool false :: x3 :: x4 :: x5 :: x6 :: .pointer (some ⟨rb, 0, none⟩) :: .int .i16 ver :: .bool fl :: x10 :: x11 :: x12 :: x13 :: av :: .int .i32 L :: .int .i32 0 :: x17 :: x18 :: x19 :: x20 :: x21 :: x22 :: x23 :: x24 :: x25 :: x26 :: x27 :: x28 :: x29 :: x30 :: x31 :: x32 :: x33 :: x34 :: x35 :: x36 :: x37 :: x38 :: x39 :: x40 :: x41 :: x42 :: x43 :: x44 :: x45 :: x46 :: x47 :: x48 :: x49 :: x50 :: x51 :: x52 :: x53 :: x54 :: x55 :: x56 :: x57 :: x58 :: x59 :: x60 :: x61 :: x62 :: x63 :: x64 :: x65 :: x66 :: x67 :: x68 :: x69 :: x70 :: x71 :: x72 :: x73 :: x74 :: x75 :: x76 :: x77 :: x78 :: x79 :: x80 :: x81 :: x82 :: x83 :: x84 :: x85 :: x86 :: x87 :: x88 :: x89 :: x90 :: x91 :: x92 :: x93 :: x94 :: x95 :: x96 :: x97 :: x98 :: x99 :: x100 :: x101 :: x102 :: x103 :: x104 :: x105 :: x106 :: x107 :: x108 :: x109 :: x110 :: x111 :: x112 :: x113 :: x114 :: x115 :: x116 :: x117 :: x118 :: x119 :: x120 :: x121 :: x122 :: x123 :: x124 :: x125 :: x126 :: x127 :: x128 :: x129 :: x130 :: x131 :: x132 :: x133 :: x134 :: x135 :: x136 :: x137 :: x138 :: x139 :: x140 :: x141 :: x142 :: x143 :: x144 :: x145 :: x146 :: x147 :: x148 :: x149 :: x150 :: x151 :: x152 :: x153 :: x154 :: x155 :: x156 :: x157 :: x158 :: x159 :: x160 :: x161 :: x162 :: x163 :: x164 :: x165 :: x166 :: x167 :: x168 :: x169 :: x170 :: x171 :: x172 :: x173 :: x174 :: x175 :: x176 :: x177 :: x178 :: x179 :: x180 :: x181 :: x182 :: x183 :: x184 :: x185 :: x186 :: x187 :: x188 :: x189 :: x190 :: x191 :: x192 :: x193 :: x194 :: x195 :: x196 :: x197 :: x198 :: x199 :: x200 :: x201 :: x202 :: x203 :: x204 :: x205 :: x206 :: x207 :: x208 :: x209 :: x210 :: x211 :: x212 :: x213 :: x214 :: x215 :: x216 :: x217 :: x218 :: x219 :: x220 :: x221 :: x222 :: x223 :: x224 :: x225 :: x226 :: x227 :: x228 :: x229 :: x230 :: x231 :: x232 :: x233 :: x234 :: x235 :: x236 :: x237 :: x238 :: x239 :: x240 :: x241 :: x242 :: x243 :: x244 :: x245 :: x246 :: x247 :: x248 :: x249 :: x250 :: x251 :: x252 :: x253 :: x254 :: x255 :: x256 :: x257 :: x258 :: x259 :: x260 :: x261 :: x262 :: x263 :: x264 :: x265 :: x266 :: x267 :: x268 :: x269 :: x270 :: x271 :: x272 :: x273 :: x274 :: x275 :: x276 :: x277 :: x278 :: x279 :: x280 :: x281 :: x282 :: x283 :: x284 :: x285 :: x286 :: []).toArray, []⟩ wl := by
  subst hfl
  conv => arg 2; whnf
  let _QX : Exit → Act → World → Prop := bodyPost Tryz.prog Tryz.f199 (fun _ _ => True)
  go_loopw [16] (fun i wr => ∃ k : Nat, k ≤ L.toNat ∧ i = .int .i32 (k : Int) ∧ RowRel U1 wl wr rb G (gOf 10 true q_AlterPartitionRequestTopic ver) s0 L.toNat 19 k [.string ⟨#[]⟩, .int .u8 0, .int .u8 0, .int .u8 0, .int .u8 0, .int .u8 0, .int .u8 0, .int .u8 0, .int .u8 0, .int .u8 0, .int .u8 0, .int .u8 0, .int .u8 0, .int .u8 0, .int .u8 0, .int .u8 0, .int .u8 0, .slice none 0 0, .map none] 208 10 q_AlterPartitionRequestTopic v0 av) (fun i _ => L.toNat - (intOf i).toNat)
  case atStart => exact ⟨0, Nat.zero_le _, rfl, RR0⟩
  case round =>
    obtain ⟨k, hk, rfl, RR⟩ := hrel
    clear RR0
    have KR := RR.keep
    by_cases lt : (k : Int) < L
    · obtain ⟨row, cap, pre, post, rfl, _hcap, _hrw, hpre, e0, cont⟩ := RR.elem (by omega : k < L.toNat)
      obtain ⟨wk, rfl⟩ : ∃ x : World, x = wr := ⟨_, rfl⟩
      clear RR
      have HBF : Hid (((gOf 10 true q_AlterPartitionRequestTopic ver) (rdTimes (gOf 10 true q_AlterPartitionRequestTopic ver) k s0).2).2.2 = true → (rdTimes (gOf 10 true q_AlterPartitionRequestTopic ver) L.toNat s0).2.2 = true) := fun h => rdTimes_from (gOf_b 10 true q_AlterPartitionRequestTopic ver) _ (k + 1) h _ (by omega)
      generalize (rdTimes (gOf 10 true q_AlterPartitionRequestTopic ver) k s0).2 = sk at *
      have HEQ : Hid ((gOf 10 true q_AlterPartitionRequestTopic ver) sk = (.mk 0 [] false [(.mk 0 [] false [] []), (.mk 0 (rdUuid sk).1 false [] []), (rdF (.mk 11 0 (-1) (-1) (-1) 0 10 q_AlterPartitionRequestTopicPartition) ver true (rdUuid sk).2).1] (rdTags (rdF (.mk 11 0 (-1) (-1) (-1) 0 10 q_AlterPartitionRequestTopicPartition) ver true (rdUuid sk).2).2).1, (rdTags (rdF (.mk 11 0 (-1) (-1) (-1) 0 10 q_AlterPartitionRequestTopicPartition) ver true (rdUuid sk).2).2).2)) := by
        show _ = _
        simp [gOf, rdK, rdPartOf, q_AlterPartitionRequestTopic, rdFs, (has_no2 (show ¬ ver ≤ (1 : Int) by omega) (by decide) : F.has (.mk 8 0 1 (-1) (-1) 0 0 []) ver = false), (has_yes (show (2 : Int) ≤ ver by omega) (.inl (by decide)) : F.has (.mk 7 2 (-1) (-1) (-1) 0 0 []) ver = true), (has_yes (show (0 : Int) ≤ ver by omega) (.inl (by decide)) : F.has (.mk 11 0 (-1) (-1) (-1) 0 10 q_AlterPartitionRequestTopicPartition) ver = true), rdF, dflF]
      go_upto_region 41 with (first
        | (go_at_call 271; go_loud (refine (d_AlterPartitionRequestTopic _ _).mono ?_; rintro e wd ⟨rfl, rfl⟩))
        | (go_at_call 222; go_loud (have h1 : ElSt wk wk row rb G sk pre [.string ⟨#[]⟩] [.int .u8 0, .int .u8 0, .int .u8 0, .int .u8 0, .int .u8 0, .int .u8 0, .int .u8 0, .int .u8 0, .int .u8 0, .int .u8 0, .int .u8 0, .int .u8 0, .int .u8 0, .int .u8 0, .int .u8 0, .int .u8 0, .slice none 0 0, .map none] post 208 [.mk 8 0 1 (-1) (-1) 0 0 []] [(.mk 0 [] false [] [])] := e0.pass (vf_str (by decide) []); clear e0; refine (uuid_any h1.rd h1.hG h1.nrb).mono ?_; rintro e w2 ⟨rfl, r2, k2⟩; have h3 := h1.call r2 k2; have hu2 := uuid_len sk; have ho2 := one16 (rdUuid sk).1; have hv2 : (rdUuid sk).1.map bv = (rdUuid sk).1.map bv := rfl; generalize hq2 : (rdUuid sk).1.map bv = cq2 at *; have HV2 : Hid _ := hq2; clear h1 r2 k2 hv2 hq2))
        | (refine wpList_store_list rfl 113 (.tmp 20) (.tmp 115) rfl w2.heap.size 0 cq2 rfl rfl (box_there _ (by rw [hu2]; rfl)) (info16 hu2) ho2 ?_; try simp only [Act.put]))
      have kb2 := box_keep w2 (arr := #[.int .u8 0, .int .u8 0, .int .u8 0, .int .u8 0, .int .u8 0, .int .u8 0, .int .u8 0, .int .u8 0, .int .u8 0, .int .u8 0, .int .u8 0, .int .u8 0, .int .u8 0, .int .u8 0, .int .u8 0, .int .u8 0]) (ty := 113) (cs := cq2) (by rw [hu2]; rfl)
      have rx2 := box_range w2 (arr := #[.int .u8 0, .int .u8 0, .int .u8 0, .int .u8 0, .int .u8 0, .int .u8 0, .int .u8 0, .int .u8 0, .int .u8 0, .int .u8 0, .int .u8 0, .int .u8 0, .int .u8 0, .int .u8 0, .int .u8 0, .int .u8 0]) (ty := 113) (cs := cq2) (by rw [hu2]; rfl)
      have h4 := h3.calm kb2
      clear h3 kb2
      generalize ((w2.alloc (.cells #[.int .u8 0, .int .u8 0, .int .u8 0, .int .u8 0, .int .u8 0, .int .u8 0, .int .u8 0, .int .u8 0, .int .u8 0, .int .u8 0, .int .u8 0, .int .u8 0, .int .u8 0, .int .u8 0, .int .u8 0, .int .u8 0] 113)).setCells w2.heap.size 0 cq2) = ub2 at *
      have HX2 : Hid _ := rx2
      clear rx2
      go_cut [] (fun wx => ∃ cu2 : List Value, cu2.length = 16 ∧ ElSt wk wx row rb G (rdUuid sk).2 pre ([.string ⟨#[]⟩] ++ cu2) [.slice none 0 0, .map none] post 208 [.mk 8 0 1 (-1) (-1) 0 0 [], .mk 7 2 (-1) (-1) (-1) 0 0 []] [(.mk 0 [] false [] []), (.mk 0 (rdUuid sk).1 false [] [])])
      case first =>
        have HU2 : Hid (ElSt wk (ub2.setCells row (k * 19 + 1) cq2) row rb G (rdUuid sk).2 pre ([.string ⟨#[]⟩] ++ cq2) [.slice none 0 0, .map none] post 208 [.mk 8 0 1 (-1) (-1) 0 0 [], .mk 7 2 (-1) (-1) (-1) 0 0 []] [(.mk 0 [] false [] []), (.mk 0 (rdUuid sk).1 false [] [])]) := h4.putsC (xs := cq2) (olds := [.int .u8 0, .int .u8 0, .int .u8 0, .int .u8 0, .int .u8 0, .int .u8 0, .int .u8 0, .int .u8 0, .int .u8 0, .int .u8 0, .int .u8 0, .int .u8 0, .int .u8 0, .int .u8 0, .int .u8 0, .int .u8 0]) (el_at hpre rfl) (by rw [hu2]; rfl) (vf_uuid2 (x := (rdUuid sk).1) HV2.out.symm (pad16_length _))
        have HT2 : Hid (ub2.there row (k * 19 + 1) cq2.length) := h4.there_ (olds := [.int .u8 0, .int .u8 0, .int .u8 0, .int .u8 0, .int .u8 0, .int .u8 0, .int .u8 0, .int .u8 0, .int .u8 0, .int .u8 0, .int .u8 0, .int .u8 0, .int .u8 0, .int .u8 0, .int .u8 0, .int .u8 0]) (el_at hpre rfl) (by rw [hu2]; rfl)
        clear h4
        go_wp2_with (first
          | (refine wpList_load_mid rfl 113 (.tmp 20) rfl _ _ rfl cq2 _ HX2.out Tryz.underlying113 rfl (info16 hu2) ?_; try simp only [Act.put, List.setIfInBounds_toArray, List.set_cons_zero, List.set_cons_succ])
          | (refine wpList_store_list rfl 113 (.tmp 119) (.tmp 117) rfl row (k * 19 + 1) cq2 rfl rfl HT2.out (info16 hu2) ho2 ?_; try simp only [Act.put])
          | (go_meet; exact ⟨_, hu2, HU2.out⟩))
      case rest =>
        obtain ⟨cu2, hl_cu2, h5⟩ := hcut
        obtain ⟨wu2, rfl⟩ : ∃ x : World, x = wc := ⟨_, rfl⟩
        clear h4 HX2 HV2 hu2 ho2
        generalize (rdUuid sk).2 = zs2 at *
        have cl6 := h5.cellAt (o := k * 19 + 17) (el_at hpre (by simp [hl_cu2]))
        go_wp2_with (first
          | (go_at_call 213; go_loud (refine (clen_any h5.rd h5.hG h5.nrb).mono ?_; rintro e w6 ⟨rfl, r6, k6⟩; have lr6 := rdCLen_range zs2; have h7 := h5.call r6 k6; clear r6 k6; generalize hl6 : (rdCLen zs2).1 = L6 at *; have HL6 : Hid _ := hl6; clear h5 hl6)))
        cases hbad6 : (rdCLen zs2).2.2
        case true =>
          have HB : (rdTimes (gOf 10 true q_AlterPartitionRequestTopic ver) L.toNat s0).2.2 = true := HBF.out (by rw [HEQ.out]; (try dsimp only); exact rdTags_b _ ((show (rdF (.mk 11 0 (-1) (-1) (-1) 0 10 q_AlterPartitionRequestTopicPartition) ver true zs2).2.2 = true from clist_bad hbad6)))
          have HBB : Hid _ := HB
          clear HB
          go_wp2_with (first
            | (go_at_call 215; refine (ok_any h7.rd).mono ?_; rintro e wo ⟨rfl, rfl⟩; rw [hbad6])
            | (go_at_call 216; go_loud (refine (complete_any h7.rd (hg.keep (Keep.fresh (B := [rb]) ((KR.weaken (B := [rb, row]) (by simp)).trans (h7.keep.weaken (by simp))) (by simp; omega)) (by simp; omega))).mono ?_; rintro e wz ⟨rfl, kz⟩; rw [hbad6])))
          exact HRET.out _ _ rfl rfl (Keep.trans (Keep.fresh (B := [rb]) ((KR.weaken (B := [rb, row]) (by simp)).trans (h7.keep.weaken (by simp))) (by simp; omega)) (kz.weaken (by simp))) HBB.out
        case false =>
          go_upto_if 134 with (go_at_call 215; refine (ok_any h7.rd).mono ?_; rintro e wo ⟨rfl, rfl⟩; rw [hbad6])
          go_cut [22] (fun av wx => RowIni w6 wx (.slice none 0 0) av L6.toNat [.int .i32 0, .int .i32 0, .slice none 0 0, .slice none 0 0, .int .i8 0, .int .i32 0, .map none] 280)
          case first =>
            by_cases hp : 0 < L6
            · obtain ⟨N, rfl⟩ : ∃ N : Nat, L6 = N := ⟨L6.toNat, by omega⟩
              obtain ⟨i0, hi, hz0, hz1, hz2⟩ := info_bd info_AlterPartitionRequestTopicPartition
              have AP := run_append_empty_zeros (P := Tryz.prog) w6 206 21 206 280 i0 _ .i32 .i32 Tryz.underlying206 Tryz.underlying21 hi hz0 N (by omega) (by omega) (by omega) (Nat.le_trans (Nat.mul_le_mul_left N hz2) (by omega)) none
              go_wp2_with (first
                | (at_builtin; go_loud (refine Lib.wpList_append_run _ rfl (.tmp 135) (.tmp 136) 206 21 rfl _ _ rfl rfl _ _ AP ?_))
                | (go_meet; rw [Int.toNat_natCast]; exact RowIni.made2 (w := w6) (z := .agg #[.int .i32 0, .int .i32 0, .slice none 0 0, .slice none 0 0, .int .i8 0, .int .i32 0, .map none]) (N := N) (e := 280) (show 0 < N by omega) rfl _))
            · go_wp2_with (go_meet; exact .inl ⟨by omega, rfl, rfl⟩)
          case rest =>
            have RR6 := RowRel.start hcut h7.rd h7.hG h7.nrb (gOf 10 true q_AlterPartitionRequestTopicPartition ver) 7 10 q_AlterPartitionRequestTopicPartition
            clear hcut
            obtain ⟨wl6, rfl⟩ : ∃ x : World, x = wc := ⟨_, rfl⟩
            obtain ⟨av6, rfl⟩ : ∃ x : Value, x = u22 := ⟨_, rfl⟩
            go_wp2_with fail
            refine apr_l1f11 (p := p) (by first | rfl | (simp; done) | (simp; omega)) RR6 lr6 h7.hG h7.nrb h7.rd.lt' (hg.keep (Keep.fresh (B := [rb]) ((KR.weaken (B := [rb, row]) (by simp)).trans (h7.keep.weaken (by simp))) (by simp; omega)) (by simp; omega)) hE hv0 (by omega) (by omega) ?hret ?hexit
            case hret =>
              exact fun a' wz z1 z2 z3 z4 => HRET.out a' wz z1 z2 (Keep.trans (Keep.fresh (B := [rb]) ((KR.weaken (B := [rb, row]) (by simp)).trans (h7.keep.weaken (by simp))) (by simp; omega)) z3) (HBF.out (by rw [HEQ.out]; (try dsimp only); exact rdTags_b _ ((show (rdF (.mk 11 0 (-1) (-1) (-1) 0 10 q_AlterPartitionRequestTopicPartition) ver true zs2).2.2 = true by rw [rdF_clist HL6.out]; exact z4))))
            case hexit =>
              intro wr6 y6 y24 y25 y26 y27 y28 y29 y30 y31 y32 y33 y34 y35 y36 y37 y38 y39 y40 y41 y42 y43 y138 y139 y140 y141 y142 y143 y144 y145 y146 y147 y148 y149 y150 y151 y152 y153 y154 y155 y156 y157 y158 y159 y160 y161 y162 y163 y164 y165 y166 y167 y168 y169 y170 y171 y172 y173 y174 y175 y176 y177 y178 y179 y180 y181 y182 y183 y184 y185 y186 y187 y188 y189 y190 y191 y192 y193 y194 y195 y196 y197 y198 y199 y200 y201 y202 y203 y204 y205 y206 y207 y208 y209 y210 y211 y212 y213 y214 y215 y216 y217 y218 y219 y220 y221 y222 y223 y224 y225 y226 y227 y228 y229 y230 y231 y232 y233 y234 y235 y236 y237 y238 y239 y240 y241 y242 y243 y244 y245 y246 y247 y248 y249 y250 y251 y252 y253 y254 y255 y256 y257 y258 y259 y260 y261 y262 y263 y264 y265 RR
              have KR6 := RR.keep
              obtain ⟨rr, kr, ⟨ao6, cp6, rfl⟩, vl⟩ := RR.fin (by omega) (.inl rfl)
              clear RR RR6
              have LE := rdF_clist (a := 0) (b := (-1)) (c := (-1)) (d := 0) (ofk := 10) (v := ver) (sub := q_AlterPartitionRequestTopicPartition) HL6.out
              have rr2 : Rd wr6 rb G (rdF (.mk 11 0 (-1) (-1) (-1) 0 10 q_AlterPartitionRequestTopicPartition) ver true zs2).2 := by rw [LE]; exact rr
              have vl2 := vl (decide (L6 ≤ 0)) (by simp)
              have vl3 : VL wr6 (Nw G w6 rb wr6) (VK wr6 (Nw G w6 rb wr6) 10 (-1) (VFs wr6 (Nw G w6 rb wr6) q_AlterPartitionRequestTopicPartition)) 7 (.slice ao6 L6.toNat cp6) (rdF (.mk 11 0 (-1) (-1) (-1) 0 10 q_AlterPartitionRequestTopicPartition) ver true zs2).1 := by rw [LE]; exact vl2
              have gr : ∀ i, Nw G w6 rb wr6 i → Nw G wk rb wr6 i := fun i hi => ⟨hi.1.imp id (Nat.le_trans h7.keep.size), hi.2⟩
              have vl4 := VL.keepF (fun _ _ => rfl) gr (fun c t => VK.keepF (fun _ _ => rfl) gr (fun c l => VFs.keepF (fun _ _ => rfl) gr q_AlterPartitionRequestTopicPartition)) vl3
              have h8 := h7.call rr2 kr
              clear rr rr2 vl vl2 vl3 LE
              have c6 := h8.cellAt (o := k * 19 + 17) (el_at hpre (by simp [hl_cu2]))
              have f6 := h8.free (k * 19 + 17)
              have h9 : ElSt wk (wr6.setCell ⟨row, k * 19 + 17, none⟩ (.slice ao6 L6.toNat cp6)) row rb G (rdF (.mk 11 0 (-1) (-1) (-1) 0 10 q_AlterPartitionRequestTopicPartition) ver true zs2).2 pre (([.string ⟨#[]⟩] ++ cu2) ++ [.slice ao6 L6.toNat cp6]) [.map none] post 208 [.mk 8 0 1 (-1) (-1) 0 0 [], .mk 7 2 (-1) (-1) (-1) 0 0 [], .mk 11 0 (-1) (-1) (-1) 0 10 q_AlterPartitionRequestTopicPartition] [(.mk 0 [] false [] []), (.mk 0 (rdUuid sk).1 false [] []), (rdF (.mk 11 0 (-1) (-1) (-1) 0 10 q_AlterPartitionRequestTopicPartition) ver true zs2).1] := h8.put (o := k * 19 + 17) (el_at hpre (by simp [hl_cu2])) (vf_list rfl vl4)
              clear h7 h8 vl4 gr
              generalize (rdF (.mk 11 0 (-1) (-1) (-1) 0 10 q_AlterPartitionRequestTopicPartition) ver true zs2).2 = zs6 at *
              go_wp2_with (first
                | (go_at_call 225; go_loud (refine (rtags_any h9.rd h9.hG h9.nrb).mono ?_; rintro e w10 ⟨tv10, rfl, mp10, mb10, r10, k10⟩; obtain ⟨mr10, rfl⟩ := mp10.shape; have mq10 := mp10.keepF (fun _ _ => rfl) (h9.nwNew (W := w10)); have h11 := h9.call r10 k10; have c10 := h11.cellAt (o := k * 19 + 18) (el_at hpre (by simp [hl_cu2])); have f10 := h11.free (k * 19 + 18); have he12 := h11.tags (o := k * 19 + 18) (el_at hpre (by simp [hl_cu2])) mq10; clear r10 k10 h9 h11))
                | ( go_roundw; (case rel => exact ⟨k + 1, by omega, by go_num, cont _ _ _ _ he12 (by simp [hl_cu2]) HEQ.out⟩); (case measure => (simp [intOf]; omega))))
    · have RE := RR.at_end (by omega)
      clear RR
      go_wp2_with fail
      exact HEX.out _ _ _ _ _ _ _ _ _ _ _ _ _ _ _ _ _ _ _ _ _ _ _ _ _ _ _ _ _ _ _ _ _ _ _ _ _ _ _ _ _ _ _ _ _ _ _ _ _ _ _ _ _ _ _ _ _ _ _ _ _ _ _ _ _ _ _ _ _ _ _ _ _ _ _ _ _ _ _ _ _ _ _ _ _ _ _ _ _ _ _ _ _ _ _ _ _ _ _ _ _ _ _ _ _ _ _ _ _ _ _ _ _ _ _ _ _ _ _ _ _ _ _ _ _ _ _ _ _ _ _ _ _ _ _ _ _ _ _ _ _ _ _ _ _ _ _ _ _ _ _ _ _ _ _ _ _ _ _ _ _ _ _ _ _ _ _ _ _ _ _ _ _ _ _ _ _ _ _ _ _ _ _ _ _ _ _ _ _ _ _ _ _ _ _ _ _ _ _ _ _ _ _ _ _ _ _ _ _ _ _ _ _ _ _ _ _ _ _ _ _ RE
end Go.Proofs.YtdebdgofomnpoaaGreatDoor
