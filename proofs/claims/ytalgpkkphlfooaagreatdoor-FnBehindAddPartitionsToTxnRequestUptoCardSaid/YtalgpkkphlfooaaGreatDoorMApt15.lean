/-
  AddPartitionsToTxnRequest: reading, a list's loop.
-/
import Derived.Test.YtalgpkkphlfooaaGreatDoorMApt1
import Derived.Test.YtalgpkkphlfooaaGreatDoorMB13
import Derived.Test.YtalgpkkphlfooaaGreatDoorMApt14
import Derived.Deep.CutBlock
import Derived.Deep.DeepCutAuto
namespace Go.Proofs.YtalgpkkphlfooaaGreatDoor
open Go.ChangeShapes Go.WideShapes Go.ChangeAt Go.RowKit

set_option maxHeartbeats 4000000 in
set_option maxRecDepth 100000 in
theorem apt_l3fs {Q : Exit → Act → World → Prop} {G : Nat → Prop} {rb : Nat} {p : Addr} {ver : Int} {U1 wl : World} {s0 : St} {L : Int} {v0 av x0 x1 x3 x4 x5 x6 x8 x10 x11 x12 x13 x14 x15 x16 x17 x18 x19 x20 x21 x22 x23 x24 x25 x26 x27 x28 x29 x30 x31 x32 x33 x34 x35 x36 x40 x41 x42 x43 x44 x45 x46 x47 x48 x49 x50 x51 x52 x53 x54 x55 x56 x57 x58 x59 x60 x61 x62 x63 x64 x65 x66 x67 x68 x69 x70 x71 x72 x73 x74 x75 x76 x77 x78 x79 x80 x81 x82 x83 x84 x85 x86 x87 x88 x89 x90 x91 x92 x93 x94 x95 x96 x97 x98 x99 x100 x101 x102 x103 x104 x105 x106 x107 x108 x109 x110 x111 x112 x113 x114 x115 x116 x117 x118 x119 x120 x121 x122 x123 x124 x125 x126 x127 x128 x129 x130 x131 x132 x133 x134 x135 x136 x137 x138 x139 x140 x141 x142 x143 x144 x145 x146 x147 x148 x149 x150 x151 x152 x153 x154 x155 x156 x157 x158 x159 x160 x161 x162 x163 x164 x165 x166 x167 x168 x169 x170 x171 x172 x173 x174 x175 x176 x177 x178 x179 x180 x181 x182 x183 x184 x185 x186 x187 x188 x189 x190 x191 x192 x193 x194 x195 x196 x197 x198 x199 x200 x201 x202 x203 x204 x205 x206 x207 x208 x209 x210 x211 x212 x213 x214 x215 x216 x217 x218 x219 x220 x221 x222 x223 x224 x225 x226 x227 x228 x229 x230 x231 x232 x233 x234 x235 x236 x237 x238 x239 x240 x241 x242 x243 x244 x245 x246 x247 x248 x249 x250 x251 x252 x253 x254 x255 x256 x257 x258 x259 x260 x261 x262 x263 x264 x265 x266 x267 x268 x269 x270 x271 x272 x273 x274 x275 x276 x277 x278 x279 x280 x281 x282 x283 x284 x285 x286 x287 x288 x289 x290 x291 x292 x293 x294 x295 x296 x297 x298 x299 x300 x301 x302 x303 x304 x305 x306 x307 x308 x309 x310 x311 x312 x313 x314 x315 x316 x317 x318 x319 x320 x321 x322 x323 x324 x325 x326 x327 x328 x329 x330 x331 x332 x333 x334 x335 x336 x337 x338 x339 x340 x341 x342 x343 x344 : Value} {fl : Bool} (hfl : fl = true) (RR0 : RowRel U1 wl wl rb G (gOf 10 true q_AddPartitionsToTxnRequestTransactionTopic ver) s0 L.toNat 3 0 [.string ⟨#[]⟩, .slice none 0 0, .map none] 109 10 q_AddPartitionsToTxnRequestTransactionTopic v0 av) (_lr : -2147483648 ≤ L ∧ L ≤ 2147483647) (_hG : There G U1) (_hnb : ¬ G rb) (_hrl : rb < U1.heap.size) (hg : Gl U1 p) (hE : 1 ≠ rb) (hv0 : 0 ≤ ver)
    (HRET : Hid (∀ (a' : Act) (wz : World), a'.defers = [] → a'.tmps.getD 6 undef = errV p true → Keep [rb] U1 wz → (rdTimes (gOf 10 true q_AddPartitionsToTxnRequestTransactionTopic ver) L.toNat s0).2.2 = true → Q .ret a' wz))
    (HEX : Hid (∀ (wr : World) (y6 y39 y40 y41 y42 y43 y44 y45 y46 y47 y264 y265 y266 y267 y268 y269 y270 y271 y272 y273 y274 y275 y276 y277 y278 y279 y280 y281 y282 y283 y284 y285 y286 y287 y288 y289 y290 y291 y292 y293 y294 y295 y296 y297 y298 y299 y300 y301 y302 y303 y304 y305 y306 y307 y308 y309 y310 y311 y312 y313 y314 y315 y316 y317 y318 y319 y320 y321 y322 y323 : Value), RowRel U1 wl wr rb G (gOf 10 true q_AddPartitionsToTxnRequestTransactionTopic ver) s0 L.toNat 3 L.toNat [.string ⟨#[]⟩, .slice none 0 0, .map none] 109 10 q_AddPartitionsToTxnRequestTransactionTopic v0 av → Q (.exit 6) ⟨(x0 :: x1 :: .bool false :: x3 :: x4 :: x5 :: y6 :: .pointer (some ⟨rb, 0, none⟩) :: x8 :: .bool fl :: x10 :: x11 :: x12 :: x13 :: x14 :: x15 :: x16 :: x17 :: x18 :: x19 :: x20 :: x21 :: x22 :: x23 :: x24 :: x25 :: x26 :: x27 :: x28 :: x29 :: x30 :: x31 :: x32 :: x33 :: x34 :: x35 :: x36 :: av :: .int .i32 L :: y39 :: y40 :: y41 :: y42 :: y43 :: y44 :: y45 :: y46 :: y47 :: x48 :: x49 :: x50 :: x51 :: x52 :: x53 :: x54 :: x55 :: x56 :: x57 :: x58 :: x59 :: x60 :: x61 :: x62 :: x63 :: x64 :: x65 :: x66 :: x67 :: x68 :: x69 :: x70 :: x71 :: x72 :: x73 :: x74 :: x75 :: x76 :: x77 :: x78 :: x79 :: x80 :: x81 :: x82 :: x83 :: x84 :: x85 :: x86 :: x87 :: x88 :: x89 :: x90 :: x91 :: x92 :: x93 :: x94 :: x95 :: x96 :: x97 :: x98 :: x99 :: x100 :: x101 :: x102 :: x103 :: x104 :: x105 :: x106 :: x107 :: x108 :: x109 :: x110 :: x111 :: x112 :: x113 :: x114 :: x115 :: x116 :: x117 :: x118 :: x119 :: x120 :: x121 :: x122 :: x123 :: x124 :: x125 :: x126 :: x127 :: x128 :: x129 :: x130 :: x131 :: x132 :: x133 :: x134 :: x135 :: x136 :: x137 :: x138 :: x139 :: x140 :: x141 :: x142 :: x143 :: x144 :: x145 :: x146 :: x147 :: x148 :: x149 :: x150 :: x151 :: x152 :: x153 :: x154 :: x155 :: x156 :: x157 :: x158 :: x159 :: x160 :: x161 :: x162 :: x163 :: x164 :: x165 :: x166 :: x167 :: x168 :: x169 :: x170 :: x171 :: x172 :: x173 :: x174 :: x175 :: x176 :: x177 :: x178 :: x179 :: x180 :: x181 :: x182 :: x183 :: x184 :: x185 :: x186 :: x187 :: x188 :: x189 :: x190 :: x191 :: x192 :: x193 :: x194 :: x195 :: x196 :: x197 :: x198 :: x199 :: x200 :: x201 :: x202 :: x203 :: x204 :: x205 :: x206 :: x207 :: x208 :: x209 :: x210 :: x211 :: x212 :: x213 :: x214 :: x215 :: x216 :: x217 :: x218 :: x219 :: x220 :: x221 :: x222 :: x223 :: x224 :: x225 :: x226 :: x227 :: x228 :: x229 :: x230 :: x231 :: x232 :: x233 :: x234 :: x235 :: x236 :: x237 :: x238 :: x239 :: x240 :: x241 :: x242 :: x243 :: x244 :: x245 :: x246 :: x247 :: x248 :: x249 :: x250 :: x251 :: x252 :: x253 :: x254 :: x255 :: x256 :: x257 :: x258 :: x259 :: x260 :: x261 :: x262 :: x263 :: y264 :: y265 :: y266 :: y267 :: y268 :: y269 :: y270 :: y271 :: y272 :: y273 :: y274 :: y275 :: y276 :: y277 :: y278 :: y279 :: y280 :: y281 :: y282 :: y283 :: y284 :: y285 :: y286 :: y287 :: y288 :: y289 :: y290 :: y291 :: y292 :: y293 :: y294 :: y295 :: y296 :: y297 :: y298 :: y299 :: y300 :: y301 :: y302 :: y303 :: y304 :: y305 :: y306 :: y307 :: y308 :: y309 :: y310 :: y311 :: y312 :: y313 :: y314 :: y315 :: y316 :: y317 :: y318 :: y319 :: y320 :: y321 :: y322 :: y323 :: x324 :: x325 :: x326 :: x327 :: x328 :: x329 :: x330 :: x331 :: x332 :: x333 :: x334 :: x335 :: x336 :: x337 :: x338 :: x339 :: x340 :: x341 :: x342 :: x343 :: x344 :: []).toArray, []⟩ wr)) :
    Code.wp Tryz.prog (codeAt [true, true, true, true, true, true, true, true, true, true, true, true, false, true, false, true, true, true, true, true, true, true, false, true, false, false, true, false, false, true, true, true, true, true, true, true, false, true, true, true, true, true, true, true, false, true, false] (Tryz.f86.body.getD .skip)) Q ⟨(x0 :: x1 :: .bool false :: x3 :: x4 :: x5 :: x6 :: .pointer (some ⟨rb, 0, none⟩) :: x8 :: .bool fl :: x10 :: x11 :: x12 :: x13 :: x14 :: x15 :: x16 :: x17 :: x18 :: x19 :: x20 :: x21 :: x22 :: x23 :: x24 :: x25 :: x26 :: x27 :: x28 :: x29 :: x30 :: x31 :: x32 :: x33 :: x34 :: x35 :: x36 :: av :: .int .i32 L :: .int .i32 0 :: x40 :: x41 :: x42 :: x43 :: x44 :: x45 :: x46 :: x47 :: x48 :: x49 :: x50 :: x51 :: x52 :: x53 :: x54 :: x55 :: x56 :: x57 :: x58 :: x59 :: x60 :: x61 :: x62 :: x63 :: x64 :: x65 :: x66 :: x67 :: x68 :: x69 :: x70 :: x71 :: x72 :: x73 :: x74 :: x75 :: x76 :: x77 :: x78 :: x79 :: x80 :: x81 :: x82 :: x83 :: x84 :: x85 :: x86 :: x87 :: x88 :: x89 :: x90 :: x91 :: x92 :: x93 :: x94 :: x95 :: x96 :: x97 :: x98 :: x99 :: x100 :: x101 :: x102 :: x103 :: x104 :: x105 :: x106 :: x107 :: x108 :: x109 :: x110 :: x111 :: x112 :: x113 :: x114 :: x115 :: x116 :: x117 :: x118 :: x119 :: x120 :: x121 :: x122 :: x123 :: x124 :: x125 :: x126 :: x127 :: x128 :: x129 :: x130 :: x131 :: x132 :: x133 :: x134 :: x135 :: x136 :: x137 :: x138 :: x139 :: x140 :: x141 :: x142 :: x143 :: x144 :: x145 :: x146 :: x147 :: x148 :: x149 :: x150 :: x151 :: x152 :: x153 :: x154 :: x155 :: x156 :: x157 :: x158 :: x159 :: x160 :: x161 :: x162 :: x163 :: x164 :: x165 :: x166 :: x167 :: x168 :: x169 :: x170 :: x171 :: x172 :: x173 :: x174 :: x175 :: x176 :: x177 :: x178 :: x179 :: x180 :: x181 :: x182 :: x183 :: x184 :: x185 :: x186 :: x187 :: x188 :: x189 :: x190 :: x191 :: x192 :: x193 :: x194 :: x195 :: x196 :: x197 :: x198 :: x199 :: x200 :: x201 :: x202 :: x203 :: x204 :: x205 :: x206 :: x207 :: x208 :: x209 :: x210 :: x211 :: x212 :: x213 :: x214 :: x215 :: x216 :: x217 :: x218 :: x219 :: x220 :: x221 :: x222 :: x223 :: x224 :: x225 :: x226 :: x227 :: x228 :: x229 :: x230 :: x231 :: x232 :: x233 :: x234 :: x235 :: x236 :: x237 :: x238 :: x239 :: x240 :: x241 :: x242 :: x243 :: x244 :: x245 :: x246 :: x247 :: x248 :: x249 :: x250 :: x251 :: x252 :: x253 :: x254 :: x255 :: x256 :: x257 :: x258 :: x259 :: x260 :: x261 :: x262 :: x263 :: x264 :: x265 :: x266 :: x267 :: x268 :: x269 :: x270 :: x271 :: x272 :: x273 :: x274 :: x275 :: x276 :: x277 :: x278 :: x279 :: x280 :: x281 :: x282 :: x283 :: x284 :: x285 :: x286 :: x287 :: x288 :: x289 :: x290 :: x291 :: x292 :: x293 :: x294 :: x295 :: x296 :: x297 :: x298 :: x299 :: x300 :: x301 :: x302 :: x303 :: x304 :: x305 :: x306 :: x307 :: x308 :: x309 :: x310 :: x311 :: x312 :: x313 :: x314 :: x315 :: x316 :: x317 :: x318 :: x319 :: x320 :: x321 :: x322 :: x323 :: x324 :: x325 :: x326 :: x327 :: x328 :: x329 :: x330 :: x331 :: x332 :: x333 :: x334 :: x335 :: x336 :: x337 :: x338 :: x339 :: x340 :: x341 :: x342 :: x343 :: x344 :: []).toArray, []⟩ wl := by
  subst hfl
  conv => arg 2; whnf
  let _QX : Exit → Act → World → Prop := bodyPost Tryz.prog Tryz.f86 (fun _ _ => True)
  go_loopw [39] (fun i wr => ∃ k : Nat, k ≤ L.toNat ∧ i = .int .i32 (k : Int) ∧ RowRel U1 wl wr rb G (gOf 10 true q_AddPartitionsToTxnRequestTransactionTopic ver) s0 L.toNat 3 k [.string ⟨#[]⟩, .slice none 0 0, .map none] 109 10 q_AddPartitionsToTxnRequestTransactionTopic v0 av) (fun i _ => L.toNat - (intOf i).toNat)
  case atStart => exact ⟨0, Nat.zero_le _, rfl, RR0⟩
  case round =>
    obtain ⟨k, hk, rfl, RR⟩ := hrel
    clear RR0
    have KR := RR.keep
    by_cases lt : (k : Int) < L
    · obtain ⟨row, cap, pre, post, rfl, _hcap, _hrw, hpre, e0, cont⟩ := RR.elem (by omega : k < L.toNat)
      obtain ⟨wk, rfl⟩ : ∃ x : World, x = wr := ⟨_, rfl⟩
      clear RR
      have HBF : Hid (((gOf 10 true q_AddPartitionsToTxnRequestTransactionTopic ver) (rdTimes (gOf 10 true q_AddPartitionsToTxnRequestTransactionTopic ver) k s0).2).2.2 = true → (rdTimes (gOf 10 true q_AddPartitionsToTxnRequestTransactionTopic ver) L.toNat s0).2.2 = true) := fun h => rdTimes_from (gOf_b 10 true q_AddPartitionsToTxnRequestTransactionTopic ver) _ (k + 1) h _ (by omega)
      generalize (rdTimes (gOf 10 true q_AddPartitionsToTxnRequestTransactionTopic ver) k s0).2 = sk at *
      have HEQ : Hid ((gOf 10 true q_AddPartitionsToTxnRequestTransactionTopic ver) sk = (.mk 0 [] false [(.mk 0 (rdCStr sk).1 false [] []), (rdF (.mk 11 0 (-1) (-1) (-1) 0 3 []) ver true (rdCStr sk).2).1] (rdTags (rdF (.mk 11 0 (-1) (-1) (-1) 0 3 []) ver true (rdCStr sk).2).2).1, (rdTags (rdF (.mk 11 0 (-1) (-1) (-1) 0 3 []) ver true (rdCStr sk).2).2).2)) := by
        show _ = _
        simp [gOf, rdK, rdPartOf, q_AddPartitionsToTxnRequestTransactionTopic, rdFs, (has_yes (show (0 : Int) ≤ ver by omega) (.inl (by decide)) : F.has (.mk 8 0 (-1) (-1) (-1) 0 0 []) ver = true), (has_yes (show (0 : Int) ≤ ver by omega) (.inl (by decide)) : F.has (.mk 11 0 (-1) (-1) (-1) 0 3 []) ver = true), rdF]
      go_wp2_with (first
        | (go_at_call 131; go_loud (refine (d_AddPartitionsToTxnRequestTransactionTopic _ _).mono ?_; rintro e wd ⟨rfl, rfl⟩))
        | (go_at_call 118; go_loud (refine (cstring_any e0.rd e0.hG e0.nrb).mono ?_; rintro e w1 ⟨he1, r1, k1⟩; unfold str at he1; subst he1; have h2 := e0.call r1 k1; have c1 := h2.cellAt (o := k * 3) (el_at0 hpre rfl); have f1 := h2.free (k * 3); have h3 : ElSt wk (w1.setCell ⟨row, k * 3, none⟩ (.string ⟨(rdCStr sk).1.toArray⟩)) row rb G (rdCStr sk).2 pre [.string ⟨(rdCStr sk).1.toArray⟩] [.slice none 0 0, .map none] post 109 [.mk 8 0 (-1) (-1) (-1) 0 0 []] [(.mk 0 (rdCStr sk).1 false [] [])] := h2.put (o := k * 3) (el_at0 hpre rfl) (vf_str (by decide) _); clear r1 k1 e0 h2; generalize (rdCStr sk).2 = zs1 at *; have cl4 := h3.cellAt (o := k * 3 + 1) (el_at hpre rfl)))
        | (go_at_call 111; go_loud (refine (clen_any h3.rd h3.hG h3.nrb).mono ?_; rintro e w4 ⟨rfl, r4, k4⟩; have lr4 := rdCLen_range zs1; have h5 := h3.call r4 k4; clear r4 k4; generalize hl4 : (rdCLen zs1).1 = L4 at *; have HL4 : Hid _ := hl4; clear h3 hl4)))
      cases hbad4 : (rdCLen zs1).2.2
      case true =>
        have HB : (rdTimes (gOf 10 true q_AddPartitionsToTxnRequestTransactionTopic ver) L.toNat s0).2.2 = true := HBF.out (by rw [HEQ.out]; (try dsimp only); exact rdTags_b _ ((show (rdF (.mk 11 0 (-1) (-1) (-1) 0 3 []) ver true zs1).2.2 = true from clist_bad hbad4)))
        have HBB : Hid _ := HB
        clear HB
        go_wp2_with (first
          | (go_at_call 113; refine (ok_any h5.rd).mono ?_; rintro e wo ⟨rfl, rfl⟩; rw [hbad4])
          | (go_at_call 114; go_loud (refine (complete_any h5.rd (hg.keep (Keep.fresh (B := [rb]) ((KR.weaken (B := [rb, row]) (by simp)).trans (h5.keep.weaken (by simp))) (by simp; omega)) (by simp; omega))).mono ?_; rintro e wz ⟨rfl, kz⟩; rw [hbad4])))
        exact HRET.out _ _ rfl rfl (Keep.trans (Keep.fresh (B := [rb]) ((KR.weaken (B := [rb, row]) (by simp)).trans (h5.keep.weaken (by simp))) (by simp; omega)) (kz.weaken (by simp))) HBB.out
      case false =>
        go_upto_if 300 with (go_at_call 113; refine (ok_any h5.rd).mono ?_; rintro e wo ⟨rfl, rfl⟩; rw [hbad4])
        go_cut [44] (fun av wx => RowIni w4 wx (.slice none 0 0) av L4.toNat [.int .i32 0] 21)
        case first =>
          by_cases hp : 0 < L4
          · obtain ⟨N, rfl⟩ : ∃ N : Nat, L4 = N := ⟨L4.toNat, by omega⟩
            obtain ⟨i0, hi, hz0, hz1, hz2⟩ := info_bd info_one3
            have AP := run_append_empty_zeros (P := Tryz.prog) w4 91 21 91 21 i0 _ .i32 .i32 Tryz.underlying91 Tryz.underlying21 hi hz0 N (by omega) (by omega) (by omega) (Nat.le_trans (Nat.mul_le_mul_left N hz2) (by omega)) none
            go_wp2_with (first
              | (at_builtin; go_loud (refine Lib.wpList_append_run _ rfl (.tmp 301) (.tmp 302) 91 21 rfl _ _ rfl rfl _ _ AP ?_))
              | (go_meet; rw [Int.toNat_natCast]; exact RowIni.made2 (w := w4) (z := .int .i32 0) (N := N) (e := 21) (show 0 < N by omega) rfl _))
          · go_wp2_with (go_meet; exact .inl ⟨by omega, rfl, rfl⟩)
        case rest =>
          have RR4 := RowRel.start hcut h5.rd h5.hG h5.nrb (gOf 3 true [] ver) 1 3 []
          clear hcut
          obtain ⟨wl4, rfl⟩ : ∃ x : World, x = wc := ⟨_, rfl⟩
          obtain ⟨av4, rfl⟩ : ∃ x : Value, x = u44 := ⟨_, rfl⟩
          go_wp2_with fail
          refine apt_l4f (p := p) RR4 lr4 h5.hG h5.nrb h5.rd.lt' (hg.keep (Keep.fresh (B := [rb]) ((KR.weaken (B := [rb, row]) (by simp)).trans (h5.keep.weaken (by simp))) (by simp; omega)) (by simp; omega)) hE hv0 ?hret ?hexit
          case hret =>
            exact fun a' wz z1 z2 z3 z4 => HRET.out a' wz z1 z2 (Keep.trans (Keep.fresh (B := [rb]) ((KR.weaken (B := [rb, row]) (by simp)).trans (h5.keep.weaken (by simp))) (by simp; omega)) z3) (HBF.out (by rw [HEQ.out]; (try dsimp only); exact rdTags_b _ ((show (rdF (.mk 11 0 (-1) (-1) (-1) 0 3 []) ver true zs1).2.2 = true by rw [rdF_clist HL4.out]; exact z4))))
          case hexit =>
            intro wr4 y46 y47 y304 y305 y306 y307 y308 y309 y310 y311 y312 y313 RR
            have KR4 := RR.keep
            obtain ⟨rr, kr, ⟨ao4, cp4, rfl⟩, vl⟩ := RR.fin (by omega) (.inl rfl)
            clear RR RR4
            have LE := rdF_clist (a := 0) (b := (-1)) (c := (-1)) (d := 0) (ofk := 3) (v := ver) (sub := []) HL4.out
            have rr2 : Rd wr4 rb G (rdF (.mk 11 0 (-1) (-1) (-1) 0 3 []) ver true zs1).2 := by rw [LE]; exact rr
            have vl2 := vl (decide (L4 ≤ 0)) (by simp)
            have vl3 : VL wr4 (Nw G w4 rb wr4) (VK wr4 (Nw G w4 rb wr4) 3 (-1) (VFs wr4 (Nw G w4 rb wr4) [])) 1 (.slice ao4 L4.toNat cp4) (rdF (.mk 11 0 (-1) (-1) (-1) 0 3 []) ver true zs1).1 := by rw [LE]; exact vl2
            have gr : ∀ i, Nw G w4 rb wr4 i → Nw G wk rb wr4 i := fun i hi => ⟨hi.1.imp id (Nat.le_trans h5.keep.size), hi.2⟩
            have vl4 := VL.keepF (fun _ _ => rfl) gr (fun c t => VK.keepF (fun _ _ => rfl) gr (fun c l => VFs.keepF (fun _ _ => rfl) gr [])) vl3
            have h6 := h5.call rr2 kr
            clear rr rr2 vl vl2 vl3 LE
            have c4 := h6.cellAt (o := k * 3 + 1) (el_at hpre rfl)
            have f4 := h6.free (k * 3 + 1)
            have h7 : ElSt wk (wr4.setCell ⟨row, k * 3 + 1, none⟩ (.slice ao4 L4.toNat cp4)) row rb G (rdF (.mk 11 0 (-1) (-1) (-1) 0 3 []) ver true zs1).2 pre [.string ⟨(rdCStr sk).1.toArray⟩, .slice ao4 L4.toNat cp4] [.map none] post 109 [.mk 8 0 (-1) (-1) (-1) 0 0 [], .mk 11 0 (-1) (-1) (-1) 0 3 []] [(.mk 0 (rdCStr sk).1 false [] []), (rdF (.mk 11 0 (-1) (-1) (-1) 0 3 []) ver true zs1).1] := h6.put (o := k * 3 + 1) (el_at hpre rfl) (vf_list rfl vl4)
            clear h5 h6 vl4 gr
            generalize (rdF (.mk 11 0 (-1) (-1) (-1) 0 3 []) ver true zs1).2 = zs4 at *
            go_wp2_with (first
              | (go_at_call 121; go_loud (refine (rtags_any h7.rd h7.hG h7.nrb).mono ?_; rintro e w8 ⟨tv8, rfl, mp8, mb8, r8, k8⟩; obtain ⟨mr8, rfl⟩ := mp8.shape; have mq8 := mp8.keepF (fun _ _ => rfl) (h7.nwNew (W := w8)); have h9 := h7.call r8 k8; have c8 := h9.cellAt (o := k * 3 + 2) (el_at hpre rfl); have f8 := h9.free (k * 3 + 2); have he10 := h9.tags (o := k * 3 + 2) (el_at hpre rfl) mq8; clear r8 k8 h7 h9))
              | ( go_roundw; (case rel => exact ⟨k + 1, by omega, by go_num, cont _ _ _ _ he10 rfl HEQ.out⟩); (case measure => (simp [intOf]; omega))))
    · have RE := RR.at_end (by omega)
      clear RR
      go_wp2_with fail
      exact HEX.out _ _ _ _ _ _ _ _ _ _ _ _ _ _ _ _ _ _ _ _ _ _ _ _ _ _ _ _ _ _ _ _ _ _ _ _ _ _ _ _ _ _ _ _ _ _ _ _ _ _ _ _ _ _ _ _ _ _ _ _ _ _ _ _ _ _ _ _ _ _ _ RE
end Go.Proofs.YtalgpkkphlfooaaGreatDoor
