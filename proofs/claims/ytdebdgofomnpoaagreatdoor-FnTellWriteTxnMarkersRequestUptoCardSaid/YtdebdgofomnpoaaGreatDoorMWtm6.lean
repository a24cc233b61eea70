/-
  WriteTxnMarkersRequest: reading, a list's loop.
-/
import Derived.Test.YtdebdgofomnpoaaGreatDoorMWtm1
import Derived.Deep.CutBlock
import Derived.Deep.DeepCutAuto
namespace Go.Proofs.YtdebdgofomnpoaaGreatDoor
open Go.ChangeShapes Go.WideShapes Go.ChangeAt Go.RowKit

set_option maxHeartbeats 4000000 in
set_option maxRecDepth 100000 in
theorem wtm_l2f {Q : Exit → Act → World → Prop} {G : Nat → Prop} {rb : Nat} {p : Addr} {ver : Int} {U1 wl : World} {s0 : St} {L : Int} {v0 av x0 x1 x2 x3 x4 x5 x6 x8 x9 x10 x11 x12 x13 x14 x15 x16 x17 x18 x19 x20 x21 x22 x23 x24 x25 x26 x27 x31 x32 x33 x34 x35 x36 x37 x38 x39 x40 x41 x42 x43 x44 x45 x46 x47 x48 x49 x50 x51 x52 x53 x54 x55 x56 x57 x58 x59 x60 x61 x62 x63 x64 x65 x66 x67 x68 x69 x70 x71 x72 x73 x74 x75 x76 x77 x78 x79 x80 x81 x82 x83 x84 x85 x86 x87 x88 x89 x90 x91 x92 x93 x94 x95 x96 x97 x98 x99 x100 x101 x102 x103 x104 x105 x106 x107 x108 x109 x110 x111 x112 x113 x114 x115 x116 x117 x118 x119 x120 x121 x122 x123 x124 x125 x126 x127 x128 x129 x130 x131 x132 x133 x134 x135 x136 x137 x138 x139 x140 x141 x142 x143 x144 x145 x146 x147 x148 x149 x150 x151 x152 x153 x154 x155 x156 x157 x158 x159 x160 x161 x162 x163 x164 x165 x166 x167 x168 x169 x170 x171 x172 x173 x174 x175 x176 x177 x178 x179 x180 x181 x182 x183 x184 x185 x186 x187 x188 x189 x190 x191 x192 x193 x194 x195 x196 x197 x198 x199 x200 x201 : Value} (RR0 : RowRel U1 wl wl rb G (gOf 3 true [] ver) s0 L.toNat 1 0 [.int .i32 0] 21 3 [] v0 av) (_lr : -2147483648 ≤ L ∧ L ≤ 2147483647) (_hG : There G U1) (_hnb : ¬ G rb) (_hrl : rb < U1.heap.size) (_hg : Gl U1 p) (_hE : 1 ≠ rb) (_hv0 : 0 ≤ ver)
    (_HRET : Hid (∀ (a' : Act) (wz : World), a'.defers = [] → a'.tmps.getD 6 undef = errV p true → Keep [rb] U1 wz → (rdTimes (gOf 3 true [] ver) L.toNat s0).2.2 = true → Q .ret a' wz))
    (HEX : Hid (∀ (wr : World) (y30 y31 y149 y150 y151 y152 y153 y154 y155 y156 y157 y158 : Value), RowRel U1 wl wr rb G (gOf 3 true [] ver) s0 L.toNat 1 L.toNat [.int .i32 0] 21 3 [] v0 av → Q (.exit 4) ⟨(x0 :: x1 :: x2 :: x3 :: x4 :: x5 :: x6 :: .pointer (some ⟨rb, 0, none⟩) :: x8 :: x9 :: x10 :: x11 :: x12 :: x13 :: x14 :: x15 :: x16 :: x17 :: x18 :: x19 :: x20 :: x21 :: x22 :: x23 :: x24 :: x25 :: x26 :: x27 :: av :: .int .i32 L :: y30 :: y31 :: x32 :: x33 :: x34 :: x35 :: x36 :: x37 :: x38 :: x39 :: x40 :: x41 :: x42 :: x43 :: x44 :: x45 :: x46 :: x47 :: x48 :: x49 :: x50 :: x51 :: x52 :: x53 :: x54 :: x55 :: x56 :: x57 :: x58 :: x59 :: x60 :: x61 :: x62 :: x63 :: x64 :: x65 :: x66 :: x67 :: x68 :: x69 :: x70 :: x71 :: x72 :: x73 :: x74 :: x75 :: x76 :: x77 :: x78 :: x79 :: x80 :: x81 :: x82 :: x83 :: x84 :: x85 :: x86 :: x87 :: x88 :: x89 :: x90 :: x91 :: x92 :: x93 :: x94 :: x95 :: x96 :: x97 :: x98 :: x99 :: x100 :: x101 :: x102 :: x103 :: x104 :: x105 :: x106 :: x107 :: x108 :: x109 :: x110 :: x111 :: x112 :: x113 :: x114 :: x115 :: x116 :: x117 :: x118 :: x119 :: x120 :: x121 :: x122 :: x123 :: x124 :: x125 :: x126 :: x127 :: x128 :: x129 :: x130 :: x131 :: x132 :: x133 :: x134 :: x135 :: x136 :: x137 :: x138 :: x139 :: x140 :: x141 :: x142 :: x143 :: x144 :: x145 :: x146 :: x147 :: x148 :: y149 :: y150 :: y151 :: y152 :: y153 :: y154 :: y155 :: y156 :: y157 :: y158 :: x159 :: x160 :: x161 :: x162 :: x163 :: x164 :: x165 :: x166 :: x167 :: x168 :: x169 :: x170 :: x171 :: x172 :: x173 :: x174 :: x175 :: x176 :: x177 :: x178 :: x179 :: x180 :: x181 :: x182 :: x183 :: x184 :: x185 :: x186 :: x187 :: x188 :: x189 :: x190 :: x191 :: x192 :: x193 :: x194 :: x195 :: x196 :: x197 :: x198 :: x199 :: x200 :: x201 :: []).toArray, []⟩ wr)) :
    Code.wp Tryz.prog (codeAt [true, true, true, true, true, true, true, true, false, true, true, true, true, true, true, true, false, true, false, false, true, false, false, true, true, true, true, true, true, false, true, true, true, true, true, true, true, false, true, false, false, true, false, false, true, true, true, true, false, true, true, true, true, true, true, true, false, true, false] (Tryz.f184.body.getD .skip)) Q ⟨(x0 :: x1 :: x2 :: x3 :: x4 :: x5 :: x6 :: .pointer (some ⟨rb, 0, none⟩) :: x8 :: x9 :: x10 :: x11 :: x12 :: x13 :: x14 :: x15 :: x16 :: x17 :: x18 :: x19 :: x20 :: x21 :: x22 :: x23 :: x24 :: x25 :: x26 :: x27 :: av :: .int .i32 L :: .int .i32 0 :: x31 :: x32 :: x33 :: x34 :: x35 :: x36 :: x37 :: x38 :: x39 :: x40 :: x41 :: x42 :: x43 :: x44 :: x45 :: x46 :: x47 :: x48 :: x49 :: x50 :: x51 :: x52 :: x53 :: x54 :: x55 :: x56 :: x57 :: x58 :: x59 :: x60 :: x61 :: x62 :: x63 :: x64 :: x65 :: x66 :: x67 :: x68 :: x69 :: x70 :: x71 :: x72 :: x73 :: x74 :: x75 :: x76 :: x77 :: x78 :: x79 :: x80 :: x81 :: x82 :: x83 :: x84 :: x85 :: x86 :: x87 :: x88 :: x89 :: x90 :: x91 :: x92 :: x93 :: x94 :: x95 :: x96 :: x97 :: x98 :: x99 :: x100 :: x101 :: x102 :: x103 :: x104 :: x105 :: x106 :: x107 :: x108 :: x109 :: x110 :: x111 :: x112 :: x113 :: x114 :: x115 :: x116 :: x117 :: x118 :: x119 :: x120 :: x121 :: x122 :: x123 :: x124 :: x125 :: x126 :: x127 :: x128 :: x129 :: x130 :: x131 :: x132 :: x133 :: x134 :: x135 :: x136 :: x137 :: x138 :: x139 :: x140 :: x141 :: x142 :: x143 :: x144 :: x145 :: x146 :: x147 :: x148 :: x149 :: x150 :: x151 :: x152 :: x153 :: x154 :: x155 :: x156 :: x157 :: x158 :: x159 :: x160 :: x161 :: x162 :: x163 :: x164 :: x165 :: x166 :: x167 :: x168 :: x169 :: x170 :: x171 :: x172 :: x173 :: x174 :: x175 :: x176 :: x177 :: x178 :: x179 :: x180 :: x181 :: x182 :: x183 :: x184 :: x185 :: x186 :: x187 :: x188 :: x189 :: x190 :: x191 :: x192 :: x193 :: x194 :: x195 :: x196 :: x197 :: x198 :: x199 :: x200 :: x201 :: []).toArray, []⟩ wl := by
  conv => arg 2; whnf
  go_loopw [30] (fun i wr => ∃ k : Nat, k ≤ L.toNat ∧ i = .int .i32 (k : Int) ∧ RowRel U1 wl wr rb G (gOf 3 true [] ver) s0 L.toNat 1 k [.int .i32 0] 21 3 [] v0 av) (fun i _ => L.toNat - (intOf i).toNat)
  case atStart => exact ⟨0, Nat.zero_le _, rfl, RR0⟩
  case round =>
    obtain ⟨k, hk, rfl, RR⟩ := hrel
    clear RR0
    have KR := RR.keep
    by_cases lt : (k : Int) < L
    · obtain ⟨row, cap, pre, post, rfl, _hcap, _hrw, hpre, e0, cont⟩ := RR.elem (by omega : k < L.toNat)
      obtain ⟨wk, rfl⟩ : ∃ x : World, x = wr := ⟨_, rfl⟩
      clear RR
      have HBF : Hid (((gOf 3 true [] ver) (rdTimes (gOf 3 true [] ver) k s0).2).2.2 = true → (rdTimes (gOf 3 true [] ver) L.toNat s0).2.2 = true) := fun h => rdTimes_from (gOf_b 3 true [] ver) _ (k + 1) h _ (by omega)
      generalize (rdTimes (gOf 3 true [] ver) k s0).2 = sk at *
      have HEQ : Hid ((gOf 3 true [] ver) sk = (.mk (rdI 4 sk).1 [] false [] [], (rdI 4 sk).2)) := by
        show _ = _
        simp [gOf, rdK]
      go_wp2_with (first
        | (go_at_call 212; go_loud (refine (int32_any e0.rd e0.hG e0.nrb).mono ?_; rintro e we ⟨rfl, rr1, kk1⟩; have ha := e0.call rr1 kk1; have c1 := ha.cellAt (o := k) (by rw [hpre]; simp); have f1 := ha.free (k); have hb := ha.one (v := .int .i32 (rdI 4 sk).1) (ofk := 3) (fs := []) (o := k) (by rw [hpre]; simp) (fun _ _ _ => vk_one3 (rdI_range4 _)); clear e0 ha))
        | ( go_roundw; (case rel => exact ⟨k + 1, by omega, by go_num, cont _ _ _ _ hb rfl HEQ.out⟩); (case measure => (simp [intOf]; omega))))
    · have RE := RR.at_end (by omega)
      clear RR
      go_wp2_with fail
      exact HEX.out _ _ _ _ _ _ _ _ _ _ _ _ _ RE
end Go.Proofs.YtdebdgofomnpoaaGreatDoor
