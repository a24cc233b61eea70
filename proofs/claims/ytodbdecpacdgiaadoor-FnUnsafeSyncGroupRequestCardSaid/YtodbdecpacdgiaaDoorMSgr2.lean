/-
  SyncGroupRequest: reading, a list's loop.
-/
import Derived.Test.YtodbdecpacdgiaaDoorMSgr1
import Derived.Test.YtodbdecpacdgiaaDoorMB13
import Derived.Deep.CutBlock
import Derived.Deep.DeepCutAuto
namespace Go.Proofs.YtodbdecpacdgiaaDoor
open Go.ChangeShapes Go.WideShapes Go.ChangeAt Go.RowKit

set_option maxHeartbeats 4000000 in
set_option maxRecDepth 100000 in
theorem sgr_l0ps {Q : Exit → Act → World → Prop} {G : Nat → Prop} {rb : Nat} {p : Addr} {ver : Int} {U1 wl : World} {s0 : St} {L : Int} {v0 av x0 x1 x3 x4 x5 x6 x8 x10 x11 x12 x13 x14 x15 x16 x17 x21 x22 x23 x24 x25 x26 x27 x28 x29 x30 x31 x32 x33 x34 x35 x36 x37 x38 x39 x40 x41 x42 x43 x44 x45 x46 x47 x48 x49 x50 x51 x52 x53 x54 x55 x56 x57 x58 x59 x60 x61 x62 x63 x64 x65 x66 x67 x68 x69 x70 x71 x72 x73 x74 x75 x76 x77 x78 x79 x80 x81 x82 x83 x84 x85 x86 x87 x88 x89 x90 x91 x92 x93 x94 x95 x96 x97 x98 x99 x100 x101 x102 x103 x104 x105 x106 x107 x108 x109 x110 x111 x112 x113 x114 x115 x116 x117 x118 x119 x120 x121 x122 x123 x124 x125 x126 x127 x128 x129 x130 x131 x132 x133 x134 x135 x136 x137 x138 x139 x140 x141 x142 x143 x144 x145 x146 x147 x148 x149 x150 x151 x152 x153 x154 x155 x156 x157 x158 x159 x160 x161 x162 x163 x164 x165 x166 : Value} {fl : Bool} (hfl : fl = false) (RR0 : RowRel U1 wl wl rb G (gOf 10 false q_SyncGroupRequestGroupAssignment ver) s0 L.toNat 3 0 [.string ⟨#[]⟩, .slice none 0 0, .map none] 102 10 q_SyncGroupRequestGroupAssignment v0 av) (_lr : -2147483648 ≤ L ∧ L ≤ 2147483647) (_hG : There G U1) (_hnb : ¬ G rb) (_hrl : rb < U1.heap.size) (_hg : Gl U1 p) (_hE : 0 ≠ rb) (_hv0 : 0 ≤ ver)
    (_HRET : Hid (∀ (a' : Act) (wz : World), a'.defers = [] → a'.tmps.getD 6 undef = errV p true → Keep [rb] U1 wz → (rdTimes (gOf 10 false q_SyncGroupRequestGroupAssignment ver) L.toNat s0).2.2 = true → Q .ret a' wz))
    (HEX : Hid (∀ (wr : World) (y20 y21 y22 y23 y24 y122 y123 y124 y125 y126 y127 y128 y129 y130 y131 y132 y133 y134 y135 y136 y137 y138 y139 y140 y141 y142 y143 y144 y145 y146 y147 y148 y149 y150 y151 y152 y153 y154 y155 : Value), RowRel U1 wl wr rb G (gOf 10 false q_SyncGroupRequestGroupAssignment ver) s0 L.toNat 3 L.toNat [.string ⟨#[]⟩, .slice none 0 0, .map none] 102 10 q_SyncGroupRequestGroupAssignment v0 av → Q (.exit 0) ⟨(x0 :: x1 :: .bool false :: x3 :: x4 :: x5 :: x6 :: .pointer (some ⟨rb, 0, none⟩) :: x8 :: .bool fl :: x10 :: x11 :: x12 :: x13 :: x14 :: x15 :: x16 :: x17 :: av :: .int .i32 L :: y20 :: y21 :: y22 :: y23 :: y24 :: x25 :: x26 :: x27 :: x28 :: x29 :: x30 :: x31 :: x32 :: x33 :: x34 :: x35 :: x36 :: x37 :: x38 :: x39 :: x40 :: x41 :: x42 :: x43 :: x44 :: x45 :: x46 :: x47 :: x48 :: x49 :: x50 :: x51 :: x52 :: x53 :: x54 :: x55 :: x56 :: x57 :: x58 :: x59 :: x60 :: x61 :: x62 :: x63 :: x64 :: x65 :: x66 :: x67 :: x68 :: x69 :: x70 :: x71 :: x72 :: x73 :: x74 :: x75 :: x76 :: x77 :: x78 :: x79 :: x80 :: x81 :: x82 :: x83 :: x84 :: x85 :: x86 :: x87 :: x88 :: x89 :: x90 :: x91 :: x92 :: x93 :: x94 :: x95 :: x96 :: x97 :: x98 :: x99 :: x100 :: x101 :: x102 :: x103 :: x104 :: x105 :: x106 :: x107 :: x108 :: x109 :: x110 :: x111 :: x112 :: x113 :: x114 :: x115 :: x116 :: x117 :: x118 :: x119 :: x120 :: x121 :: y122 :: y123 :: y124 :: y125 :: y126 :: y127 :: y128 :: y129 :: y130 :: y131 :: y132 :: y133 :: y134 :: y135 :: y136 :: y137 :: y138 :: y139 :: y140 :: y141 :: y142 :: y143 :: y144 :: y145 :: y146 :: y147 :: y148 :: y149 :: y150 :: y151 :: y152 :: y153 :: y154 :: y155 :: x156 :: x157 :: x158 :: x159 :: x160 :: x161 :: x162 :: x163 :: x164 :: x165 :: x166 :: []).toArray, []⟩ wr)) :
    Code.wp Tryd.prog (codeAt [true, true, true, true, true, true, true, true, true, true, true, true, true, true, false, true, true, true, true, true, true, true, false, true, false] (Tryd.f70.body.getD .skip)) Q ⟨(x0 :: x1 :: .bool false :: x3 :: x4 :: x5 :: x6 :: .pointer (some ⟨rb, 0, none⟩) :: x8 :: .bool fl :: x10 :: x11 :: x12 :: x13 :: x14 :: x15 :: x16 :: x17 :: av :: .int .i32 L :: .int .i32 0 :: x21 :: x22 :: x23 :: x24 :: x25 :: x26 :: x27 :: x28 :: x29 :: x30 :: x31 :: x32 :: x33 :: x34 :: x35 :: x36 :: x37 :: x38 :: x39 :: x40 :: x41 :: x42 :: x43 :: x44 :: x45 :: x46 :: x47 :: x48 :: x49 :: x50 :: x51 :: x52 :: x53 :: x54 :: x55 :: x56 :: x57 :: x58 :: x59 :: x60 :: x61 :: x62 :: x63 :: x64 :: x65 :: x66 :: x67 :: x68 :: x69 :: x70 :: x71 :: x72 :: x73 :: x74 :: x75 :: x76 :: x77 :: x78 :: x79 :: x80 :: x81 :: x82 :: x83 :: x84 :: x85 :: x86 :: x87 :: x88 :: x89 :: x90 :: x91 :: x92 :: x93 :: x94 :: x95 :: x96 :: x97 :: x98 :: x99 :: x100 :: x101 :: x102 :: x103 :: x104 :: x105 :: x106 :: x107 :: x108 :: x109 :: x110 :: x111 :: x112 :: x113 :: x114 :: x115 :: x116 :: x117 :: x118 :: x119 :: x120 :: x121 :: x122 :: x123 :: x124 :: x125 :: x126 :: x127 :: x128 :: x129 :: x130 :: x131 :: x132 :: x133 :: x134 :: x135 :: x136 :: x137 :: x138 :: x139 :: x140 :: x141 :: x142 :: x143 :: x144 :: x145 :: x146 :: x147 :: x148 :: x149 :: x150 :: x151 :: x152 :: x153 :: x154 :: x155 :: x156 :: x157 :: x158 :: x159 :: x160 :: x161 :: x162 :: x163 :: x164 :: x165 :: x166 :: []).toArray, []⟩ wl := by
  subst hfl
  conv => arg 2; whnf
  go_loopw [20] (fun i wr => ∃ k : Nat, k ≤ L.toNat ∧ i = .int .i32 (k : Int) ∧ RowRel U1 wl wr rb G (gOf 10 false q_SyncGroupRequestGroupAssignment ver) s0 L.toNat 3 k [.string ⟨#[]⟩, .slice none 0 0, .map none] 102 10 q_SyncGroupRequestGroupAssignment v0 av) (fun i _ => L.toNat - (intOf i).toNat)
  case atStart => exact ⟨0, Nat.zero_le _, rfl, RR0⟩
  case round =>
    obtain ⟨k, hk, rfl, RR⟩ := hrel
    clear RR0
    have KR := RR.keep
    by_cases lt : (k : Int) < L
    · obtain ⟨row, cap, pre, post, rfl, _hcap, _hrw, hpre, e0, cont⟩ := RR.elem (by omega : k < L.toNat)
      obtain ⟨wk, rfl⟩ : ∃ x : World, x = wr := ⟨_, rfl⟩
      clear RR
      have HBF : Hid (((gOf 10 false q_SyncGroupRequestGroupAssignment ver) (rdTimes (gOf 10 false q_SyncGroupRequestGroupAssignment ver) k s0).2).2.2 = true → (rdTimes (gOf 10 false q_SyncGroupRequestGroupAssignment ver) L.toNat s0).2.2 = true) := fun h => rdTimes_from (gOf_b 10 false q_SyncGroupRequestGroupAssignment ver) _ (k + 1) h _ (by omega)
      generalize (rdTimes (gOf 10 false q_SyncGroupRequestGroupAssignment ver) k s0).2 = sk at *
      have HEQ : Hid ((gOf 10 false q_SyncGroupRequestGroupAssignment ver) sk = (.mk 0 [] false [(.mk 0 (rdStr sk).1 false [] []), (octT (rdBy (rdStr sk).2).1)] [], (rdBy (rdStr sk).2).2)) := by
        show _ = _
        simp [gOf, rdK, rdPartOf, q_SyncGroupRequestGroupAssignment, rdFs, (has_yes (show (0 : Int) ≤ ver by omega) (.inl (by decide)) : F.has (.mk 8 0 (-1) (-1) (-1) 0 0 []) ver = true), (has_yes (show (0 : Int) ≤ ver by omega) (.inl (by decide)) : F.has (.mk 9 0 (-1) (-1) (-1) 0 0 []) ver = true), rdF]
      go_wp2_with (first
        | (go_at_call 113; go_loud (refine (d_SyncGroupRequestGroupAssignment _ _).mono ?_; rintro e wd ⟨rfl, rfl⟩))
        | (go_at_call 85; go_loud (refine (string_any e0.rd e0.hG e0.nrb).mono ?_; rintro e w1 ⟨he1, r1, k1⟩; unfold str at he1; subst he1; have h2 := e0.call r1 k1; have c1 := h2.cellAt (o := k * 3) (el_at0 hpre rfl); have f1 := h2.free (k * 3); have h3 : ElSt wk (w1.setCell ⟨row, k * 3, none⟩ (.string ⟨(rdStr sk).1.toArray⟩)) row rb G (rdStr sk).2 pre [.string ⟨(rdStr sk).1.toArray⟩] [.slice none 0 0, .map none] post 102 [.mk 8 0 (-1) (-1) (-1) 0 0 []] [(.mk 0 (rdStr sk).1 false [] [])] := h2.put (o := k * 3) (el_at0 hpre rfl) (vf_str (by decide) _); clear r1 k1 e0 h2; generalize (rdStr sk).2 = zs1 at *))
        | (go_at_call 115; go_loud (refine (by_any h3.rd h3.hG h3.nrb).mono ?_; rintro e w4 ⟨ov4, rfl, os4, r4, k4⟩; obtain ⟨oa4, on4, oc4, rfl⟩ := OS.shape os4; have h5 := h3.call r4 k4; have c4 := h5.cellAt (o := k * 3 + 1) (el_at hpre rfl); have f4 := h5.free (k * 3 + 1); have h6 : ElSt wk (w4.setCell ⟨row, k * 3 + 1, none⟩ (.slice oa4 on4 oc4)) row rb G (rdBy zs1).2 pre [.string ⟨(rdStr sk).1.toArray⟩, .slice oa4 on4 oc4] [.map none] post 102 [.mk 8 0 (-1) (-1) (-1) 0 0 [], .mk 9 0 (-1) (-1) (-1) 0 0 []] [(.mk 0 (rdStr sk).1 false [] []), (octT (rdBy zs1).1)] := h5.put (o := k * 3 + 1) (el_at hpre rfl) (vf_oct (h5.octs os4)); clear r4 k4 h3 h5 os4; generalize (rdBy zs1).2 = zs4 at *))
        | (have he7 := h6.bare; go_roundw; (case rel => exact ⟨k + 1, by omega, by go_num, cont _ _ _ _ he7 rfl HEQ.out⟩); (case measure => (simp [intOf]; omega))))
    · have RE := RR.at_end (by omega)
      clear RR
      go_wp2_with fail
      exact HEX.out _ _ _ _ _ _ _ _ _ _ _ _ _ _ _ _ _ _ _ _ _ _ _ _ _ _ _ _ _ _ _ _ _ _ _ _ _ _ _ _ RE
end Go.Proofs.YtodbdecpacdgiaaDoor
