/-
  AssignReplicasToDirsResponse: writing.
-/
import Derived.Test.YtalgpkkphlfooaaGreatDoorMB16
import Derived.Test.YtalgpkkphlfooaaGreatDoorMArd1
import Derived.Test.YtalgpkkphlfooaaGreatDoorMB13
import Derived.Test.YtalgpkkphlfooaaGreatDoorMArd8
import Derived.Deep.CutBlock
namespace Go.Proofs.YtalgpkkphlfooaaGreatDoor
open Go.ChangeShapes Go.WideShapes Go.ChangeAt Go.RowKit

set_option maxHeartbeats 40000000 in
set_option maxRecDepth 100000 in
theorem ard_app_0 {G : Nat → Prop} {b B : Nat} {c : List Value} {t : T} {w : World} {ver : Int} {v : Value} {acc : Bs} (hp : Pt w b 1 c) (_hver : w.cell? ⟨b, 0, none⟩ = some (.int .i16 ver)) (hv : VK w G 10 (-1) (VFs w G q_AssignReplicasToDirsResponse) c t) (hb : b < B) (hG : ∀ k, G k → k < B) (ho : OB w B v acc) (hB : B ≤ w.heap.size) (hs : small 1000000 t) (hl : (acc ++ apPart q_AssignReplicasToDirsResponse ver true t).length ≤ 40000000000000) (hv0 : 0 ≤ ver)  :
    Calls Tryz.prog 53 #[.pointer (some ⟨b, 0, none⟩), v] w fun e w' => ∃ v', e = .returned v' ∧ OB w' B v' (acc ++ apPart q_AssignReplicasToDirsResponse ver true t) ∧ Below B w w' := by
  obtain ⟨cs, tv, l, tg0, rfl, hf, hmp0, rfl⟩ : ∃ cs v l u, c = cs ++ [v] ∧ VFs w G q_AssignReplicasToDirsResponse cs l ∧ MP w G v u ∧ t = .mk 0 [] false l u := hv
  simp only [small] at hs
  obtain ⟨_, _, ht2_0, ht1_0, hsl⟩ := hs
  unfold q_AssignReplicasToDirsResponse at hf
  obtain ⟨c0_0, cr0_0, t0_0, l0_0, rfl, rfl, hf0_0, hr0_0⟩ := hf
  obtain ⟨c0_1, cr0_1, t0_1, l0_1, rfl, rfl, hf0_1, hr0_1⟩ := hr0_0
  obtain ⟨c0_2, cr0_2, t0_2, l0_2, rfl, rfl, hf0_2, hr0_2⟩ := hr0_1
  obtain ⟨rfl, rfl⟩ := hr0_2
  have hs0_0 : small 1000000 t0_0 := smalls_mem hsl _ (by simp)
  obtain ⟨n0_0, rfl, ⟨ra0_0, rb0_0⟩, rfl⟩ := vf_i32_inv hf0_0
  have hs0_1 : small 1000000 t0_1 := smalls_mem hsl _ (by simp)
  obtain ⟨n0_1, rfl, ⟨ra0_1, rb0_1⟩, rfl⟩ := vf_i16_inv hf0_1
  have hs0_2 : small 1000000 t0_2 := smalls_mem hsl _ (by simp)
  obtain ⟨v0_2, rfl, vl0_2⟩ := vf_list_inv hf0_2
  obtain ⟨nu0_2, css0_2, lx0_2, eq0_2, ev0_2, hrw0_2, hnil0_2, rfl⟩ := vl0_2
  obtain ⟨ao0_2, cp0_2, rfl, hcp0_2, hcn0_2⟩ := hrw0_2.shape
  rw [eq0_2] at hrw0_2 hcp0_2 hcn0_2 hnil0_2 hp
  have HEQ0_2 : Hid _ := eq0_2
  clear eq0_2
  obtain ⟨_, hll0_2, _, _, hsl0_2⟩ := hs0_2
  clear hf0_0
  clear hf0_1
  clear hf0_2
  simp only [List.cons_append, List.nil_append] at hp
  have cw0_0 : w.cell? ⟨b, 1, none⟩ = some _ := hp.cell (o := 1) (j := 0) rfl rfl
  have cw0_1 : w.cell? ⟨b, 2, none⟩ = some _ := hp.cell (o := 2) (j := 1) rfl rfl
  have cw0_2 : w.cell? ⟨b, 3, none⟩ = some _ := hp.cell (o := 3) (j := 2) rfl rfl
  have heq : apPart q_AssignReplicasToDirsResponse ver true (.mk 0 [] false [(.mk n0_0 [] false [] []), (.mk n0_1 [] false [] []), (.mk 0 [] nu0_2 lx0_2 [])] tg0) = fixedP n0_0 4 ++ (fixedP n0_1 2 ++ (uvarP (lx0_2.length + 1) ++ (lx0_2.flatMap (apE 10 q_AssignReplicasToDirsResponseDirectory ver true) ++ (uvarP tg0.length ++ ((tg0.map tagP).flatten ++ ([])))))) := by
    simp [apPart_flex, q_AssignReplicasToDirsResponse, apFs, apF_clist (show (-1 : Int) < 0 by decide), apF_i16, apF_i32, (has_yes (show (0 : Int) ≤ ver by omega) (.inl (by decide)) : F.has (.mk 3 0 (-1) (-1) (-1) 0 0 []) ver = true), (has_yes (show (0 : Int) ≤ ver by omega) (.inl (by decide)) : F.has (.mk 2 0 (-1) (-1) (-1) 0 0 []) ver = true), (has_yes (show (0 : Int) ≤ ver by omega) (.inl (by decide)) : F.has (.mk 11 0 (-1) (-1) (-1) 0 10 q_AssignReplicasToDirsResponseDirectory) ver = true)]
  rw [heq] at hl ⊢
  have h0 := ApSt.start ho hB hl
  obtain ⟨FF, hFF⟩ : ∃ x, x = acc ++ (fixedP n0_0 4 ++ (fixedP n0_1 2 ++ (uvarP (lx0_2.length + 1) ++ (lx0_2.flatMap (apE 10 q_AssignReplicasToDirsResponseDirectory ver true) ++ (uvarP tg0.length ++ ((tg0.map tagP).flatten ++ ([]))))))) := ⟨_, rfl⟩
  rw [← hFF] at h0 ⊢
  clear heq hl ho hFF
  go_enter Tryz.func53, Tryz.ntmps53
  go_wp2_with (first
    | (go_at_call 73; go_loud (refine (h0.i32).mono ?_; rintro e w1 ⟨v1, rfl, h1⟩; clear h0; have d0_1 := h1.at_ cw0_1 hb))
    | (go_at_call 74; go_loud (refine (h1.i16).mono ?_; rintro e w2 ⟨v2, rfl, h2⟩; clear h1; have d0_2 := h2.at_ cw0_2 hb))
    | (go_at_call 77; go_loud (refine (h2.cln hll0_2).mono ?_; rintro e w3 ⟨v3, rfl, h3⟩; clear h2)))
  refine ard_al0f (w := w) (nu := nu0_2) rfl ⟨nu0_2, css0_2, lx0_2, HEQ0_2.out, ev0_2, by rw [HEQ0_2.out]; exact hrw0_2, hnil0_2, rfl⟩ hll0_2 hsl0_2 hG hv0 h3 ?hexit
  case hexit =>
    show ∀ (wr : World) (y1 y10 y11 y12 y13 y14 y15 y16 y17 y18 y19 y20 y21 y59 y60 y61 y62 y63 y64 y65 y66 y67 y68 y69 y70 y71 y72 y73 y74 y75 y76 y77 y78 y79 y80 y81 y82 y83 y84 y85 y86 y87 y88 y89 y90 y91 y92 y93 y94 y95 y96 y97 y98 y99 y100 y101 y102 y103 y104 y105 y106 y107 y108 y109 y110 y111 y112 y113 y114 y115 y116 y117 y118 y119 y120 y121 y122 y123 y124 y125 y126 y127 y128 y129 y130 y131 y132 y133 y134 y135 y136 y137 y138 y139 y140 y141 y142 y143 y144 y145 y146 y147 y148 y149 y150 y151 y152 y153 y154 y155 y156 y157 y158 y159 y160 y161 y162 y163 y164 y165 y166 y167 y168 y169 y170 y171 y172 y173 y174 y175 y176 y177 y178 y179 : Value), _
    intro wq4 dq4 _ _ _ _ _ _ _ _ _ _ _ _ _ _ _ _ _ _ _ _ _ _ _ _ _ _ _ _ _ _ _ _ _ _ _ _ _ _ _ _ _ _ _ _ _ _ _ _ _ _ _ _ _ _ _ _ _ _ _ _ _ _ _ _ _ _ _ _ _ _ _ _ _ _ _ _ _ _ _ _ _ _ _ _ _ _ _ _ _ _ _ _ _ _ _ _ _ _ _ _ _ _ _ _ _ _ _ _ _ _ _ _ _ _ _ _ _ _ _ _ _ _ _ _ _ _ _ _ _ _ _ _ _ sc4
    clear h3
    go_wp2_with (first
      | (go_at_call 82; go_loud (refine (ApSt.tlen (i := 4) (j := 3) sc4 hp rfl rfl hmp0 hb hG).mono ?_; rintro e wt ⟨rfl, rfl⟩))
      | (go_at_call 81; go_loud (refine (ApSt.uv sc4 ht2_0).mono ?_; rintro e w5 ⟨v5, rfl, h5⟩; clear sc4))
      | (go_at_call 83; go_loud (refine (ApSt.tg (i := 4) (j := 3) h5 hp rfl rfl hmp0 hb hG ht1_0).mono ?_; rintro e w6 ⟨v6, rfl, h6⟩; clear h5)))
    go_ret
    exact ⟨_, rfl, ApSt.done h6⟩
end Go.Proofs.YtalgpkkphlfooaaGreatDoor
