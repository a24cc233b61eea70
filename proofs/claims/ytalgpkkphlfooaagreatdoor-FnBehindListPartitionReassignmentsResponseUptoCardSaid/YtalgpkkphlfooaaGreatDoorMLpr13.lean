/-
  ListPartitionReassignmentsResponse: writing.
-/
import Derived.Test.YtalgpkkphlfooaaGreatDoorMB16
import Derived.Test.YtalgpkkphlfooaaGreatDoorMLpr1
import Derived.Test.YtalgpkkphlfooaaGreatDoorMB13
import Derived.Test.YtalgpkkphlfooaaGreatDoorMLpr12
import Derived.Deep.CutBlock
namespace Go.Proofs.YtalgpkkphlfooaaGreatDoor
open Go.ChangeShapes Go.WideShapes Go.ChangeAt Go.RowKit

set_option maxHeartbeats 40000000 in
set_option maxRecDepth 100000 in
theorem lpr_app_0 {G : Nat → Prop} {b B : Nat} {c : List Value} {t : T} {w : World} {ver : Int} {v : Value} {acc : Bs} (hp : Pt w b 1 c) (_hver : w.cell? ⟨b, 0, none⟩ = some (.int .i16 ver)) (hv : VK w G 10 (-1) (VFs w G q_ListPartitionReassignmentsResponse) c t) (hb : b < B) (hG : ∀ k, G k → k < B) (ho : OB w B v acc) (hB : B ≤ w.heap.size) (hs : small 1000000 t) (hl : (acc ++ apPart q_ListPartitionReassignmentsResponse ver true t).length ≤ 40000000000000) (hv0 : 0 ≤ ver)  :
    Calls Tryz.prog 34 #[.pointer (some ⟨b, 0, none⟩), v] w fun e w' => ∃ v', e = .returned v' ∧ OB w' B v' (acc ++ apPart q_ListPartitionReassignmentsResponse ver true t) ∧ Below B w w' := by
  obtain ⟨cs, tv, l, tg0, rfl, hf, hmp0, rfl⟩ : ∃ cs v l u, c = cs ++ [v] ∧ VFs w G q_ListPartitionReassignmentsResponse cs l ∧ MP w G v u ∧ t = .mk 0 [] false l u := hv
  simp only [small] at hs
  obtain ⟨_, _, ht2_0, ht1_0, hsl⟩ := hs
  unfold q_ListPartitionReassignmentsResponse at hf
  obtain ⟨c0_0, cr0_0, t0_0, l0_0, rfl, rfl, hf0_0, hr0_0⟩ := hf
  obtain ⟨c0_1, cr0_1, t0_1, l0_1, rfl, rfl, hf0_1, hr0_1⟩ := hr0_0
  obtain ⟨c0_2, cr0_2, t0_2, l0_2, rfl, rfl, hf0_2, hr0_2⟩ := hr0_1
  obtain ⟨c0_3, cr0_3, t0_3, l0_3, rfl, rfl, hf0_3, hr0_3⟩ := hr0_2
  obtain ⟨rfl, rfl⟩ := hr0_3
  have hs0_0 : small 1000000 t0_0 := smalls_mem hsl _ (by simp)
  obtain ⟨n0_0, rfl, ⟨ra0_0, rb0_0⟩, rfl⟩ := vf_i32_inv hf0_0
  have hs0_1 : small 1000000 t0_1 := smalls_mem hsl _ (by simp)
  obtain ⟨n0_1, rfl, ⟨ra0_1, rb0_1⟩, rfl⟩ := vf_i16_inv hf0_1
  have hs0_2 : small 1000000 t0_2 := smalls_mem hsl _ (by simp)
  obtain ⟨n0_2, o0_2, rfl, ps0_2, rfl⟩ := vf_nstr_inv (by decide) hf0_2
  have hl0_2 := small_text hs0_2
  have hs0_3 : small 1000000 t0_3 := smalls_mem hsl _ (by simp)
  obtain ⟨v0_3, rfl, vl0_3⟩ := vf_list_inv hf0_3
  obtain ⟨nu0_3, css0_3, lx0_3, eq0_3, ev0_3, hrw0_3, hnil0_3, rfl⟩ := vl0_3
  obtain ⟨ao0_3, cp0_3, rfl, hcp0_3, hcn0_3⟩ := hrw0_3.shape
  rw [eq0_3] at hrw0_3 hcp0_3 hcn0_3 hnil0_3 hp
  have HEQ0_3 : Hid _ := eq0_3
  clear eq0_3
  obtain ⟨_, hll0_3, _, _, hsl0_3⟩ := hs0_3
  clear hf0_0
  clear hf0_1
  clear hf0_2
  clear hf0_3
  simp only [List.cons_append, List.nil_append] at hp
  have cw0_0 : w.cell? ⟨b, 1, none⟩ = some _ := hp.cell (o := 1) (j := 0) rfl rfl
  have cw0_1 : w.cell? ⟨b, 2, none⟩ = some _ := hp.cell (o := 2) (j := 1) rfl rfl
  have cw0_2 : w.cell? ⟨b, 3, none⟩ = some _ := hp.cell (o := 3) (j := 2) rfl rfl
  have cw0_3 : w.cell? ⟨b, 4, none⟩ = some _ := hp.cell (o := 4) (j := 3) rfl rfl
  have heq : apPart q_ListPartitionReassignmentsResponse ver true (.mk 0 [] false [(.mk n0_0 [] false [] []), (.mk n0_1 [] false [] []), (nstrT o0_2), (.mk 0 [] nu0_3 lx0_3 [])] tg0) = fixedP n0_0 4 ++ (fixedP n0_1 2 ++ (cnstrP o0_2 ++ (uvarP (lx0_3.length + 1) ++ (lx0_3.flatMap (apE 10 q_ListPartitionReassignmentsResponseTopic ver true) ++ (uvarP tg0.length ++ ((tg0.map tagP).flatten ++ ([]))))))) := by
    simp [apPart_flex, q_ListPartitionReassignmentsResponse, apFs, apF_clist (show (-1 : Int) < 0 by decide), apF_cnstr (show (0 : Int) ≤ 0 by decide) (show (0 : Int) ≤ ver by omega), apF_i16, apF_i32, (has_yes (show (0 : Int) ≤ ver by omega) (.inl (by decide)) : F.has (.mk 3 0 (-1) (-1) (-1) 0 0 []) ver = true), (has_yes (show (0 : Int) ≤ ver by omega) (.inl (by decide)) : F.has (.mk 2 0 (-1) (-1) (-1) 0 0 []) ver = true), (has_yes (show (0 : Int) ≤ ver by omega) (.inl (by decide)) : F.has (.mk 8 0 (-1) 0 (-1) 0 0 []) ver = true), (has_yes (show (0 : Int) ≤ ver by omega) (.inl (by decide)) : F.has (.mk 11 0 (-1) (-1) (-1) 0 10 q_ListPartitionReassignmentsResponseTopic) ver = true)]
  rw [heq] at hl ⊢
  have h0 := ApSt.start ho hB hl
  obtain ⟨FF, hFF⟩ : ∃ x, x = acc ++ (fixedP n0_0 4 ++ (fixedP n0_1 2 ++ (cnstrP o0_2 ++ (uvarP (lx0_3.length + 1) ++ (lx0_3.flatMap (apE 10 q_ListPartitionReassignmentsResponseTopic ver true) ++ (uvarP tg0.length ++ ((tg0.map tagP).flatten ++ ([])))))))) := ⟨_, rfl⟩
  rw [← hFF] at h0 ⊢
  clear heq hl ho hFF
  go_enter Tryz.func34, Tryz.ntmps34
  go_wp2_with (first
    | (go_at_call 73; go_loud (refine (h0.i32).mono ?_; rintro e w1 ⟨v1, rfl, h1⟩; clear h0; have d0_1 := h1.at_ cw0_1 hb))
    | (go_at_call 74; go_loud (refine (h1.i16).mono ?_; rintro e w2 ⟨v2, rfl, h2⟩; clear h1; have d0_2 := h2.at_ cw0_2 hb))
    | (go_at_call 75; go_loud (refine (h2.cnst ps0_2 hG hl0_2).mono ?_; rintro e w3 ⟨v3, rfl, h3⟩; clear h2; have d0_3 := h3.at_ cw0_3 hb))
    | (go_at_call 77; go_loud (refine (h3.cln hll0_3).mono ?_; rintro e w4 ⟨v4, rfl, h4⟩; clear h3)))
  refine lpr_al0f (w := w) (nu := nu0_3) rfl ⟨nu0_3, css0_3, lx0_3, HEQ0_3.out, ev0_3, by rw [HEQ0_3.out]; exact hrw0_3, hnil0_3, rfl⟩ hll0_3 hsl0_3 hG hv0 h4 ?hexit
  case hexit =>
    show ∀ (wr : World) (y1 y11 y12 y13 y14 y15 y16 y17 y18 y19 y20 y21 y22 y23 y24 y25 y26 y75 y76 y77 y78 y79 y80 y81 y82 y83 y84 y85 y86 y87 y88 y89 y90 y91 y92 y93 y94 y95 y96 y97 y98 y99 y100 y101 y102 y103 y104 y105 y106 y107 y108 y109 y110 y111 y112 y113 y114 y115 y116 y117 y118 y119 y120 y121 y122 y123 y124 y125 y126 y127 y128 y129 y130 y131 y132 y133 y134 y135 y136 y137 y138 y139 y140 y141 y142 y143 y144 y145 y146 y147 y148 y149 y150 y151 y152 y153 y154 y155 y156 y157 y158 y159 y160 y161 y162 y163 y164 y165 y166 y167 y168 y169 y170 y171 y172 y173 y174 y175 y176 y177 y178 y179 y180 y181 y182 y183 y184 y185 y186 y187 y188 y189 y190 y191 y192 y193 y194 y195 y196 y197 y198 y199 y200 y201 y202 y203 y204 y205 y206 y207 y208 y209 y210 y211 y212 y213 y214 y215 y216 y217 y218 y219 y220 y221 y222 y223 y224 y225 y226 y227 : Value), _
    intro wq5 dq5 _ _ _ _ _ _ _ _ _ _ _ _ _ _ _ _ _ _ _ _ _ _ _ _ _ _ _ _ _ _ _ _ _ _ _ _ _ _ _ _ _ _ _ _ _ _ _ _ _ _ _ _ _ _ _ _ _ _ _ _ _ _ _ _ _ _ _ _ _ _ _ _ _ _ _ _ _ _ _ _ _ _ _ _ _ _ _ _ _ _ _ _ _ _ _ _ _ _ _ _ _ _ _ _ _ _ _ _ _ _ _ _ _ _ _ _ _ _ _ _ _ _ _ _ _ _ _ _ _ _ _ _ _ _ _ _ _ _ _ _ _ _ _ _ _ _ _ _ _ _ _ _ _ _ _ _ _ _ _ _ _ _ _ _ _ _ _ _ _ sc5
    clear h4
    go_wp2_with (first
      | (go_at_call 82; go_loud (refine (ApSt.tlen (i := 5) (j := 4) sc5 hp rfl rfl hmp0 hb hG).mono ?_; rintro e wt ⟨rfl, rfl⟩))
      | (go_at_call 81; go_loud (refine (ApSt.uv sc5 ht2_0).mono ?_; rintro e w6 ⟨v6, rfl, h6⟩; clear sc5))
      | (go_at_call 83; go_loud (refine (ApSt.tg (i := 5) (j := 4) h6 hp rfl rfl hmp0 hb hG ht1_0).mono ?_; rintro e w7 ⟨v7, rfl, h7⟩; clear h6)))
    go_ret
    exact ⟨_, rfl, ApSt.done h7⟩
end Go.Proofs.YtalgpkkphlfooaaGreatDoor
