/-
  ShareAcknowledgeResponse: writing.
-/
import Derived.Test.YtalgpkkphlfooaaGreatDoorMB16
import Derived.Test.YtalgpkkphlfooaaGreatDoorMSar1
import Derived.Test.YtalgpkkphlfooaaGreatDoorMB13
import Derived.Test.YtalgpkkphlfooaaGreatDoorMSar7
import Derived.Test.YtalgpkkphlfooaaGreatDoorMSar8
import Derived.Deep.CutBlock
namespace Go.Proofs.YtalgpkkphlfooaaGreatDoor
open Go.ChangeShapes Go.WideShapes Go.ChangeAt Go.RowKit

set_option maxHeartbeats 40000000 in
set_option maxRecDepth 100000 in
theorem sar_app_1 {G : Nat → Prop} {b B : Nat} {c : List Value} {t : T} {w : World} {ver : Int} {v : Value} {acc : Bs} (hp : Pt w b 1 c) (_hver : w.cell? ⟨b, 0, none⟩ = some (.int .i16 ver)) (hv : VK w G 10 (-1) (VFs w G q_ShareAcknowledgeResponse) c t) (hb : b < B) (hG : ∀ k, G k → k < B) (ho : OB w B v acc) (hB : B ≤ w.heap.size) (hs : small 1000000 t) (hl : (acc ++ apPart q_ShareAcknowledgeResponse ver true t).length ≤ 40000000000000) (hv0 : 0 ≤ ver) (_B2 : 2 ≤ ver) :
    Calls Tryz.prog 60 #[.pointer (some ⟨b, 0, none⟩), v] w fun e w' => ∃ v', e = .returned v' ∧ OB w' B v' (acc ++ apPart q_ShareAcknowledgeResponse ver true t) ∧ Below B w w' := by
  obtain ⟨cs, tv, l, tg0, rfl, hf, hmp0, rfl⟩ : ∃ cs v l u, c = cs ++ [v] ∧ VFs w G q_ShareAcknowledgeResponse cs l ∧ MP w G v u ∧ t = .mk 0 [] false l u := hv
  simp only [small] at hs
  obtain ⟨_, _, ht2_0, ht1_0, hsl⟩ := hs
  unfold q_ShareAcknowledgeResponse at hf
  obtain ⟨c0_0, cr0_0, t0_0, l0_0, rfl, rfl, hf0_0, hr0_0⟩ := hf
  obtain ⟨c0_1, cr0_1, t0_1, l0_1, rfl, rfl, hf0_1, hr0_1⟩ := hr0_0
  obtain ⟨c0_2, cr0_2, t0_2, l0_2, rfl, rfl, hf0_2, hr0_2⟩ := hr0_1
  obtain ⟨c0_3, cr0_3, t0_3, l0_3, rfl, rfl, hf0_3, hr0_3⟩ := hr0_2
  obtain ⟨c0_4, cr0_4, t0_4, l0_4, rfl, rfl, hf0_4, hr0_4⟩ := hr0_3
  obtain ⟨c0_5, cr0_5, t0_5, l0_5, rfl, rfl, hf0_5, hr0_5⟩ := hr0_4
  obtain ⟨rfl, rfl⟩ := hr0_5
  have hs0_0 : small 1000000 t0_0 := smalls_mem hsl _ (by simp)
  obtain ⟨n0_0, rfl, ⟨ra0_0, rb0_0⟩, rfl⟩ := vf_i32_inv hf0_0
  have hs0_1 : small 1000000 t0_1 := smalls_mem hsl _ (by simp)
  obtain ⟨n0_1, rfl, ⟨ra0_1, rb0_1⟩, rfl⟩ := vf_i16_inv hf0_1
  have hs0_2 : small 1000000 t0_2 := smalls_mem hsl _ (by simp)
  obtain ⟨n0_2, o0_2, rfl, ps0_2, rfl⟩ := vf_nstr_inv (by decide) hf0_2
  have hl0_2 := small_text hs0_2
  have hs0_3 : small 1000000 t0_3 := smalls_mem hsl _ (by simp)
  obtain ⟨n0_3, rfl, ⟨ra0_3, rb0_3⟩, rfl⟩ := vf_i32_inv hf0_3
  have hs0_4 : small 1000000 t0_4 := smalls_mem hsl _ (by simp)
  obtain ⟨v0_4, rfl, vl0_4⟩ := vf_list_inv hf0_4
  obtain ⟨nu0_4, css0_4, lx0_4, eq0_4, ev0_4, hrw0_4, hnil0_4, rfl⟩ := vl0_4
  obtain ⟨ao0_4, cp0_4, rfl, hcp0_4, hcn0_4⟩ := hrw0_4.shape
  rw [eq0_4] at hrw0_4 hcp0_4 hcn0_4 hnil0_4 hp
  have HEQ0_4 : Hid _ := eq0_4
  clear eq0_4
  obtain ⟨_, hll0_4, _, _, hsl0_4⟩ := hs0_4
  have hs0_5 : small 1000000 t0_5 := smalls_mem hsl _ (by simp)
  obtain ⟨v0_5, rfl, vl0_5⟩ := vf_list_inv hf0_5
  obtain ⟨nu0_5, css0_5, lx0_5, eq0_5, ev0_5, hrw0_5, hnil0_5, rfl⟩ := vl0_5
  obtain ⟨ao0_5, cp0_5, rfl, hcp0_5, hcn0_5⟩ := hrw0_5.shape
  rw [eq0_5] at hrw0_5 hcp0_5 hcn0_5 hnil0_5 hp
  have HEQ0_5 : Hid _ := eq0_5
  clear eq0_5
  obtain ⟨_, hll0_5, _, _, hsl0_5⟩ := hs0_5
  clear hf0_0
  clear hf0_1
  clear hf0_2
  clear hf0_3
  clear hf0_4
  clear hf0_5
  simp only [List.cons_append, List.nil_append] at hp
  have cw0_0 : w.cell? ⟨b, 1, none⟩ = some _ := hp.cell (o := 1) (j := 0) rfl rfl
  have cw0_1 : w.cell? ⟨b, 2, none⟩ = some _ := hp.cell (o := 2) (j := 1) rfl rfl
  have cw0_2 : w.cell? ⟨b, 3, none⟩ = some _ := hp.cell (o := 3) (j := 2) rfl rfl
  have cw0_3 : w.cell? ⟨b, 4, none⟩ = some _ := hp.cell (o := 4) (j := 3) rfl rfl
  have cw0_4 : w.cell? ⟨b, 5, none⟩ = some _ := hp.cell (o := 5) (j := 4) rfl rfl
  have cw0_5 : w.cell? ⟨b, 6, none⟩ = some _ := hp.cell (o := 6) (j := 5) rfl rfl
  have heq : apPart q_ShareAcknowledgeResponse ver true (.mk 0 [] false [(.mk n0_0 [] false [] []), (.mk n0_1 [] false [] []), (nstrT o0_2), (.mk n0_3 [] false [] []), (.mk 0 [] nu0_4 lx0_4 []), (.mk 0 [] nu0_5 lx0_5 [])] tg0) = fixedP n0_0 4 ++ (fixedP n0_1 2 ++ (cnstrP o0_2 ++ (fixedP n0_3 4 ++ (uvarP (lx0_4.length + 1) ++ (lx0_4.flatMap (apE 10 q_ShareAcknowledgeResponseTopic ver true) ++ (uvarP (lx0_5.length + 1) ++ (lx0_5.flatMap (apE 10 q_ShareAcknowledgeResponseNodeEndpoint ver true) ++ (uvarP tg0.length ++ ((tg0.map tagP).flatten ++ ([])))))))))) := by
    simp [apPart_flex, q_ShareAcknowledgeResponse, apFs, apF_clist (show (-1 : Int) < 0 by decide), apF_cnstr (show (0 : Int) ≤ 0 by decide) (show (0 : Int) ≤ ver by omega), apF_i16, apF_i32, (has_yes (show (0 : Int) ≤ ver by omega) (.inl (by decide)) : F.has (.mk 3 0 (-1) (-1) (-1) 0 0 []) ver = true), (has_yes (show (0 : Int) ≤ ver by omega) (.inl (by decide)) : F.has (.mk 2 0 (-1) (-1) (-1) 0 0 []) ver = true), (has_yes (show (0 : Int) ≤ ver by omega) (.inl (by decide)) : F.has (.mk 8 0 (-1) 0 (-1) 0 0 []) ver = true), (has_yes (show (2 : Int) ≤ ver by omega) (.inl (by decide)) : F.has (.mk 3 2 (-1) (-1) (-1) 0 0 []) ver = true), (has_yes (show (0 : Int) ≤ ver by omega) (.inl (by decide)) : F.has (.mk 11 0 (-1) (-1) (-1) 0 10 q_ShareAcknowledgeResponseTopic) ver = true), (has_yes (show (0 : Int) ≤ ver by omega) (.inl (by decide)) : F.has (.mk 11 0 (-1) (-1) (-1) 0 10 q_ShareAcknowledgeResponseNodeEndpoint) ver = true)]
  rw [heq] at hl ⊢
  have h0 := ApSt.start ho hB hl
  obtain ⟨FF, hFF⟩ : ∃ x, x = acc ++ (fixedP n0_0 4 ++ (fixedP n0_1 2 ++ (cnstrP o0_2 ++ (fixedP n0_3 4 ++ (uvarP (lx0_4.length + 1) ++ (lx0_4.flatMap (apE 10 q_ShareAcknowledgeResponseTopic ver true) ++ (uvarP (lx0_5.length + 1) ++ (lx0_5.flatMap (apE 10 q_ShareAcknowledgeResponseNodeEndpoint ver true) ++ (uvarP tg0.length ++ ((tg0.map tagP).flatten ++ ([]))))))))))) := ⟨_, rfl⟩
  rw [← hFF] at h0 ⊢
  clear heq hl ho hFF
  go_enter Tryz.func60, Tryz.ntmps60
  go_wp2_with (first
    | (go_at_call 73; go_loud (refine (h0.i32).mono ?_; rintro e w1 ⟨v1, rfl, h1⟩; clear h0; have d0_1 := h1.at_ cw0_1 hb))
    | (go_at_call 74; go_loud (refine (h1.i16).mono ?_; rintro e w2 ⟨v2, rfl, h2⟩; clear h1; have d0_2 := h2.at_ cw0_2 hb))
    | (go_at_call 75; go_loud (refine (h2.cnst ps0_2 hG hl0_2).mono ?_; rintro e w3 ⟨v3, rfl, h3⟩; clear h2; have d0_3 := h3.at_ cw0_3 hb))
    | (go_at_call 73; go_loud (refine (h3.i32).mono ?_; rintro e w4 ⟨v4, rfl, h4⟩; clear h3; have d0_4 := h4.at_ cw0_4 hb))
    | (go_at_call 77; go_loud (refine (h4.cln hll0_4).mono ?_; rintro e w5 ⟨v5, rfl, h5⟩; clear h4)))
  refine sar_al0f (w := w) (nu := nu0_4) rfl ⟨nu0_4, css0_4, lx0_4, HEQ0_4.out, ev0_4, by rw [HEQ0_4.out]; exact hrw0_4, hnil0_4, rfl⟩ hll0_4 hsl0_4 hG hv0 h5 ?hexit
  case hexit =>
    show ∀ (wr : World) (y1 y12 y13 y14 y15 y16 y17 y18 y19 y20 y21 y22 y23 y88 y89 y90 y91 y92 y93 y94 y95 y96 y97 y98 y99 y100 y101 y102 y103 y104 y105 y106 y107 y108 y109 y110 y111 y112 y113 y114 y115 y116 y117 y118 y119 y120 y121 y122 y123 y124 y125 y126 y127 y128 y129 y130 y131 y132 y133 y134 y135 y136 y137 y138 y139 y140 y141 y142 y143 y144 y145 y146 y147 y148 y149 y150 y151 y152 y153 y154 y155 y156 y157 y158 y159 y160 y161 y162 y163 y164 y165 y166 y167 y168 y169 y170 y171 y172 y173 y174 y175 y176 y177 y178 y179 y180 y181 y182 y183 y184 y185 y186 y187 y188 y189 y190 y191 y192 y193 y194 y195 y196 y197 y198 y199 y200 y201 y202 y203 y204 y205 y206 y207 : Value), _
    intro wq6 dq6 _ _ _ _ _ _ _ _ _ _ _ _ _ _ _ _ _ _ _ _ _ _ _ _ _ _ _ _ _ _ _ _ _ _ _ _ _ _ _ _ _ _ _ _ _ _ _ _ _ _ _ _ _ _ _ _ _ _ _ _ _ _ _ _ _ _ _ _ _ _ _ _ _ _ _ _ _ _ _ _ _ _ _ _ _ _ _ _ _ _ _ _ _ _ _ _ _ _ _ _ _ _ _ _ _ _ _ _ _ _ _ _ _ _ _ _ _ _ _ _ _ _ _ _ _ _ _ _ _ _ _ _ sc6
    clear h5
    have d0_5 := sc6.at_ cw0_5 hb
    go_wp2_with (first
      | (go_at_call 77; go_loud (refine (sc6.cln hll0_5).mono ?_; rintro e w7 ⟨v7, rfl, h7⟩; clear sc6)))
    refine sar_al2f (w := w) (nu := nu0_5) rfl ⟨nu0_5, css0_5, lx0_5, HEQ0_5.out, ev0_5, by rw [HEQ0_5.out]; exact hrw0_5, hnil0_5, rfl⟩ hll0_5 hsl0_5 hG hv0 h7 ?hexit
    case hexit =>
      show ∀ (wr : World) (y1 y25 y26 y27 y28 y29 y30 y223 y224 y225 y226 y227 y228 y229 y230 y231 y232 y233 y234 y235 y236 y237 y238 y239 y240 y241 y242 y243 y244 y245 y246 y247 y248 y249 y250 y251 y252 y253 y254 y255 y256 y257 y258 y259 y260 y261 y262 y263 y264 y265 y266 y267 y268 y269 y270 y271 y272 y273 y274 y275 y276 y277 y278 y279 : Value), _
      intro wq8 dq8 _ _ _ _ _ _ _ _ _ _ _ _ _ _ _ _ _ _ _ _ _ _ _ _ _ _ _ _ _ _ _ _ _ _ _ _ _ _ _ _ _ _ _ _ _ _ _ _ _ _ _ _ _ _ _ _ _ _ _ _ _ _ _ sc8
      clear h7
      go_wp2_with (first
        | (go_at_call 82; go_loud (refine (ApSt.tlen (i := 7) (j := 6) sc8 hp rfl rfl hmp0 hb hG).mono ?_; rintro e wt ⟨rfl, rfl⟩))
        | (go_at_call 81; go_loud (refine (ApSt.uv sc8 ht2_0).mono ?_; rintro e w9 ⟨v9, rfl, h9⟩; clear sc8))
        | (go_at_call 83; go_loud (refine (ApSt.tg (i := 7) (j := 6) h9 hp rfl rfl hmp0 hb hG ht1_0).mono ?_; rintro e w10 ⟨v10, rfl, h10⟩; clear h9)))
      go_ret
      exact ⟨_, rfl, ApSt.done h10⟩
end Go.Proofs.YtalgpkkphlfooaaGreatDoor
