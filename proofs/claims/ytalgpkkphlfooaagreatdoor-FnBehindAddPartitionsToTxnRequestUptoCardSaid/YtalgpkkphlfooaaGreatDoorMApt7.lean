/-
  AddPartitionsToTxnRequest: writing.
-/
import Derived.Test.YtalgpkkphlfooaaGreatDoorMB16
import Derived.Test.YtalgpkkphlfooaaGreatDoorMApt1
import Derived.Test.YtalgpkkphlfooaaGreatDoorMB13
import Derived.Test.YtalgpkkphlfooaaGreatDoorMApt6
import Derived.Deep.CutBlock
namespace Go.Proofs.YtalgpkkphlfooaaGreatDoor
open Go.ChangeShapes Go.WideShapes Go.ChangeAt Go.RowKit

set_option maxHeartbeats 40000000 in
set_option maxRecDepth 100000 in
theorem apt_app_0 {G : Nat → Prop} {b B : Nat} {c : List Value} {t : T} {w : World} {ver : Int} {v : Value} {acc : Bs} (hp : Pt w b 1 c) (_hver : w.cell? ⟨b, 0, none⟩ = some (.int .i16 ver)) (hv : VK w G 10 (-1) (VFs w G q_AddPartitionsToTxnRequest) c t) (hb : b < B) (hG : ∀ k, G k → k < B) (ho : OB w B v acc) (hB : B ≤ w.heap.size) (hs : small 1000000 t) (hl : (acc ++ apPart q_AddPartitionsToTxnRequest ver false t).length ≤ 40000000000000) (hv0 : 0 ≤ ver) (_B3 : ¬ 3 ≤ ver) (_B4 : ¬ 4 ≤ ver) :
    Calls Tryz.prog 41 #[.pointer (some ⟨b, 0, none⟩), v] w fun e w' => ∃ v', e = .returned v' ∧ OB w' B v' (acc ++ apPart q_AddPartitionsToTxnRequest ver false t) ∧ Below B w w' := by
  obtain ⟨cs, tv, l, tg0, rfl, hf, hmp0, rfl⟩ : ∃ cs v l u, c = cs ++ [v] ∧ VFs w G q_AddPartitionsToTxnRequest cs l ∧ MP w G v u ∧ t = .mk 0 [] false l u := hv
  simp only [small] at hs
  obtain ⟨_, _, ht2_0, ht1_0, hsl⟩ := hs
  unfold q_AddPartitionsToTxnRequest at hf
  obtain ⟨c0_0, cr0_0, t0_0, l0_0, rfl, rfl, hf0_0, hr0_0⟩ := hf
  obtain ⟨c0_1, cr0_1, t0_1, l0_1, rfl, rfl, hf0_1, hr0_1⟩ := hr0_0
  obtain ⟨c0_2, cr0_2, t0_2, l0_2, rfl, rfl, hf0_2, hr0_2⟩ := hr0_1
  obtain ⟨c0_3, cr0_3, t0_3, l0_3, rfl, rfl, hf0_3, hr0_3⟩ := hr0_2
  obtain ⟨c0_4, cr0_4, t0_4, l0_4, rfl, rfl, hf0_4, hr0_4⟩ := hr0_3
  obtain ⟨rfl, rfl⟩ := hr0_4
  have hs0_0 : small 1000000 t0_0 := smalls_mem hsl _ (by simp)
  obtain ⟨n0_0, rfl, rfl⟩ := vf_str_inv (by decide) hf0_0
  have hl0_0 : n0_0.length ≤ 1000000 := hs0_0.1
  have hs0_1 : small 1000000 t0_1 := smalls_mem hsl _ (by simp)
  obtain ⟨n0_1, rfl, ⟨ra0_1, rb0_1⟩, rfl⟩ := vf_i64_inv hf0_1
  have hs0_2 : small 1000000 t0_2 := smalls_mem hsl _ (by simp)
  obtain ⟨n0_2, rfl, ⟨ra0_2, rb0_2⟩, rfl⟩ := vf_i16_inv hf0_2
  have hs0_3 : small 1000000 t0_3 := smalls_mem hsl _ (by simp)
  obtain ⟨v0_3, rfl, vl0_3⟩ := vf_list_inv hf0_3
  obtain ⟨nu0_3, css0_3, lx0_3, eq0_3, ev0_3, hrw0_3, hnil0_3, rfl⟩ := vl0_3
  obtain ⟨ao0_3, cp0_3, rfl, hcp0_3, hcn0_3⟩ := hrw0_3.shape
  rw [eq0_3] at hrw0_3 hcp0_3 hcn0_3 hnil0_3 hp
  have HEQ0_3 : Hid _ := eq0_3
  clear eq0_3
  obtain ⟨_, hll0_3, _, _, hsl0_3⟩ := hs0_3
  have hs0_4 : small 1000000 t0_4 := smalls_mem hsl _ (by simp)
  obtain ⟨v0_4, rfl, vl0_4⟩ := vf_list_inv hf0_4
  obtain ⟨nu0_4, css0_4, lx0_4, eq0_4, ev0_4, hrw0_4, hnil0_4, rfl⟩ := vl0_4
  obtain ⟨ao0_4, cp0_4, rfl, hcp0_4, hcn0_4⟩ := hrw0_4.shape
  rw [eq0_4] at hrw0_4 hcp0_4 hcn0_4 hnil0_4 hp
  have HEQ0_4 : Hid _ := eq0_4
  clear eq0_4
  obtain ⟨_, hll0_4, _, _, hsl0_4⟩ := hs0_4
  clear hf0_0
  clear hf0_1
  clear hf0_2
  clear hf0_3
  clear hf0_4
  simp only [List.cons_append, List.nil_append] at hp
  have cw0_0 : w.cell? ⟨b, 1, none⟩ = some _ := hp.cell (o := 1) (j := 0) rfl rfl
  have cw0_1 : w.cell? ⟨b, 2, none⟩ = some _ := hp.cell (o := 2) (j := 1) rfl rfl
  have cw0_2 : w.cell? ⟨b, 3, none⟩ = some _ := hp.cell (o := 3) (j := 2) rfl rfl
  have cw0_3 : w.cell? ⟨b, 4, none⟩ = some _ := hp.cell (o := 4) (j := 3) rfl rfl
  have heq : apPart q_AddPartitionsToTxnRequest ver false (.mk 0 [] false [(.mk 0 n0_0 false [] []), (.mk n0_1 [] false [] []), (.mk n0_2 [] false [] []), (.mk 0 [] nu0_3 lx0_3 []), (.mk 0 [] nu0_4 lx0_4 [])] tg0) = (fixedP n0_0.length 2 ++ n0_0) ++ (fixedP n0_1 8 ++ (fixedP n0_2 2 ++ (fixedP lx0_3.length 4 ++ (lx0_3.flatMap (apE 10 q_AddPartitionsToTxnRequestTopic ver false) ++ ([]))))) := by
    simp [apPart_plain, q_AddPartitionsToTxnRequest, apFs, apF_i16, apF_i64, apF_list (show (-1 : Int) < 0 by decide), apF_str, (has_yes (show (0 : Int) ≤ ver by omega) (.inr (show ver ≤ 3 by omega)) : F.has (.mk 8 0 3 (-1) (-1) 0 0 []) ver = true), (has_yes (show (0 : Int) ≤ ver by omega) (.inr (show ver ≤ 3 by omega)) : F.has (.mk 4 0 3 (-1) (-1) 0 0 []) ver = true), (has_yes (show (0 : Int) ≤ ver by omega) (.inr (show ver ≤ 3 by omega)) : F.has (.mk 2 0 3 (-1) (-1) 0 0 []) ver = true), (has_yes (show (0 : Int) ≤ ver by omega) (.inr (show ver ≤ 3 by omega)) : F.has (.mk 11 0 3 (-1) (-1) 0 10 q_AddPartitionsToTxnRequestTopic) ver = true), (has_no1 (show ¬ (4 : Int) ≤ ver by omega) : F.has (.mk 11 4 (-1) (-1) (-1) 0 10 q_AddPartitionsToTxnRequestTransaction) ver = false)]
  rw [heq] at hl ⊢
  have h0 := ApSt.start ho hB hl
  obtain ⟨FF, hFF⟩ : ∃ x, x = acc ++ ((fixedP n0_0.length 2 ++ n0_0) ++ (fixedP n0_1 8 ++ (fixedP n0_2 2 ++ (fixedP lx0_3.length 4 ++ (lx0_3.flatMap (apE 10 q_AddPartitionsToTxnRequestTopic ver false) ++ ([])))))) := ⟨_, rfl⟩
  rw [← hFF] at h0 ⊢
  clear heq hl ho hFF
  go_enter Tryz.func41, Tryz.ntmps41
  go_wp2_with (first
    | (go_at_call 80; go_loud (refine (h0.st hl0_0).mono ?_; rintro e w1 ⟨v1, rfl, h1⟩; clear h0; have d0_1 := h1.at_ cw0_1 hb))
    | (go_at_call 87; go_loud (refine (h1.i64).mono ?_; rintro e w2 ⟨v2, rfl, h2⟩; clear h1; have d0_2 := h2.at_ cw0_2 hb))
    | (go_at_call 74; go_loud (refine (h2.i16).mono ?_; rintro e w3 ⟨v3, rfl, h3⟩; clear h2; have d0_3 := h3.at_ cw0_3 hb))
    | (go_at_call 78; go_loud (refine (h3.ln hll0_3).mono ?_; rintro e w4 ⟨v4, rfl, h4⟩; clear h3)))
  refine apt_al0p (w := w) (nu := nu0_3) rfl ⟨nu0_3, css0_3, lx0_3, HEQ0_3.out, ev0_3, by rw [HEQ0_3.out]; exact hrw0_3, hnil0_3, rfl⟩ hll0_3 hsl0_3 hG hv0 h4 ?hexit
  case hexit =>
    show ∀ (wr : World) (y1 y11 y12 y13 y14 y15 y16 y103 y104 y105 y106 y107 y108 y109 y110 y111 y112 y113 y114 y115 y116 y117 y118 y119 y120 y121 y122 y123 y124 y125 y126 y127 y128 y129 y130 y131 y132 y133 y134 y135 y136 y137 y138 y139 y140 y141 y142 y143 y144 y145 y146 y147 y148 y149 y150 y151 y152 y153 y154 y155 y156 y157 y158 y159 y160 : Value), _
    intro wq5 dq5 _ _ _ _ _ _ _ _ _ _ _ _ _ _ _ _ _ _ _ _ _ _ _ _ _ _ _ _ _ _ _ _ _ _ _ _ _ _ _ _ _ _ _ _ _ _ _ _ _ _ _ _ _ _ _ _ _ _ _ _ _ _ _ _ sc5
    clear h4
    go_wp2_with fail
    go_ret
    exact ⟨_, rfl, ApSt.done sc5⟩
end Go.Proofs.YtalgpkkphlfooaaGreatDoor
