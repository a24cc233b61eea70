/-
  StreamsGroupDescribeRequest: writing.
-/
import Derived.Test.YtobbchmjgoaleaaGreatDoorMB16
import Derived.Test.YtobbchmjgoaleaaGreatDoorMTgd1
import Derived.Deep.CutBlock
namespace Go.Proofs.YtobbchmjgoaleaaGreatDoor
open Go.ChangeShapes Go.WideShapes Go.ChangeAt Go.RowKit

set_option maxHeartbeats 4000000 in
set_option maxRecDepth 100000 in
theorem tgd_app_0 {G : Nat → Prop} {b B : Nat} {c : List Value} {t : T} {w : World} {ver : Int} {v : Value} {acc : Bs} (hp : Pt w b 1 c) (_hver : w.cell? ⟨b, 0, none⟩ = some (.int .i16 ver)) (hv : VK w G 10 (-1) (VFs w G q_StreamsGroupDescribeRequest) c t) (hb : b < B) (hG : ∀ k, G k → k < B) (ho : OB w B v acc) (hB : B ≤ w.heap.size) (hs : small 1000000 t) (hl : (acc ++ apPart q_StreamsGroupDescribeRequest ver true t).length ≤ 40000000000000) (_hv0 : 0 ≤ ver) (_B1 : ¬ 1 ≤ ver) :
    Calls Tryz.prog 87 #[.pointer (some ⟨b, 0, none⟩), v] w fun e w' => ∃ v', e = .returned v' ∧ OB w' B v' (acc ++ apPart q_StreamsGroupDescribeRequest ver true t) ∧ Below B w w' := by
  obtain ⟨cs, tv, l, tg0, rfl, hf, hmp0, rfl⟩ : ∃ cs v l u, c = cs ++ [v] ∧ VFs w G q_StreamsGroupDescribeRequest cs l ∧ MP w G v u ∧ t = .mk 0 [] false l u := hv
  simp only [small] at hs
  obtain ⟨_, _, ht2_0, ht1_0, hsl⟩ := hs
  unfold q_StreamsGroupDescribeRequest at hf
  obtain ⟨c0_0, cr0_0, t0_0, l0_0, rfl, rfl, hf0_0, hr0_0⟩ := hf
  obtain ⟨c0_1, cr0_1, t0_1, l0_1, rfl, rfl, hf0_1, hr0_1⟩ := hr0_0
  obtain ⟨c0_2, cr0_2, t0_2, l0_2, rfl, rfl, hf0_2, hr0_2⟩ := hr0_1
  obtain ⟨rfl, rfl⟩ := hr0_2
  have hs0_0 : small 1000000 t0_0 := smalls_mem hsl _ (by simp)
  obtain ⟨v0_0, rfl, vl0_0⟩ := vf_list_inv hf0_0
  obtain ⟨nu0_0, css0_0, lx0_0, eq0_0, ev0_0, hrw0_0, hnil0_0, rfl⟩ := vl0_0
  obtain ⟨ao0_0, cp0_0, rfl, hcp0_0, hcn0_0⟩ := hrw0_0.shape
  rw [eq0_0] at hrw0_0 hcp0_0 hcn0_0 hnil0_0 hp
  have HEQ0_0 : Hid _ := eq0_0
  clear eq0_0
  obtain ⟨_, hll0_0, _, _, hsl0_0⟩ := hs0_0
  have hs0_1 : small 1000000 t0_1 := smalls_mem hsl _ (by simp)
  obtain ⟨n0_1, rfl, rfl⟩ := vf_bool_inv hf0_1
  have hs0_2 : small 1000000 t0_2 := smalls_mem hsl _ (by simp)
  obtain ⟨n0_2, rfl, rfl⟩ := vf_bool_inv hf0_2
  clear hf0_0
  clear hf0_1
  clear hf0_2
  simp only [List.cons_append, List.nil_append] at hp
  have cw0_0 : w.cell? ⟨b, 1, none⟩ = some _ := hp.cell (o := 1) (j := 0) rfl rfl
  have cw0_1 : w.cell? ⟨b, 2, none⟩ = some _ := hp.cell (o := 2) (j := 1) rfl rfl
  have heq : apPart q_StreamsGroupDescribeRequest ver true (.mk 0 [] false [(.mk 0 [] nu0_0 lx0_0 []), (.mk (if n0_1 then 1 else 0) [] false [] []), (.mk (if n0_2 then 1 else 0) [] false [] [])] tg0) = uvarP (lx0_0.length + 1) ++ (lx0_0.flatMap (apE 8 [] ver true) ++ ([if n0_1 then 1 else 0] ++ (uvarP tg0.length ++ ((tg0.map tagP).flatten ++ ([]))))) := by
    simp [apPart_flex, q_StreamsGroupDescribeRequest, apFs, apF_bool, apF_clist (show (-1 : Int) < 0 by decide), (has_yes (show (0 : Int) ≤ ver by omega) (.inl (by decide)) : F.has (.mk 11 0 (-1) (-1) (-1) 0 8 []) ver = true), (has_yes (show (0 : Int) ≤ ver by omega) (.inl (by decide)) : F.has (.mk 0 0 (-1) (-1) (-1) 0 0 []) ver = true), (has_no1 (show ¬ (1 : Int) ≤ ver by omega) : F.has (.mk 0 1 (-1) (-1) (-1) 0 0 []) ver = false)]
  rw [heq] at hl ⊢
  have h0 := ApSt.start ho hB hl
  obtain ⟨FF, hFF⟩ : ∃ x, x = acc ++ (uvarP (lx0_0.length + 1) ++ (lx0_0.flatMap (apE 8 [] ver true) ++ ([if n0_1 then 1 else 0] ++ (uvarP tg0.length ++ ((tg0.map tagP).flatten ++ ([])))))) := ⟨_, rfl⟩
  rw [← hFF] at h0 ⊢
  clear heq hl ho hFF
  go_enter Tryz.func87, Tryz.ntmps87
  go_wp2_with (first
    | (go_at_call 151; go_loud (refine (h0.cln hll0_0).mono ?_; rintro e w1 ⟨v1, rfl, h1⟩; clear h0)))
  have hd1 : ApSt w w1 B v1 FF ((lx0_0.drop 0).flatMap (apE 8 [] ver true) ++ ([if n0_1 then 1 else 0] ++ (uvarP tg0.length ++ ((tg0.map tagP).flatten ++ ([]))))) := by rw [List.drop_zero]; exact h1
  clear h1
  go_loopw [35, 8, 1] (fun k _ dv wr => ∃ j : Nat, k = .int .i64 (j : Int) ∧ j ≤ lx0_0.length ∧ ApSt w wr B dv FF ((lx0_0.drop j).flatMap (apE 8 [] ver true) ++ ([if n0_1 then 1 else 0] ++ (uvarP tg0.length ++ ((tg0.map tagP).flatten ++ ([])))))) (fun k _ _ _ => lx0_0.length - (intOf k).toNat)
  case atStart => exact ⟨0, rfl, Nat.zero_le _, hd1⟩
  case round =>
    clear hd1
    obtain ⟨wr2, rfl⟩ : ∃ x : World, x = wr := ⟨_, rfl⟩
    obtain ⟨j2, rfl, hj2, sc2⟩ := hrel
    by_cases hlt2 : j2 < lx0_0.length
    · have hjc : j2 < css0_0.length := by rw [HEQ0_0.out]; exact hlt2
      obtain ⟨row2, cap2, hsl, hcap2, hGr2, hpt2⟩ := hrw0_0.part (m := 1) HEQ0_0.out (fun c hc => by obtain ⟨q, hq, rfl⟩ := List.getElem_of_mem hc; exact (ev0_0 q (by rw [← HEQ0_0.out]; exact hq) hq).1) hjc
      simp only [Value.slice.injEq] at hsl
      obtain ⟨rfl, _, rfl⟩ := hsl
      have hrb2 : row2 < B := hG _ hGr2
      have hvj := (ev0_0 j2 hlt2 hjc).2
      have hsj := smalls_mem hsl0_0 _ (List.getElem_mem hlt2)
      rw [List.drop_eq_getElem_cons hlt2, List.flatMap_cons] at sc2
      generalize css0_0[j2] = cj at *
      generalize lx0_0[j2] = tj at *
      obtain ⟨n2, rfl, rfl⟩ := vk_str_inv hvj
      have hl2 : n2.length ≤ 1000000 := hsj.1
      have cw2 : w.cell? ⟨row2, j2, none⟩ = some _ := hpt2.cell (o := j2) (j := 0) (by simp) rfl
      rw [List.append_assoc, apE_cstr] at sc2
      have d2 := sc2.at_ cw2 hrb2
      go_wp2_with (first
        | (go_at_call 143; go_loud (refine (ApSt.cst sc2 hl2).mono ?_; rintro e w3 ⟨v3, rfl, h3⟩; clear sc2)))
      go_roundw
      case rel => exact ⟨j2 + 1, by go_num, by omega, h3⟩
      case measure => simp [intOf]; omega
    · rw [List.drop_of_length_le (by omega), List.flatMap_nil, List.nil_append] at sc2
      have d0_1 := sc2.at_ cw0_1 hb
      go_wp2_with (first
        | (go_at_call 146; go_loud (refine (sc2.bool).mono ?_; rintro e w4 ⟨v4, rfl, h4⟩; clear sc2))
        | (go_at_call 139; go_loud (refine (ApSt.tlen (i := 4) (j := 3) h4 hp rfl rfl hmp0 hb hG).mono ?_; rintro e wt ⟨rfl, rfl⟩))
        | (go_at_call 138; go_loud (refine (ApSt.uv h4 ht2_0).mono ?_; rintro e w5 ⟨v5, rfl, h5⟩; clear h4))
        | (go_at_call 140; go_loud (refine (ApSt.tg (i := 4) (j := 3) h5 hp rfl rfl hmp0 hb hG ht1_0).mono ?_; rintro e w6 ⟨v6, rfl, h6⟩; clear h5)))
      go_ret
      exact ⟨_, rfl, ApSt.done h6⟩
end Go.Proofs.YtobbchmjgoaleaaGreatDoor
