/-
  DescribeACLsRequest: writing.
-/
import Derived.Test.YtobbchmjgoaleaaGreatDoorMB17
import Derived.Test.YtobbchmjgoaleaaGreatDoorMDar1
import Derived.Deep.CutBlock
namespace Go.Proofs.YtobbchmjgoaleaaGreatDoor
open Go.ChangeShapes Go.WideShapes Go.ChangeAt Go.RowKit

set_option maxHeartbeats 4000000 in
set_option maxRecDepth 100000 in
theorem dar_app_1 {G : Nat → Prop} {b B : Nat} {c : List Value} {t : T} {w : World} {ver : Int} {v : Value} {acc : Bs} (hp : Pt w b 1 c) (_hver : w.cell? ⟨b, 0, none⟩ = some (.int .i16 ver)) (hv : VK w G 10 (-1) (VFs w G q_DescribeACLsRequest) c t) (hb : b < B) (hG : ∀ k, G k → k < B) (ho : OB w B v acc) (hB : B ≤ w.heap.size) (hs : small 1000000 t) (hl : (acc ++ apPart q_DescribeACLsRequest ver false t).length ≤ 17592186044416) (_hv0 : 0 ≤ ver) (_B1 : 1 ≤ ver) (_B2 : ¬ 2 ≤ ver) :
    Calls Tryz.prog 98 #[.pointer (some ⟨b, 0, none⟩), v] w fun e w' => ∃ v', e = .returned v' ∧ OB w' B v' (acc ++ apPart q_DescribeACLsRequest ver false t) ∧ Below B w w' := by
  obtain ⟨cs, tv, l, tg0, rfl, hf, hmp0, rfl⟩ : ∃ cs v l u, c = cs ++ [v] ∧ VFs w G q_DescribeACLsRequest cs l ∧ MP w G v u ∧ t = .mk 0 [] false l u := hv
  simp only [small] at hs
  obtain ⟨_, _, ht2_0, ht1_0, hsl⟩ := hs
  unfold q_DescribeACLsRequest at hf
  obtain ⟨c0_0, cr0_0, t0_0, l0_0, rfl, rfl, hf0_0, hr0_0⟩ := hf
  obtain ⟨c0_1, cr0_1, t0_1, l0_1, rfl, rfl, hf0_1, hr0_1⟩ := hr0_0
  obtain ⟨c0_2, cr0_2, t0_2, l0_2, rfl, rfl, hf0_2, hr0_2⟩ := hr0_1
  obtain ⟨c0_3, cr0_3, t0_3, l0_3, rfl, rfl, hf0_3, hr0_3⟩ := hr0_2
  obtain ⟨c0_4, cr0_4, t0_4, l0_4, rfl, rfl, hf0_4, hr0_4⟩ := hr0_3
  obtain ⟨c0_5, cr0_5, t0_5, l0_5, rfl, rfl, hf0_5, hr0_5⟩ := hr0_4
  obtain ⟨c0_6, cr0_6, t0_6, l0_6, rfl, rfl, hf0_6, hr0_6⟩ := hr0_5
  obtain ⟨rfl, rfl⟩ := hr0_6
  have hs0_0 : small 1000000 t0_0 := smalls_mem hsl _ (by simp)
  obtain ⟨n0_0, rfl, ⟨ra0_0, rb0_0⟩, rfl⟩ := vf_i8_inv hf0_0
  have hs0_1 : small 1000000 t0_1 := smalls_mem hsl _ (by simp)
  obtain ⟨n0_1, o0_1, rfl, ps0_1, rfl⟩ := vf_nstr_inv (by decide) hf0_1
  have hl0_1 := small_text hs0_1
  have hs0_2 : small 1000000 t0_2 := smalls_mem hsl _ (by simp)
  obtain ⟨n0_2, rfl, ⟨ra0_2, rb0_2⟩, rfl⟩ := vf_i8_inv hf0_2
  have hs0_3 : small 1000000 t0_3 := smalls_mem hsl _ (by simp)
  obtain ⟨n0_3, o0_3, rfl, ps0_3, rfl⟩ := vf_nstr_inv (by decide) hf0_3
  have hl0_3 := small_text hs0_3
  have hs0_4 : small 1000000 t0_4 := smalls_mem hsl _ (by simp)
  obtain ⟨n0_4, o0_4, rfl, ps0_4, rfl⟩ := vf_nstr_inv (by decide) hf0_4
  have hl0_4 := small_text hs0_4
  have hs0_5 : small 1000000 t0_5 := smalls_mem hsl _ (by simp)
  obtain ⟨n0_5, rfl, ⟨ra0_5, rb0_5⟩, rfl⟩ := vf_i8_inv hf0_5
  have hs0_6 : small 1000000 t0_6 := smalls_mem hsl _ (by simp)
  obtain ⟨n0_6, rfl, ⟨ra0_6, rb0_6⟩, rfl⟩ := vf_i8_inv hf0_6
  clear hf0_0 hf0_1 hf0_2 hf0_3 hf0_4 hf0_5 hf0_6
  simp only [List.cons_append, List.nil_append] at hp
  have cw0_0 : w.cell? ⟨b, 1, none⟩ = some _ := hp.cell (o := 1) (j := 0) rfl rfl
  have cw0_1 : w.cell? ⟨b, 2, none⟩ = some _ := hp.cell (o := 2) (j := 1) rfl rfl
  have cw0_2 : w.cell? ⟨b, 3, none⟩ = some _ := hp.cell (o := 3) (j := 2) rfl rfl
  have cw0_3 : w.cell? ⟨b, 4, none⟩ = some _ := hp.cell (o := 4) (j := 3) rfl rfl
  have cw0_4 : w.cell? ⟨b, 5, none⟩ = some _ := hp.cell (o := 5) (j := 4) rfl rfl
  have cw0_5 : w.cell? ⟨b, 6, none⟩ = some _ := hp.cell (o := 6) (j := 5) rfl rfl
  have cw0_6 : w.cell? ⟨b, 7, none⟩ = some _ := hp.cell (o := 7) (j := 6) rfl rfl
  have heq : apPart q_DescribeACLsRequest ver false (.mk 0 [] false [(.mk n0_0 [] false [] []), (nstrT o0_1), (.mk n0_2 [] false [] []), (nstrT o0_3), (nstrT o0_4), (.mk n0_5 [] false [] []), (.mk n0_6 [] false [] [])] tg0) = fixedP n0_0 1 ++ (nstrP o0_1 ++ (fixedP n0_2 1 ++ (nstrP o0_3 ++ (nstrP o0_4 ++ (fixedP n0_5 1 ++ (fixedP n0_6 1 ++ ([]))))))) := by
    simp [apPart_plain, q_DescribeACLsRequest, apFs, apF_i8, apF_nstr (show (0 : Int) ≤ 0 by decide) (show (0 : Int) ≤ ver by omega), (has_yes (show (0 : Int) ≤ ver by omega) (.inl (by decide)) : F.has (.mk 1 0 (-1) (-1) (-1) 0 0 []) ver = true), (has_yes (show (0 : Int) ≤ ver by omega) (.inl (by decide)) : F.has (.mk 8 0 (-1) 0 (-1) 0 0 []) ver = true), (has_yes (show (1 : Int) ≤ ver by omega) (.inl (by decide)) : F.has (.mk 1 1 (-1) (-1) (-1) 3 0 []) ver = true)]
  rw [heq] at hl ⊢
  have h0 := ApSt.start ho hB hl
  obtain ⟨FF, hFF⟩ : ∃ x, x = acc ++ (fixedP n0_0 1 ++ (nstrP o0_1 ++ (fixedP n0_2 1 ++ (nstrP o0_3 ++ (nstrP o0_4 ++ (fixedP n0_5 1 ++ (fixedP n0_6 1 ++ ([])))))))) := ⟨_, rfl⟩
  rw [← hFF] at h0 ⊢
  clear heq hl ho hFF
  go_enter Tryz.func98, Tryz.ntmps98
  go_wp2_with (first
    | (go_at_call 163; go_loud (refine (h0.i8).mono ?_; rintro e w1 ⟨v1, rfl, h1⟩; clear h0; have d0_1 := h1.at_ cw0_1 hb))
    | (go_at_call 137; go_loud (refine (h1.nst ps0_1 hG hl0_1).mono ?_; rintro e w2 ⟨v2, rfl, h2⟩; clear h1; have d0_2 := h2.at_ cw0_2 hb))
    | (go_at_call 163; go_loud (refine (h2.i8).mono ?_; rintro e w3 ⟨v3, rfl, h3⟩; clear h2; have d0_3 := h3.at_ cw0_3 hb))
    | (go_at_call 137; go_loud (refine (h3.nst ps0_3 hG hl0_3).mono ?_; rintro e w4 ⟨v4, rfl, h4⟩; clear h3; have d0_4 := h4.at_ cw0_4 hb))
    | (go_at_call 137; go_loud (refine (h4.nst ps0_4 hG hl0_4).mono ?_; rintro e w5 ⟨v5, rfl, h5⟩; clear h4; have d0_5 := h5.at_ cw0_5 hb))
    | (go_at_call 163; go_loud (refine (h5.i8).mono ?_; rintro e w6 ⟨v6, rfl, h6⟩; clear h5; have d0_6 := h6.at_ cw0_6 hb))
    | (go_at_call 163; go_loud (refine (h6.i8).mono ?_; rintro e w7 ⟨v7, rfl, h7⟩; clear h6)))
  go_ret
  exact ⟨_, rfl, ApSt.done h7⟩
end Go.Proofs.YtobbchmjgoaleaaGreatDoor
