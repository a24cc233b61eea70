/-
  DeleteACLsRequest: writing.
-/
import Derived.Test.YtbdlilalihgdeaaGreatDoorMB16
import Derived.Test.YtbdlilalihgdeaaGreatDoorMDcl1
import Derived.Deep.CutBlock
namespace Go.Proofs.YtbdlilalihgdeaaGreatDoor
open Go.ChangeShapes Go.WideShapes Go.ChangeAt Go.RowKit

set_option maxHeartbeats 4000000 in
set_option maxRecDepth 100000 in
theorem dcl_app_2 {G : Nat → Prop} {b B : Nat} {c : List Value} {t : T} {w : World} {ver : Int} {v : Value} {acc : Bs} (hp : Pt w b 1 c) (_hver : w.cell? ⟨b, 0, none⟩ = some (.int .i16 ver)) (hv : VK w G 10 (-1) (VFs w G q_DeleteACLsRequest) c t) (hb : b < B) (hG : ∀ k, G k → k < B) (ho : OB w B v acc) (hB : B ≤ w.heap.size) (hs : small 1000000 t) (hl : (acc ++ apPart q_DeleteACLsRequest ver true t).length ≤ 40000000000000) (_hv0 : 0 ≤ ver) (_B1 : 1 ≤ ver) (_B2 : 2 ≤ ver) :
    Calls Tryz.prog 61 #[.pointer (some ⟨b, 0, none⟩), v] w fun e w' => ∃ v', e = .returned v' ∧ OB w' B v' (acc ++ apPart q_DeleteACLsRequest ver true t) ∧ Below B w w' := by
  obtain ⟨cs, tv, l, tg0, rfl, hf, hmp0, rfl⟩ : ∃ cs v l u, c = cs ++ [v] ∧ VFs w G q_DeleteACLsRequest cs l ∧ MP w G v u ∧ t = .mk 0 [] false l u := hv
  simp only [small] at hs
  obtain ⟨_, _, ht2_0, ht1_0, hsl⟩ := hs
  unfold q_DeleteACLsRequest at hf
  obtain ⟨c0_0, cr0_0, t0_0, l0_0, rfl, rfl, hf0_0, hr0_0⟩ := hf
  obtain ⟨rfl, rfl⟩ := hr0_0
  have hs0_0 : small 1000000 t0_0 := smalls_mem hsl _ (by simp)
  obtain ⟨v0_0, rfl, vl0_0⟩ := vf_list_inv hf0_0
  obtain ⟨nu0_0, css0_0, lx0_0, eq0_0, ev0_0, hrw0_0, hnil0_0, rfl⟩ := vl0_0
  obtain ⟨ao0_0, cp0_0, rfl, hcp0_0, hcn0_0⟩ := hrw0_0.shape
  rw [eq0_0] at hrw0_0 hcp0_0 hcn0_0 hnil0_0 hp
  have HEQ0_0 : Hid _ := eq0_0
  clear eq0_0
  obtain ⟨_, hll0_0, _, _, hsl0_0⟩ := hs0_0
  clear hf0_0
  simp only [List.cons_append, List.nil_append] at hp
  have cw0_0 : w.cell? ⟨b, 1, none⟩ = some _ := hp.cell (o := 1) (j := 0) rfl rfl
  have heq : apPart q_DeleteACLsRequest ver true (.mk 0 [] false [(.mk 0 [] nu0_0 lx0_0 [])] tg0) = uvarP (lx0_0.length + 1) ++ (lx0_0.flatMap (apE 10 q_DeleteACLsRequestFilter ver true) ++ (uvarP tg0.length ++ ((tg0.map tagP).flatten ++ ([])))) := by
    simp [apPart_flex, q_DeleteACLsRequest, apFs, apF_clist (show (-1 : Int) < 0 by decide), (has_yes (show (0 : Int) ≤ ver by omega) (.inl (by decide)) : F.has (.mk 11 0 (-1) (-1) (-1) 0 10 q_DeleteACLsRequestFilter) ver = true)]
  rw [heq] at hl ⊢
  have h0 := ApSt.start ho hB hl
  obtain ⟨FF, hFF⟩ : ∃ x, x = acc ++ (uvarP (lx0_0.length + 1) ++ (lx0_0.flatMap (apE 10 q_DeleteACLsRequestFilter ver true) ++ (uvarP tg0.length ++ ((tg0.map tagP).flatten ++ ([]))))) := ⟨_, rfl⟩
  rw [← hFF] at h0 ⊢
  clear heq hl ho hFF
  go_enter Tryz.func61, Tryz.ntmps61
  go_wp2_with (first
    | (go_at_call 116; go_loud (refine (h0.cln hll0_0).mono ?_; rintro e w1 ⟨v1, rfl, h1⟩; clear h0)))
  have hd1 : ApSt w w1 B v1 FF ((lx0_0.drop 0).flatMap (apE 10 q_DeleteACLsRequestFilter ver true) ++ (uvarP tg0.length ++ ((tg0.map tagP).flatten ++ ([])))) := by rw [List.drop_zero]; exact h1
  clear h1
  go_loopw [44, 8, 1] (fun k _ dv wr => ∃ j : Nat, k = .int .i64 (j : Int) ∧ j ≤ lx0_0.length ∧ ApSt w wr B dv FF ((lx0_0.drop j).flatMap (apE 10 q_DeleteACLsRequestFilter ver true) ++ (uvarP tg0.length ++ ((tg0.map tagP).flatten ++ ([]))))) (fun k _ _ _ => lx0_0.length - (intOf k).toNat)
  case atStart => exact ⟨0, rfl, Nat.zero_le _, hd1⟩
  case round =>
    clear hd1
    obtain ⟨wr2, rfl⟩ : ∃ x : World, x = wr := ⟨_, rfl⟩
    obtain ⟨j2, rfl, hj2, sc2⟩ := hrel
    by_cases hlt2 : j2 < lx0_0.length
    · have hjc : j2 < css0_0.length := by rw [HEQ0_0.out]; exact hlt2
      obtain ⟨row2, cap2, hsl, hcap2, hGr2, hpt2⟩ := hrw0_0.part (m := 8) HEQ0_0.out (fun c hc => by obtain ⟨q, hq, rfl⟩ := List.getElem_of_mem hc; exact (ev0_0 q (by rw [← HEQ0_0.out]; exact hq) hq).1) hjc
      simp only [Value.slice.injEq] at hsl
      obtain ⟨rfl, _, rfl⟩ := hsl
      have hrb2 : row2 < B := hG _ hGr2
      have hvj := (ev0_0 j2 hlt2 hjc).2
      have hsj := smalls_mem hsl0_0 _ (List.getElem_mem hlt2)
      rw [List.drop_eq_getElem_cons hlt2, List.flatMap_cons] at sc2
      generalize css0_0[j2] = cj at *
      generalize lx0_0[j2] = tj at *
      obtain ⟨cs2, tv2, l2, tg2, rfl, hf2, hmp2, rfl⟩ : ∃ cs v l u, cj = cs ++ [v] ∧ VFs w G q_DeleteACLsRequestFilter cs l ∧ MP w G v u ∧ tj = .mk 0 [] false l u := hvj
      simp only [small] at hsj
      obtain ⟨_, _, ht2_2, ht1_2, hsl2⟩ := hsj
      unfold q_DeleteACLsRequestFilter at hf2
      obtain ⟨c2_0, cr2_0, t2_0, l2_0, rfl, rfl, hf2_0, hr2_0⟩ := hf2
      obtain ⟨c2_1, cr2_1, t2_1, l2_1, rfl, rfl, hf2_1, hr2_1⟩ := hr2_0
      obtain ⟨c2_2, cr2_2, t2_2, l2_2, rfl, rfl, hf2_2, hr2_2⟩ := hr2_1
      obtain ⟨c2_3, cr2_3, t2_3, l2_3, rfl, rfl, hf2_3, hr2_3⟩ := hr2_2
      obtain ⟨c2_4, cr2_4, t2_4, l2_4, rfl, rfl, hf2_4, hr2_4⟩ := hr2_3
      obtain ⟨c2_5, cr2_5, t2_5, l2_5, rfl, rfl, hf2_5, hr2_5⟩ := hr2_4
      obtain ⟨c2_6, cr2_6, t2_6, l2_6, rfl, rfl, hf2_6, hr2_6⟩ := hr2_5
      obtain ⟨rfl, rfl⟩ := hr2_6
      have hs2_0 : small 1000000 t2_0 := smalls_mem hsl2 _ (by simp)
      obtain ⟨n2_0, rfl, ⟨ra2_0, rb2_0⟩, rfl⟩ := vf_i8_inv hf2_0
      have hs2_1 : small 1000000 t2_1 := smalls_mem hsl2 _ (by simp)
      obtain ⟨n2_1, o2_1, rfl, ps2_1, rfl⟩ := vf_nstr_inv (by decide) hf2_1
      have hl2_1 := small_text hs2_1
      have hs2_2 : small 1000000 t2_2 := smalls_mem hsl2 _ (by simp)
      obtain ⟨n2_2, rfl, ⟨ra2_2, rb2_2⟩, rfl⟩ := vf_i8_inv hf2_2
      have hs2_3 : small 1000000 t2_3 := smalls_mem hsl2 _ (by simp)
      obtain ⟨n2_3, o2_3, rfl, ps2_3, rfl⟩ := vf_nstr_inv (by decide) hf2_3
      have hl2_3 := small_text hs2_3
      have hs2_4 : small 1000000 t2_4 := smalls_mem hsl2 _ (by simp)
      obtain ⟨n2_4, o2_4, rfl, ps2_4, rfl⟩ := vf_nstr_inv (by decide) hf2_4
      have hl2_4 := small_text hs2_4
      have hs2_5 : small 1000000 t2_5 := smalls_mem hsl2 _ (by simp)
      obtain ⟨n2_5, rfl, ⟨ra2_5, rb2_5⟩, rfl⟩ := vf_i8_inv hf2_5
      have hs2_6 : small 1000000 t2_6 := smalls_mem hsl2 _ (by simp)
      obtain ⟨n2_6, rfl, ⟨ra2_6, rb2_6⟩, rfl⟩ := vf_i8_inv hf2_6
      clear hf2_0
      clear hf2_1
      clear hf2_2
      clear hf2_3
      clear hf2_4
      clear hf2_5
      clear hf2_6
      simp only [List.cons_append, List.nil_append] at hpt2
      have cw2_0 : w.cell? ⟨row2, j2 * 8, none⟩ = some _ := hpt2.cell (o := j2 * 8) (j := 0) rfl rfl
      have cw2_1 : w.cell? ⟨row2, j2 * 8 + 1, none⟩ = some _ := hpt2.cell (o := j2 * 8 + 1) (j := 1) rfl rfl
      have cw2_2 : w.cell? ⟨row2, j2 * 8 + 2, none⟩ = some _ := hpt2.cell (o := j2 * 8 + 2) (j := 2) rfl rfl
      have cw2_3 : w.cell? ⟨row2, j2 * 8 + 3, none⟩ = some _ := hpt2.cell (o := j2 * 8 + 3) (j := 3) rfl rfl
      have cw2_4 : w.cell? ⟨row2, j2 * 8 + 4, none⟩ = some _ := hpt2.cell (o := j2 * 8 + 4) (j := 4) rfl rfl
      have cw2_5 : w.cell? ⟨row2, j2 * 8 + 5, none⟩ = some _ := hpt2.cell (o := j2 * 8 + 5) (j := 5) rfl rfl
      have cw2_6 : w.cell? ⟨row2, j2 * 8 + 6, none⟩ = some _ := hpt2.cell (o := j2 * 8 + 6) (j := 6) rfl rfl
      have hel : apE 10 q_DeleteACLsRequestFilter ver true (.mk 0 [] false [(.mk n2_0 [] false [] []), (nstrT o2_1), (.mk n2_2 [] false [] []), (nstrT o2_3), (nstrT o2_4), (.mk n2_5 [] false [] []), (.mk n2_6 [] false [] [])] tg2) ++ ((lx0_0.drop (j2 + 1)).flatMap (apE 10 q_DeleteACLsRequestFilter ver true) ++ (uvarP tg0.length ++ ((tg0.map tagP).flatten ++ ([])))) = fixedP n2_0 1 ++ (cnstrP o2_1 ++ (fixedP n2_2 1 ++ (cnstrP o2_3 ++ (cnstrP o2_4 ++ (fixedP n2_5 1 ++ (fixedP n2_6 1 ++ (uvarP tg2.length ++ ((tg2.map tagP).flatten ++ ((lx0_0.drop (j2 + 1)).flatMap (apE 10 q_DeleteACLsRequestFilter ver true) ++ (uvarP tg0.length ++ ((tg0.map tagP).flatten ++ ([])))))))))))) := by
        simp [apE_cpart, q_DeleteACLsRequestFilter, apFs, apF_cnstr (show (0 : Int) ≤ 0 by decide) (show (0 : Int) ≤ ver by omega), apF_i8, (has_yes (show (0 : Int) ≤ ver by omega) (.inl (by decide)) : F.has (.mk 1 0 (-1) (-1) (-1) 0 0 []) ver = true), (has_yes (show (0 : Int) ≤ ver by omega) (.inl (by decide)) : F.has (.mk 8 0 (-1) 0 (-1) 0 0 []) ver = true), (has_yes (show (1 : Int) ≤ ver by omega) (.inl (by decide)) : F.has (.mk 1 1 (-1) (-1) (-1) 3 0 []) ver = true)]
      rw [List.append_assoc, hel] at sc2
      clear hel
      have d2_0 := sc2.at_ cw2_0 hrb2
      go_wp2_with (first
        | (go_at_call 130; go_loud (refine (sc2.i8).mono ?_; rintro e w3 ⟨v3, rfl, h3⟩; clear sc2; have d2_1 := h3.at_ cw2_1 hrb2))
        | (go_at_call 131; go_loud (refine (h3.cnst ps2_1 hG hl2_1).mono ?_; rintro e w4 ⟨v4, rfl, h4⟩; clear h3; have d2_2 := h4.at_ cw2_2 hrb2))
        | (go_at_call 130; go_loud (refine (h4.i8).mono ?_; rintro e w5 ⟨v5, rfl, h5⟩; clear h4; have d2_3 := h5.at_ cw2_3 hrb2))
        | (go_at_call 131; go_loud (refine (h5.cnst ps2_3 hG hl2_3).mono ?_; rintro e w6 ⟨v6, rfl, h6⟩; clear h5; have d2_4 := h6.at_ cw2_4 hrb2))
        | (go_at_call 131; go_loud (refine (h6.cnst ps2_4 hG hl2_4).mono ?_; rintro e w7 ⟨v7, rfl, h7⟩; clear h6; have d2_5 := h7.at_ cw2_5 hrb2))
        | (go_at_call 130; go_loud (refine (h7.i8).mono ?_; rintro e w8 ⟨v8, rfl, h8⟩; clear h7; have d2_6 := h8.at_ cw2_6 hrb2))
        | (go_at_call 130; go_loud (refine (h8.i8).mono ?_; rintro e w9 ⟨v9, rfl, h9⟩; clear h8))
        | (go_at_call 120; go_loud (refine (ApSt.tlen (i := j2 * 8 + 7) (j := 7) h9 hpt2 rfl rfl hmp2 hrb2 hG).mono ?_; rintro e wt ⟨rfl, rfl⟩))
        | (go_at_call 119; go_loud (refine (ApSt.uv h9 ht2_2).mono ?_; rintro e w10 ⟨v10, rfl, h10⟩; clear h9))
        | (go_at_call 121; go_loud (refine (ApSt.tg (i := j2 * 8 + 7) (j := 7) h10 hpt2 rfl rfl hmp2 hrb2 hG ht1_2).mono ?_; rintro e w11 ⟨v11, rfl, h11⟩; clear h10)))
      go_roundw
      case rel => exact ⟨j2 + 1, by go_num, by omega, h11⟩
      case measure => simp [intOf]; omega
    · rw [List.drop_of_length_le (by omega), List.flatMap_nil, List.nil_append] at sc2
      go_wp2_with (first
        | (go_at_call 120; go_loud (refine (ApSt.tlen (i := 2) (j := 1) sc2 hp rfl rfl hmp0 hb hG).mono ?_; rintro e wt ⟨rfl, rfl⟩))
        | (go_at_call 119; go_loud (refine (ApSt.uv sc2 ht2_0).mono ?_; rintro e w12 ⟨v12, rfl, h12⟩; clear sc2))
        | (go_at_call 121; go_loud (refine (ApSt.tg (i := 2) (j := 1) h12 hp rfl rfl hmp0 hb hG ht1_0).mono ?_; rintro e w13 ⟨v13, rfl, h13⟩; clear h12)))
      go_ret
      exact ⟨_, rfl, ApSt.done h13⟩
end Go.Proofs.YtbdlilalihgdeaaGreatDoor
