/-
  DescribeShareGroupOffsetsRequest: writing.
-/
import Derived.Test.YtobbchmjgoaleaaGreatDoorMB16
import Derived.Test.YtobbchmjgoaleaaGreatDoorMDsg1
import Derived.Deep.CutBlock
namespace Go.Proofs.YtobbchmjgoaleaaGreatDoor
open Go.ChangeShapes Go.WideShapes Go.ChangeAt Go.RowKit

set_option maxHeartbeats 4000000 in
set_option maxRecDepth 100000 in
theorem dsg_app_0 {G : Nat → Prop} {b B : Nat} {c : List Value} {t : T} {w : World} {ver : Int} {v : Value} {acc : Bs} (hp : Pt w b 1 c) (_hver : w.cell? ⟨b, 0, none⟩ = some (.int .i16 ver)) (hv : VK w G 10 (-1) (VFs w G q_DescribeShareGroupOffsetsRequest) c t) (hb : b < B) (hG : ∀ k, G k → k < B) (ho : OB w B v acc) (hB : B ≤ w.heap.size) (hs : small 1000000 t) (hl : (acc ++ apPart q_DescribeShareGroupOffsetsRequest ver true t).length ≤ 40000000000000) (_hv0 : 0 ≤ ver)  :
    Calls Tryz.prog 122 #[.pointer (some ⟨b, 0, none⟩), v] w fun e w' => ∃ v', e = .returned v' ∧ OB w' B v' (acc ++ apPart q_DescribeShareGroupOffsetsRequest ver true t) ∧ Below B w w' := by
  obtain ⟨cs, tv, l, tg0, rfl, hf, hmp0, rfl⟩ : ∃ cs v l u, c = cs ++ [v] ∧ VFs w G q_DescribeShareGroupOffsetsRequest cs l ∧ MP w G v u ∧ t = .mk 0 [] false l u := hv
  simp only [small] at hs
  obtain ⟨_, _, ht2_0, ht1_0, hsl⟩ := hs
  unfold q_DescribeShareGroupOffsetsRequest at hf
  obtain ⟨c0_0, cr0_0, t0_0, l0_0, rfl, rfl, hf0_0, hr0_0⟩ := hf
  obtain ⟨rfl, rfl⟩ := hr0_0
  have hs0_0 : small 1000000 t0_0 := smalls_mem hsl _ (by simp)
  obtain ⟨v0_0, rfl, vl0_0⟩ := vf_list_inv hf0_0
  obtain ⟨nu0_0, css0_0, lx0_0, eq0_0, ev0_0, hrw0_0, hnil0_0, rfl⟩ := vl0_0
  obtain ⟨ao0_0, cp0_0, rfl, hcp0_0, hcn0_0⟩ := hrw0_0.shape
  rw [eq0_0] at hrw0_0 hcp0_0 hcn0_0 hnil0_0 hp
  have HEQ0_0 : Hid _ := eq0_0
  clear eq0_0
  obtain ⟨_, hll0_0, _, _, hsl0_0⟩ := hs0_0
  clear hf0_0
  simp only [List.cons_append, List.nil_append] at hp
  have cw0_0 : w.cell? ⟨b, 1, none⟩ = some _ := hp.cell (o := 1) (j := 0) rfl rfl
  have heq : apPart q_DescribeShareGroupOffsetsRequest ver true (.mk 0 [] false [(.mk 0 [] nu0_0 lx0_0 [])] tg0) = uvarP (lx0_0.length + 1) ++ (lx0_0.flatMap (apE 10 q_DescribeShareGroupOffsetsRequestGroup ver true) ++ (uvarP tg0.length ++ ((tg0.map tagP).flatten ++ ([])))) := by
    simp [apPart_flex, q_DescribeShareGroupOffsetsRequest, apFs, apF_clist (show (-1 : Int) < 0 by decide), (has_yes (show (0 : Int) ≤ ver by omega) (.inl (by decide)) : F.has (.mk 11 0 (-1) (-1) (-1) 0 10 q_DescribeShareGroupOffsetsRequestGroup) ver = true)]
  rw [heq] at hl ⊢
  have h0 := ApSt.start ho hB hl
  obtain ⟨FF, hFF⟩ : ∃ x, x = acc ++ (uvarP (lx0_0.length + 1) ++ (lx0_0.flatMap (apE 10 q_DescribeShareGroupOffsetsRequestGroup ver true) ++ (uvarP tg0.length ++ ((tg0.map tagP).flatten ++ ([]))))) := ⟨_, rfl⟩
  rw [← hFF] at h0 ⊢
  clear heq hl ho hFF
  go_enter Tryz.func122, Tryz.ntmps122
  go_wp2_with (first
    | (go_at_call 151; go_loud (refine (h0.cln hll0_0).mono ?_; rintro e w1 ⟨v1, rfl, h1⟩; clear h0)))
  have hd1 : ApSt w w1 B v1 FF ((lx0_0.drop 0).flatMap (apE 10 q_DescribeShareGroupOffsetsRequestGroup ver true) ++ (uvarP tg0.length ++ ((tg0.map tagP).flatten ++ ([])))) := by rw [List.drop_zero]; exact h1
  clear h1
  go_loopw [41, 8, 1] (fun k _ dv wr => ∃ j : Nat, k = .int .i64 (j : Int) ∧ j ≤ lx0_0.length ∧ ApSt w wr B dv FF ((lx0_0.drop j).flatMap (apE 10 q_DescribeShareGroupOffsetsRequestGroup ver true) ++ (uvarP tg0.length ++ ((tg0.map tagP).flatten ++ ([]))))) (fun k _ _ _ => lx0_0.length - (intOf k).toNat)
  case atStart => exact ⟨0, rfl, Nat.zero_le _, hd1⟩
  case round =>
    clear hd1
    obtain ⟨wr2, rfl⟩ : ∃ x : World, x = wr := ⟨_, rfl⟩
    obtain ⟨j2, rfl, hj2, sc2⟩ := hrel
    by_cases hlt2 : j2 < lx0_0.length
    · have hjc : j2 < css0_0.length := by rw [HEQ0_0.out]; exact hlt2
      obtain ⟨row2, cap2, hsl, hcap2, hGr2, hpt2⟩ := hrw0_0.part (m := 3) HEQ0_0.out (fun c hc => by obtain ⟨q, hq, rfl⟩ := List.getElem_of_mem hc; exact (ev0_0 q (by rw [← HEQ0_0.out]; exact hq) hq).1) hjc
      simp only [Value.slice.injEq] at hsl
      obtain ⟨rfl, _, rfl⟩ := hsl
      have hrb2 : row2 < B := hG _ hGr2
      have hvj := (ev0_0 j2 hlt2 hjc).2
      have hsj := smalls_mem hsl0_0 _ (List.getElem_mem hlt2)
      rw [List.drop_eq_getElem_cons hlt2, List.flatMap_cons] at sc2
      generalize css0_0[j2] = cj at *
      generalize lx0_0[j2] = tj at *
      obtain ⟨cs2, tv2, l2, tg2, rfl, hf2, hmp2, rfl⟩ : ∃ cs v l u, cj = cs ++ [v] ∧ VFs w G q_DescribeShareGroupOffsetsRequestGroup cs l ∧ MP w G v u ∧ tj = .mk 0 [] false l u := hvj
      simp only [small] at hsj
      obtain ⟨_, _, ht2_2, ht1_2, hsl2⟩ := hsj
      unfold q_DescribeShareGroupOffsetsRequestGroup at hf2
      obtain ⟨c2_0, cr2_0, t2_0, l2_0, rfl, rfl, hf2_0, hr2_0⟩ := hf2
      obtain ⟨c2_1, cr2_1, t2_1, l2_1, rfl, rfl, hf2_1, hr2_1⟩ := hr2_0
      obtain ⟨rfl, rfl⟩ := hr2_1
      have hs2_0 : small 1000000 t2_0 := smalls_mem hsl2 _ (by simp)
      obtain ⟨n2_0, rfl, rfl⟩ := vf_str_inv (by decide) hf2_0
      have hl2_0 : n2_0.length ≤ 1000000 := hs2_0.1
      have hs2_1 : small 1000000 t2_1 := smalls_mem hsl2 _ (by simp)
      obtain ⟨v2_1, rfl, vl2_1⟩ := vf_list_inv hf2_1
      obtain ⟨nu2_1, css2_1, lx2_1, eq2_1, ev2_1, hrw2_1, hnil2_1, rfl⟩ := vl2_1
      obtain ⟨ao2_1, cp2_1, rfl, hcp2_1, hcn2_1⟩ := hrw2_1.shape
      rw [eq2_1] at hrw2_1 hcp2_1 hcn2_1 hnil2_1 hpt2
      have HEQ2_1 : Hid _ := eq2_1
      clear eq2_1
      obtain ⟨_, hll2_1, _, _, hsl2_1⟩ := hs2_1
      clear hf2_0
      clear hf2_1
      simp only [List.cons_append, List.nil_append] at hpt2
      have cw2_0 : w.cell? ⟨row2, j2 * 3, none⟩ = some _ := hpt2.cell (o := j2 * 3) (j := 0) rfl rfl
      have cw2_1 : w.cell? ⟨row2, j2 * 3 + 1, none⟩ = some _ := hpt2.cell (o := j2 * 3 + 1) (j := 1) rfl rfl
      have hel : apE 10 q_DescribeShareGroupOffsetsRequestGroup ver true (.mk 0 [] false [(.mk 0 n2_0 false [] []), (.mk 0 [] nu2_1 lx2_1 [])] tg2) ++ ((lx0_0.drop (j2 + 1)).flatMap (apE 10 q_DescribeShareGroupOffsetsRequestGroup ver true) ++ (uvarP tg0.length ++ ((tg0.map tagP).flatten ++ ([])))) = (uvarP (n2_0.length + 1) ++ n2_0) ++ ((if nu2_1 then [0] else uvarP (lx2_1.length + 1)) ++ (lx2_1.flatMap (apE 10 q_DescribeShareGroupOffsetsRequestGroupTopic ver true) ++ (uvarP tg2.length ++ ((tg2.map tagP).flatten ++ ((lx0_0.drop (j2 + 1)).flatMap (apE 10 q_DescribeShareGroupOffsetsRequestGroup ver true) ++ (uvarP tg0.length ++ ((tg0.map tagP).flatten ++ ([])))))))) := by
        simp [apE_cpart, q_DescribeShareGroupOffsetsRequestGroup, apFs, apF_cnlist (show (0 : Int) ≤ 0 by decide) (show (0 : Int) ≤ ver by omega), apF_cstr, (has_yes (show (0 : Int) ≤ ver by omega) (.inl (by decide)) : F.has (.mk 8 0 (-1) (-1) (-1) 0 0 []) ver = true), (has_yes (show (0 : Int) ≤ ver by omega) (.inl (by decide)) : F.has (.mk 11 0 (-1) 0 (-1) 0 10 q_DescribeShareGroupOffsetsRequestGroupTopic) ver = true)]
      rw [List.append_assoc, hel] at sc2
      clear hel
      have d2_0 := sc2.at_ cw2_0 hrb2
      have EQN : ∀ u, (Sem.run Tryz.prog (binOp .eql 160 (.slice ao2_1 lx2_1.length cp2_1) (.slice none 0 0)) u) = .ok (.bool nu2_1) u := by
        intro u
        cases ao2_1 with
        | none =>
          obtain ⟨z1, z2⟩ := hcn2_1 rfl
          rw [show nu2_1 = true from hnil2_1.1 (by rw [z1, z2]), z1, z2]
          exact Lib.run_eql_slice_nil u 160 166 none 0 0 0 0 Tryz.underlying160
        | some a =>
          have hf : nu2_1 = false := by
            cases hn : nu2_1 with
            | true => exact absurd (hnil2_1.2 hn) (by simp)
            | false => rfl
          rw [hf]
          exact Lib.run_eql_slice_nil u 160 166 (some a) lx2_1.length cp2_1 0 0 Tryz.underlying160
      go_wp2_with (first
        | (go_at_call 143; go_loud (refine (sc2.cst hl2_0).mono ?_; rintro e w3 ⟨v3, rfl, h3⟩; clear sc2; have d2_1 := h3.at_ cw2_1 hrb2))
        | (go_at_call 155; go_loud (refine (h3.cnln hll2_1).mono ?_; rintro e w4 ⟨v4, rfl, h4⟩; clear h3)))
      clear EQN
      have hd4 : ApSt w w4 B v4 FF ((lx2_1.drop 0).flatMap (apE 10 q_DescribeShareGroupOffsetsRequestGroupTopic ver true) ++ (uvarP tg2.length ++ ((tg2.map tagP).flatten ++ ((lx0_0.drop (j2 + 1)).flatMap (apE 10 q_DescribeShareGroupOffsetsRequestGroup ver true) ++ (uvarP tg0.length ++ ((tg0.map tagP).flatten ++ ([]))))))) := by rw [List.drop_zero]; exact h4
      clear h4
      go_loopw [77, 12, 1] (fun k _ dv wr => ∃ j : Nat, k = .int .i64 (j : Int) ∧ j ≤ lx2_1.length ∧ ApSt w wr B dv FF ((lx2_1.drop j).flatMap (apE 10 q_DescribeShareGroupOffsetsRequestGroupTopic ver true) ++ (uvarP tg2.length ++ ((tg2.map tagP).flatten ++ ((lx0_0.drop (j2 + 1)).flatMap (apE 10 q_DescribeShareGroupOffsetsRequestGroup ver true) ++ (uvarP tg0.length ++ ((tg0.map tagP).flatten ++ ([])))))))) (fun k _ _ _ => lx2_1.length - (intOf k).toNat)
      case atStart => exact ⟨0, rfl, Nat.zero_le _, hd4⟩
      case round =>
        clear hd4
        obtain ⟨wr5, rfl⟩ : ∃ x : World, x = wr := ⟨_, rfl⟩
        obtain ⟨j5, rfl, hj5, sc5⟩ := hrel
        by_cases hlt5 : j5 < lx2_1.length
        · have hjc : j5 < css2_1.length := by rw [HEQ2_1.out]; exact hlt5
          obtain ⟨row5, cap5, hsl, hcap5, hGr5, hpt5⟩ := hrw2_1.part (m := 3) HEQ2_1.out (fun c hc => by obtain ⟨q, hq, rfl⟩ := List.getElem_of_mem hc; exact (ev2_1 q (by rw [← HEQ2_1.out]; exact hq) hq).1) hjc
          simp only [Value.slice.injEq] at hsl
          obtain ⟨rfl, _, rfl⟩ := hsl
          have hrb5 : row5 < B := hG _ hGr5
          have hvj := (ev2_1 j5 hlt5 hjc).2
          have hsj := smalls_mem hsl2_1 _ (List.getElem_mem hlt5)
          rw [List.drop_eq_getElem_cons hlt5, List.flatMap_cons] at sc5
          generalize css2_1[j5] = cj at *
          generalize lx2_1[j5] = tj at *
          obtain ⟨cs5, tv5, l5, tg5, rfl, hf5, hmp5, rfl⟩ : ∃ cs v l u, cj = cs ++ [v] ∧ VFs w G q_DescribeShareGroupOffsetsRequestGroupTopic cs l ∧ MP w G v u ∧ tj = .mk 0 [] false l u := hvj
          simp only [small] at hsj
          obtain ⟨_, _, ht2_5, ht1_5, hsl5⟩ := hsj
          unfold q_DescribeShareGroupOffsetsRequestGroupTopic at hf5
          obtain ⟨c5_0, cr5_0, t5_0, l5_0, rfl, rfl, hf5_0, hr5_0⟩ := hf5
          obtain ⟨c5_1, cr5_1, t5_1, l5_1, rfl, rfl, hf5_1, hr5_1⟩ := hr5_0
          obtain ⟨rfl, rfl⟩ := hr5_1
          have hs5_0 : small 1000000 t5_0 := smalls_mem hsl5 _ (by simp)
          obtain ⟨n5_0, rfl, rfl⟩ := vf_str_inv (by decide) hf5_0
          have hl5_0 : n5_0.length ≤ 1000000 := hs5_0.1
          have hs5_1 : small 1000000 t5_1 := smalls_mem hsl5 _ (by simp)
          obtain ⟨v5_1, rfl, vl5_1⟩ := vf_list_inv hf5_1
          obtain ⟨nu5_1, css5_1, lx5_1, eq5_1, ev5_1, hrw5_1, hnil5_1, rfl⟩ := vl5_1
          obtain ⟨ao5_1, cp5_1, rfl, hcp5_1, hcn5_1⟩ := hrw5_1.shape
          rw [eq5_1] at hrw5_1 hcp5_1 hcn5_1 hnil5_1 hpt5
          have HEQ5_1 : Hid _ := eq5_1
          clear eq5_1
          obtain ⟨_, hll5_1, _, _, hsl5_1⟩ := hs5_1
          clear hf5_0
          clear hf5_1
          simp only [List.cons_append, List.nil_append] at hpt5
          have cw5_0 : w.cell? ⟨row5, j5 * 3, none⟩ = some _ := hpt5.cell (o := j5 * 3) (j := 0) rfl rfl
          have cw5_1 : w.cell? ⟨row5, j5 * 3 + 1, none⟩ = some _ := hpt5.cell (o := j5 * 3 + 1) (j := 1) rfl rfl
          have hel : apE 10 q_DescribeShareGroupOffsetsRequestGroupTopic ver true (.mk 0 [] false [(.mk 0 n5_0 false [] []), (.mk 0 [] nu5_1 lx5_1 [])] tg5) ++ ((lx2_1.drop (j5 + 1)).flatMap (apE 10 q_DescribeShareGroupOffsetsRequestGroupTopic ver true) ++ (uvarP tg2.length ++ ((tg2.map tagP).flatten ++ ((lx0_0.drop (j2 + 1)).flatMap (apE 10 q_DescribeShareGroupOffsetsRequestGroup ver true) ++ (uvarP tg0.length ++ ((tg0.map tagP).flatten ++ ([]))))))) = (uvarP (n5_0.length + 1) ++ n5_0) ++ (uvarP (lx5_1.length + 1) ++ (lx5_1.flatMap (apE 3 [] ver true) ++ (uvarP tg5.length ++ ((tg5.map tagP).flatten ++ ((lx2_1.drop (j5 + 1)).flatMap (apE 10 q_DescribeShareGroupOffsetsRequestGroupTopic ver true) ++ (uvarP tg2.length ++ ((tg2.map tagP).flatten ++ ((lx0_0.drop (j2 + 1)).flatMap (apE 10 q_DescribeShareGroupOffsetsRequestGroup ver true) ++ (uvarP tg0.length ++ ((tg0.map tagP).flatten ++ ([]))))))))))) := by
            simp [apE_cpart, q_DescribeShareGroupOffsetsRequestGroupTopic, apFs, apF_clist (show (-1 : Int) < 0 by decide), apF_cstr, (has_yes (show (0 : Int) ≤ ver by omega) (.inl (by decide)) : F.has (.mk 8 0 (-1) (-1) (-1) 0 0 []) ver = true), (has_yes (show (0 : Int) ≤ ver by omega) (.inl (by decide)) : F.has (.mk 11 0 (-1) (-1) (-1) 0 3 []) ver = true)]
          rw [List.append_assoc, hel] at sc5
          clear hel
          have d5_0 := sc5.at_ cw5_0 hrb5
          go_wp2_with (first
            | (go_at_call 143; go_loud (refine (sc5.cst hl5_0).mono ?_; rintro e w6 ⟨v6, rfl, h6⟩; clear sc5; have d5_1 := h6.at_ cw5_1 hrb5))
            | (go_at_call 151; go_loud (refine (h6.cln hll5_1).mono ?_; rintro e w7 ⟨v7, rfl, h7⟩; clear h6)))
          have hd7 : ApSt w w7 B v7 FF ((lx5_1.drop 0).flatMap (apE 3 [] ver true) ++ (uvarP tg5.length ++ ((tg5.map tagP).flatten ++ ((lx2_1.drop (j5 + 1)).flatMap (apE 10 q_DescribeShareGroupOffsetsRequestGroupTopic ver true) ++ (uvarP tg2.length ++ ((tg2.map tagP).flatten ++ ((lx0_0.drop (j2 + 1)).flatMap (apE 10 q_DescribeShareGroupOffsetsRequestGroup ver true) ++ (uvarP tg0.length ++ ((tg0.map tagP).flatten ++ ([])))))))))) := by rw [List.drop_zero]; exact h7
          clear h7
          go_loopw [109, 16, 1] (fun k _ dv wr => ∃ j : Nat, k = .int .i64 (j : Int) ∧ j ≤ lx5_1.length ∧ ApSt w wr B dv FF ((lx5_1.drop j).flatMap (apE 3 [] ver true) ++ (uvarP tg5.length ++ ((tg5.map tagP).flatten ++ ((lx2_1.drop (j5 + 1)).flatMap (apE 10 q_DescribeShareGroupOffsetsRequestGroupTopic ver true) ++ (uvarP tg2.length ++ ((tg2.map tagP).flatten ++ ((lx0_0.drop (j2 + 1)).flatMap (apE 10 q_DescribeShareGroupOffsetsRequestGroup ver true) ++ (uvarP tg0.length ++ ((tg0.map tagP).flatten ++ ([]))))))))))) (fun k _ _ _ => lx5_1.length - (intOf k).toNat)
          case atStart => exact ⟨0, rfl, Nat.zero_le _, hd7⟩
          case round =>
            clear hd7
            obtain ⟨wr8, rfl⟩ : ∃ x : World, x = wr := ⟨_, rfl⟩
            obtain ⟨j8, rfl, hj8, sc8⟩ := hrel
            by_cases hlt8 : j8 < lx5_1.length
            · have hjc : j8 < css5_1.length := by rw [HEQ5_1.out]; exact hlt8
              obtain ⟨row8, cap8, hsl, hcap8, hGr8, hpt8⟩ := hrw5_1.part (m := 1) HEQ5_1.out (fun c hc => by obtain ⟨q, hq, rfl⟩ := List.getElem_of_mem hc; exact (ev5_1 q (by rw [← HEQ5_1.out]; exact hq) hq).1) hjc
              simp only [Value.slice.injEq] at hsl
              obtain ⟨rfl, _, rfl⟩ := hsl
              have hrb8 : row8 < B := hG _ hGr8
              have hvj := (ev5_1 j8 hlt8 hjc).2
              have hsj := smalls_mem hsl5_1 _ (List.getElem_mem hlt8)
              rw [List.drop_eq_getElem_cons hlt8, List.flatMap_cons] at sc8
              generalize css5_1[j8] = cj at *
              generalize lx5_1[j8] = tj at *
              obtain ⟨n8, rfl, ⟨ra8, rb8⟩, rfl⟩ := vk_i32_inv hvj
              have cw8 : w.cell? ⟨row8, j8, none⟩ = some _ := hpt8.cell (o := j8) (j := 0) (by simp) rfl
              rw [List.append_assoc, apE_i32] at sc8
              have d8 := sc8.at_ cw8 hrb8
              go_wp2_with (first
                | (go_at_call 134; go_loud (refine (ApSt.i32 sc8).mono ?_; rintro e w9 ⟨v9, rfl, h9⟩; clear sc8)))
              go_roundw
              case rel => exact ⟨j8 + 1, by go_num, by omega, h9⟩
              case measure => simp [intOf]; omega
            · rw [List.drop_of_length_le (by omega), List.flatMap_nil, List.nil_append] at sc8
              go_wp2_with (first
                | (go_at_call 139; go_loud (refine (ApSt.tlen (i := j5 * 3 + 2) (j := 2) sc8 hpt5 rfl rfl hmp5 hrb5 hG).mono ?_; rintro e wt ⟨rfl, rfl⟩))
                | (go_at_call 138; go_loud (refine (ApSt.uv sc8 ht2_5).mono ?_; rintro e w10 ⟨v10, rfl, h10⟩; clear sc8))
                | (go_at_call 140; go_loud (refine (ApSt.tg (i := j5 * 3 + 2) (j := 2) h10 hpt5 rfl rfl hmp5 hrb5 hG ht1_5).mono ?_; rintro e w11 ⟨v11, rfl, h11⟩; clear h10)))
              go_roundw
              case rel => exact ⟨j5 + 1, by go_num, by omega, h11⟩
              case measure => simp [intOf]; omega
        · rw [List.drop_of_length_le (by omega), List.flatMap_nil, List.nil_append] at sc5
          go_wp2_with (first
            | (go_at_call 139; go_loud (refine (ApSt.tlen (i := j2 * 3 + 2) (j := 2) sc5 hpt2 rfl rfl hmp2 hrb2 hG).mono ?_; rintro e wt ⟨rfl, rfl⟩))
            | (go_at_call 138; go_loud (refine (ApSt.uv sc5 ht2_2).mono ?_; rintro e w12 ⟨v12, rfl, h12⟩; clear sc5))
            | (go_at_call 140; go_loud (refine (ApSt.tg (i := j2 * 3 + 2) (j := 2) h12 hpt2 rfl rfl hmp2 hrb2 hG ht1_2).mono ?_; rintro e w13 ⟨v13, rfl, h13⟩; clear h12)))
          go_roundw
          case rel => exact ⟨j2 + 1, by go_num, by omega, h13⟩
          case measure => simp [intOf]; omega
    · rw [List.drop_of_length_le (by omega), List.flatMap_nil, List.nil_append] at sc2
      go_wp2_with (first
        | (go_at_call 139; go_loud (refine (ApSt.tlen (i := 2) (j := 1) sc2 hp rfl rfl hmp0 hb hG).mono ?_; rintro e wt ⟨rfl, rfl⟩))
        | (go_at_call 138; go_loud (refine (ApSt.uv sc2 ht2_0).mono ?_; rintro e w14 ⟨v14, rfl, h14⟩; clear sc2))
        | (go_at_call 140; go_loud (refine (ApSt.tg (i := 2) (j := 1) h14 hp rfl rfl hmp0 hb hG ht1_0).mono ?_; rintro e w15 ⟨v15, rfl, h15⟩; clear h14)))
      go_ret
      exact ⟨_, rfl, ApSt.done h15⟩
end Go.Proofs.YtobbchmjgoaleaaGreatDoor
