/-
  MetadataRequest: writing.
-/
import Derived.Test.YtalogafpnfnohaaGreatDoorMB16
import Derived.Test.YtalogafpnfnohaaGreatDoorMMdr1
import Derived.Deep.CutBlock
namespace Go.Proofs.YtalogafpnfnohaaGreatDoor
open Go.ChangeShapes Go.WideShapes Go.ChangeAt Go.RowKit

set_option maxHeartbeats 40000000 in
set_option maxRecDepth 100000 in
theorem mdr_app_5 {G : Nat → Prop} {b B : Nat} {c : List Value} {t : T} {w : World} {ver : Int} {v : Value} {acc : Bs} (hp : Pt w b 1 c) (_hver : w.cell? ⟨b, 0, none⟩ = some (.int .i16 ver)) (hv : VK w G 10 (-1) (VFs w G q_MetadataRequest) c t) (hb : b < B) (hG : ∀ k, G k → k < B) (ho : OB w B v acc) (hB : B ≤ w.heap.size) (hs : small 1000000 t) (hl : (acc ++ apPart q_MetadataRequest ver true t).length ≤ 40000000000000) (_hv0 : 0 ≤ ver) (_B1 : 1 ≤ ver) (_B4 : 4 ≤ ver) (_B8 : 8 ≤ ver) (_B9 : 9 ≤ ver) (_B10 : 10 ≤ ver) (_B11 : ¬ 11 ≤ ver) :
    Calls Tryz.prog 63 #[.pointer (some ⟨b, 0, none⟩), v] w fun e w' => ∃ v', e = .returned v' ∧ OB w' B v' (acc ++ apPart q_MetadataRequest ver true t) ∧ Below B w w' := by
  obtain ⟨cs, tv, l, tg0, rfl, hf, hmp0, rfl⟩ : ∃ cs v l u, c = cs ++ [v] ∧ VFs w G q_MetadataRequest cs l ∧ MP w G v u ∧ t = .mk 0 [] false l u := hv
  simp only [small] at hs
  obtain ⟨_, _, ht2_0, ht1_0, hsl⟩ := hs
  unfold q_MetadataRequest at hf
  obtain ⟨c0_0, cr0_0, t0_0, l0_0, rfl, rfl, hf0_0, hr0_0⟩ := hf
  obtain ⟨c0_1, cr0_1, t0_1, l0_1, rfl, rfl, hf0_1, hr0_1⟩ := hr0_0
  obtain ⟨c0_2, cr0_2, t0_2, l0_2, rfl, rfl, hf0_2, hr0_2⟩ := hr0_1
  obtain ⟨c0_3, cr0_3, t0_3, l0_3, rfl, rfl, hf0_3, hr0_3⟩ := hr0_2
  obtain ⟨rfl, rfl⟩ := hr0_3
  have hs0_0 : small 1000000 t0_0 := smalls_mem hsl _ (by simp)
  obtain ⟨v0_0, rfl, vl0_0⟩ := vf_list_inv hf0_0
  obtain ⟨nu0_0, css0_0, lx0_0, eq0_0, ev0_0, hrw0_0, hnil0_0, rfl⟩ := vl0_0
  obtain ⟨ao0_0, cp0_0, rfl, hcp0_0, hcn0_0⟩ := hrw0_0.shape
  rw [eq0_0] at hrw0_0 hcp0_0 hcn0_0 hnil0_0 hp
  have HEQ0_0 : Hid _ := eq0_0
  clear eq0_0
  obtain ⟨_, hll0_0, _, _, hsl0_0⟩ := hs0_0
  have hs0_1 : small 1000000 t0_1 := smalls_mem hsl _ (by simp)
  obtain ⟨n0_1, rfl, rfl⟩ := vf_bool_inv hf0_1
  have hs0_2 : small 1000000 t0_2 := smalls_mem hsl _ (by simp)
  obtain ⟨n0_2, rfl, rfl⟩ := vf_bool_inv hf0_2
  have hs0_3 : small 1000000 t0_3 := smalls_mem hsl _ (by simp)
  obtain ⟨n0_3, rfl, rfl⟩ := vf_bool_inv hf0_3
  clear hf0_0
  clear hf0_1
  clear hf0_2
  clear hf0_3
  simp only [List.cons_append, List.nil_append] at hp
  have cw0_0 : w.cell? ⟨b, 1, none⟩ = some _ := hp.cell (o := 1) (j := 0) rfl rfl
  have cw0_1 : w.cell? ⟨b, 2, none⟩ = some _ := hp.cell (o := 2) (j := 1) rfl rfl
  have cw0_2 : w.cell? ⟨b, 3, none⟩ = some _ := hp.cell (o := 3) (j := 2) rfl rfl
  have cw0_3 : w.cell? ⟨b, 4, none⟩ = some _ := hp.cell (o := 4) (j := 3) rfl rfl
  have heq : apPart q_MetadataRequest ver true (.mk 0 [] false [(.mk 0 [] nu0_0 lx0_0 []), (.mk (if n0_1 then 1 else 0) [] false [] []), (.mk (if n0_2 then 1 else 0) [] false [] []), (.mk (if n0_3 then 1 else 0) [] false [] [])] tg0) = (if nu0_0 then [0] else uvarP (lx0_0.length + 1)) ++ (lx0_0.flatMap (apE 10 q_MetadataRequestTopic ver true) ++ ([if n0_1 then 1 else 0] ++ ([if n0_2 then 1 else 0] ++ ([if n0_3 then 1 else 0] ++ (uvarP tg0.length ++ ((tg0.map tagP).flatten ++ ([]))))))) := by
    simp [apPart_flex, q_MetadataRequest, apFs, apF_bool, apF_cnlist (show (0 : Int) ≤ 1 by decide) (show (1 : Int) ≤ ver by omega), (has_yes (show (0 : Int) ≤ ver by omega) (.inl (by decide)) : F.has (.mk 11 0 (-1) 1 (-1) 0 10 q_MetadataRequestTopic) ver = true), (has_yes (show (4 : Int) ≤ ver by omega) (.inl (by decide)) : F.has (.mk 0 4 (-1) (-1) (-1) 0 0 []) ver = true), (has_yes (show (8 : Int) ≤ ver by omega) (.inr (show ver ≤ 10 by omega)) : F.has (.mk 0 8 10 (-1) (-1) 0 0 []) ver = true), (has_yes (show (8 : Int) ≤ ver by omega) (.inl (by decide)) : F.has (.mk 0 8 (-1) (-1) (-1) 0 0 []) ver = true)]
  rw [heq] at hl ⊢
  have h0 := ApSt.start ho hB hl
  obtain ⟨FF, hFF⟩ : ∃ x, x = acc ++ ((if nu0_0 then [0] else uvarP (lx0_0.length + 1)) ++ (lx0_0.flatMap (apE 10 q_MetadataRequestTopic ver true) ++ ([if n0_1 then 1 else 0] ++ ([if n0_2 then 1 else 0] ++ ([if n0_3 then 1 else 0] ++ (uvarP tg0.length ++ ((tg0.map tagP).flatten ++ ([])))))))) := ⟨_, rfl⟩
  rw [← hFF] at h0 ⊢
  clear heq hl ho hFF
  go_enter Tryz.func63, Tryz.ntmps63
  have EQN : ∀ u, (Sem.run Tryz.prog (binOp .eql 118 (.slice ao0_0 lx0_0.length cp0_0) (.slice none 0 0)) u) = .ok (.bool nu0_0) u := by
    intro u
    cases ao0_0 with
    | none =>
      obtain ⟨z1, z2⟩ := hcn0_0 rfl
      rw [show nu0_0 = true from hnil0_0.1 (by rw [z1, z2]), z1, z2]
      exact Lib.run_eql_slice_nil u 118 125 none 0 0 0 0 Tryz.underlying118
    | some a =>
      have hf : nu0_0 = false := by
        cases hn : nu0_0 with
        | true => exact absurd (hnil0_0.2 hn) (by simp)
        | false => rfl
      rw [hf]
      exact Lib.run_eql_slice_nil u 118 125 (some a) lx0_0.length cp0_0 0 0 Tryz.underlying118
  go_wp2_with (first
    | (go_at_call 132; go_loud (refine (h0.cnln hll0_0).mono ?_; rintro e w1 ⟨v1, rfl, h1⟩; clear h0)))
  clear EQN
  have hd1 : ApSt w w1 B v1 FF ((lx0_0.drop 0).flatMap (apE 10 q_MetadataRequestTopic ver true) ++ ([if n0_1 then 1 else 0] ++ ([if n0_2 then 1 else 0] ++ ([if n0_3 then 1 else 0] ++ (uvarP tg0.length ++ ((tg0.map tagP).flatten ++ ([]))))))) := by rw [List.drop_zero]; exact h1
  clear h1
  go_loopw [55, 8, 1] (fun k _ dv wr => ∃ j : Nat, k = .int .i64 (j : Int) ∧ j ≤ lx0_0.length ∧ ApSt w wr B dv FF ((lx0_0.drop j).flatMap (apE 10 q_MetadataRequestTopic ver true) ++ ([if n0_1 then 1 else 0] ++ ([if n0_2 then 1 else 0] ++ ([if n0_3 then 1 else 0] ++ (uvarP tg0.length ++ ((tg0.map tagP).flatten ++ ([])))))))) (fun k _ _ _ => lx0_0.length - (intOf k).toNat)
  case atStart => exact ⟨0, rfl, Nat.zero_le _, hd1⟩
  case round =>
    clear hd1
    obtain ⟨wr2, rfl⟩ : ∃ x : World, x = wr := ⟨_, rfl⟩
    obtain ⟨j2, rfl, hj2, sc2⟩ := hrel
    by_cases hlt2 : j2 < lx0_0.length
    · have hjc : j2 < css0_0.length := by rw [HEQ0_0.out]; exact hlt2
      obtain ⟨row2, cap2, hsl, hcap2, hGr2, hpt2⟩ := hrw0_0.part (m := 18) HEQ0_0.out (fun c hc => by obtain ⟨q, hq, rfl⟩ := List.getElem_of_mem hc; exact (ev0_0 q (by rw [← HEQ0_0.out]; exact hq) hq).1) hjc
      simp only [Value.slice.injEq] at hsl
      obtain ⟨rfl, _, rfl⟩ := hsl
      have hrb2 : row2 < B := hG _ hGr2
      have hvj := (ev0_0 j2 hlt2 hjc).2
      have hsj := smalls_mem hsl0_0 _ (List.getElem_mem hlt2)
      rw [List.drop_eq_getElem_cons hlt2, List.flatMap_cons] at sc2
      generalize css0_0[j2] = cj at *
      generalize lx0_0[j2] = tj at *
      obtain ⟨cs2, tv2, l2, tg2, rfl, hf2, hmp2, rfl⟩ : ∃ cs v l u, cj = cs ++ [v] ∧ VFs w G q_MetadataRequestTopic cs l ∧ MP w G v u ∧ tj = .mk 0 [] false l u := hvj
      simp only [small] at hsj
      obtain ⟨_, _, ht2_2, ht1_2, hsl2⟩ := hsj
      unfold q_MetadataRequestTopic at hf2
      obtain ⟨c2_0, cr2_0, t2_0, l2_0, rfl, rfl, hf2_0, hr2_0⟩ := hf2
      obtain ⟨c2_1, cr2_1, t2_1, l2_1, rfl, rfl, hf2_1, hr2_1⟩ := hr2_0
      obtain ⟨rfl, rfl⟩ := hr2_1
      have hs2_0 : small 1000000 t2_0 := smalls_mem hsl2 _ (by simp)
      obtain ⟨n2_0, hn2_0, rfl, rfl⟩ := vf_uuid_inv hf2_0
      obtain ⟨y2_0_0, y2_0_1, y2_0_2, y2_0_3, y2_0_4, y2_0_5, y2_0_6, y2_0_7, y2_0_8, y2_0_9, y2_0_10, y2_0_11, y2_0_12, y2_0_13, y2_0_14, y2_0_15, rfl⟩ := sixteen_of hn2_0
      have hs2_1 : small 1000000 t2_1 := smalls_mem hsl2 _ (by simp)
      obtain ⟨n2_1, o2_1, rfl, ps2_1, rfl⟩ := vf_nstr_inv (by decide) hf2_1
      have hl2_1 := small_text hs2_1
      clear hf2_0
      clear hf2_1
      simp only [List.cons_append, List.nil_append, List.map_cons, List.map_nil, bv] at hpt2
      have cw2_0_0 : w.cell? ⟨row2, j2 * 18, none⟩ = some _ := hpt2.cell (o := j2 * 18) (j := 0) rfl rfl
      have cw2_0_1 : w.cell? ⟨row2, j2 * 18 + 1, none⟩ = some _ := hpt2.cell (o := j2 * 18 + 1) (j := 1) rfl rfl
      have cw2_0_2 : w.cell? ⟨row2, j2 * 18 + 2, none⟩ = some _ := hpt2.cell (o := j2 * 18 + 2) (j := 2) rfl rfl
      have cw2_0_3 : w.cell? ⟨row2, j2 * 18 + 3, none⟩ = some _ := hpt2.cell (o := j2 * 18 + 3) (j := 3) rfl rfl
      have cw2_0_4 : w.cell? ⟨row2, j2 * 18 + 4, none⟩ = some _ := hpt2.cell (o := j2 * 18 + 4) (j := 4) rfl rfl
      have cw2_0_5 : w.cell? ⟨row2, j2 * 18 + 5, none⟩ = some _ := hpt2.cell (o := j2 * 18 + 5) (j := 5) rfl rfl
      have cw2_0_6 : w.cell? ⟨row2, j2 * 18 + 6, none⟩ = some _ := hpt2.cell (o := j2 * 18 + 6) (j := 6) rfl rfl
      have cw2_0_7 : w.cell? ⟨row2, j2 * 18 + 7, none⟩ = some _ := hpt2.cell (o := j2 * 18 + 7) (j := 7) rfl rfl
      have cw2_0_8 : w.cell? ⟨row2, j2 * 18 + 8, none⟩ = some _ := hpt2.cell (o := j2 * 18 + 8) (j := 8) rfl rfl
      have cw2_0_9 : w.cell? ⟨row2, j2 * 18 + 9, none⟩ = some _ := hpt2.cell (o := j2 * 18 + 9) (j := 9) rfl rfl
      have cw2_0_10 : w.cell? ⟨row2, j2 * 18 + 10, none⟩ = some _ := hpt2.cell (o := j2 * 18 + 10) (j := 10) rfl rfl
      have cw2_0_11 : w.cell? ⟨row2, j2 * 18 + 11, none⟩ = some _ := hpt2.cell (o := j2 * 18 + 11) (j := 11) rfl rfl
      have cw2_0_12 : w.cell? ⟨row2, j2 * 18 + 12, none⟩ = some _ := hpt2.cell (o := j2 * 18 + 12) (j := 12) rfl rfl
      have cw2_0_13 : w.cell? ⟨row2, j2 * 18 + 13, none⟩ = some _ := hpt2.cell (o := j2 * 18 + 13) (j := 13) rfl rfl
      have cw2_0_14 : w.cell? ⟨row2, j2 * 18 + 14, none⟩ = some _ := hpt2.cell (o := j2 * 18 + 14) (j := 14) rfl rfl
      have cw2_0_15 : w.cell? ⟨row2, j2 * 18 + 15, none⟩ = some _ := hpt2.cell (o := j2 * 18 + 15) (j := 15) rfl rfl
      have cw2_1 : w.cell? ⟨row2, j2 * 18 + 16, none⟩ = some _ := hpt2.cell (o := j2 * 18 + 16) (j := 16) rfl rfl
      have hel : apE 10 q_MetadataRequestTopic ver true (.mk 0 [] false [(.mk 0 [y2_0_0, y2_0_1, y2_0_2, y2_0_3, y2_0_4, y2_0_5, y2_0_6, y2_0_7, y2_0_8, y2_0_9, y2_0_10, y2_0_11, y2_0_12, y2_0_13, y2_0_14, y2_0_15] false [] []), (nstrT o2_1)] tg2) ++ ((lx0_0.drop (j2 + 1)).flatMap (apE 10 q_MetadataRequestTopic ver true) ++ ([if n0_1 then 1 else 0] ++ ([if n0_2 then 1 else 0] ++ ([if n0_3 then 1 else 0] ++ (uvarP tg0.length ++ ((tg0.map tagP).flatten ++ ([]))))))) = [y2_0_0, y2_0_1, y2_0_2, y2_0_3, y2_0_4, y2_0_5, y2_0_6, y2_0_7, y2_0_8, y2_0_9, y2_0_10, y2_0_11, y2_0_12, y2_0_13, y2_0_14, y2_0_15] ++ (cnstrP o2_1 ++ (uvarP tg2.length ++ ((tg2.map tagP).flatten ++ ((lx0_0.drop (j2 + 1)).flatMap (apE 10 q_MetadataRequestTopic ver true) ++ ([if n0_1 then 1 else 0] ++ ([if n0_2 then 1 else 0] ++ ([if n0_3 then 1 else 0] ++ (uvarP tg0.length ++ ((tg0.map tagP).flatten ++ ([])))))))))) := by
        simp [apE_cpart, q_MetadataRequestTopic, apFs, apF_cnstr (show (0 : Int) ≤ 10 by decide) (show (10 : Int) ≤ ver by omega), apF_uuid, (has_yes (show (10 : Int) ≤ ver by omega) (.inl (by decide)) : F.has (.mk 7 10 (-1) (-1) (-1) 0 0 []) ver = true), (has_yes (show (0 : Int) ≤ ver by omega) (.inl (by decide)) : F.has (.mk 8 0 (-1) 10 (-1) 0 0 []) ver = true)]
      rw [List.append_assoc, hel] at sc2
      clear hel
      have d2_0_0 := sc2.at_ cw2_0_0 hrb2; have d2_0_1 := sc2.at_ cw2_0_1 hrb2; have d2_0_2 := sc2.at_ cw2_0_2 hrb2; have d2_0_3 := sc2.at_ cw2_0_3 hrb2; have d2_0_4 := sc2.at_ cw2_0_4 hrb2; have d2_0_5 := sc2.at_ cw2_0_5 hrb2; have d2_0_6 := sc2.at_ cw2_0_6 hrb2; have d2_0_7 := sc2.at_ cw2_0_7 hrb2; have d2_0_8 := sc2.at_ cw2_0_8 hrb2; have d2_0_9 := sc2.at_ cw2_0_9 hrb2; have d2_0_10 := sc2.at_ cw2_0_10 hrb2; have d2_0_11 := sc2.at_ cw2_0_11 hrb2; have d2_0_12 := sc2.at_ cw2_0_12 hrb2; have d2_0_13 := sc2.at_ cw2_0_13 hrb2; have d2_0_14 := sc2.at_ cw2_0_14 hrb2; have d2_0_15 := sc2.at_ cw2_0_15 hrb2
      go_wp2_with (first
        | (go_at_call 134; go_loud (have sc2u := sc2.calm (keep_box (A := []) (.cells #[.int .u8 (y2_0_0.toNat : Int), .int .u8 (y2_0_1.toNat : Int), .int .u8 (y2_0_2.toNat : Int), .int .u8 (y2_0_3.toNat : Int), .int .u8 (y2_0_4.toNat : Int), .int .u8 (y2_0_5.toNat : Int), .int .u8 (y2_0_6.toNat : Int), .int .u8 (y2_0_7.toNat : Int), .int .u8 (y2_0_8.toNat : Int), .int .u8 (y2_0_9.toNat : Int), .int .u8 (y2_0_10.toNat : Int), .int .u8 (y2_0_11.toNat : Int), .int .u8 (y2_0_12.toNat : Int), .int .u8 (y2_0_13.toNat : Int), .int .u8 (y2_0_14.toNat : Int), .int .u8 (y2_0_15.toNat : Int)] 123)); refine (sc2u.uuid16).mono ?_; rintro e w3 ⟨v3, rfl, h3⟩; clear sc2 sc2u; have d2_1 := h3.at_ cw2_1 hrb2))
        | (go_at_call 116; go_loud (clear d2_0_0 d2_0_1 d2_0_2 d2_0_3 d2_0_4 d2_0_5 d2_0_6 d2_0_7 d2_0_8 d2_0_9 d2_0_10 d2_0_11 d2_0_12 d2_0_13 d2_0_14 d2_0_15; refine (h3.cnst ps2_1 hG hl2_1).mono ?_; rintro e w4 ⟨v4, rfl, h4⟩; clear h3))
        | (go_at_call 123; go_loud (refine (ApSt.tlen (i := j2 * 18 + 17) (j := 17) h4 hpt2 rfl rfl hmp2 hrb2 hG).mono ?_; rintro e wt ⟨rfl, rfl⟩))
        | (go_at_call 122; go_loud (refine (ApSt.uv h4 ht2_2).mono ?_; rintro e w5 ⟨v5, rfl, h5⟩; clear h4))
        | (go_at_call 124; go_loud (refine (ApSt.tg (i := j2 * 18 + 17) (j := 17) h5 hpt2 rfl rfl hmp2 hrb2 hG ht1_2).mono ?_; rintro e w6 ⟨v6, rfl, h6⟩; clear h5))
        | (go_roundw; (case rel => exact ⟨j2 + 1, by go_num, by omega, h6⟩); (case measure => (simp [intOf]; omega))))
    · rw [List.drop_of_length_le (by omega), List.flatMap_nil, List.nil_append] at sc2
      have d0_1 := sc2.at_ cw0_1 hb
      go_wp2_with (first
        | (go_at_call 129; go_loud (refine (sc2.bool).mono ?_; rintro e w7 ⟨v7, rfl, h7⟩; clear sc2; have d0_2 := h7.at_ cw0_2 hb))
        | (go_at_call 129; go_loud (refine (h7.bool).mono ?_; rintro e w8 ⟨v8, rfl, h8⟩; clear h7; have d0_3 := h8.at_ cw0_3 hb))
        | (go_at_call 129; go_loud (refine (h8.bool).mono ?_; rintro e w9 ⟨v9, rfl, h9⟩; clear h8))
        | (go_at_call 123; go_loud (refine (ApSt.tlen (i := 5) (j := 4) h9 hp rfl rfl hmp0 hb hG).mono ?_; rintro e wt ⟨rfl, rfl⟩))
        | (go_at_call 122; go_loud (refine (ApSt.uv h9 ht2_0).mono ?_; rintro e w10 ⟨v10, rfl, h10⟩; clear h9))
        | (go_at_call 124; go_loud (refine (ApSt.tg (i := 5) (j := 4) h10 hp rfl rfl hmp0 hb hG ht1_0).mono ?_; rintro e w11 ⟨v11, rfl, h11⟩; clear h10)))
      go_ret
      exact ⟨_, rfl, ApSt.done h11⟩
end Go.Proofs.YtalogafpnfnohaaGreatDoor
