/-
  MetadataRequest: writing.
-/
import Derived.Test.YtalogafpnfnohaaGreatDoorMB16
import Derived.Test.YtalogafpnfnohaaGreatDoorMMdr1
import Derived.Deep.CutBlock
namespace Go.Proofs.YtalogafpnfnohaaGreatDoor
open Go.ChangeShapes Go.WideShapes Go.ChangeAt Go.RowKit

set_option maxHeartbeats 40000000 in
set_option maxRecDepth 100000 in
theorem mdr_app_0 {G : Nat → Prop} {b B : Nat} {c : List Value} {t : T} {w : World} {ver : Int} {v : Value} {acc : Bs} (hp : Pt w b 1 c) (_hver : w.cell? ⟨b, 0, none⟩ = some (.int .i16 ver)) (hv : VK w G 10 (-1) (VFs w G q_MetadataRequest) c t) (_hb : b < B) (hG : ∀ k, G k → k < B) (ho : OB w B v acc) (hB : B ≤ w.heap.size) (hs : small 1000000 t) (hl : (acc ++ apPart q_MetadataRequest ver false t).length ≤ 40000000000000) (_hv0 : 0 ≤ ver) (_B1 : ¬ 1 ≤ ver) (_B4 : ¬ 4 ≤ ver) (_B8 : ¬ 8 ≤ ver) (_B9 : ¬ 9 ≤ ver) (_B10 : ¬ 10 ≤ ver) (_B11 : ¬ 11 ≤ ver) :
    Calls Tryz.prog 63 #[.pointer (some ⟨b, 0, none⟩), v] w fun e w' => ∃ v', e = .returned v' ∧ OB w' B v' (acc ++ apPart q_MetadataRequest ver false t) ∧ Below B w w' := by
  obtain ⟨cs, tv, l, tg0, rfl, hf, hmp0, rfl⟩ : ∃ cs v l u, c = cs ++ [v] ∧ VFs w G q_MetadataRequest cs l ∧ MP w G v u ∧ t = .mk 0 [] false l u := hv
  simp only [small] at hs
  obtain ⟨_, _, ht2_0, ht1_0, hsl⟩ := hs
  unfold q_MetadataRequest at hf
  obtain ⟨c0_0, cr0_0, t0_0, l0_0, rfl, rfl, hf0_0, hr0_0⟩ := hf
  obtain ⟨c0_1, cr0_1, t0_1, l0_1, rfl, rfl, hf0_1, hr0_1⟩ := hr0_0
  obtain ⟨c0_2, cr0_2, t0_2, l0_2, rfl, rfl, hf0_2, hr0_2⟩ := hr0_1
  obtain ⟨c0_3, cr0_3, t0_3, l0_3, rfl, rfl, hf0_3, hr0_3⟩ := hr0_2
  obtain ⟨rfl, rfl⟩ := hr0_3
  have hs0_0 : small 1000000 t0_0 := smalls_mem hsl _ (by simp)
  obtain ⟨v0_0, rfl, vl0_0⟩ := vf_list_inv hf0_0
  obtain ⟨nu0_0, css0_0, lx0_0, eq0_0, ev0_0, hrw0_0, hnil0_0, rfl⟩ := vl0_0
  obtain ⟨ao0_0, cp0_0, rfl, hcp0_0, hcn0_0⟩ := hrw0_0.shape
  rw [eq0_0] at hrw0_0 hcp0_0 hcn0_0 hnil0_0 hp
  have HEQ0_0 : Hid _ := eq0_0
  clear eq0_0
  obtain ⟨_, hll0_0, _, _, hsl0_0⟩ := hs0_0
  have hs0_1 : small 1000000 t0_1 := smalls_mem hsl _ (by simp)
  obtain ⟨n0_1, rfl, rfl⟩ := vf_bool_inv hf0_1
  have hs0_2 : small 1000000 t0_2 := smalls_mem hsl _ (by simp)
  obtain ⟨n0_2, rfl, rfl⟩ := vf_bool_inv hf0_2
  have hs0_3 : small 1000000 t0_3 := smalls_mem hsl _ (by simp)
  obtain ⟨n0_3, rfl, rfl⟩ := vf_bool_inv hf0_3
  clear hf0_0
  clear hf0_1
  clear hf0_2
  clear hf0_3
  simp only [List.cons_append, List.nil_append] at hp
  have cw0_0 : w.cell? ⟨b, 1, none⟩ = some _ := hp.cell (o := 1) (j := 0) rfl rfl
  have heq : apPart q_MetadataRequest ver false (.mk 0 [] false [(.mk 0 [] nu0_0 lx0_0 []), (.mk (if n0_1 then 1 else 0) [] false [] []), (.mk (if n0_2 then 1 else 0) [] false [] []), (.mk (if n0_3 then 1 else 0) [] false [] [])] tg0) = fixedP lx0_0.length 4 ++ (lx0_0.flatMap (apE 10 q_MetadataRequestTopic ver false) ++ ([])) := by
    simp [apPart_plain, q_MetadataRequest, apFs, apF_listY (show ¬ (1 : Int) ≤ ver by omega), (has_yes (show (0 : Int) ≤ ver by omega) (.inl (by decide)) : F.has (.mk 11 0 (-1) 1 (-1) 0 10 q_MetadataRequestTopic) ver = true), (has_no1 (show ¬ (4 : Int) ≤ ver by omega) : F.has (.mk 0 4 (-1) (-1) (-1) 0 0 []) ver = false), (has_no1 (show ¬ (8 : Int) ≤ ver by omega) : F.has (.mk 0 8 10 (-1) (-1) 0 0 []) ver = false), (has_no1 (show ¬ (8 : Int) ≤ ver by omega) : F.has (.mk 0 8 (-1) (-1) (-1) 0 0 []) ver = false)]
  rw [heq] at hl ⊢
  have h0 := ApSt.start ho hB hl
  obtain ⟨FF, hFF⟩ : ∃ x, x = acc ++ (fixedP lx0_0.length 4 ++ (lx0_0.flatMap (apE 10 q_MetadataRequestTopic ver false) ++ ([]))) := ⟨_, rfl⟩
  rw [← hFF] at h0 ⊢
  clear heq hl ho hFF
  go_enter Tryz.func63, Tryz.ntmps63
  go_wp2_with (first
    | (go_at_call 119; go_loud (refine (h0.ln hll0_0).mono ?_; rintro e w1 ⟨v1, rfl, h1⟩; clear h0)))
  have hd1 : ApSt w w1 B v1 FF ((lx0_0.drop 0).flatMap (apE 10 q_MetadataRequestTopic ver false) ++ ([])) := by rw [List.drop_zero]; exact h1
  clear h1
  go_loopw [55, 8, 1] (fun k _ dv wr => ∃ j : Nat, k = .int .i64 (j : Int) ∧ j ≤ lx0_0.length ∧ ApSt w wr B dv FF ((lx0_0.drop j).flatMap (apE 10 q_MetadataRequestTopic ver false) ++ ([]))) (fun k _ _ _ => lx0_0.length - (intOf k).toNat)
  case atStart => exact ⟨0, rfl, Nat.zero_le _, hd1⟩
  case round =>
    clear hd1
    obtain ⟨wr2, rfl⟩ : ∃ x : World, x = wr := ⟨_, rfl⟩
    obtain ⟨j2, rfl, hj2, sc2⟩ := hrel
    by_cases hlt2 : j2 < lx0_0.length
    · have hjc : j2 < css0_0.length := by rw [HEQ0_0.out]; exact hlt2
      obtain ⟨row2, cap2, hsl, hcap2, hGr2, hpt2⟩ := hrw0_0.part (m := 18) HEQ0_0.out (fun c hc => by obtain ⟨q, hq, rfl⟩ := List.getElem_of_mem hc; exact (ev0_0 q (by rw [← HEQ0_0.out]; exact hq) hq).1) hjc
      simp only [Value.slice.injEq] at hsl
      obtain ⟨rfl, _, rfl⟩ := hsl
      have hrb2 : row2 < B := hG _ hGr2
      have hvj := (ev0_0 j2 hlt2 hjc).2
      have hsj := smalls_mem hsl0_0 _ (List.getElem_mem hlt2)
      rw [List.drop_eq_getElem_cons hlt2, List.flatMap_cons] at sc2
      generalize css0_0[j2] = cj at *
      generalize lx0_0[j2] = tj at *
      obtain ⟨cs2, tv2, l2, tg2, rfl, hf2, hmp2, rfl⟩ : ∃ cs v l u, cj = cs ++ [v] ∧ VFs w G q_MetadataRequestTopic cs l ∧ MP w G v u ∧ tj = .mk 0 [] false l u := hvj
      simp only [small] at hsj
      obtain ⟨_, _, ht2_2, ht1_2, hsl2⟩ := hsj
      unfold q_MetadataRequestTopic at hf2
      obtain ⟨c2_0, cr2_0, t2_0, l2_0, rfl, rfl, hf2_0, hr2_0⟩ := hf2
      obtain ⟨c2_1, cr2_1, t2_1, l2_1, rfl, rfl, hf2_1, hr2_1⟩ := hr2_0
      obtain ⟨rfl, rfl⟩ := hr2_1
      have hs2_0 : small 1000000 t2_0 := smalls_mem hsl2 _ (by simp)
      obtain ⟨n2_0, hn2_0, rfl, rfl⟩ := vf_uuid_inv hf2_0
      obtain ⟨y2_0_0, y2_0_1, y2_0_2, y2_0_3, y2_0_4, y2_0_5, y2_0_6, y2_0_7, y2_0_8, y2_0_9, y2_0_10, y2_0_11, y2_0_12, y2_0_13, y2_0_14, y2_0_15, rfl⟩ := sixteen_of hn2_0
      have hs2_1 : small 1000000 t2_1 := smalls_mem hsl2 _ (by simp)
      obtain ⟨n2_1, o2_1, rfl, ps2_1, rfl⟩ := vf_nstr_inv (by decide) hf2_1
      have hl2_1 := small_text hs2_1
      clear hf2_0
      clear hf2_1
      simp only [List.cons_append, List.nil_append, List.map_cons, List.map_nil, bv] at hpt2
      have cw2_1 : w.cell? ⟨row2, j2 * 18 + 16, none⟩ = some _ := hpt2.cell (o := j2 * 18 + 16) (j := 16) rfl rfl
      have hel : apE 10 q_MetadataRequestTopic ver false (.mk 0 [] false [(.mk 0 [y2_0_0, y2_0_1, y2_0_2, y2_0_3, y2_0_4, y2_0_5, y2_0_6, y2_0_7, y2_0_8, y2_0_9, y2_0_10, y2_0_11, y2_0_12, y2_0_13, y2_0_14, y2_0_15] false [] []), (nstrT o2_1)] tg2) ++ ((lx0_0.drop (j2 + 1)).flatMap (apE 10 q_MetadataRequestTopic ver false) ++ ([])) = (fixedP (o2_1.getD []).length 2 ++ (o2_1.getD [])) ++ ((lx0_0.drop (j2 + 1)).flatMap (apE 10 q_MetadataRequestTopic ver false) ++ ([])) := by
        simp [apE_part, q_MetadataRequestTopic, apFs, apF_nstrY (show ¬ (10 : Int) ≤ ver by omega), (has_no1 (show ¬ (10 : Int) ≤ ver by omega) : F.has (.mk 7 10 (-1) (-1) (-1) 0 0 []) ver = false), (has_yes (show (0 : Int) ≤ ver by omega) (.inl (by decide)) : F.has (.mk 8 0 (-1) 10 (-1) 0 0 []) ver = true)]
      rw [List.append_assoc, hel] at sc2
      clear hel
      have d2_1 := sc2.at_ cw2_1 hrb2
      rcases ps2_1 with ⟨rfl, rfl⟩ | ⟨kk, ss, rfl, rfl, gk, hk⟩
      · skip
        go_wp2_with (first
          | (go_at_call 121; go_loud (refine (sc2.st (getD_len hl2_1)).mono ?_; rintro e w3 ⟨v3, rfl, h3⟩; clear sc2))
          | (go_roundw; (case rel => exact ⟨j2 + 1, by go_num, by omega, h3⟩); (case measure => (simp [intOf]; omega))))
      · skip
        have dk := sc2.at_ (cellOf hk 0 _ rfl) (hG _ gk)
        unfold str at dk
        go_wp2_with (first
          | (go_at_call 121; go_loud (refine (sc2.st (getD_len hl2_1)).mono ?_; rintro e w3 ⟨v3, rfl, h3⟩; clear sc2))
          | (go_roundw; (case rel => exact ⟨j2 + 1, by go_num, by omega, h3⟩); (case measure => (simp [intOf]; omega))))
    · rw [List.drop_of_length_le (by omega), List.flatMap_nil, List.nil_append] at sc2
      go_wp2_with fail
      go_ret
      exact ⟨_, rfl, ApSt.done sc2⟩
end Go.Proofs.YtalogafpnfnohaaGreatDoor
