/-
  DeleteGroupsResponse: writing.
-/
import Derived.Test.YtobbchmjgoaleaaGreatDoorMB16
import Derived.Test.YtobbchmjgoaleaaGreatDoorMDgr1
import Derived.Deep.CutBlock
namespace Go.Proofs.YtobbchmjgoaleaaGreatDoor
open Go.ChangeShapes Go.WideShapes Go.ChangeAt Go.RowKit

set_option maxHeartbeats 4000000 in
set_option maxRecDepth 100000 in
theorem dgr_app_1 {G : Nat → Prop} {b B : Nat} {c : List Value} {t : T} {w : World} {ver : Int} {v : Value} {acc : Bs} (hp : Pt w b 1 c) (_hver : w.cell? ⟨b, 0, none⟩ = some (.int .i16 ver)) (hv : VK w G 10 (-1) (VFs w G q_DeleteGroupsResponse) c t) (hb : b < B) (hG : ∀ k, G k → k < B) (ho : OB w B v acc) (hB : B ≤ w.heap.size) (hs : small 1000000 t) (hl : (acc ++ apPart q_DeleteGroupsResponse ver true t).length ≤ 40000000000000) (_hv0 : 0 ≤ ver) (_B2 : 2 ≤ ver) (_B3 : ¬ 3 ≤ ver) :
    Calls Tryz.prog 110 #[.pointer (some ⟨b, 0, none⟩), v] w fun e w' => ∃ v', e = .returned v' ∧ OB w' B v' (acc ++ apPart q_DeleteGroupsResponse ver true t) ∧ Below B w w' := by
  obtain ⟨cs, tv, l, tg0, rfl, hf, hmp0, rfl⟩ : ∃ cs v l u, c = cs ++ [v] ∧ VFs w G q_DeleteGroupsResponse cs l ∧ MP w G v u ∧ t = .mk 0 [] false l u := hv
  simp only [small] at hs
  obtain ⟨_, _, ht2_0, ht1_0, hsl⟩ := hs
  unfold q_DeleteGroupsResponse at hf
  obtain ⟨c0_0, cr0_0, t0_0, l0_0, rfl, rfl, hf0_0, hr0_0⟩ := hf
  obtain ⟨c0_1, cr0_1, t0_1, l0_1, rfl, rfl, hf0_1, hr0_1⟩ := hr0_0
  obtain ⟨rfl, rfl⟩ := hr0_1
  have hs0_0 : small 1000000 t0_0 := smalls_mem hsl _ (by simp)
  obtain ⟨n0_0, rfl, ⟨ra0_0, rb0_0⟩, rfl⟩ := vf_i32_inv hf0_0
  have hs0_1 : small 1000000 t0_1 := smalls_mem hsl _ (by simp)
  obtain ⟨v0_1, rfl, vl0_1⟩ := vf_list_inv hf0_1
  obtain ⟨nu0_1, css0_1, lx0_1, eq0_1, ev0_1, hrw0_1, hnil0_1, rfl⟩ := vl0_1
  obtain ⟨ao0_1, cp0_1, rfl, hcp0_1, hcn0_1⟩ := hrw0_1.shape
  rw [eq0_1] at hrw0_1 hcp0_1 hcn0_1 hnil0_1 hp
  have HEQ0_1 : Hid _ := eq0_1
  clear eq0_1
  obtain ⟨_, hll0_1, _, _, hsl0_1⟩ := hs0_1
  clear hf0_0
  clear hf0_1
  simp only [List.cons_append, List.nil_append] at hp
  have cw0_0 : w.cell? ⟨b, 1, none⟩ = some _ := hp.cell (o := 1) (j := 0) rfl rfl
  have cw0_1 : w.cell? ⟨b, 2, none⟩ = some _ := hp.cell (o := 2) (j := 1) rfl rfl
  have heq : apPart q_DeleteGroupsResponse ver true (.mk 0 [] false [(.mk n0_0 [] false [] []), (.mk 0 [] nu0_1 lx0_1 [])] tg0) = fixedP n0_0 4 ++ (uvarP (lx0_1.length + 1) ++ (lx0_1.flatMap (apE 10 q_DeleteGroupsResponseGroup ver true) ++ (uvarP tg0.length ++ ((tg0.map tagP).flatten ++ ([]))))) := by
    simp [apPart_flex, q_DeleteGroupsResponse, apFs, apF_clist (show (-1 : Int) < 0 by decide), apF_i32, (has_yes (show (0 : Int) ≤ ver by omega) (.inl (by decide)) : F.has (.mk 3 0 (-1) (-1) (-1) 0 0 []) ver = true), (has_yes (show (0 : Int) ≤ ver by omega) (.inl (by decide)) : F.has (.mk 11 0 (-1) (-1) (-1) 0 10 q_DeleteGroupsResponseGroup) ver = true)]
  rw [heq] at hl ⊢
  have h0 := ApSt.start ho hB hl
  obtain ⟨FF, hFF⟩ : ∃ x, x = acc ++ (fixedP n0_0 4 ++ (uvarP (lx0_1.length + 1) ++ (lx0_1.flatMap (apE 10 q_DeleteGroupsResponseGroup ver true) ++ (uvarP tg0.length ++ ((tg0.map tagP).flatten ++ ([])))))) := ⟨_, rfl⟩
  rw [← hFF] at h0 ⊢
  clear heq hl ho hFF
  go_enter Tryz.func110, Tryz.ntmps110
  go_wp2_with (first
    | (go_at_call 134; go_loud (refine (h0.i32).mono ?_; rintro e w1 ⟨v1, rfl, h1⟩; clear h0; have d0_1 := h1.at_ cw0_1 hb))
    | (go_at_call 151; go_loud (refine (h1.cln hll0_1).mono ?_; rintro e w2 ⟨v2, rfl, h2⟩; clear h1)))
  have hd2 : ApSt w w2 B v2 FF ((lx0_1.drop 0).flatMap (apE 10 q_DeleteGroupsResponseGroup ver true) ++ (uvarP tg0.length ++ ((tg0.map tagP).flatten ++ ([])))) := by rw [List.drop_zero]; exact h2
  clear h2
  go_loopw [44, 9, 1] (fun k _ dv wr => ∃ j : Nat, k = .int .i64 (j : Int) ∧ j ≤ lx0_1.length ∧ ApSt w wr B dv FF ((lx0_1.drop j).flatMap (apE 10 q_DeleteGroupsResponseGroup ver true) ++ (uvarP tg0.length ++ ((tg0.map tagP).flatten ++ ([]))))) (fun k _ _ _ => lx0_1.length - (intOf k).toNat)
  case atStart => exact ⟨0, rfl, Nat.zero_le _, hd2⟩
  case round =>
    clear hd2
    obtain ⟨wr3, rfl⟩ : ∃ x : World, x = wr := ⟨_, rfl⟩
    obtain ⟨j3, rfl, hj3, sc3⟩ := hrel
    by_cases hlt3 : j3 < lx0_1.length
    · have hjc : j3 < css0_1.length := by rw [HEQ0_1.out]; exact hlt3
      obtain ⟨row3, cap3, hsl, hcap3, hGr3, hpt3⟩ := hrw0_1.part (m := 4) HEQ0_1.out (fun c hc => by obtain ⟨q, hq, rfl⟩ := List.getElem_of_mem hc; exact (ev0_1 q (by rw [← HEQ0_1.out]; exact hq) hq).1) hjc
      simp only [Value.slice.injEq] at hsl
      obtain ⟨rfl, _, rfl⟩ := hsl
      have hrb3 : row3 < B := hG _ hGr3
      have hvj := (ev0_1 j3 hlt3 hjc).2
      have hsj := smalls_mem hsl0_1 _ (List.getElem_mem hlt3)
      rw [List.drop_eq_getElem_cons hlt3, List.flatMap_cons] at sc3
      generalize css0_1[j3] = cj at *
      generalize lx0_1[j3] = tj at *
      obtain ⟨cs3, tv3, l3, tg3, rfl, hf3, hmp3, rfl⟩ : ∃ cs v l u, cj = cs ++ [v] ∧ VFs w G q_DeleteGroupsResponseGroup cs l ∧ MP w G v u ∧ tj = .mk 0 [] false l u := hvj
      simp only [small] at hsj
      obtain ⟨_, _, ht2_3, ht1_3, hsl3⟩ := hsj
      unfold q_DeleteGroupsResponseGroup at hf3
      obtain ⟨c3_0, cr3_0, t3_0, l3_0, rfl, rfl, hf3_0, hr3_0⟩ := hf3
      obtain ⟨c3_1, cr3_1, t3_1, l3_1, rfl, rfl, hf3_1, hr3_1⟩ := hr3_0
      obtain ⟨c3_2, cr3_2, t3_2, l3_2, rfl, rfl, hf3_2, hr3_2⟩ := hr3_1
      obtain ⟨rfl, rfl⟩ := hr3_2
      have hs3_0 : small 1000000 t3_0 := smalls_mem hsl3 _ (by simp)
      obtain ⟨n3_0, rfl, rfl⟩ := vf_str_inv (by decide) hf3_0
      have hl3_0 : n3_0.length ≤ 1000000 := hs3_0.1
      have hs3_1 : small 1000000 t3_1 := smalls_mem hsl3 _ (by simp)
      obtain ⟨n3_1, rfl, ⟨ra3_1, rb3_1⟩, rfl⟩ := vf_i16_inv hf3_1
      have hs3_2 : small 1000000 t3_2 := smalls_mem hsl3 _ (by simp)
      obtain ⟨n3_2, o3_2, rfl, ps3_2, rfl⟩ := vf_nstr_inv (by decide) hf3_2
      have hl3_2 := small_text hs3_2
      clear hf3_0
      clear hf3_1
      clear hf3_2
      simp only [List.cons_append, List.nil_append] at hpt3
      have cw3_0 : w.cell? ⟨row3, j3 * 4, none⟩ = some _ := hpt3.cell (o := j3 * 4) (j := 0) rfl rfl
      have cw3_1 : w.cell? ⟨row3, j3 * 4 + 1, none⟩ = some _ := hpt3.cell (o := j3 * 4 + 1) (j := 1) rfl rfl
      have hel : apE 10 q_DeleteGroupsResponseGroup ver true (.mk 0 [] false [(.mk 0 n3_0 false [] []), (.mk n3_1 [] false [] []), (nstrT o3_2)] tg3) ++ ((lx0_1.drop (j3 + 1)).flatMap (apE 10 q_DeleteGroupsResponseGroup ver true) ++ (uvarP tg0.length ++ ((tg0.map tagP).flatten ++ ([])))) = (uvarP (n3_0.length + 1) ++ n3_0) ++ (fixedP n3_1 2 ++ (uvarP tg3.length ++ ((tg3.map tagP).flatten ++ ((lx0_1.drop (j3 + 1)).flatMap (apE 10 q_DeleteGroupsResponseGroup ver true) ++ (uvarP tg0.length ++ ((tg0.map tagP).flatten ++ ([]))))))) := by
        simp [apE_cpart, q_DeleteGroupsResponseGroup, apFs, apF_cstr, apF_i16, (has_yes (show (0 : Int) ≤ ver by omega) (.inl (by decide)) : F.has (.mk 8 0 (-1) (-1) (-1) 0 0 []) ver = true), (has_yes (show (0 : Int) ≤ ver by omega) (.inl (by decide)) : F.has (.mk 2 0 (-1) (-1) (-1) 0 0 []) ver = true), (has_no1 (show ¬ (3 : Int) ≤ ver by omega) : F.has (.mk 8 3 (-1) 3 (-1) 0 0 []) ver = false)]
      rw [List.append_assoc, hel] at sc3
      clear hel
      have d3_0 := sc3.at_ cw3_0 hrb3
      go_wp2_with (first
        | (go_at_call 143; go_loud (refine (sc3.cst hl3_0).mono ?_; rintro e w4 ⟨v4, rfl, h4⟩; clear sc3; have d3_1 := h4.at_ cw3_1 hrb3))
        | (go_at_call 135; go_loud (refine (h4.i16).mono ?_; rintro e w5 ⟨v5, rfl, h5⟩; clear h4))
        | (go_at_call 139; go_loud (refine (ApSt.tlen (i := j3 * 4 + 3) (j := 3) h5 hpt3 rfl rfl hmp3 hrb3 hG).mono ?_; rintro e wt ⟨rfl, rfl⟩))
        | (go_at_call 138; go_loud (refine (ApSt.uv h5 ht2_3).mono ?_; rintro e w6 ⟨v6, rfl, h6⟩; clear h5))
        | (go_at_call 140; go_loud (refine (ApSt.tg (i := j3 * 4 + 3) (j := 3) h6 hpt3 rfl rfl hmp3 hrb3 hG ht1_3).mono ?_; rintro e w7 ⟨v7, rfl, h7⟩; clear h6)))
      go_roundw
      case rel => exact ⟨j3 + 1, by go_num, by omega, h7⟩
      case measure => simp [intOf]; omega
    · rw [List.drop_of_length_le (by omega), List.flatMap_nil, List.nil_append] at sc3
      go_wp2_with (first
        | (go_at_call 139; go_loud (refine (ApSt.tlen (i := 3) (j := 2) sc3 hp rfl rfl hmp0 hb hG).mono ?_; rintro e wt ⟨rfl, rfl⟩))
        | (go_at_call 138; go_loud (refine (ApSt.uv sc3 ht2_0).mono ?_; rintro e w8 ⟨v8, rfl, h8⟩; clear sc3))
        | (go_at_call 140; go_loud (refine (ApSt.tg (i := 3) (j := 2) h8 hp rfl rfl hmp0 hb hG ht1_0).mono ?_; rintro e w9 ⟨v9, rfl, h9⟩; clear h8)))
      go_ret
      exact ⟨_, rfl, ApSt.done h9⟩
end Go.Proofs.YtobbchmjgoaleaaGreatDoor
