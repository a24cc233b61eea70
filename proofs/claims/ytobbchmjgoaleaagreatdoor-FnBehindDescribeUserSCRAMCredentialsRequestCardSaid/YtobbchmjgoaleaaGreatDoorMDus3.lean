/-
  DescribeUserSCRAMCredentialsRequest: writing.
-/
import Derived.Test.YtobbchmjgoaleaaGreatDoorMB16
import Derived.Test.YtobbchmjgoaleaaGreatDoorMDus1
import Derived.Deep.CutBlock
namespace Go.Proofs.YtobbchmjgoaleaaGreatDoor
open Go.ChangeShapes Go.WideShapes Go.ChangeAt Go.RowKit

set_option maxHeartbeats 4000000 in
set_option maxRecDepth 100000 in
theorem dus_app_0 {G : Nat → Prop} {b B : Nat} {c : List Value} {t : T} {w : World} {ver : Int} {v : Value} {acc : Bs} (hp : Pt w b 1 c) (_hver : w.cell? ⟨b, 0, none⟩ = some (.int .i16 ver)) (hv : VK w G 10 (-1) (VFs w G q_DescribeUserSCRAMCredentialsRequest) c t) (hb : b < B) (hG : ∀ k, G k → k < B) (ho : OB w B v acc) (hB : B ≤ w.heap.size) (hs : small 1000000 t) (hl : (acc ++ apPart q_DescribeUserSCRAMCredentialsRequest ver true t).length ≤ 40000000000000) (_hv0 : 0 ≤ ver)  :
    Calls Tryz.prog 82 #[.pointer (some ⟨b, 0, none⟩), v] w fun e w' => ∃ v', e = .returned v' ∧ OB w' B v' (acc ++ apPart q_DescribeUserSCRAMCredentialsRequest ver true t) ∧ Below B w w' := by
  obtain ⟨cs, tv, l, tg0, rfl, hf, hmp0, rfl⟩ : ∃ cs v l u, c = cs ++ [v] ∧ VFs w G q_DescribeUserSCRAMCredentialsRequest cs l ∧ MP w G v u ∧ t = .mk 0 [] false l u := hv
  simp only [small] at hs
  obtain ⟨_, _, ht2_0, ht1_0, hsl⟩ := hs
  unfold q_DescribeUserSCRAMCredentialsRequest at hf
  obtain ⟨c0_0, cr0_0, t0_0, l0_0, rfl, rfl, hf0_0, hr0_0⟩ := hf
  obtain ⟨rfl, rfl⟩ := hr0_0
  have hs0_0 : small 1000000 t0_0 := smalls_mem hsl _ (by simp)
  obtain ⟨v0_0, rfl, vl0_0⟩ := vf_list_inv hf0_0
  obtain ⟨nu0_0, css0_0, lx0_0, eq0_0, ev0_0, hrw0_0, hnil0_0, rfl⟩ := vl0_0
  obtain ⟨ao0_0, cp0_0, rfl, hcp0_0, hcn0_0⟩ := hrw0_0.shape
  rw [eq0_0] at hrw0_0 hcp0_0 hcn0_0 hnil0_0 hp
  have HEQ0_0 : Hid _ := eq0_0
  clear eq0_0
  obtain ⟨_, hll0_0, _, _, hsl0_0⟩ := hs0_0
  clear hf0_0
  simp only [List.cons_append, List.nil_append] at hp
  have cw0_0 : w.cell? ⟨b, 1, none⟩ = some _ := hp.cell (o := 1) (j := 0) rfl rfl
  have heq : apPart q_DescribeUserSCRAMCredentialsRequest ver true (.mk 0 [] false [(.mk 0 [] nu0_0 lx0_0 [])] tg0) = (if nu0_0 then [0] else uvarP (lx0_0.length + 1)) ++ (lx0_0.flatMap (apE 10 q_DescribeUserSCRAMCredentialsRequestUser ver true) ++ (uvarP tg0.length ++ ((tg0.map tagP).flatten ++ ([])))) := by
    simp [apPart_flex, q_DescribeUserSCRAMCredentialsRequest, apFs, apF_cnlist (show (0 : Int) ≤ 0 by decide) (show (0 : Int) ≤ ver by omega), (has_yes (show (0 : Int) ≤ ver by omega) (.inl (by decide)) : F.has (.mk 11 0 (-1) 0 (-1) 0 10 q_DescribeUserSCRAMCredentialsRequestUser) ver = true)]
  rw [heq] at hl ⊢
  have h0 := ApSt.start ho hB hl
  obtain ⟨FF, hFF⟩ : ∃ x, x = acc ++ ((if nu0_0 then [0] else uvarP (lx0_0.length + 1)) ++ (lx0_0.flatMap (apE 10 q_DescribeUserSCRAMCredentialsRequestUser ver true) ++ (uvarP tg0.length ++ ((tg0.map tagP).flatten ++ ([]))))) := ⟨_, rfl⟩
  rw [← hFF] at h0 ⊢
  clear heq hl ho hFF
  go_enter Tryz.func82, Tryz.ntmps82
  have EQN : ∀ u, (Sem.run Tryz.prog (binOp .eql 109 (.slice ao0_0 lx0_0.length cp0_0) (.slice none 0 0)) u) = .ok (.bool nu0_0) u := by
    intro u
    cases ao0_0 with
    | none =>
      obtain ⟨z1, z2⟩ := hcn0_0 rfl
      rw [show nu0_0 = true from hnil0_0.1 (by rw [z1, z2]), z1, z2]
      exact Lib.run_eql_slice_nil u 109 115 none 0 0 0 0 Tryz.underlying109
    | some a =>
      have hf : nu0_0 = false := by
        cases hn : nu0_0 with
        | true => exact absurd (hnil0_0.2 hn) (by simp)
        | false => rfl
      rw [hf]
      exact Lib.run_eql_slice_nil u 109 115 (some a) lx0_0.length cp0_0 0 0 Tryz.underlying109
  go_wp2_with (first
    | (go_at_call 155; go_loud (refine (h0.cnln hll0_0).mono ?_; rintro e w1 ⟨v1, rfl, h1⟩; clear h0)))
  clear EQN
  have hd1 : ApSt w w1 B v1 FF ((lx0_0.drop 0).flatMap (apE 10 q_DescribeUserSCRAMCredentialsRequestUser ver true) ++ (uvarP tg0.length ++ ((tg0.map tagP).flatten ++ ([])))) := by rw [List.drop_zero]; exact h1
  clear h1
  go_loopw [38, 8, 1] (fun k _ dv wr => ∃ j : Nat, k = .int .i64 (j : Int) ∧ j ≤ lx0_0.length ∧ ApSt w wr B dv FF ((lx0_0.drop j).flatMap (apE 10 q_DescribeUserSCRAMCredentialsRequestUser ver true) ++ (uvarP tg0.length ++ ((tg0.map tagP).flatten ++ ([]))))) (fun k _ _ _ => lx0_0.length - (intOf k).toNat)
  case atStart => exact ⟨0, rfl, Nat.zero_le _, hd1⟩
  case round =>
    clear hd1
    obtain ⟨wr2, rfl⟩ : ∃ x : World, x = wr := ⟨_, rfl⟩
    obtain ⟨j2, rfl, hj2, sc2⟩ := hrel
    by_cases hlt2 : j2 < lx0_0.length
    · have hjc : j2 < css0_0.length := by rw [HEQ0_0.out]; exact hlt2
      obtain ⟨row2, cap2, hsl, hcap2, hGr2, hpt2⟩ := hrw0_0.part (m := 2) HEQ0_0.out (fun c hc => by obtain ⟨q, hq, rfl⟩ := List.getElem_of_mem hc; exact (ev0_0 q (by rw [← HEQ0_0.out]; exact hq) hq).1) hjc
      simp only [Value.slice.injEq] at hsl
      obtain ⟨rfl, _, rfl⟩ := hsl
      have hrb2 : row2 < B := hG _ hGr2
      have hvj := (ev0_0 j2 hlt2 hjc).2
      have hsj := smalls_mem hsl0_0 _ (List.getElem_mem hlt2)
      rw [List.drop_eq_getElem_cons hlt2, List.flatMap_cons] at sc2
      generalize css0_0[j2] = cj at *
      generalize lx0_0[j2] = tj at *
      obtain ⟨cs2, tv2, l2, tg2, rfl, hf2, hmp2, rfl⟩ : ∃ cs v l u, cj = cs ++ [v] ∧ VFs w G q_DescribeUserSCRAMCredentialsRequestUser cs l ∧ MP w G v u ∧ tj = .mk 0 [] false l u := hvj
      simp only [small] at hsj
      obtain ⟨_, _, ht2_2, ht1_2, hsl2⟩ := hsj
      unfold q_DescribeUserSCRAMCredentialsRequestUser at hf2
      obtain ⟨c2_0, cr2_0, t2_0, l2_0, rfl, rfl, hf2_0, hr2_0⟩ := hf2
      obtain ⟨rfl, rfl⟩ := hr2_0
      have hs2_0 : small 1000000 t2_0 := smalls_mem hsl2 _ (by simp)
      obtain ⟨n2_0, rfl, rfl⟩ := vf_str_inv (by decide) hf2_0
      have hl2_0 : n2_0.length ≤ 1000000 := hs2_0.1
      clear hf2_0
      simp only [List.cons_append, List.nil_append] at hpt2
      have cw2_0 : w.cell? ⟨row2, j2 * 2, none⟩ = some _ := hpt2.cell (o := j2 * 2) (j := 0) rfl rfl
      have hel : apE 10 q_DescribeUserSCRAMCredentialsRequestUser ver true (.mk 0 [] false [(.mk 0 n2_0 false [] [])] tg2) ++ ((lx0_0.drop (j2 + 1)).flatMap (apE 10 q_DescribeUserSCRAMCredentialsRequestUser ver true) ++ (uvarP tg0.length ++ ((tg0.map tagP).flatten ++ ([])))) = (uvarP (n2_0.length + 1) ++ n2_0) ++ (uvarP tg2.length ++ ((tg2.map tagP).flatten ++ ((lx0_0.drop (j2 + 1)).flatMap (apE 10 q_DescribeUserSCRAMCredentialsRequestUser ver true) ++ (uvarP tg0.length ++ ((tg0.map tagP).flatten ++ ([])))))) := by
        simp [apE_cpart, q_DescribeUserSCRAMCredentialsRequestUser, apFs, apF_cstr, (has_yes (show (0 : Int) ≤ ver by omega) (.inl (by decide)) : F.has (.mk 8 0 (-1) (-1) (-1) 0 0 []) ver = true)]
      rw [List.append_assoc, hel] at sc2
      clear hel
      have d2_0 := sc2.at_ cw2_0 hrb2
      go_wp2_with (first
        | (go_at_call 143; go_loud (refine (sc2.cst hl2_0).mono ?_; rintro e w3 ⟨v3, rfl, h3⟩; clear sc2))
        | (go_at_call 139; go_loud (refine (ApSt.tlen (i := j2 * 2 + 1) (j := 1) h3 hpt2 rfl rfl hmp2 hrb2 hG).mono ?_; rintro e wt ⟨rfl, rfl⟩))
        | (go_at_call 138; go_loud (refine (ApSt.uv h3 ht2_2).mono ?_; rintro e w4 ⟨v4, rfl, h4⟩; clear h3))
        | (go_at_call 140; go_loud (refine (ApSt.tg (i := j2 * 2 + 1) (j := 1) h4 hpt2 rfl rfl hmp2 hrb2 hG ht1_2).mono ?_; rintro e w5 ⟨v5, rfl, h5⟩; clear h4)))
      go_roundw
      case rel => exact ⟨j2 + 1, by go_num, by omega, h5⟩
      case measure => simp [intOf]; omega
    · rw [List.drop_of_length_le (by omega), List.flatMap_nil, List.nil_append] at sc2
      go_wp2_with (first
        | (go_at_call 139; go_loud (refine (ApSt.tlen (i := 2) (j := 1) sc2 hp rfl rfl hmp0 hb hG).mono ?_; rintro e wt ⟨rfl, rfl⟩))
        | (go_at_call 138; go_loud (refine (ApSt.uv sc2 ht2_0).mono ?_; rintro e w6 ⟨v6, rfl, h6⟩; clear sc2))
        | (go_at_call 140; go_loud (refine (ApSt.tg (i := 2) (j := 1) h6 hp rfl rfl hmp0 hb hG ht1_0).mono ?_; rintro e w7 ⟨v7, rfl, h7⟩; clear h6)))
      go_ret
      exact ⟨_, rfl, ApSt.done h7⟩
end Go.Proofs.YtobbchmjgoaleaaGreatDoor
