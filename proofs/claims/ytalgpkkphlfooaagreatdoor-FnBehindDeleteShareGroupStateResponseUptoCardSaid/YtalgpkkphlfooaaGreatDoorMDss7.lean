/-
  DeleteShareGroupStateResponse: writing.
-/
import Derived.Test.YtalgpkkphlfooaaGreatDoorMB16
import Derived.Test.YtalgpkkphlfooaaGreatDoorMDss1
import Derived.Test.YtalgpkkphlfooaaGreatDoorMB13
import Derived.Test.YtalgpkkphlfooaaGreatDoorMDss6
import Derived.Deep.CutBlock
namespace Go.Proofs.YtalgpkkphlfooaaGreatDoor
open Go.ChangeShapes Go.WideShapes Go.ChangeAt Go.RowKit

set_option maxHeartbeats 40000000 in
set_option maxRecDepth 100000 in
theorem dss_app_0 {G : Nat → Prop} {b B : Nat} {c : List Value} {t : T} {w : World} {ver : Int} {v : Value} {acc : Bs} (hp : Pt w b 1 c) (_hver : w.cell? ⟨b, 0, none⟩ = some (.int .i16 ver)) (hv : VK w G 10 (-1) (VFs w G q_DeleteShareGroupStateResponse) c t) (hb : b < B) (hG : ∀ k, G k → k < B) (ho : OB w B v acc) (hB : B ≤ w.heap.size) (hs : small 1000000 t) (hl : (acc ++ apPart q_DeleteShareGroupStateResponse ver true t).length ≤ 40000000000000) (hv0 : 0 ≤ ver)  :
    Calls Tryz.prog 47 #[.pointer (some ⟨b, 0, none⟩), v] w fun e w' => ∃ v', e = .returned v' ∧ OB w' B v' (acc ++ apPart q_DeleteShareGroupStateResponse ver true t) ∧ Below B w w' := by
  obtain ⟨cs, tv, l, tg0, rfl, hf, hmp0, rfl⟩ : ∃ cs v l u, c = cs ++ [v] ∧ VFs w G q_DeleteShareGroupStateResponse cs l ∧ MP w G v u ∧ t = .mk 0 [] false l u := hv
  simp only [small] at hs
  obtain ⟨_, _, ht2_0, ht1_0, hsl⟩ := hs
  unfold q_DeleteShareGroupStateResponse at hf
  obtain ⟨c0_0, cr0_0, t0_0, l0_0, rfl, rfl, hf0_0, hr0_0⟩ := hf
  obtain ⟨rfl, rfl⟩ := hr0_0
  have hs0_0 : small 1000000 t0_0 := smalls_mem hsl _ (by simp)
  obtain ⟨v0_0, rfl, vl0_0⟩ := vf_list_inv hf0_0
  obtain ⟨nu0_0, css0_0, lx0_0, eq0_0, ev0_0, hrw0_0, hnil0_0, rfl⟩ := vl0_0
  obtain ⟨ao0_0, cp0_0, rfl, hcp0_0, hcn0_0⟩ := hrw0_0.shape
  rw [eq0_0] at hrw0_0 hcp0_0 hcn0_0 hnil0_0 hp
  have HEQ0_0 : Hid _ := eq0_0
  clear eq0_0
  obtain ⟨_, hll0_0, _, _, hsl0_0⟩ := hs0_0
  clear hf0_0
  simp only [List.cons_append, List.nil_append] at hp
  have cw0_0 : w.cell? ⟨b, 1, none⟩ = some _ := hp.cell (o := 1) (j := 0) rfl rfl
  have heq : apPart q_DeleteShareGroupStateResponse ver true (.mk 0 [] false [(.mk 0 [] nu0_0 lx0_0 [])] tg0) = uvarP (lx0_0.length + 1) ++ (lx0_0.flatMap (apE 10 q_DeleteShareGroupStateResponseTopic ver true) ++ (uvarP tg0.length ++ ((tg0.map tagP).flatten ++ ([])))) := by
    simp [apPart_flex, q_DeleteShareGroupStateResponse, apFs, apF_clist (show (-1 : Int) < 0 by decide), (has_yes (show (0 : Int) ≤ ver by omega) (.inl (by decide)) : F.has (.mk 11 0 (-1) (-1) (-1) 0 10 q_DeleteShareGroupStateResponseTopic) ver = true)]
  rw [heq] at hl ⊢
  have h0 := ApSt.start ho hB hl
  obtain ⟨FF, hFF⟩ : ∃ x, x = acc ++ (uvarP (lx0_0.length + 1) ++ (lx0_0.flatMap (apE 10 q_DeleteShareGroupStateResponseTopic ver true) ++ (uvarP tg0.length ++ ((tg0.map tagP).flatten ++ ([]))))) := ⟨_, rfl⟩
  rw [← hFF] at h0 ⊢
  clear heq hl ho hFF
  go_enter Tryz.func47, Tryz.ntmps47
  go_wp2_with (first
    | (go_at_call 77; go_loud (refine (h0.cln hll0_0).mono ?_; rintro e w1 ⟨v1, rfl, h1⟩; clear h0)))
  refine dss_al0f (w := w) (nu := nu0_0) rfl ⟨nu0_0, css0_0, lx0_0, HEQ0_0.out, ev0_0, by rw [HEQ0_0.out]; exact hrw0_0, hnil0_0, rfl⟩ hll0_0 hsl0_0 hG hv0 h1 ?hexit
  case hexit =>
    show ∀ (wr : World) (y1 y8 y9 y10 y11 y12 y13 y14 y15 y16 y40 y41 y42 y43 y44 y45 y46 y47 y48 y49 y50 y51 y52 y53 y54 y55 y56 y57 y58 y59 y60 y61 y62 y63 y64 y65 y66 y67 y68 y69 y70 y71 y72 y73 y74 y75 y76 y77 y78 y79 y80 y81 y82 y83 y84 y85 y86 y87 y88 y89 y90 y91 y92 y93 y94 y95 y96 y97 y98 y99 y100 y101 y102 y103 y104 y105 y106 y107 y108 y109 y110 y111 y112 y113 y114 y115 y116 y117 y118 y119 y120 y121 y122 y123 y124 y125 y126 y127 y128 : Value), _
    intro wq2 dq2 _ _ _ _ _ _ _ _ _ _ _ _ _ _ _ _ _ _ _ _ _ _ _ _ _ _ _ _ _ _ _ _ _ _ _ _ _ _ _ _ _ _ _ _ _ _ _ _ _ _ _ _ _ _ _ _ _ _ _ _ _ _ _ _ _ _ _ _ _ _ _ _ _ _ _ _ _ _ _ _ _ _ _ _ _ _ _ _ _ _ _ _ _ _ _ _ _ _ sc2
    clear h1
    go_wp2_with (first
      | (go_at_call 82; go_loud (refine (ApSt.tlen (i := 2) (j := 1) sc2 hp rfl rfl hmp0 hb hG).mono ?_; rintro e wt ⟨rfl, rfl⟩))
      | (go_at_call 81; go_loud (refine (ApSt.uv sc2 ht2_0).mono ?_; rintro e w3 ⟨v3, rfl, h3⟩; clear sc2))
      | (go_at_call 83; go_loud (refine (ApSt.tg (i := 2) (j := 1) h3 hp rfl rfl hmp0 hb hG ht1_0).mono ?_; rintro e w4 ⟨v4, rfl, h4⟩; clear h3)))
    go_ret
    exact ⟨_, rfl, ApSt.done h4⟩
end Go.Proofs.YtalgpkkphlfooaaGreatDoor
