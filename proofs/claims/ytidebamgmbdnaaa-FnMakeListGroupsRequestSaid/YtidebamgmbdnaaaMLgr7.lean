/-
  ListGroupsRequest: writing.
-/
import Derived.Test.YtidebamgmbdnaaaMB16
import Derived.Test.YtidebamgmbdnaaaMLgr1
import Derived.Test.YtidebamgmbdnaaaMB13
import Derived.Test.YtidebamgmbdnaaaMLgr4
import Derived.Test.YtidebamgmbdnaaaMLgr6
import Derived.Deep.CutBlock
namespace Go.Proofs.Ytidebamgmbdnaaa
open Go.ChangeShapes Go.WideShapes Go.ChangeAt Go.RowKit

set_option maxHeartbeats 4000000 in
set_option maxRecDepth 100000 in
theorem lgr_app_3 {G : Nat → Prop} {b B : Nat} {c : List Value} {t : T} {w : World} {ver : Int} {v : Value} {acc : Bs} (hp : Pt w b 1 c) (_hver : w.cell? ⟨b, 0, none⟩ = some (.int .i16 ver)) (hv : VK w G 10 (-1) (VFs w G q_ListGroupsRequest) c t) (hb : b < B) (hG : ∀ k, G k → k < B) (ho : OB w B v acc) (hB : B ≤ w.heap.size) (hs : small 1000000 t) (hl : (acc ++ apPart q_ListGroupsRequest ver true t).length ≤ 40000000000000) (hv0 : 0 ≤ ver) (_B3 : 3 ≤ ver) (_B4 : 4 ≤ ver) (_B5 : 5 ≤ ver) :
    Calls Try.prog 44 #[.pointer (some ⟨b, 0, none⟩), v] w fun e w' => ∃ v', e = .returned v' ∧ OB w' B v' (acc ++ apPart q_ListGroupsRequest ver true t) ∧ Below B w w' := by
  obtain ⟨cs, tv, l, tg0, rfl, hf, hmp0, rfl⟩ : ∃ cs v l u, c = cs ++ [v] ∧ VFs w G q_ListGroupsRequest cs l ∧ MP w G v u ∧ t = .mk 0 [] false l u := hv
  simp only [small] at hs
  obtain ⟨_, _, ht2_0, ht1_0, hsl⟩ := hs
  unfold q_ListGroupsRequest at hf
  obtain ⟨c0_0, cr0_0, t0_0, l0_0, rfl, rfl, hf0_0, hr0_0⟩ := hf
  obtain ⟨c0_1, cr0_1, t0_1, l0_1, rfl, rfl, hf0_1, hr0_1⟩ := hr0_0
  obtain ⟨rfl, rfl⟩ := hr0_1
  have hs0_0 : small 1000000 t0_0 := smalls_mem hsl _ (by simp)
  obtain ⟨v0_0, rfl, vl0_0⟩ := vf_list_inv hf0_0
  obtain ⟨nu0_0, css0_0, lx0_0, eq0_0, ev0_0, hrw0_0, hnil0_0, rfl⟩ := vl0_0
  obtain ⟨ao0_0, cp0_0, rfl, hcp0_0, hcn0_0⟩ := hrw0_0.shape
  rw [eq0_0] at hrw0_0 hcp0_0 hcn0_0 hnil0_0 hp
  have HEQ0_0 : Hid _ := eq0_0
  clear eq0_0
  obtain ⟨_, hll0_0, _, _, hsl0_0⟩ := hs0_0
  have hs0_1 : small 1000000 t0_1 := smalls_mem hsl _ (by simp)
  obtain ⟨v0_1, rfl, vl0_1⟩ := vf_list_inv hf0_1
  obtain ⟨nu0_1, css0_1, lx0_1, eq0_1, ev0_1, hrw0_1, hnil0_1, rfl⟩ := vl0_1
  obtain ⟨ao0_1, cp0_1, rfl, hcp0_1, hcn0_1⟩ := hrw0_1.shape
  rw [eq0_1] at hrw0_1 hcp0_1 hcn0_1 hnil0_1 hp
  have HEQ0_1 : Hid _ := eq0_1
  clear eq0_1
  obtain ⟨_, hll0_1, _, _, hsl0_1⟩ := hs0_1
  clear hf0_0
  clear hf0_1
  simp only [List.cons_append, List.nil_append] at hp
  have cw0_0 : w.cell? ⟨b, 1, none⟩ = some _ := hp.cell (o := 1) (j := 0) rfl rfl
  have cw0_1 : w.cell? ⟨b, 2, none⟩ = some _ := hp.cell (o := 2) (j := 1) rfl rfl
  have heq : apPart q_ListGroupsRequest ver true (.mk 0 [] false [(.mk 0 [] nu0_0 lx0_0 []), (.mk 0 [] nu0_1 lx0_1 [])] tg0) = uvarP (lx0_0.length + 1) ++ (lx0_0.flatMap (apE 8 [] ver true) ++ (uvarP (lx0_1.length + 1) ++ (lx0_1.flatMap (apE 8 [] ver true) ++ (uvarP tg0.length ++ ((tg0.map tagP).flatten ++ ([])))))) := by
    simp [apPart_flex, q_ListGroupsRequest, apFs, apF_clist (show (-1 : Int) < 0 by decide), (has_yes (show (4 : Int) ≤ ver by omega) (.inl (by decide)) : F.has (.mk 11 4 (-1) (-1) (-1) 0 8 []) ver = true), (has_yes (show (5 : Int) ≤ ver by omega) (.inl (by decide)) : F.has (.mk 11 5 (-1) (-1) (-1) 0 8 []) ver = true)]
  rw [heq] at hl ⊢
  have h0 := ApSt.start ho hB hl
  obtain ⟨FF, hFF⟩ : ∃ x, x = acc ++ (uvarP (lx0_0.length + 1) ++ (lx0_0.flatMap (apE 8 [] ver true) ++ (uvarP (lx0_1.length + 1) ++ (lx0_1.flatMap (apE 8 [] ver true) ++ (uvarP tg0.length ++ ((tg0.map tagP).flatten ++ ([]))))))) := ⟨_, rfl⟩
  rw [← hFF] at h0 ⊢
  clear heq hl ho hFF
  go_enter Try.func44, Try.ntmps44
  go_wp2_with (first
    | (go_at_call 79; go_loud (refine (h0.cln hll0_0).mono ?_; rintro e w1 ⟨v1, rfl, h1⟩; clear h0)))
  refine lgr_al0f (w := w) (nu := nu0_0) rfl ⟨nu0_0, css0_0, lx0_0, HEQ0_0.out, ev0_0, by rw [HEQ0_0.out]; exact hrw0_0, hnil0_0, rfl⟩ hll0_0 hsl0_0 hG hv0 h1 ?hexit
  case hexit =>
    show ∀ (wr : World) (y1 y8 y9 y38 y39 y40 y41 y42 y43 y44 y45 y46 y47 y48 y49 y50 y51 y52 : Value), _
    intro wq2 dq2 _ _ _ _ _ _ _ _ _ _ _ _ _ _ _ _ _ sc2
    clear h1
    have d0_1 := sc2.at_ cw0_1 hb
    go_wp2_with (first
      | (go_at_call 79; go_loud (refine (sc2.cln hll0_1).mono ?_; rintro e w3 ⟨v3, rfl, h3⟩; clear sc2)))
    refine lgr_al1f (w := w) (nu := nu0_1) rfl ⟨nu0_1, css0_1, lx0_1, HEQ0_1.out, ev0_1, by rw [HEQ0_1.out]; exact hrw0_1, hnil0_1, rfl⟩ hll0_1 hsl0_1 hG hv0 h3 ?hexit
    case hexit =>
      show ∀ (wr : World) (y1 y11 y12 y70 y71 y72 y73 y74 y75 y76 y77 y78 y79 y80 y81 y82 y83 y84 : Value), _
      intro wq4 dq4 _ _ _ _ _ _ _ _ _ _ _ _ _ _ _ _ _ sc4
      clear h3
      go_wp2_with (first
        | (go_at_call 69; go_loud (refine (ApSt.tlen (i := 3) (j := 2) sc4 hp rfl rfl hmp0 hb hG).mono ?_; rintro e wt ⟨rfl, rfl⟩))
        | (go_at_call 68; go_loud (refine (ApSt.uv sc4 ht2_0).mono ?_; rintro e w5 ⟨v5, rfl, h5⟩; clear sc4))
        | (go_at_call 70; go_loud (refine (ApSt.tg (i := 3) (j := 2) h5 hp rfl rfl hmp0 hb hG ht1_0).mono ?_; rintro e w6 ⟨v6, rfl, h6⟩; clear h5)))
      go_ret
      exact ⟨_, rfl, ApSt.done h6⟩
end Go.Proofs.Ytidebamgmbdnaaa
