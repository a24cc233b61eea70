/-
  ListGroupsRequest: writing.
-/
import Derived.Test.YtidebamgmbdnaaaMB16
import Derived.Test.YtidebamgmbdnaaaMLgr1
import Derived.Test.YtidebamgmbdnaaaMB13
import Derived.Deep.CutBlock
namespace Go.Proofs.Ytidebamgmbdnaaa
open Go.ChangeShapes Go.WideShapes Go.ChangeAt Go.RowKit

set_option maxHeartbeats 4000000 in
set_option maxRecDepth 100000 in
theorem lgr_app_0 {G : Nat → Prop} {b B : Nat} {c : List Value} {t : T} {w : World} {ver : Int} {v : Value} {acc : Bs} (hp : Pt w b 1 c) (_hver : w.cell? ⟨b, 0, none⟩ = some (.int .i16 ver)) (hv : VK w G 10 (-1) (VFs w G q_ListGroupsRequest) c t) (_hb : b < B) (_hG : ∀ k, G k → k < B) (ho : OB w B v acc) (hB : B ≤ w.heap.size) (hs : small 1000000 t) (hl : (acc ++ apPart q_ListGroupsRequest ver false t).length ≤ 40000000000000) (_hv0 : 0 ≤ ver) (_B3 : ¬ 3 ≤ ver) (_B4 : ¬ 4 ≤ ver) (_B5 : ¬ 5 ≤ ver) :
    Calls Try.prog 44 #[.pointer (some ⟨b, 0, none⟩), v] w fun e w' => ∃ v', e = .returned v' ∧ OB w' B v' (acc ++ apPart q_ListGroupsRequest ver false t) ∧ Below B w w' := by
  obtain ⟨cs, tv, l, tg0, rfl, hf, hmp0, rfl⟩ : ∃ cs v l u, c = cs ++ [v] ∧ VFs w G q_ListGroupsRequest cs l ∧ MP w G v u ∧ t = .mk 0 [] false l u := hv
  simp only [small] at hs
  obtain ⟨_, _, ht2_0, ht1_0, hsl⟩ := hs
  unfold q_ListGroupsRequest at hf
  obtain ⟨c0_0, cr0_0, t0_0, l0_0, rfl, rfl, hf0_0, hr0_0⟩ := hf
  obtain ⟨c0_1, cr0_1, t0_1, l0_1, rfl, rfl, hf0_1, hr0_1⟩ := hr0_0
  obtain ⟨rfl, rfl⟩ := hr0_1
  have hs0_0 : small 1000000 t0_0 := smalls_mem hsl _ (by simp)
  obtain ⟨v0_0, rfl, vl0_0⟩ := vf_list_inv hf0_0
  obtain ⟨nu0_0, css0_0, lx0_0, eq0_0, ev0_0, hrw0_0, hnil0_0, rfl⟩ := vl0_0
  obtain ⟨ao0_0, cp0_0, rfl, hcp0_0, hcn0_0⟩ := hrw0_0.shape
  rw [eq0_0] at hrw0_0 hcp0_0 hcn0_0 hnil0_0 hp
  have HEQ0_0 : Hid _ := eq0_0
  clear eq0_0
  obtain ⟨_, hll0_0, _, _, hsl0_0⟩ := hs0_0
  have hs0_1 : small 1000000 t0_1 := smalls_mem hsl _ (by simp)
  obtain ⟨v0_1, rfl, vl0_1⟩ := vf_list_inv hf0_1
  obtain ⟨nu0_1, css0_1, lx0_1, eq0_1, ev0_1, hrw0_1, hnil0_1, rfl⟩ := vl0_1
  obtain ⟨ao0_1, cp0_1, rfl, hcp0_1, hcn0_1⟩ := hrw0_1.shape
  rw [eq0_1] at hrw0_1 hcp0_1 hcn0_1 hnil0_1 hp
  have HEQ0_1 : Hid _ := eq0_1
  clear eq0_1
  obtain ⟨_, hll0_1, _, _, hsl0_1⟩ := hs0_1
  clear hf0_0
  clear hf0_1
  simp only [List.cons_append, List.nil_append] at hp
  have heq : apPart q_ListGroupsRequest ver false (.mk 0 [] false [(.mk 0 [] nu0_0 lx0_0 []), (.mk 0 [] nu0_1 lx0_1 [])] tg0) = [] := by
    simp [apPart_plain, q_ListGroupsRequest, apFs, (has_no1 (show ¬ (4 : Int) ≤ ver by omega) : F.has (.mk 11 4 (-1) (-1) (-1) 0 8 []) ver = false), (has_no1 (show ¬ (5 : Int) ≤ ver by omega) : F.has (.mk 11 5 (-1) (-1) (-1) 0 8 []) ver = false)]
  rw [heq] at hl ⊢
  have h0 := ApSt.start ho hB hl
  obtain ⟨FF, hFF⟩ : ∃ x, x = acc ++ ([]) := ⟨_, rfl⟩
  rw [← hFF] at h0 ⊢
  clear heq hl ho hFF
  go_enter Try.func44, Try.ntmps44
  go_wp2_with fail
  go_ret
  exact ⟨_, rfl, ApSt.done h0⟩
end Go.Proofs.Ytidebamgmbdnaaa
