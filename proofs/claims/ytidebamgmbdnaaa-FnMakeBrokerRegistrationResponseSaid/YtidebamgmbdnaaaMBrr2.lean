/-
  BrokerRegistrationResponse: writing.
-/
import Derived.Test.YtidebamgmbdnaaaMB16
import Derived.Test.YtidebamgmbdnaaaMBrr1
import Derived.Test.YtidebamgmbdnaaaMB13
import Derived.Deep.CutBlock
namespace Go.Proofs.Ytidebamgmbdnaaa
open Go.ChangeShapes Go.WideShapes Go.ChangeAt Go.RowKit

set_option maxHeartbeats 4000000 in
set_option maxRecDepth 100000 in
theorem brr_app_0 {G : Nat → Prop} {b B : Nat} {c : List Value} {t : T} {w : World} {ver : Int} {v : Value} {acc : Bs} (hp : Pt w b 1 c) (_hver : w.cell? ⟨b, 0, none⟩ = some (.int .i16 ver)) (hv : VK w G 10 (-1) (VFs w G q_BrokerRegistrationResponse) c t) (hb : b < B) (hG : ∀ k, G k → k < B) (ho : OB w B v acc) (hB : B ≤ w.heap.size) (hs : small 1000000 t) (hl : (acc ++ apPart q_BrokerRegistrationResponse ver true t).length ≤ 40000000000000) (_hv0 : 0 ≤ ver)  :
    Calls Try.prog 34 #[.pointer (some ⟨b, 0, none⟩), v] w fun e w' => ∃ v', e = .returned v' ∧ OB w' B v' (acc ++ apPart q_BrokerRegistrationResponse ver true t) ∧ Below B w w' := by
  obtain ⟨cs, tv, l, tg0, rfl, hf, hmp0, rfl⟩ : ∃ cs v l u, c = cs ++ [v] ∧ VFs w G q_BrokerRegistrationResponse cs l ∧ MP w G v u ∧ t = .mk 0 [] false l u := hv
  simp only [small] at hs
  obtain ⟨_, _, ht2_0, ht1_0, hsl⟩ := hs
  unfold q_BrokerRegistrationResponse at hf
  obtain ⟨c0_0, cr0_0, t0_0, l0_0, rfl, rfl, hf0_0, hr0_0⟩ := hf
  obtain ⟨c0_1, cr0_1, t0_1, l0_1, rfl, rfl, hf0_1, hr0_1⟩ := hr0_0
  obtain ⟨c0_2, cr0_2, t0_2, l0_2, rfl, rfl, hf0_2, hr0_2⟩ := hr0_1
  obtain ⟨rfl, rfl⟩ := hr0_2
  have hs0_0 : small 1000000 t0_0 := smalls_mem hsl _ (by simp)
  obtain ⟨n0_0, rfl, ⟨ra0_0, rb0_0⟩, rfl⟩ := vf_i32_inv hf0_0
  have hs0_1 : small 1000000 t0_1 := smalls_mem hsl _ (by simp)
  obtain ⟨n0_1, rfl, ⟨ra0_1, rb0_1⟩, rfl⟩ := vf_i16_inv hf0_1
  have hs0_2 : small 1000000 t0_2 := smalls_mem hsl _ (by simp)
  obtain ⟨n0_2, rfl, ⟨ra0_2, rb0_2⟩, rfl⟩ := vf_i64_inv hf0_2
  clear hf0_0
  clear hf0_1
  clear hf0_2
  simp only [List.cons_append, List.nil_append] at hp
  have cw0_0 : w.cell? ⟨b, 1, none⟩ = some _ := hp.cell (o := 1) (j := 0) rfl rfl
  have cw0_1 : w.cell? ⟨b, 2, none⟩ = some _ := hp.cell (o := 2) (j := 1) rfl rfl
  have cw0_2 : w.cell? ⟨b, 3, none⟩ = some _ := hp.cell (o := 3) (j := 2) rfl rfl
  have heq : apPart q_BrokerRegistrationResponse ver true (.mk 0 [] false [(.mk n0_0 [] false [] []), (.mk n0_1 [] false [] []), (.mk n0_2 [] false [] [])] tg0) = fixedP n0_0 4 ++ (fixedP n0_1 2 ++ (fixedP n0_2 8 ++ (uvarP tg0.length ++ ((tg0.map tagP).flatten ++ ([]))))) := by
    simp [apPart_flex, q_BrokerRegistrationResponse, apFs, apF_i16, apF_i32, apF_i64, (has_yes (show (0 : Int) ≤ ver by omega) (.inl (by decide)) : F.has (.mk 3 0 (-1) (-1) (-1) 0 0 []) ver = true), (has_yes (show (0 : Int) ≤ ver by omega) (.inl (by decide)) : F.has (.mk 2 0 (-1) (-1) (-1) 0 0 []) ver = true), (has_yes (show (0 : Int) ≤ ver by omega) (.inl (by decide)) : F.has (.mk 4 0 (-1) (-1) (-1) (-1) 0 []) ver = true)]
  rw [heq] at hl ⊢
  have h0 := ApSt.start ho hB hl
  obtain ⟨FF, hFF⟩ : ∃ x, x = acc ++ (fixedP n0_0 4 ++ (fixedP n0_1 2 ++ (fixedP n0_2 8 ++ (uvarP tg0.length ++ ((tg0.map tagP).flatten ++ ([])))))) := ⟨_, rfl⟩
  rw [← hFF] at h0 ⊢
  clear heq hl ho hFF
  go_enter Try.func34, Try.ntmps34
  go_wp2_with (first
    | (go_at_call 65; go_loud (refine (h0.i32).mono ?_; rintro e w1 ⟨v1, rfl, h1⟩; clear h0; have d0_1 := h1.at_ cw0_1 hb))
    | (go_at_call 66; go_loud (refine (h1.i16).mono ?_; rintro e w2 ⟨v2, rfl, h2⟩; clear h1; have d0_2 := h2.at_ cw0_2 hb))
    | (go_at_call 67; go_loud (refine (h2.i64).mono ?_; rintro e w3 ⟨v3, rfl, h3⟩; clear h2))
    | (go_at_call 69; go_loud (refine (ApSt.tlen (i := 4) (j := 3) h3 hp rfl rfl hmp0 hb hG).mono ?_; rintro e wt ⟨rfl, rfl⟩))
    | (go_at_call 68; go_loud (refine (ApSt.uv h3 ht2_0).mono ?_; rintro e w4 ⟨v4, rfl, h4⟩; clear h3))
    | (go_at_call 70; go_loud (refine (ApSt.tg (i := 4) (j := 3) h4 hp rfl rfl hmp0 hb hG ht1_0).mono ?_; rintro e w5 ⟨v5, rfl, h5⟩; clear h4)))
  go_ret
  exact ⟨_, rfl, ApSt.done h5⟩
end Go.Proofs.Ytidebamgmbdnaaa
