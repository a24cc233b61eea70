/-
  EnvelopeResponse: the law's function: both ways of reading tell the same.
-/
import Derived.Test.YtedconnhligkeaaDoorDrEnv
import Derived.Test.YtedconnhligkeaaDoorLawP
namespace Go.Proofs.YtedconnhligkeaaDoor
open Go.ChangeShapes Go.WideShapes Go.ChangeAt Go.RowKit

set_option maxHeartbeats 1600000 in
set_option maxRecDepth 100000 in
theorem env_law {G : Nat → Prop} {p : Addr} {l : Bs} {n : Int} {src : Value} {w : World} (hn : 0 ≤ n ∧ n ≤ 255) (hl : RB w G src l) (hG : There G w) (hg : Gl w p) :
    Calls Tryd.prog 4 #[.int .u8 n, src] w fun e w' => e = .returned (.bool true) ∧ Keep [] w w' := by
  obtain ⟨ao, cap, rfl⟩ := RS.shape hl
  have hv : 0 ≤ n % (0 + 1) ∧ n % (0 + 1) ≤ 0 := by omega
  have VA := fun W => version_any hn (m := 0) (by omega) W
  by_cases h1 : 2147483647 < l.length
  · go_enter Tryd.func4, Tryd.ntmps4
    go_wp2_with fail
    go_ret
    exact ⟨rfl, Keep.refl _ _⟩
  by_cases h2 : 1000 < l.length
  · go_enter Tryd.func4, Tryd.ntmps4
    go_wp2_with (go_at_call 11; refine (env_Max _).mono ?_; rintro e w1 ⟨rfl, k1⟩)
    go_ret
    exact ⟨rfl, k1⟩
  have hll : l.length ≤ 1000 := by omega
  generalize n % (0 + 1) = v at *
  go_enter Tryd.func4, Tryd.ntmps4
  cases hbad : (envRT v l).2.2
  · go_wp2_with (first
      | (go_at_call 11; refine (env_Max _).mono ?_; rintro e w1 ⟨rfl, k1⟩)
      | (go_at_call 7; refine (VA _).mono ?_; rintro e wv ⟨rfl, rfl⟩)
      | (go_at_call 12; go_loud (refine (env_Tell hv (hl.keepF (hG.same k1) (fun _ h => h)) hll (hG.keep k1) (hg.keep k1 List.not_mem_nil)).mono ?_; rintro e w4 ⟨c4, rfl, hc4, k4⟩; rw [hbad]; rw [hbad, if_neg Bool.false_ne_true] at hc4; have K4 := k1.trans k4; obtain ⟨a41, p41, a42, p42, a43, p43, rfl, -⟩ := id hc4.cells))
      | (go_at_call 13; go_loud (refine (env_Unsafe hv (hl.keepF (hG.same (K4.alloc _)) (fun _ h => h)) hll (hG.keep (K4.alloc _)) (hg.keep (K4.alloc _) List.not_mem_nil)).mono ?_; rintro e w5 ⟨c5, rfl, hc5, k5⟩; rw [hbad]; rw [hbad, if_neg Bool.false_ne_true] at hc5; have K5 := (K4.alloc _).trans k5; obtain ⟨a51, p51, a52, p52, a53, p53, rfl, -⟩ := id hc5.cells)))
    generalize envT v l = t at *
    refine law_end (o4 := .cells #[.int .i64 t.n, .slice a41 t.s.length p41, .bool t.null, .slice a42 t.l.length p42, .slice a43 t.u.length p43] 27) (o5 := .cells #[.int .i64 t.n, .slice a51 t.s.length p51, .bool t.null, .slice a52 t.l.length p52, .slice a53 t.u.length p53] 27) K5 k5 hc4 hc5 (fun k h => h.2) (fun k h => h.2) ?_
    intro W K6 hb5 hb7 h4 h5 g4 g5
    clear hc4 hc5 K5 k5 hl hG hg K4 k4 VA k1
    generalize w4.heap.size = b5 at *
    generalize w5.heap.size = b7 at *
    have hS := TTS.of hb5 hb7
    have HB5 : Hid _ := hb5
    have HB7 : Hid _ := hb7
    clear hb5 hb7
    have l5 := World.heap_lt HB5.out
    have l7 := World.heap_lt HB7.out
    go_region_held3 (fun w' => w'.cell? ⟨b5, 0, none⟩ = some (.int .i64 t.n) ∧ w'.cell? ⟨b5, 1, none⟩ = some (.slice a41 t.s.length p41) ∧ w'.cell? ⟨b5, 2, none⟩ = some (.bool t.null) ∧ w'.cell? ⟨b5, 3, none⟩ = some (.slice a42 t.l.length p42) ∧ w'.cell? ⟨b5, 4, none⟩ = some (.slice a43 t.u.length p43) ∧ w'.cell? ⟨b7, 0, none⟩ = some (.int .i64 t.n) ∧ w'.cell? ⟨b7, 1, none⟩ = some (.slice a51 t.s.length p51) ∧ w'.cell? ⟨b7, 2, none⟩ = some (.bool t.null) ∧ w'.cell? ⟨b7, 3, none⟩ = some (.slice a52 t.l.length p52) ∧ w'.cell? ⟨b7, 4, none⟩ = some (.slice a53 t.u.length p53)) (exact hS) (first
      | (go_at_call 10; (refine (gotSaid t _ _ wa (h5.keepF (g5.same kA) (fun _ h => h)) (g5.keep kA)).mono ?_; rintro e wb ⟨cb, rfl, hb, kb⟩; have kB : Keep [] W wb := kA.trans kb; obtain ⟨a71, p71, a72, p72, a73, p73, rfl, -⟩ := id hb.cells; have hS := TTS.of ((kB.block _ l5 List.not_mem_nil).trans HB5.out) ((kB.block _ l7 List.not_mem_nil).trans HB7.out)))
      | (go_at_call 10; go_loud (refine (gotSaid t _ _ W.drew (h4.keepF (g4.same (Keep.refl [] W).drew) (fun _ h => h)) (g4.keep (Keep.refl [] W).drew)).mono ?_; rintro e wa ⟨ca, rfl, ha, ka⟩; have kA : Keep [] W wa := (Keep.refl [] W).drew.trans ka; obtain ⟨a61, p61, a62, p62, a63, p63, rfl, -⟩ := id ha.cells; have hS := TTS.of ((kA.block _ l5 List.not_mem_nil).trans HB5.out) ((kA.block _ l7 List.not_mem_nil).trans HB7.out)))
      | (go_at_call 9; go_loud (refine (sameSaid t _ _ _ _ wb (ha.keepF (fun k hk => kb.block k hk.2 List.not_mem_nil) (fun _ h => h)) hb (fun k hk => Nat.lt_of_lt_of_le hk.2 kb.size) (fun k hk => hk.2)).mono ?_; rintro e wc ⟨rfl, kc⟩; have kC : Keep [] W wc := kB.trans kc; have hS := TTS.of ((kC.block _ l5 List.not_mem_nil).trans HB5.out) ((kC.block _ l7 List.not_mem_nil).trans HB7.out))))
    all_goals go_wp2
    all_goals go_ret
    all_goals exact ⟨rfl, K6.trans kC⟩
  · go_wp2_with (first
      | (go_at_call 11; refine (env_Max _).mono ?_; rintro e w1 ⟨rfl, k1⟩)
      | (go_at_call 7; refine (VA _).mono ?_; rintro e wv ⟨rfl, rfl⟩)
      | (go_at_call 12; go_loud (refine (env_Tell hv (hl.keepF (hG.same k1) (fun _ h => h)) hll (hG.keep k1) (hg.keep k1 List.not_mem_nil)).mono ?_; rintro e w4 ⟨c4, rfl, hc4, k4⟩; rw [hbad]; have K4 := k1.trans k4; obtain ⟨a41, p41, a42, p42, a43, p43, rfl, -⟩ := id hc4.cells))
      | (go_at_call 13; go_loud (refine (env_Unsafe hv (hl.keepF (hG.same (K4.alloc _)) (fun _ h => h)) hll (hG.keep (K4.alloc _)) (hg.keep (K4.alloc _) List.not_mem_nil)).mono ?_; rintro e w5 ⟨c5, rfl, hc5, k5⟩; rw [hbad]; have K5 := (K4.alloc _).trans k5; obtain ⟨a51, p51, a52, p52, a53, p53, rfl, -⟩ := id hc5.cells)))
    go_region
    all_goals go_wp2
    all_goals go_ret
    all_goals exact ⟨rfl, (K5.alloc _).drew⟩
end Go.Proofs.YtedconnhligkeaaDoor
