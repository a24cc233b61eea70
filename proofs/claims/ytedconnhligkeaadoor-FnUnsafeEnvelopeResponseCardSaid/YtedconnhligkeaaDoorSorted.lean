/-
  impl.sorted over tags that already lie by rising numbers: nothing turns.
-/
import Derived.Test.YtedconnhligkeaaDoorTagsP
import Derived.Test.YtedconnhligkeaaDoorOwn
namespace Go.Proofs.YtedconnhligkeaaDoor
open Go.ChangeShapes Go.WideShapes Go.ChangeAt Go.RowKit

set_option maxHeartbeats 400000 in
set_option maxRecDepth 100000 in
theorem sorted_any {G : Nat → Prop} {u : List Tg} {v : Value} {w : World} (h : HGs w G v u) (hG : There G w) (hr : Rising u) :
    Calls Tryd.prog 31 #[v] w fun e w' => e = .returned (.tuple #[]) ∧ Keep [] w w' := by
  obtain ⟨ao, cap, rfl, hcap⟩ : ∃ ao cap, v = .slice ao u.length cap ∧ u.length ≤ cap := by
    obtain ⟨vs, h1, _, _, _, ao, cap, e, h4, _⟩ := h
    exact ⟨ao, cap, e, h4⟩
  have hbd := h.bd
  go_enter Tryd.func31, Tryd.ntmps31
  go_wp2_with fail
  go_loopw [6, 2, 3] (fun k _ _ wr => ∃ j : Nat, k = .int .i64 (j : Int) ∧ j ≤ u.length ∧ Keep [] w wr) (fun k _ _ _ => u.length - (intOf k).toNat)
  case atStart => exact ⟨0, rfl, Nat.zero_le _, Keep.refl _ _⟩
  case round =>
    obtain ⟨j, rfl, hj, hk⟩ := hrel
    have hw := h.keepF (w' := wr) (G := G) (hG.same hk) (fun _ h => h)
    by_cases hlt : j < u.length
    · cases j with
      | zero =>
        go_wp2_with fail
        refine wp_loop_rounds 1 ?_
        rw [rounds_succ]
        go_wp2_with fail
        go_region
        go_wp2_with fail
        go_roundw
        case rel => exact ⟨1, by go_num, by omega, hk.drew⟩
        case measure => simp [intOf]; omega
      | succ m =>
        obtain ⟨bx, ox, av, pv, hv, hGx, c0, c1, _⟩ := hw.elem hlt
        cases hv
        obtain ⟨_, _, av', pv', hv, _, d0, d1, _⟩ := hw.elem (i := m) (by omega)
        cases hv
        have hle : u[m].1 < u[m + 1].1 := List.pairwise_iff_getElem.1 hr m (m + 1) (by omega) hlt (by omega)
        generalize hx : u[m + 1].1 = x1 at *
        generalize hy : u[m].1 = x0 at *
        go_wp2_with fail
        refine wp_loop_rounds 1 ?_
        rw [rounds_succ]
        go_wp2_with fail
        go_region
        go_wp2_with fail
        go_roundw
        case rel => exact ⟨m + 2, by go_num, by omega, hk.drew⟩
        case measure => simp [intOf]; omega
    · go_wp2_with fail
      refine bodyPost_end (v := .tuple #[]) (by simp [results, Tryd.results31, go_sem]) rfl ⟨rfl, hk⟩
end Go.Proofs.YtedconnhligkeaaDoor
