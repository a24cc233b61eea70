/-
  A struct within a struct: its cells.
-/
import Derived.Test.YtdebdgofomnpoaaGreatDoorMB17
import Derived.Test.YtdebdgofomnpoaaGreatDoorMB16
namespace Go.Proofs.YtdebdgofomnpoaaGreatDoor
open Go.ChangeShapes Go.WideShapes Go.ChangeAt Go.RowKit

theorem Pt.mid {W : World} {pb po : Nat} {c : List Value} (h : Pt W pb po c) (j m : Nat) {o : Nat} {cs : List Value} (ho : o = po + j) (hj : j ≤ c.length) (hcs : (c.drop j).take m = cs) : Pt W pb o cs := by
  obtain ⟨pre, post, ty, h1, h2⟩ := h
  refine ⟨pre ++ c.take j, (c.drop j).drop m ++ post, ty, ?_, ?_⟩
  · rw [h1, ← hcs]
    have e : c = c.take j ++ ((c.drop j).take m ++ (c.drop j).drop m) := by rw [List.take_append_drop, List.take_append_drop]
    conv => lhs; rw [e]
    simp
  · subst ho h2
    simp
    omega
end Go.Proofs.YtdebdgofomnpoaaGreatDoor
/-
  impl.boolTree.
-/
namespace Go.Proofs.YtdebdgofomnpoaaGreatDoor
open Go.ChangeShapes Go.WideShapes Go.ChangeAt Go.RowKit

set_option maxHeartbeats 800000 in
set_option maxRecDepth 100000 in
theorem btree_any (b : Bool) (w : World) :
    Calls Tryz.prog 175 #[.bool b] w fun e w' => ∃ c, e = .returned (.agg c.toArray) ∧ HT w' (fun k => w.heap.size ≤ k ∧ k < w'.heap.size) (.mk (if b then 1 else 0) [] false [] []) c ∧ Keep [] w w' := by
  cases b with
  | true =>
    go_enter Tryz.func175, Tryz.ntmps175
    go_wp2_with fail
    refine bodyPost_ret (v := .agg #[.int .i64 1, .slice none 0 0, .bool false, .slice none 0 0, .slice none 0 0]) (by simp [results, Tryz.results175, go_sem]) rfl ⟨[.int .i64 1, .slice none 0 0, .bool false, .slice none 0 0, .slice none 0 0], rfl, ?_, ?_⟩
    · exact HT.of 1 [] false [] [] (RB.nil _ _) (HTs.nil _ _) (HGs.nil _ _) (by decide) (by decide) (by decide) (by decide)
    · first | exact Keep.refl _ _ | exact keep_box _ | exact (keep_box _).alloc _
  | false =>
    go_enter Tryz.func175, Tryz.ntmps175
    go_wp2_with fail
    refine bodyPost_ret (v := .agg #[.int .i64 0, .slice none 0 0, .bool false, .slice none 0 0, .slice none 0 0]) (by simp [results, Tryz.results175, go_sem]) rfl ⟨[.int .i64 0, .slice none 0 0, .bool false, .slice none 0 0, .slice none 0 0], rfl, ?_, ?_⟩
    · exact HT.of 0 [] false [] [] (RB.nil _ _) (HTs.nil _ _) (HGs.nil _ _) (by decide) (by decide) (by decide) (by decide)
    · first | exact Keep.refl _ _ | exact keep_box _ | exact (keep_box _).alloc _
theorem btree_body : Tryz.f175.body.isNone = false := by kernel_rfl
theorem btree_name : (Tryz.f175.name == "runtime.NumGoroutine") = false := by kernel_rfl
end Go.Proofs.YtdebdgofomnpoaaGreatDoor
