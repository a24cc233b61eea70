/-
  A struct within a struct: its cells.
-/
import Derived.Test.YtdebdgofomnpoaaGreatDoorMB17
namespace Go.Proofs.YtdebdgofomnpoaaGreatDoor
open Go.ChangeShapes Go.WideShapes Go.ChangeAt Go.RowKit

theorem Pt.mid {W : World} {pb po : Nat} {c : List Value} (h : Pt W pb po c) (j m : Nat) {o : Nat} {cs : List Value} (ho : o = po + j) (hj : j ≤ c.length) (hcs : (c.drop j).take m = cs) : Pt W pb o cs := by
  obtain ⟨pre, post, ty, h1, h2⟩ := h
  refine ⟨pre ++ c.take j, (c.drop j).drop m ++ post, ty, ?_, ?_⟩
  · rw [h1, ← hcs]
    have e : c = c.take j ++ ((c.drop j).take m ++ (c.drop j).drop m) := by rw [List.take_append_drop, List.take_append_drop]
    conv => lhs; rw [e]
    simp
  · subst ho h2
    simp
    omega
end Go.Proofs.YtdebdgofomnpoaaGreatDoor
