/-
  Reader.NullableString, CompactNullableString, each both ways.
-/
import Derived.Test.YtedconnhligkeaaDoorRdText
namespace Go.Proofs.YtedconnhligkeaaDoor
open Go.ChangeShapes Go.WideShapes Go.ChangeAt Go.RowKit

/-- a text in a box of its own -/
theorem ps_box {G : Nat → Prop} {b : Nat} {s : St} {w w2 : World} {l : Bs} (h : Rd w2 b G s) (hb : b < w2.heap.size) (hG : There G w2) (k : Keep [b] w w2) :
    PS (w2.alloc (.cells #[str l] 9)) (fun k => w.heap.size ≤ k ∧ k < (w2.alloc (.cells #[str l] 9)).heap.size) (.pointer (some ⟨w2.heap.size, 0, none⟩)) (some l) ∧ Rd (w2.alloc (.cells #[str l] 9)) b G s ∧ Keep [b] w (w2.alloc (.cells #[str l] 9)) := by
  refine ⟨.inr ⟨_, l, rfl, rfl, ⟨k.size, by simp⟩, heap_alloc_new _ _⟩, ?_, k.alloc _⟩
  obtain ⟨v, h1, h2⟩ := h
  exact ⟨v, ((keep_box (A := []) _).block b hb (by simp)).trans h1, h2.keepF (hG.same (keep_box _)) (fun _ h => h)⟩
theorem Rd.lt {w : World} {b : Nat} {G : Nat → Prop} {s : St} (h : Rd w b G s) : b < w.heap.size := by
  obtain ⟨v, h1, _⟩ := h
  exact (Array.getElem?_eq_some_iff.1 h1).1
end Go.Proofs.YtedconnhligkeaaDoor
