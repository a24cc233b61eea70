/-
  Reader.UnsafeString, CompactString, NullableString, CompactNullableString, each both ways.
-/
import Derived.Test.YtedconnhligkeaaDoorRdStr
import Derived.Test.YtedconnhligkeaaDoorRdUv
namespace Go.Proofs.YtedconnhligkeaaDoor
open Go.ChangeShapes Go.WideShapes Go.ChangeAt Go.RowKit

def rdCStr (s : St) : Bs × St := rdSpan ((rdUv s).1 - 1) (rdUv s).2
def rdNStr (s : St) : Option Bs × St := if (rdI 2 s).1 < 0 then (none, (rdI 2 s).2) else (some (rdStr s).1, (rdStr s).2)
def rdCNStr (s : St) : Option Bs × St := if (rdUv s).1 = 0 then (none, (rdUv s).2) else (some (rdCStr s).1, (rdCStr s).2)
/-- a pointer to a text, or nil -/
def PS (w : World) (G : Nat → Prop) (v : Value) (o : Option Bs) : Prop :=
  (v = .pointer none ∧ o = none) ∨ ∃ k l, v = .pointer (some ⟨k, 0, none⟩) ∧ o = some l ∧ G k ∧ w.heap[k]? = some (.cells #[str l] 9 (0, 0))
theorem Rd.lt' {w : World} {b : Nat} {G : Nat → Prop} {s : St} (h : Rd w b G s) : b < w.heap.size := by
  obtain ⟨v, h1, _⟩ := h
  exact (Array.getElem?_eq_some_iff.1 h1).1
theorem PS.keepF {w w' : World} {F G : Nat → Prop} {v : Value} {o : Option Bs} (h : PS w F v o) (hs : SameOn F w w') (hg : ∀ k, F k → G k) : PS w' G v o := by
  rcases h with h | ⟨k, l, h1, h2, h3, h4⟩
  · exact .inl h
  · exact .inr ⟨k, l, h1, h2, hg k h3, (hs k h3).trans h4⟩

end Go.Proofs.YtedconnhligkeaaDoor
