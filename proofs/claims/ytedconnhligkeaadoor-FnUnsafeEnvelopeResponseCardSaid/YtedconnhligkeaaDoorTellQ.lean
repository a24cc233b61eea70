/-
  Lists of trees in a block of their own; five cells set at once.
-/
import Derived.Test.YtedconnhligkeaaDoorTellP
import Derived.Test.YtedconnhligkeaaDoorRdSt
namespace Go.Proofs.YtedconnhligkeaaDoor
open Go.ChangeShapes Go.WideShapes Go.ChangeAt Go.RowKit

/-- trees that lie in a block of their own -/
theorem HTs.block {w : World} {G : Nat → Prop} {b n : Nat} {l : List T} {cs : List (List Value)} {arr : Array Value} {t : TypeId} {z : Nat × Nat} (h : w.heap[b]? = some (.cells arr t z)) (ha : arr.toList = cs.flatten) (hG : G b) (hn : n = l.length) (h1 : cs.length = l.length) (h2 : ∀ i (a : i < l.length) (c : i < cs.length), HT w G l[i] cs[i]) (h3 : l.length ≤ 1099511627776) :
    HTs w G (.slice (some ⟨b, 0, none⟩) n n) l := by
  subst hn
  refine ⟨cs, h1, h2, h3, _, _, by rw [h1], by omega, (fun h => by cases h), fun a ha' => ?_⟩
  cases ha'
  refine ⟨rfl, fun i hi => ⟨hG, ?_⟩⟩
  have e : cs.flatten[i]? = some cs.flatten[i] := List.getElem?_eq_getElem hi
  rw [← e, ← ha]
  simp [World.cell?, h]
theorem set5 {w : World} {b o : Nat} {c : Array Value} {t : TypeId} {z0 : Nat × Nat} {z s n l u : Value} (h : w.heap[b]? = some (.cells c t z0)) :
    (((((w.setCell ⟨b, o, none⟩ z).setCell ⟨b, o + 1, none⟩ s).setCell ⟨b, o + 2, none⟩ n).setCell ⟨b, o + 3, none⟩ l).setCell ⟨b, o + 4, none⟩ u).heap[b]? = some (.cells (((((c.setIfInBounds o z).setIfInBounds (o + 1) s).setIfInBounds (o + 2) n).setIfInBounds (o + 3) l).setIfInBounds (o + 4) u) t z0) ∧
    Keep [b] w (((((w.setCell ⟨b, o, none⟩ z).setCell ⟨b, o + 1, none⟩ s).setCell ⟨b, o + 2, none⟩ n).setCell ⟨b, o + 3, none⟩ l).setCell ⟨b, o + 4, none⟩ u) :=
  ⟨heap_set (heap_set (heap_set (heap_set (heap_set h z) s) n) l) u, (((((Keep.refl _ _).setCell (.inl (by simp)) _).setCell (.inl (by simp)) _).setCell (.inl (by simp)) _).setCell (.inl (by simp)) _).setCell (.inl (by simp)) _⟩
end Go.Proofs.YtedconnhligkeaaDoor
