/-
  A panic's word does not hang on the slots.
-/
import Derived.Test.YtdebdgofomnpoaaGreatDoorMApr1
namespace Go.Proofs.YtdebdgofomnpoaaGreatDoor
open Go.ChangeShapes Go.WideShapes Go.ChangeAt Go.RowKit

/-- what a panic says does not hang on the slots -/
def PanOk (Q : Exit → Act → World → Prop) : Prop := ∀ (c : List PanicEntry) (a a' : Act) (w : World), a'.defers = a.defers → Q (.panic c) a w → Q (.panic c) a' w
theorem PanOk.then_ {K : Act → World → Prop} {Q : Exit → Act → World → Prop} (h : PanOk Q) : PanOk (Exit.then K Q) := h
theorem PanOk.inBlock {n : Nat} {Q : Exit → Act → World → Prop} (h : PanOk Q) : PanOk (Exit.inBlock n Q) := h
theorem PanOk.post {P : Program} {fn : Func} {R : Ending → World → Prop} : PanOk (bodyPost P fn R) := fun _ _ _ _ e h => ⟨e.trans h.1, h.2⟩
theorem PanOk.put {Q : Exit → Act → World → Prop} (h : PanOk Q) {d : Option Tmp} {v : Value} (c : List PanicEntry) (a : Act) (w : World) (hq : Q (.panic c) (a.put d v) w) : Q (.panic c) a w := h c _ _ w (by cases d <;> rfl) hq
end Go.Proofs.YtdebdgofomnpoaaGreatDoor
