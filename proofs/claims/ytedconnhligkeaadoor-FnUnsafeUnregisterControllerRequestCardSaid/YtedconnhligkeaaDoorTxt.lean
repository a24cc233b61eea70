/-
  impl.textTree; octets of a text.
-/
import Derived.Test.YtedconnhligkeaaDoorTellQ
import Derived.Laws.IdiomStrings
namespace Go.Proofs.YtedconnhligkeaaDoor
open Go.ChangeShapes Go.WideShapes Go.ChangeAt Go.RowKit

theorem bytes_rb (w : World) (l : Bs) (cap : Nat) (e : TypeId) (fr : Nat × Nat) (hc : l.length ≤ cap) : RB (w.drew.alloc (.cells (bytesRow ⟨l.toArray⟩ cap) e fr)) (fun k => k = w.heap.size) (.slice (some ⟨w.heap.size, 0, none⟩) l.length cap) l := by
  refine ⟨_, cap, rfl, hc, (fun h => by cases h), fun a ha => ?_⟩
  cases ha
  refine ⟨rfl, fun i hi => ⟨rfl, ?_⟩⟩
  have hb : (w.drew.alloc (.cells (bytesRow ⟨l.toArray⟩ cap) e fr)).heap[w.heap.size]? = some (.cells (bytesRow ⟨l.toArray⟩ cap) e fr) := by
    show (w.heap.push _)[w.heap.size]? = _
    simp
  have hi' : i < (⟨l.toArray⟩ : ByteArray).data.size := by simpa using hi
  have h := bytesRow_at ⟨l.toArray⟩ cap i hi'
  simp only [World.cell?, hb, Nat.zero_add]
  simpa [bv] using h
def nstrT : Option Bs → T
  | none => .mk 0 [] true [] []
  | some l => .mk 0 l false [] []
end Go.Proofs.YtedconnhligkeaaDoor
