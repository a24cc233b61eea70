/-
  Reader.String, UnsafeString.
-/
import Derived.Test.YtedconnhligkeaaDoorRdI16
import Derived.Test.YtedconnhligkeaaDoorRdSpan
import Derived.Laws.IdiomStrings
import Derived.Laws.BytesArg
namespace Go.Proofs.YtedconnhligkeaaDoor
open Go.ChangeShapes Go.WideShapes Go.ChangeAt Go.RowKit

def rdStr (s : St) : Bs × St := rdSpan (rdI 2 s).1 (rdI 2 s).2
/-- octets as a text of the model -/
def str (l : Bs) : Value := .string ⟨l.toArray⟩
theorem conv_any {G : Nat → Prop} {ao : Option Addr} {cap : Nat} {l : Bs} {w : World} (h : RB w G (.slice ao l.length cap) l) :
    (convert 22 9 (.slice ao l.length cap)).run Tryd.prog w = .ok (str l) w := by
  cases ao with
  | none =>
    obtain ⟨_, _, e, _, hn, _⟩ := h
    cases e
    have hl : l = [] := List.eq_nil_of_length_eq_zero (hn rfl).1
    subst hl
    exact run_convert_bytes_nil w 22 5 Tryd.underlying22 Tryd.underlying5 _ _ _ Tryd.underlying9
  | some a =>
    obtain ⟨_, _, e, _, _, hc⟩ := h
    cases e
    obtain ⟨b, o, sp⟩ := a
    obtain ⟨g1, g2⟩ := hc _ rfl
    simp only at g1
    subst g1
    exact run_convert_bytes_back w _ _ _ _ _ l Tryd.underlying22 Tryd.underlying5 Tryd.underlying9 (fun j hj => by
      rw [addr_add]
      have := (g2 j (by simpa using hj)).2
      simpa [bv] using this)
end Go.Proofs.YtedconnhligkeaaDoor
