/-
  Reader.String, UnsafeString.
-/
import Derived.Test.YtnemimighhpcaaaDoorRdI16
import Derived.Test.YtnemimighhpcaaaDoorRdSpan
import Derived.Laws.IdiomStrings
import Derived.Laws.BytesArg
namespace Go.Proofs.YtnemimighhpcaaaDoor
open Go.ChangeShapes Go.WideShapes Go.ChangeAt Go.RowKit

def rdStr (s : St) : Bs × St := rdSpan (rdI 2 s).1 (rdI 2 s).2
/-- octets as a text of the model -/
def str (l : Bs) : Value := .string ⟨l.toArray⟩
theorem conv_any {G : Nat → Prop} {ao : Option Addr} {cap : Nat} {l : Bs} {w : World} (h : RB w G (.slice ao l.length cap) l) :
    (convert 22 9 (.slice ao l.length cap)).run Tryd.prog w = .ok (str l) w := by
  cases ao with
  | none =>
    obtain ⟨_, _, e, _, hn, _⟩ := h
    cases e
    have hl : l = [] := List.eq_nil_of_length_eq_zero (hn rfl).1
    subst hl
    exact run_convert_bytes_nil w 22 5 Tryd.underlying22 Tryd.underlying5 _ _ _ Tryd.underlying9
  | some a =>
    obtain ⟨_, _, e, _, _, hc⟩ := h
    cases e
    obtain ⟨b, o, sp⟩ := a
    obtain ⟨g1, g2⟩ := hc _ rfl
    simp only at g1
    subst g1
    exact run_convert_bytes_back w _ _ _ _ _ l Tryd.underlying22 Tryd.underlying5 Tryd.underlying9 (fun j hj => by
      rw [addr_add]
      have := (g2 j (by simpa using hj)).2
      simpa [bv] using this)
set_option maxHeartbeats 400000 in
set_option maxRecDepth 100000 in
theorem string_any {G : Nat → Prop} {b : Nat} {s : St} {w : World} (h : Rd w b G s) (hG : There G w) (hb : ¬ G b) :
    Calls Tryd.prog 136 #[.pointer (some ⟨b, 0, none⟩)] w fun e w' => e = .returned (str (rdStr s).1) ∧ Rd w' b G (rdStr s).2 ∧ Keep [b] w w' := by
  have hR1 : -32768 ≤ (rdI 2 s).1 := (rdI_range2 _).1
  have hR2 : (rdI 2 s).1 ≤ 32767 := (rdI_range2 _).2
  go_enter Tryd.func136, Tryd.ntmps136
  go_wp2_with (first
    | (go_at_call 145; go_loud (refine (int16_any h hG hb).mono ?_; rintro e w1 ⟨rfl, h1, k1⟩))
    | (go_at_call 158; go_loud (refine (span_any h1 hb).mono ?_; rintro e w2 ⟨v, rfl, hv, h2, k2⟩; obtain ⟨ao, cap, rfl⟩ := RS.shape hv; have hcv := conv_any hv)))
  go_ret
  exact ⟨rfl, h2, k1.trans k2⟩
end Go.Proofs.YtnemimighhpcaaaDoor
