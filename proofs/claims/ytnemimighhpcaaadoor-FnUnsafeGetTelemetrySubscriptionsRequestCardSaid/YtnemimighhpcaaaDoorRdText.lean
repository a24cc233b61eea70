/-
  Reader.UnsafeString, CompactString, NullableString, CompactNullableString, each both ways.
-/
import Derived.Test.YtnemimighhpcaaaDoorRdStr
import Derived.Test.YtnemimighhpcaaaDoorRdUv
namespace Go.Proofs.YtnemimighhpcaaaDoor
open Go.ChangeShapes Go.WideShapes Go.ChangeAt Go.RowKit

def rdCStr (s : St) : Bs × St := rdSpan ((rdUv s).1 - 1) (rdUv s).2
def rdNStr (s : St) : Option Bs × St := if (rdI 2 s).1 < 0 then (none, (rdI 2 s).2) else (some (rdStr s).1, (rdStr s).2)
def rdCNStr (s : St) : Option Bs × St := if (rdUv s).1 = 0 then (none, (rdUv s).2) else (some (rdCStr s).1, (rdCStr s).2)
/-- a pointer to a text, or nil -/
def PS (w : World) (G : Nat → Prop) (v : Value) (o : Option Bs) : Prop :=
  (v = .pointer none ∧ o = none) ∨ ∃ k l, v = .pointer (some ⟨k, 0, none⟩) ∧ o = some l ∧ G k ∧ w.heap[k]? = some (.cells #[str l] 9 (0, 0))
theorem Rd.lt' {w : World} {b : Nat} {G : Nat → Prop} {s : St} (h : Rd w b G s) : b < w.heap.size := by
  obtain ⟨v, h1, _⟩ := h
  exact (Array.getElem?_eq_some_iff.1 h1).1
theorem PS.keepF {w w' : World} {F G : Nat → Prop} {v : Value} {o : Option Bs} (h : PS w F v o) (hs : SameOn F w w') (hg : ∀ k, F k → G k) : PS w' G v o := by
  rcases h with h | ⟨k, l, h1, h2, h3, h4⟩
  · exact .inl h
  · exact .inr ⟨k, l, h1, h2, hg k h3, (hs k h3).trans h4⟩

theorem unsafestr_any {G : Nat → Prop} {ao : Option Addr} {cap : Nat} {l : Bs} {w : World} (h : RB w G (.slice ao l.length cap) l) :
    Calls Tryd.prog 159 #[.slice ao l.length cap] w fun e w' => e = .returned (str l) ∧ w = w' := by
  have hcv := conv_any h
  go_enter Tryd.func159, Tryd.ntmps159
  go_wp2_with fail
  go_ret
  exact ⟨rfl, rfl⟩
set_option maxHeartbeats 400000 in
set_option maxRecDepth 100000 in
theorem ustring_any {G : Nat → Prop} {b : Nat} {s : St} {w : World} (h : Rd w b G s) (hG : There G w) (hb : ¬ G b) :
    Calls Tryd.prog 135 #[.pointer (some ⟨b, 0, none⟩)] w fun e w' => e = .returned (str (rdStr s).1) ∧ Rd w' b G (rdStr s).2 ∧ Keep [b] w w' := by
  have hR1 : -32768 ≤ (rdI 2 s).1 := (rdI_range2 _).1
  have hR2 : (rdI 2 s).1 ≤ 32767 := (rdI_range2 _).2
  go_enter Tryd.func135, Tryd.ntmps135
  go_wp2_with (first
    | (go_at_call 145; go_loud (refine (int16_any h hG hb).mono ?_; rintro e w1 ⟨rfl, h1, k1⟩))
    | (go_at_call 158; go_loud (refine (span_any h1 hb).mono ?_; rintro e w2 ⟨v, rfl, hv, h2, k2⟩; obtain ⟨ao, cap, rfl⟩ := RS.shape hv))
    | (go_at_call 159; go_loud (refine (unsafestr_any hv).mono ?_; rintro e w3 ⟨rfl, rfl⟩)))
  go_ret
  exact ⟨rfl, h2, k1.trans k2⟩
set_option maxHeartbeats 400000 in
set_option maxRecDepth 100000 in
theorem cstring_any {G : Nat → Prop} {b : Nat} {s : St} {w : World} (h : Rd w b G s) (hG : There G w) (hb : ¬ G b) :
    Calls Tryd.prog 155 #[.pointer (some ⟨b, 0, none⟩)] w fun e w' => e = .returned (str (rdCStr s).1) ∧ Rd w' b G (rdCStr s).2 ∧ Keep [b] w w' := by
  have hR2 : (rdUv s).1 < 4294967296 := rdUv_lt s
  go_enter Tryd.func155, Tryd.ntmps155
  go_wp2_with (first
    | (go_at_call 156; go_loud (refine (rduv_any h hG hb).mono ?_; rintro e w1 ⟨rfl, h1, k1⟩))
    | (go_at_call 158; go_loud (refine (span_any h1 hb).mono ?_; rintro e w2 ⟨v, rfl, hv, h2, k2⟩; obtain ⟨ao, cap, rfl⟩ := RS.shape hv; have hcv := conv_any hv)))
  go_ret
  exact ⟨rfl, h2, k1.trans k2⟩
set_option maxHeartbeats 400000 in
set_option maxRecDepth 100000 in
theorem ucstring_any {G : Nat → Prop} {b : Nat} {s : St} {w : World} (h : Rd w b G s) (hG : There G w) (hb : ¬ G b) :
    Calls Tryd.prog 154 #[.pointer (some ⟨b, 0, none⟩)] w fun e w' => e = .returned (str (rdCStr s).1) ∧ Rd w' b G (rdCStr s).2 ∧ Keep [b] w w' := by
  have hR2 : (rdUv s).1 < 4294967296 := rdUv_lt s
  go_enter Tryd.func154, Tryd.ntmps154
  go_wp2_with (first
    | (go_at_call 156; go_loud (refine (rduv_any h hG hb).mono ?_; rintro e w1 ⟨rfl, h1, k1⟩))
    | (go_at_call 158; go_loud (refine (span_any h1 hb).mono ?_; rintro e w2 ⟨v, rfl, hv, h2, k2⟩; obtain ⟨ao, cap, rfl⟩ := RS.shape hv))
    | (go_at_call 159; go_loud (refine (unsafestr_any hv).mono ?_; rintro e w3 ⟨rfl, rfl⟩)))
  go_ret
  exact ⟨rfl, h2, k1.trans k2⟩
end Go.Proofs.YtnemimighhpcaaaDoor
