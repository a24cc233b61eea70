/-
  Reader.NullableString, CompactNullableString, each both ways.
-/
import Derived.Test.YtnemimighhpcaaaDoorRdText
namespace Go.Proofs.YtnemimighhpcaaaDoor
open Go.ChangeShapes Go.WideShapes Go.ChangeAt Go.RowKit

/-- a text in a box of its own -/
theorem ps_box {G : Nat → Prop} {b : Nat} {s : St} {w w2 : World} {l : Bs} (h : Rd w2 b G s) (hb : b < w2.heap.size) (hG : There G w2) (k : Keep [b] w w2) :
    PS (w2.alloc (.cells #[str l] 9)) (fun k => w.heap.size ≤ k ∧ k < (w2.alloc (.cells #[str l] 9)).heap.size) (.pointer (some ⟨w2.heap.size, 0, none⟩)) (some l) ∧ Rd (w2.alloc (.cells #[str l] 9)) b G s ∧ Keep [b] w (w2.alloc (.cells #[str l] 9)) := by
  refine ⟨.inr ⟨_, l, rfl, rfl, ⟨k.size, by simp⟩, heap_alloc_new _ _⟩, ?_, k.alloc _⟩
  obtain ⟨v, h1, h2⟩ := h
  exact ⟨v, ((keep_box (A := []) _).block b hb (by simp)).trans h1, h2.keepF (hG.same (keep_box _)) (fun _ h => h)⟩
theorem Rd.lt {w : World} {b : Nat} {G : Nat → Prop} {s : St} (h : Rd w b G s) : b < w.heap.size := by
  obtain ⟨v, h1, _⟩ := h
  exact (Array.getElem?_eq_some_iff.1 h1).1
set_option maxHeartbeats 400000 in
set_option maxRecDepth 100000 in
theorem nstring_any {G : Nat → Prop} {b : Nat} {s : St} {w : World} (h : Rd w b G s) (hG : There G w) (hb : ¬ G b) :
    Calls Tryd.prog 153 #[.pointer (some ⟨b, 0, none⟩)] w fun e w' => ∃ v, e = .returned v ∧ PS w' (fun k => w.heap.size ≤ k ∧ k < w'.heap.size) v (rdNStr s).1 ∧ Rd w' b G (rdNStr s).2 ∧ Keep [b] w w' := by
  have hR1 : -32768 ≤ (rdI 2 s).1 := (rdI_range2 _).1
  have hR2 : (rdI 2 s).1 ≤ 32767 := (rdI_range2 _).2
  by_cases hc : (rdI 2 s).1 < 0
  · go_enter Tryd.func153, Tryd.ntmps153
    go_wp2_with (go_at_call 145; go_loud (refine (int16_any h hG hb).mono ?_; rintro e w1 ⟨rfl, h1, k1⟩))
    go_ret
    exact ⟨_, rfl, by simp only [rdNStr, if_pos hc]; exact .inl ⟨rfl, rfl⟩, by simp only [rdNStr, if_pos hc]; exact h1, k1⟩
  · have E : Hid (rdNStr s = (some (rdStr s).1, (rdStr s).2)) := (by unfold rdNStr; rw [if_neg hc] : rdNStr s = (some (rdStr s).1, (rdStr s).2))
    go_enter Tryd.func153, Tryd.ntmps153
    go_wp2_with (first
    | (go_at_call 145; go_loud (refine (int16_any h hG hb).mono ?_; rintro e w1 ⟨rfl, h1, k1⟩))
    | (go_at_call 158; go_loud (refine (span_any h1 hb).mono ?_; rintro e w2 ⟨v, rfl, hv, h2, k2⟩; obtain ⟨ao, cap, rfl⟩ := RS.shape hv; have hcv := conv_any hv; unfold str at hcv)))
    go_ret
    rw [E.out]
    have kk := k1.trans k2
    exact ⟨_, rfl, ps_box h2 h2.lt (hG.mono kk.size) kk⟩
set_option maxHeartbeats 400000 in
set_option maxRecDepth 100000 in
theorem unstring_any {G : Nat → Prop} {b : Nat} {s : St} {w : World} (h : Rd w b G s) (hG : There G w) (hb : ¬ G b) :
    Calls Tryd.prog 152 #[.pointer (some ⟨b, 0, none⟩)] w fun e w' => ∃ v, e = .returned v ∧ PS w' (fun k => w.heap.size ≤ k ∧ k < w'.heap.size) v (rdNStr s).1 ∧ Rd w' b G (rdNStr s).2 ∧ Keep [b] w w' := by
  have hR1 : -32768 ≤ (rdI 2 s).1 := (rdI_range2 _).1
  have hR2 : (rdI 2 s).1 ≤ 32767 := (rdI_range2 _).2
  by_cases hc : (rdI 2 s).1 < 0
  · go_enter Tryd.func152, Tryd.ntmps152
    go_wp2_with (go_at_call 145; go_loud (refine (int16_any h hG hb).mono ?_; rintro e w1 ⟨rfl, h1, k1⟩))
    go_ret
    exact ⟨_, rfl, by simp only [rdNStr, if_pos hc]; exact .inl ⟨rfl, rfl⟩, by simp only [rdNStr, if_pos hc]; exact h1, k1⟩
  · have E : Hid (rdNStr s = (some (rdStr s).1, (rdStr s).2)) := (by unfold rdNStr; rw [if_neg hc] : rdNStr s = (some (rdStr s).1, (rdStr s).2))
    go_enter Tryd.func152, Tryd.ntmps152
    go_wp2_with (first
    | (go_at_call 145; go_loud (refine (int16_any h hG hb).mono ?_; rintro e w1 ⟨rfl, h1, k1⟩))
    | (go_at_call 158; go_loud (refine (span_any h1 hb).mono ?_; rintro e w2 ⟨v, rfl, hv, h2, k2⟩; obtain ⟨ao, cap, rfl⟩ := RS.shape hv; have huv := unsafestr_any hv; unfold str at huv))
    | (go_at_call 159; go_loud (refine huv.mono ?_; rintro e w3 ⟨rfl, rfl⟩)))
    go_ret
    rw [E.out]
    have kk := k1.trans k2
    exact ⟨_, rfl, ps_box h2 h2.lt (hG.mono kk.size) kk⟩
set_option maxHeartbeats 400000 in
set_option maxRecDepth 100000 in
theorem cnstring_any {G : Nat → Prop} {b : Nat} {s : St} {w : World} (h : Rd w b G s) (hG : There G w) (hb : ¬ G b) :
    Calls Tryd.prog 151 #[.pointer (some ⟨b, 0, none⟩)] w fun e w' => ∃ v, e = .returned v ∧ PS w' (fun k => w.heap.size ≤ k ∧ k < w'.heap.size) v (rdCNStr s).1 ∧ Rd w' b G (rdCNStr s).2 ∧ Keep [b] w w' := by
  have hR2 : (rdUv s).1 < 4294967296 := rdUv_lt s
  by_cases hc : (rdUv s).1 = 0
  · go_enter Tryd.func151, Tryd.ntmps151
    go_wp2_with (go_at_call 156; go_loud (refine (rduv_any h hG hb).mono ?_; rintro e w1 ⟨rfl, h1, k1⟩))
    go_ret
    exact ⟨_, rfl, by simp only [rdCNStr, if_pos hc]; exact .inl ⟨rfl, rfl⟩, by simp only [rdCNStr, if_pos hc]; exact h1, k1⟩
  · have E : Hid (rdCNStr s = (some (rdCStr s).1, (rdCStr s).2)) := (by unfold rdCNStr; rw [if_neg hc] : rdCNStr s = (some (rdCStr s).1, (rdCStr s).2))
    go_enter Tryd.func151, Tryd.ntmps151
    go_wp2_with (first
    | (go_at_call 156; go_loud (refine (rduv_any h hG hb).mono ?_; rintro e w1 ⟨rfl, h1, k1⟩))
    | (go_at_call 158; go_loud (refine (span_any h1 hb).mono ?_; rintro e w2 ⟨v, rfl, hv, h2, k2⟩; obtain ⟨ao, cap, rfl⟩ := RS.shape hv; have hcv := conv_any hv; unfold str at hcv)))
    go_ret
    rw [E.out]
    have kk := k1.trans k2
    exact ⟨_, rfl, ps_box h2 h2.lt (hG.mono kk.size) kk⟩
set_option maxHeartbeats 400000 in
set_option maxRecDepth 100000 in
theorem ucnstring_any {G : Nat → Prop} {b : Nat} {s : St} {w : World} (h : Rd w b G s) (hG : There G w) (hb : ¬ G b) :
    Calls Tryd.prog 150 #[.pointer (some ⟨b, 0, none⟩)] w fun e w' => ∃ v, e = .returned v ∧ PS w' (fun k => w.heap.size ≤ k ∧ k < w'.heap.size) v (rdCNStr s).1 ∧ Rd w' b G (rdCNStr s).2 ∧ Keep [b] w w' := by
  have hR2 : (rdUv s).1 < 4294967296 := rdUv_lt s
  by_cases hc : (rdUv s).1 = 0
  · go_enter Tryd.func150, Tryd.ntmps150
    go_wp2_with (go_at_call 156; go_loud (refine (rduv_any h hG hb).mono ?_; rintro e w1 ⟨rfl, h1, k1⟩))
    go_ret
    exact ⟨_, rfl, by simp only [rdCNStr, if_pos hc]; exact .inl ⟨rfl, rfl⟩, by simp only [rdCNStr, if_pos hc]; exact h1, k1⟩
  · have E : Hid (rdCNStr s = (some (rdCStr s).1, (rdCStr s).2)) := (by unfold rdCNStr; rw [if_neg hc] : rdCNStr s = (some (rdCStr s).1, (rdCStr s).2))
    go_enter Tryd.func150, Tryd.ntmps150
    go_wp2_with (first
    | (go_at_call 156; go_loud (refine (rduv_any h hG hb).mono ?_; rintro e w1 ⟨rfl, h1, k1⟩))
    | (go_at_call 158; go_loud (refine (span_any h1 hb).mono ?_; rintro e w2 ⟨v, rfl, hv, h2, k2⟩; obtain ⟨ao, cap, rfl⟩ := RS.shape hv; have huv := unsafestr_any hv; unfold str at huv))
    | (go_at_call 159; go_loud (refine huv.mono ?_; rintro e w3 ⟨rfl, rfl⟩)))
    go_ret
    rw [E.out]
    have kk := k1.trans k2
    exact ⟨_, rfl, ps_box h2 h2.lt (hG.mono kk.size) kk⟩
end Go.Proofs.YtnemimighhpcaaaDoor
