/-
  Reader.CompactNullableBytes, with what is nil and what is not.
-/
import Derived.Test.YtedconnhligkeaaDoorRdUv
import Derived.Test.YtedconnhligkeaaDoorRdSpan
namespace Go.Proofs.YtedconnhligkeaaDoor
open Go.ChangeShapes Go.WideShapes Go.ChangeAt Go.RowKit

/-- the reader's octets are no nil slice -/
def SrcSome (w : World) (b : Nat) : Prop := ∃ a n c bd, w.heap[b]? = some (.cells #[.slice (some a) n c, bd] 68 (0, 0))
set_option maxHeartbeats 400000 in
set_option maxRecDepth 100000 in
theorem rduv_some {G : Nat → Prop} {b : Nat} {s : St} {w : World} (h : Rd w b G s) (_hG : There G w) (hb : ¬ G b) :
    Calls Tryd.prog 45 #[.pointer (some ⟨b, 0, none⟩)] w fun e w' => e = .returned (.int .u32 ((rdUv s).1 : Int)) ∧ Rd w' b G (rdUv s).2 ∧ Keep [b] w w' ∧ ((rdUv s).2.2 = false → SrcSome w' b) := by
  obtain ⟨src, bad⟩ := s
  obtain ⟨v, hh, hr⟩ := h
  obtain ⟨ao, cap, rfl⟩ := RS.shape hr
  have c0 : w.cell? ⟨b, 0, none⟩ = some (.slice ao src.length cap) := cellOf hh 0 _ rfl
  have c1 : w.cell? ⟨b, 1, none⟩ = some (.bool bad) := cellOf hh 1 _ rfl
  have f0 := freeOf hh 0
  have f1 := freeOf hh 1
  obtain ⟨hp1, hp2, hp3⟩ := uvP_lt src
  have UV := uvarint_any hr
  go_enter Tryd.func45, Tryd.ntmps45
  have HH : Hid _ := hh
  clear hh
  generalize hu : uvP src = u at *
  obtain ⟨val, n⟩ := u
  have HU : Hid _ := hu
  simp only at hp1 hp2 hp3 UV
  by_cases hn : n ≤ 0
  · go_wp2_with (go_at_call 54; refine UV.mono ?_; rintro e w1 ⟨rfl, rfl⟩)
    go_ret
    have e : rdUv (src, bad) = (0, ([], true)) := by unfold rdUv; simp only [HU.out, hn, if_true]
    exact ⟨by rw [e]; rfl, ⟨.slice none 0 0, by rw [e]; exact heap_set (heap_set HH.out _) _, by rw [e]; exact RB.nil _ _⟩, ((Keep.refl _ _).setCell (.inl (by simp)) _).setCell (.inl (by simp)) _, fun h => by rw [e] at h; cases h⟩
  · obtain ⟨m, rfl⟩ := Int.eq_ofNat_of_zero_le (show 0 ≤ n by omega)
    have e : rdUv (src, bad) = (val, (src.drop m, bad)) := by unfold rdUv; simp only [HU.out, if_neg hn]; simp
    have hpos : 0 < src.length := by omega
    obtain ⟨bs, o, rfl, hGb, -, hcap, -⟩ := hr.spot hpos
    have E : Hid _ := e
    clear e
    have hs : ∀ x, SameOn G w (w.setCell ⟨b, 0, none⟩ x) := fun x k hk => Below.heap_setCell _ _ _ _ (fun e => hb (by simp only at e; rw [← e]; exact hk))
    by_cases hm : m = cap
    · subst hm
      go_wp2_with (go_at_call 54; refine UV.mono ?_; rintro e w1 ⟨rfl, rfl⟩)
      refine bodyPost_ret (v := .int .u32 (val : Int)) (by simp [results, Tryd.results45, go_sem]) rfl ⟨by rw [E.out], ⟨.slice (some ⟨bs, o, none⟩) 0 0, ?_, ?_⟩, (Keep.refl _ _).setCell (.inl (by simp)) _, fun _ => ⟨_, _, _, _, heap_set HH.out _⟩⟩
      · rw [E.out]
        have hl0 : src.length - m = 0 := by omega
        exact heap_set HH.out _
      · rw [E.out]
        have hl : src.drop m = [] := List.drop_eq_nil_of_le (by omega)
        simp only [hl]
        exact RB.none0 _ _ _ _ _
    · go_wp2_with (go_at_call 54; refine UV.mono ?_; rintro e w1 ⟨rfl, rfl⟩)
      refine bodyPost_ret (v := .int .u32 (val : Int)) (by simp [results, Tryd.results45, go_sem]) rfl ⟨by rw [E.out], ⟨.slice (some ⟨bs, o + m, none⟩) (src.length - m) (cap - m), ?_, ?_⟩, (Keep.refl _ _).setCell (.inl (by simp)) _, fun _ => ⟨_, _, _, _, heap_set HH.out _⟩⟩
      · rw [E.out]
        exact heap_set HH.out _
      · rw [E.out]
        exact (hr.drop m _ _ (by omega) rfl rfl).keepF (hs _) (fun _ h => h)
set_option maxHeartbeats 400000 in
set_option maxRecDepth 100000 in
theorem span_some {G : Nat → Prop} {b : Nat} {s : St} {w : World} {n : Int} (h : Rd w b G s) (hb : ¬ G b) (hsm : s.2 = false → SrcSome w b) :
    Calls Tryd.prog 47 #[.pointer (some ⟨b, 0, none⟩), .int .i64 n] w fun e w' => ∃ v, e = .returned v ∧ RB w' G v (rdSpan n s).1 ∧ Rd w' b G (rdSpan n s).2 ∧ Keep [b] w w' ∧ ((rdSpan n s).2.2 = false → v ≠ .slice none 0 0) := by
  obtain ⟨src, bad⟩ := s
  obtain ⟨v, hh, hr⟩ := h
  obtain ⟨ao, cap, rfl⟩ := RS.shape hr
  have c0 : w.cell? ⟨b, 0, none⟩ = some (.slice ao src.length cap) := cellOf hh 0 _ rfl
  have c1 : w.cell? ⟨b, 1, none⟩ = some (.bool bad) := cellOf hh 1 _ rfl
  have f0 := freeOf hh 0
  have f1 := freeOf hh 1
  have HH : Hid _ := hh
  clear hh
  go_enter Tryd.func47, Tryd.ntmps47
  have hcap : src.length ≤ cap := by
    obtain ⟨_, _, e, h, _⟩ := hr
    cases e
    exact h
  by_cases h1 : (src.length : Int) < n
  · go_wp2_with fail
    go_ret
    exact ⟨_, rfl, by simp only [rdSpan, h1, true_or, if_true]; exact RB.nil _ _, ⟨.slice none 0 0, by simp only [rdSpan, h1, true_or, if_true]; exact heap_set (heap_set HH.out _) _, by simp only [rdSpan, h1, true_or, if_true]; exact RB.nil _ _⟩, ((Keep.refl _ _).setCell (.inl (by simp)) _).setCell (.inl (by simp)) _, fun h => by simp [rdSpan, h1] at h⟩
  by_cases h2 : n < 0
  · go_wp2_with fail
    go_ret
    exact ⟨_, rfl, by simp only [rdSpan, h2, or_true, if_true]; exact RB.nil _ _, ⟨.slice none 0 0, by simp only [rdSpan, h2, or_true, if_true]; exact heap_set (heap_set HH.out _) _, by simp only [rdSpan, h2, or_true, if_true]; exact RB.nil _ _⟩, ((Keep.refl _ _).setCell (.inl (by simp)) _).setCell (.inl (by simp)) _, fun h => by simp [rdSpan, h2] at h⟩
  obtain ⟨m, rfl⟩ := Int.eq_ofNat_of_zero_le (Int.not_lt.1 h2)
  have h3 : m ≤ src.length := by omega
  have e : rdSpan (m : Int) (src, bad) = (src.take m, (src.drop m, bad)) := by
    unfold rdSpan
    rw [if_neg (by simp only; omega)]
    simp
  have E : Hid _ := e
  clear e h1 h2
  cases ao with
  | none =>
    have hn : src = [] ∧ cap = 0 := by
      obtain ⟨_, _, e, _, h, _⟩ := hr
      cases e
      exact ⟨List.eq_nil_of_length_eq_zero (h rfl).1, (h rfl).2.1⟩
    obtain ⟨rfl, rfl⟩ := hn
    obtain rfl : m = 0 := by simpa using h3
    go_wp2_with fail
    go_ret
    have e := E.out
    simp only [List.take_nil, List.drop_nil] at e
    exact ⟨_, rfl, by rw [show rdSpan 0 ([], bad) = _ from e]; exact RB.nil _ _, ⟨.slice none 0 0, by rw [show rdSpan 0 ([], bad) = _ from e]; exact heap_set HH.out _, by rw [show rdSpan 0 ([], bad) = _ from e]; exact RB.nil _ _⟩, (Keep.refl _ _).setCell (.inl (by simp)) _, fun h => by
      rw [show rdSpan 0 ([], bad) = _ from e] at h
      obtain ⟨a, n, c, bd, h4⟩ := hsm h
      rw [HH.out] at h4
      cases h4⟩
  | some a =>
    obtain ⟨bs, o, sp⟩ := a
    have hsp : sp = none := by
      obtain ⟨_, _, e, _, _, h⟩ := hr
      cases e
      exact (h _ rfl).1
    subst hsp
    have hs : ∀ x, SameOn G w (w.setCell ⟨b, 0, none⟩ x) := fun x k hk => Below.heap_setCell _ _ _ _ (fun e => hb (by simp only at e; rw [← e]; exact hk))
    by_cases hc : m = cap
    · subst hc
      have hl : src.drop m = [] := List.drop_eq_nil_of_le hcap
      have hl2 : src.length - m = 0 := by omega
      go_wp2_with fail
      refine bodyPost_ret (v := .slice (some ⟨bs, o, none⟩) m m) (by simp [results, Tryd.results47, go_sem]) rfl ⟨_, rfl, ?_, ⟨.slice (some ⟨bs, o, none⟩) 0 0, ?_, ?_⟩, (Keep.refl _ _).setCell (.inl (by simp)) _, fun _ h => by cases h⟩
      · rw [E.out]; exact (hr.cut m h3).keepF (hs _) (fun _ h => h)
      · rw [E.out]; exact heap_set HH.out _
      · rw [E.out]; simp only [hl]; exact RB.none0 _ _ _ _ _
    · go_wp2_with fail
      refine bodyPost_ret (v := .slice (some ⟨bs, o, none⟩) m m) (by simp [results, Tryd.results47, go_sem]) rfl ⟨_, rfl, ?_, ⟨.slice (some ⟨bs, o + m, none⟩) (src.length - m) (cap - m), ?_, ?_⟩, (Keep.refl _ _).setCell (.inl (by simp)) _, fun _ h => by cases h⟩
      · rw [E.out]; exact (hr.cut m h3).keepF (hs _) (fun _ h => h)
      · rw [E.out]; exact heap_set HH.out _
      · rw [E.out]; exact (hr.drop m _ _ h3 rfl rfl).keepF (hs _) (fun _ h => h)
def rdCNB (s : St) : Option Bs × St := if (rdUv s).1 = 0 then (none, (rdUv s).2) else (some (rdSpan ((rdUv s).1 - 1) (rdUv s).2).1, (rdSpan ((rdUv s).1 - 1) (rdUv s).2).2)
/-- octets, or nil -/
def OS (w : World) (G : Nat → Prop) (v : Value) (o : Option Bs) : Prop := RB w G v (o.getD []) ∧ (v = .slice none 0 0 ↔ o = none)
set_option maxHeartbeats 400000 in
set_option maxRecDepth 100000 in
theorem cnb_any {G : Nat → Prop} {b : Nat} {s : St} {w : World} (h : Rd w b G s) (hG : There G w) (hb : ¬ G b) :
    Calls Tryd.prog 41 #[.pointer (some ⟨b, 0, none⟩)] w fun e w' => ∃ v, e = .returned v ∧ RB w' G v ((rdCNB s).1.getD []) ∧ ((rdCNB s).2.2 = false → (v = .slice none 0 0 ↔ (rdCNB s).1 = none)) ∧ Rd w' b G (rdCNB s).2 ∧ Keep [b] w w' := by
  have hR2 : (rdUv s).1 < 4294967296 := rdUv_lt s
  by_cases hc : (rdUv s).1 = 0
  · have E : Hid (rdCNB s = (none, (rdUv s).2)) := (by unfold rdCNB; rw [if_pos hc] : rdCNB s = (none, (rdUv s).2))
    go_enter Tryd.func41, Tryd.ntmps41
    go_wp2_with (go_at_call 45; go_loud (refine (rduv_any h hG hb).mono ?_; rintro e w1 ⟨rfl, h1, k1⟩))
    go_ret
    rw [E.out]
    exact ⟨_, rfl, RB.nil _ _, fun _ => by simp, h1, k1⟩
  · have E : Hid (rdCNB s = (some (rdSpan ((rdUv s).1 - 1) (rdUv s).2).1, (rdSpan ((rdUv s).1 - 1) (rdUv s).2).2)) := (by unfold rdCNB; rw [if_neg hc] : rdCNB s = (some (rdSpan ((rdUv s).1 - 1) (rdUv s).2).1, (rdSpan ((rdUv s).1 - 1) (rdUv s).2).2))
    go_enter Tryd.func41, Tryd.ntmps41
    go_wp2_with (first
      | (go_at_call 45; go_loud (refine (rduv_some h hG hb).mono ?_; rintro e w1 ⟨rfl, h1, k1, n1⟩))
      | (go_at_call 47; go_loud (refine (span_some h1 hb n1).mono ?_; rintro e w2 ⟨v, rfl, hv, h2, k2, n2⟩)))
    go_ret
    rw [E.out]
    exact ⟨_, rfl, hv, fun hb => by simp [n2 hb], h2, k1.trans k2⟩
end Go.Proofs.YtedconnhligkeaaDoor
