/-
  Reader.Span.
-/
import Derived.Test.YtedconnhligkeaaDoorRead
namespace Go.Proofs.YtedconnhligkeaaDoor
open Go.ChangeShapes Go.WideShapes Go.ChangeAt Go.RowKit

def rdSpan (n : Int) (s : St) : Bs × St := if (s.1.length : Int) < n ∨ n < 0 then ([], ([], true)) else (s.1.take n.toNat, (s.1.drop n.toNat, s.2))
theorem RB.cut {w : World} {G : Nat → Prop} {b o n cap : Nat} {l : Bs} (h : RB w G (.slice (some ⟨b, o, none⟩) n cap) l) (m : Nat) (hm : m ≤ l.length) : RB w G (.slice (some ⟨b, o, none⟩) m m) (l.take m) := by
  obtain ⟨ao', cap', e, h1, h2, h3⟩ := h
  cases e
  have hl : (l.take m).length = m := by simp; omega
  refine ⟨_, m, by rw [hl], by omega, (fun h => by cases h), fun a ha => ?_⟩
  cases ha
  refine ⟨rfl, fun i hi => ?_⟩
  have hi' : i < (l.map bv).length := by simp at hi ⊢; omega
  obtain ⟨q1, q2⟩ := (h3 _ rfl).2 i hi'
  refine ⟨q1, ?_⟩
  rw [q2]
  simp
set_option maxHeartbeats 400000 in
set_option maxRecDepth 100000 in
theorem span_any {G : Nat → Prop} {b : Nat} {s : St} {w : World} {n : Int} (h : Rd w b G s) (hb : ¬ G b) :
    Calls Tryd.prog 47 #[.pointer (some ⟨b, 0, none⟩), .int .i64 n] w fun e w' => ∃ v, e = .returned v ∧ RB w' G v (rdSpan n s).1 ∧ Rd w' b G (rdSpan n s).2 ∧ Keep [b] w w' := by
  obtain ⟨src, bad⟩ := s
  obtain ⟨v, hh, hr⟩ := h
  obtain ⟨ao, cap, rfl⟩ := RS.shape hr
  have c0 : w.cell? ⟨b, 0, none⟩ = some (.slice ao src.length cap) := cellOf hh 0 _ rfl
  have c1 : w.cell? ⟨b, 1, none⟩ = some (.bool bad) := cellOf hh 1 _ rfl
  have f0 := freeOf hh 0
  have f1 := freeOf hh 1
  have HH : Hid _ := hh
  clear hh
  go_enter Tryd.func47, Tryd.ntmps47
  have hcap : src.length ≤ cap := by
    obtain ⟨_, _, e, h, _⟩ := hr
    cases e
    exact h
  by_cases h1 : (src.length : Int) < n
  · go_wp2_with fail
    go_ret
    exact ⟨_, rfl, by simp only [rdSpan, h1, true_or, if_true]; exact RB.nil _ _, ⟨.slice none 0 0, by simp only [rdSpan, h1, true_or, if_true]; exact heap_set (heap_set HH.out _) _, by simp only [rdSpan, h1, true_or, if_true]; exact RB.nil _ _⟩, ((Keep.refl _ _).setCell (.inl (by simp)) _).setCell (.inl (by simp)) _⟩
  by_cases h2 : n < 0
  · go_wp2_with fail
    go_ret
    exact ⟨_, rfl, by simp only [rdSpan, h2, or_true, if_true]; exact RB.nil _ _, ⟨.slice none 0 0, by simp only [rdSpan, h2, or_true, if_true]; exact heap_set (heap_set HH.out _) _, by simp only [rdSpan, h2, or_true, if_true]; exact RB.nil _ _⟩, ((Keep.refl _ _).setCell (.inl (by simp)) _).setCell (.inl (by simp)) _⟩
  obtain ⟨m, rfl⟩ := Int.eq_ofNat_of_zero_le (Int.not_lt.1 h2)
  have h3 : m ≤ src.length := by omega
  have e : rdSpan (m : Int) (src, bad) = (src.take m, (src.drop m, bad)) := by
    unfold rdSpan
    rw [if_neg (by simp only; omega)]
    simp
  have E : Hid _ := e
  clear e h1 h2
  cases ao with
  | none =>
    have hn : src = [] ∧ cap = 0 := by
      obtain ⟨_, _, e, _, h, _⟩ := hr
      cases e
      exact ⟨List.eq_nil_of_length_eq_zero (h rfl).1, (h rfl).2.1⟩
    obtain ⟨rfl, rfl⟩ := hn
    obtain rfl : m = 0 := by simpa using h3
    go_wp2_with fail
    go_ret
    have e := E.out
    simp only [List.take_nil, List.drop_nil] at e
    exact ⟨_, rfl, by rw [show rdSpan 0 ([], bad) = _ from e]; exact RB.nil _ _, ⟨.slice none 0 0, by rw [show rdSpan 0 ([], bad) = _ from e]; exact heap_set HH.out _, by rw [show rdSpan 0 ([], bad) = _ from e]; exact RB.nil _ _⟩, (Keep.refl _ _).setCell (.inl (by simp)) _⟩
  | some a =>
    obtain ⟨bs, o, sp⟩ := a
    have hsp : sp = none := by
      obtain ⟨_, _, e, _, _, h⟩ := hr
      cases e
      exact (h _ rfl).1
    subst hsp
    have hs : ∀ x, SameOn G w (w.setCell ⟨b, 0, none⟩ x) := fun x k hk => Below.heap_setCell _ _ _ _ (fun e => hb (by simp only at e; rw [← e]; exact hk))
    by_cases hc : m = cap
    · subst hc
      have hl : src.drop m = [] := List.drop_eq_nil_of_le hcap
      have hl2 : src.length - m = 0 := by omega
      go_wp2_with fail
      refine bodyPost_ret (v := .slice (some ⟨bs, o, none⟩) m m) (by simp [results, Tryd.results47, go_sem]) rfl ⟨_, rfl, ?_, ⟨.slice (some ⟨bs, o, none⟩) 0 0, ?_, ?_⟩, (Keep.refl _ _).setCell (.inl (by simp)) _⟩
      · rw [E.out]; exact (hr.cut m h3).keepF (hs _) (fun _ h => h)
      · rw [E.out]; exact heap_set HH.out _
      · rw [E.out]; simp only [hl]; exact RB.none0 _ _ _ _ _
    · go_wp2_with fail
      refine bodyPost_ret (v := .slice (some ⟨bs, o, none⟩) m m) (by simp [results, Tryd.results47, go_sem]) rfl ⟨_, rfl, ?_, ⟨.slice (some ⟨bs, o + m, none⟩) (src.length - m) (cap - m), ?_, ?_⟩, (Keep.refl _ _).setCell (.inl (by simp)) _⟩
      · rw [E.out]; exact (hr.cut m h3).keepF (hs _) (fun _ h => h)
      · rw [E.out]; exact heap_set HH.out _
      · rw [E.out]; exact (hr.drop m _ _ h3 rfl rfl).keepF (hs _) (fun _ h => h)
end Go.Proofs.YtedconnhligkeaaDoor
