/-
  spec.Told at every message's fields without tagged ones.
-/
import Derived.Test.YtdklogmmfnddiaaDoorMB22
namespace Go.Proofs.YtdklogmmfnddiaaDoor
open Go.ChangeShapes Go.WideShapes Go.ChangeAt Go.RowKit

mutual
/-- a field as spec.Told's contract takes it -/
def okF : F → Bool
  | .mk k _ _ nul tag dfl ofk sub => decide (tag < 0) && okFs sub && (if k = 11 then isNum ofk || decide (ofk = 7) || decide (ofk = 8) || decide (ofk = 10) else if k = 8 ∨ k = 9 then true else if k = 7 ∨ k = 10 then decide (nul < 0) else isNum k && decide (nul < 0) && decide (numP k dfl = dfl))
def okFs : List F → Bool
  | [] => true
  | f :: r => okF f && okFs r
end
theorem okFs_untagged : ∀ {fs : List F}, okFs fs = true → untagged fs = true
  | [], _ => rfl
  | .mk k a b nul tag dfl ofk sub :: r, h => by
    simp only [okFs, okF, Bool.and_eq_true] at h
    simp only [untagged, F.tag, Bool.and_eq_true]
    exact ⟨h.1.1.1, okFs_untagged h.2⟩
mutual
theorem usF : ∀ f : F, okF f = true → (f.kind = 10 → f.nul < 0 → UsualSaid f.sub) ∧ dflOk f
  | .mk k a b nul tag dfl ofk sub, h => by
    simp only [okF, Bool.and_eq_true] at h
    obtain ⟨⟨_, hs⟩, hk⟩ := h
    refine ⟨fun _ _ => usual_step (fun g hg => (usFs sub hs g hg).1) (fun g hg => (usFs sub hs g hg).2), ?_⟩
    show (k = 7 ∨ k = 8 ∨ k = 9 ∨ k = 10 ∨ k = 11) ∨ numP k dfl = dfl
    by_cases h11 : k = 11
    · exact .inl (by omega)
    rw [if_neg h11] at hk
    by_cases h8 : k = 8 ∨ k = 9
    · exact .inl (by omega)
    rw [if_neg h8] at hk
    by_cases h7 : k = 7 ∨ k = 10
    · exact .inl (by omega)
    rw [if_neg h7] at hk
    simp only [Bool.and_eq_true, decide_eq_true_eq] at hk
    exact .inr hk.2
theorem usFs : ∀ fs : List F, okFs fs = true → ∀ f ∈ fs, (f.kind = 10 → f.nul < 0 → UsualSaid f.sub) ∧ dflOk f
  | [], _, f, h => by cases h
  | g :: r, h, f, hf => by
    simp only [okFs, Bool.and_eq_true] at h
    rcases List.mem_cons.1 hf with e | e
    · rw [e]; exact usF g h.1
    · exact usFs r h.2 f e
end
theorem usual_one {f : F} (h : okF f = true) : UsualSaid [f] := usual_step (fun g hg => by obtain rfl := List.mem_singleton.1 hg; exact (usF g h).1) (fun g hg => by obtain rfl := List.mem_singleton.1 hg; exact (usF g h).2)
theorem okFs_mem : ∀ {fs : List F}, okFs fs = true → ∀ f ∈ fs, okF f = true
  | [], _, f, h => by cases h
  | g :: r, h, f, hf => by
    simp only [okFs, Bool.and_eq_true] at h
    rcases List.mem_cons.1 hf with e | e
    · rw [e]; exact h.1
    · exact okFs_mem h.2 f e
mutual
theorem fieldTold_ok (v : Int) (flex : Bool) : ∀ f : F, okF f = true → FieldTold f v flex
  | .mk k a b nul tag dfl ofk sub, h => by
    simp only [okF, Bool.and_eq_true] at h
    obtain ⟨⟨_, hs⟩, hk⟩ := h
    have hT : ToldSaid sub v flex := told_fields (okFs_untagged hs) (fieldsTold_ok v flex sub hs) (fun f hf => usual_one (okFs_mem hs f hf))
    by_cases h11 : k = 11
    · rw [if_pos h11] at hk
      simp only [Bool.or_eq_true, decide_eq_true_eq] at hk
      have ho : ofk ≠ 11 := by
        rcases hk with ((hk | hk) | hk) | hk
        · simp only [isNum, Bool.and_eq_true, decide_eq_true_eq] at hk; omega
        all_goals omega
      refine told_list h11 ho ?_
      rcases hk with ((hk | hk) | hk) | hk
      · exact told_num hk (show (-1 : Int) < 0 by decide)
      · exact told_uuid hk (show (-1 : Int) < 0 by decide)
      · exact told_text hk
      · exact told_part hk (show (-1 : Int) < 0 by decide) hT
    rw [if_neg h11] at hk
    by_cases h8 : k = 8 ∨ k = 9
    · rcases h8 with h8 | h8
      · exact told_text h8
      · exact told_oct h8
    rw [if_neg h8] at hk
    by_cases h7 : k = 7 ∨ k = 10
    · rw [if_pos h7] at hk
      have hn : nul < 0 := by simpa using hk
      rcases h7 with h7 | h7
      · exact told_uuid h7 hn
      · exact told_part h7 hn hT
    rw [if_neg h7] at hk
    simp only [Bool.and_eq_true, decide_eq_true_eq] at hk
    exact told_num hk.1.1 hk.1.2
theorem fieldsTold_ok (v : Int) (flex : Bool) : ∀ fs : List F, okFs fs = true → ∀ f ∈ fs, FieldTold f v flex
  | [], _, f, h => by cases h
  | g :: r, h, f, hf => by
    simp only [okFs, Bool.and_eq_true] at h
    rcases List.mem_cons.1 hf with e | e
    · rw [e]; exact fieldTold_ok v flex g h.1
    · exact fieldsTold_ok v flex r h.2 f e
end
/-- WHAT IS TOLD IS WHAT WAS WRITTEN -/
theorem toldSaid_ok {fs : List F} (h : okFs fs = true) (v : Int) (flex : Bool) : ToldSaid fs v flex :=
  told_fields (okFs_untagged h) (fieldsTold_ok v flex fs h) (fun f hf => usual_one (okFs_mem h f hf))
set_option maxHeartbeats 400000 in
theorem flexible_any {w : World} (ao : Option Addr) (n cap : Nat) (x v : Int) :
    Calls Tryd.prog 17 #[.agg #[.slice ao n cap, .int .i64 x], .int .i64 v] w fun e w' => e = .returned (.bool (decide (0 ≤ x) && decide (x ≤ v))) ∧ Keep [] w w' := by
  by_cases h1 : 0 ≤ x <;> by_cases h2 : x ≤ v
  all_goals
    go_enter Tryd.func17, Tryd.ntmps17
    go_wp2
    go_ret
    exact ⟨by simp [h1, h2], keep_box _⟩
end Go.Proofs.YtdklogmmfnddiaaDoor
