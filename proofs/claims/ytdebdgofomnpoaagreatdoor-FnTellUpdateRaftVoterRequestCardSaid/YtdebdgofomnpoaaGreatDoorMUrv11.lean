/-
  HOW LONG A MESSAGE IS that has structs of plain fields beside its lists.
-/
import Derived.Test.YtdebdgofomnpoaaGreatDoorMB18
namespace Go.Proofs.YtdebdgofomnpoaaGreatDoor
open Go.ChangeShapes Go.WideShapes Go.ChangeAt Go.RowKit

/-- a field that is a struct of plain fields -/
def deepF (f : F) : Bool := decide (f.kind = 10) && decide (f.nul < 0) && flatFs f.sub && untagged f.sub
def costF2 (f : F) : Nat := if deepF f then 40000 * f.sub.length + 1082000000 else costF f
def costFs2 : List F → Nat
  | [] => 0
  | f :: r => costF2 f + costFs2 r
def listFs2 : List F → Bool
  | [] => true
  | f :: r => (deepF f || (kindOk f.kind || (decide (f.kind = 11) && (kindOk f.ofk || (decide (f.ofk = 10) && flatFs f.sub && untagged f.sub))))) && listFs2 r
theorem fieldP_cost2 {f : F} (hk : (deepF f || (kindOk f.kind || (decide (f.kind = 11) && (kindOk f.ofk || (decide (f.ofk = 10) && flatFs f.sub && untagged f.sub))))) = true) (v : Int) (flex : Bool) {t : T} (ht : keysT t) : (fieldP f v flex t).length ≤ costF2 f := by
  unfold costF2
  by_cases hd : deepF f = true
  · rw [if_pos hd]
    simp only [deepF, Bool.and_eq_true, decide_eq_true_eq] at hd
    obtain ⟨⟨⟨h10, hn⟩, hf⟩, hu⟩ := hd
    have h := partP_row hu hf v flex ht
    rw [fieldP_eq]
    unfold fieldOf
    simp only [h10]
    rw [if_neg (by decide), if_neg (by omega)]
    simpa [valueP] using h
  · rw [if_neg hd]
    simp only [Bool.or_eq_true] at hk
    rcases hk with hk | hk
    · exact absurd hk hd
    · exact fieldP_cost (by simpa only [Bool.or_eq_true] using hk) v flex ht
theorem plainAt_cost2 : ∀ (fs : List F) (i : Nat) (v : Int) (flex : Bool) {t : T}, keysT t → listFs2 fs = true → (plainAt fs i v flex t).length ≤ costFs2 fs
  | [], _, _, _, _, _, _ => by simp [plainAt]
  | f :: r, i, v, flex, t, ht, h => by
    have h' := h
    simp only [listFs2] at h'
    rw [Bool.and_eq_true] at h'
    have ih := plainAt_cost2 r (i + 1) v flex ht h'.2
    have h1 := fieldP_cost2 h'.1 v flex (ht.at_ i)
    simp only [plainAt, List.length_append, costFs2]
    split
    · omega
    · simp only [List.length_nil]; omega
theorem partP_listed2 {fs : List F} (hu : untagged fs = true) (hf : listFs2 fs = true) (hl : costFs2 fs ≤ 35900000000000) (v : Int) (flex : Bool) {t : T} (ht : keysT t) : (partP fs v flex t).length ≤ 35990000000000 := by
  have h1 := plainAt_cost2 fs 0 v flex ht hf
  have h2 := tags_all fs ht
  rw [partP_untagged hu]
  split
  · rw [List.length_append]; omega
  · omega
end Go.Proofs.YtdebdgofomnpoaaGreatDoor
