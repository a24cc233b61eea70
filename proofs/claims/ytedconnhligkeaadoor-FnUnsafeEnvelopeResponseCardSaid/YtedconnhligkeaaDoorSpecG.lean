/-
  spec.part: its first loop, and all of it where the version is not flexible.
-/
import Derived.Test.YtedconnhligkeaaDoorSpecF
namespace Go.Proofs.YtedconnhligkeaaDoor
open Go.ChangeShapes Go.WideShapes Go.ChangeAt Go.RowKit

theorem filter_take {α : Type} (L : List α) (p : α → Bool) (g : α → Bs) (n : Nat) (hn : n < L.length) :
    ((L.take (n + 1)).filter p).flatMap g = ((L.take n).filter p).flatMap g ++ if p L[n] then g L[n] else [] := by
  rw [List.take_succ_eq_append_getElem hn, List.filter_append, List.flatMap_append]
  by_cases h : p L[n] <;> simp [h]
theorem filter_take_le {α : Type} (L : List α) (p : α → Bool) (g : α → Bs) (n : Nat) : (((L.take n).filter p).flatMap g).length ≤ ((L.filter p).flatMap g).length := by
  have : (L.filter p).flatMap g = ((L.take n).filter p).flatMap g ++ ((L.drop n).filter p).flatMap g := by rw [← List.flatMap_append, ← List.filter_append, List.take_append_drop]
  rw [this, List.length_append]; omega

/-- the fields without tags, the first n of them -/
def plainTo (fs : List F) (v : Int) (flex : Bool) (t : T) (n : Nat) : Bs :=
  (((fieldsP fs v flex).zipIdx.take n).filter fun x => decide (x.1.1.tag < 0) && x.1.1.has v).flatMap fun x => x.1.2 (atT t x.2)
theorem fieldsP_length (fs : List F) (v : Int) (flex : Bool) : (fieldsP fs v flex).length = fs.length := by rw [fieldsP_map]; simp
theorem plainTo_all (fs : List F) (v : Int) (flex : Bool) (t : T) : plainTo fs v flex t fs.length = ((fieldsP fs v flex).zipIdx.filter fun x => decide (x.1.1.tag < 0) && x.1.1.has v).flatMap fun x => x.1.2 (atT t x.2) := by
  unfold plainTo
  rw [List.take_of_length_le (by simp [fieldsP_length])]
theorem plainTo_succ (fs : List F) (v : Int) (flex : Bool) (t : T) (n : Nat) (hn : n < fs.length) :
    plainTo fs v flex t (n + 1) = plainTo fs v flex t n ++ if (decide (fs[n].tag < 0) && fs[n].has v) = true then fieldP fs[n] v flex (atT t n) else [] := by
  unfold plainTo
  rw [filter_take _ _ _ n (by simp [fieldsP_length]; exact hn)]
  simp [fieldsP_map]
theorem plainTo_le (fs : List F) (v : Int) (flex : Bool) (t : T) (n : Nat) : (plainTo fs v flex t n).length ≤ (partP fs v flex t).length := by
  have h := filter_take_le (fieldsP fs v flex).zipIdx (fun x => decide (x.1.1.tag < 0) && x.1.1.has v) (fun x => x.1.2 (atT t x.2)) n
  unfold partP partOf plainTo
  cases flex
  · simpa using h
  · simp only [Bool.not_true, Bool.false_eq_true, if_false, List.length_append]
    omega

end Go.Proofs.YtedconnhligkeaaDoor
