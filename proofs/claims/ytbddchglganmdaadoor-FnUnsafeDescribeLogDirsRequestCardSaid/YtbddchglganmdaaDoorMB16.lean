/-
  laws.version.
-/
import Derived.Test.YtbddchglganmdaaDoorMB3
import Derived.Test.YtbddchglganmdaaDoorMB11
import Derived.Test.YtbddchglganmdaaDoorMB14
import Derived.Deep.CutBlock
namespace Go.Proofs.YtbddchglganmdaaDoor
open Go.ChangeShapes Go.WideShapes Go.ChangeAt Go.RowKit

theorem version_any {n m : Int} (hn : 0 ≤ n ∧ n ≤ 255) (hm : 0 ≤ m ∧ m ≤ 1000) (w : World) : Calls Tryd.prog 15 #[.int .u8 n, .int .i64 m] w fun e w' => e = .returned (.int .i64 (n % (m + 1))) ∧ w = w' := by
  have h1 : n.tmod (m + 1) = n % (m + 1) := Int.tmod_eq_emod_of_nonneg hn.1
  have h2 : 0 ≤ n % (m + 1) := Int.emod_nonneg _ (by omega)
  have h3 : n % (m + 1) < m + 1 := Int.emod_lt_of_pos _ (by omega)
  go_enter Tryd.func15, Tryd.ntmps15
  go_wp2
  go_ret
  exact ⟨by first | (rw [← h1]; rfl) | (simp [h1]), rfl⟩
end Go.Proofs.YtbddchglganmdaaDoor
/-
  What the laws on two ways of reading share: version, the ends.
-/
namespace Go.Proofs.YtbddchglganmdaaDoor
open Go.ChangeShapes Go.WideShapes Go.ChangeAt Go.RowKit

theorem TTS.of {w : World} {b1 b2 : Nat} {n1 n2 n3 n4 n5 m1 m2 m3 m4 m5 : Value} {T1 T2 : TypeId} {z1 z2 : Nat × Nat} (h1 : w.heap[b1]? = some (.cells #[n1, n2, n3, n4, n5] T1 z1)) (h2 : w.heap[b2]? = some (.cells #[m1, m2, m3, m4, m5] T2 z2)) :
    w.cell? ⟨b1, 0, none⟩ = some n1 ∧ w.cell? ⟨b1, 1, none⟩ = some n2 ∧ w.cell? ⟨b1, 2, none⟩ = some n3 ∧ w.cell? ⟨b1, 3, none⟩ = some n4 ∧ w.cell? ⟨b1, 4, none⟩ = some n5 ∧ w.cell? ⟨b2, 0, none⟩ = some m1 ∧ w.cell? ⟨b2, 1, none⟩ = some m2 ∧ w.cell? ⟨b2, 2, none⟩ = some m3 ∧ w.cell? ⟨b2, 3, none⟩ = some m4 ∧ w.cell? ⟨b2, 4, none⟩ = some m5 :=
  ⟨cellOf h1 0 _ rfl, cellOf h1 1 _ rfl, cellOf h1 2 _ rfl, cellOf h1 3 _ rfl, cellOf h1 4 _ rfl, cellOf h2 0 _ rfl, cellOf h2 1 _ rfl, cellOf h2 2 _ rfl, cellOf h2 3 _ rfl, cellOf h2 4 _ rfl⟩
/-- the law's last world: both trees lie in boxes -/
theorem law_end {w w4 w5 : World} {G4 G5 : Nat → Prop} {a : T} {c4 c5 : List Value} {o4 o5 : Obj} {P : World → Prop} (K5 : Keep [] w w5) (k5 : Keep [] (w4.alloc o4) w5) (hc4 : HT w4 G4 a c4) (hc5 : HT w5 G5 a c5) (g4 : There G4 w4) (g5 : There G5 w5)
    (h : ∀ W, Keep [] w W → W.heap[w4.heap.size]? = some o4 → W.heap[w5.heap.size]? = some o5 → HT W G4 a c4 → HT W G5 a c5 → There G4 W → There G5 W → P W) : P (w5.alloc o5) := by
  have k6 : Keep [] w4 (w5.alloc o5) := ((keep_box _).trans k5).alloc _
  exact h _ (K5.alloc _) (oneBox (k5.alloc _)) (heap_alloc_new w5 o5) (hc4.keepF (g4.same k6) (fun _ h => h)) (hc5.keepF (g5.same (keep_box _)) (fun _ h => h)) (g4.keep k6) (g5.keep (keep_box _))
end Go.Proofs.YtbddchglganmdaaDoor
