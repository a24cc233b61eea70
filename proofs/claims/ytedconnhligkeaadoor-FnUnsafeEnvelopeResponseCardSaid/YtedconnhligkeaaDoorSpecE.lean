/-
  spec.field: what is written of a field. The part's contract is handed over.
-/
import Derived.Test.YtedconnhligkeaaDoorSpecD
namespace Go.Proofs.YtedconnhligkeaaDoor
open Go.ChangeShapes Go.WideShapes Go.ChangeAt Go.RowKit

abbrev fcells (f : F) (ao : Option Addr) (cap : Nat) : Array Value := #[.int .i64 f.kind, .int .i64 f.frm, .int .i64 f.to, .int .i64 f.nul, .int .i64 f.tag, .int .i64 f.dfl, .int .i64 f.ofk, .slice ao f.sub.length cap]
abbrev tcells (t : T) (az : Option Addr) (ps : Nat) (al : Option Addr) (pl : Nat) (au : Option Addr) (pu : Nat) : Array Value := #[.int .i64 t.n, .slice az t.s.length ps, .bool t.null, .slice al t.l.length pl, .slice au t.u.length pu]

theorem cellOf {w : World} {b : Nat} {c : Array Value} {t : TypeId} {f : Nat × Nat} (h : w.heap[b]? = some (.cells c t f)) (i : Nat) (v : Value) (hv : c[i]? = some v) : w.cell? ⟨b, i, none⟩ = some v := by
  simp [World.cell?, h, hv]
theorem fbox {w : World} {b : Nat} {f : F} {ao : Option Addr} {cap : Nat} {T' : TypeId} {z : Nat × Nat} (h : w.heap[b]? = some (.cells (fcells f ao cap) T' z)) :
    w.cell? ⟨b, 0, none⟩ = some (.int .i64 f.kind) ∧ w.cell? ⟨b, 1, none⟩ = some (.int .i64 f.frm) ∧ w.cell? ⟨b, 2, none⟩ = some (.int .i64 f.to) ∧ w.cell? ⟨b, 3, none⟩ = some (.int .i64 f.nul) ∧
    w.cell? ⟨b, 4, none⟩ = some (.int .i64 f.tag) ∧ w.cell? ⟨b, 5, none⟩ = some (.int .i64 f.dfl) ∧ w.cell? ⟨b, 6, none⟩ = some (.int .i64 f.ofk) ∧ w.cell? ⟨b, 7, none⟩ = some (.slice ao f.sub.length cap) :=
  ⟨cellOf h 0 _ rfl, cellOf h 1 _ rfl, cellOf h 2 _ rfl, cellOf h 3 _ rfl, cellOf h 4 _ rfl, cellOf h 5 _ rfl, cellOf h 6 _ rfl, cellOf h 7 _ rfl⟩
theorem tbox {w : World} {b : Nat} {t : T} {az : Option Addr} {ps : Nat} {al : Option Addr} {pl : Nat} {au : Option Addr} {pu : Nat} {T' : TypeId} {z : Nat × Nat} (h : w.heap[b]? = some (.cells (tcells t az ps al pl au pu) T' z)) :
    w.cell? ⟨b, 0, none⟩ = some (.int .i64 t.n) ∧ w.cell? ⟨b, 1, none⟩ = some (.slice az t.s.length ps) ∧ w.cell? ⟨b, 2, none⟩ = some (.bool t.null) ∧ w.cell? ⟨b, 3, none⟩ = some (.slice al t.l.length pl) ∧ w.cell? ⟨b, 4, none⟩ = some (.slice au t.u.length pu) :=
  ⟨cellOf h 0 _ rfl, cellOf h 1 _ rfl, cellOf h 2 _ rfl, cellOf h 3 _ rfl, cellOf h 4 _ rfl⟩
/-- a field's box and a tree's box, cell by cell -/
abbrev FTS (f : F) (aS : Option Addr) (pS : Nat) (t : T) (az : Option Addr) (ps : Nat) (al : Option Addr) (pl : Nat) (au : Option Addr) (pu : Nat) (b1 b2 : Nat) (w' : World) : Prop := w'.cell? ⟨b1, 0, none⟩ = some (.int .i64 f.kind) ∧ w'.cell? ⟨b1, 1, none⟩ = some (.int .i64 f.frm) ∧ w'.cell? ⟨b1, 2, none⟩ = some (.int .i64 f.to) ∧ w'.cell? ⟨b1, 3, none⟩ = some (.int .i64 f.nul) ∧ w'.cell? ⟨b1, 4, none⟩ = some (.int .i64 f.tag) ∧ w'.cell? ⟨b1, 5, none⟩ = some (.int .i64 f.dfl) ∧ w'.cell? ⟨b1, 6, none⟩ = some (.int .i64 f.ofk) ∧ w'.cell? ⟨b1, 7, none⟩ = some (.slice aS f.sub.length pS) ∧ w'.cell? ⟨b2, 0, none⟩ = some (.int .i64 t.n) ∧ w'.cell? ⟨b2, 1, none⟩ = some (.slice az t.s.length ps) ∧ w'.cell? ⟨b2, 2, none⟩ = some (.bool t.null) ∧ w'.cell? ⟨b2, 3, none⟩ = some (.slice al t.l.length pl) ∧ w'.cell? ⟨b2, 4, none⟩ = some (.slice au t.u.length pu)
theorem FTS.of {f : F} {aS : Option Addr} {pS : Nat} {t : T} {az : Option Addr} {ps : Nat} {al : Option Addr} {pl : Nat} {au : Option Addr} {pu b1 b2 : Nat} {w : World} {T1 T2 : TypeId} {z1 z2 : Nat × Nat}
    (h1 : w.heap[b1]? = some (.cells (fcells f aS pS) T1 z1)) (h2 : w.heap[b2]? = some (.cells (tcells t az ps al pl au pu) T2 z2)) : FTS f aS pS t az ps al pl au pu b1 b2 w := by
  obtain ⟨q0, q1, q2, q3, q4, q5, q6, q7⟩ := fbox h1
  obtain ⟨r0, r1, r2, r3, r4⟩ := tbox h2
  exact ⟨q0, q1, q2, q3, q4, q5, q6, q7, r0, r1, r2, r3, r4⟩
theorem SameOn.via {G : Nat → Prop} {w w1 w2 : World} (h1 : SameOn G w w1) (h2 : SameOn G w w2) : SameOn G w1 w2 := fun k hk => (h2 k hk).trans (h1 k hk).symm
theorem oneBox {w w1 : World} {o1 : Obj} (h : Keep [] (w.alloc o1) w1) : w1.heap[w.heap.size]? = some o1 := by
  rw [h.block _ (by simp) (by simp)]
  exact heap_alloc_new w o1
theorem twoBoxes {w w1 : World} {o1 o2 : Obj} (h : Keep [] ((w.alloc o1).alloc o2) w1) : w1.heap[w.heap.size]? = some o1 ∧ w1.heap[w.heap.size + 1]? = some o2 := by
  constructor
  · rw [h.block _ (by simp; omega) (by simp), Below.heap_alloc _ _ _ (by simp)]
    exact heap_alloc_new w o1
  · rw [h.block _ (by simp) (by simp)]
    exact alloc_at2 _ _ _

theorem take_flat {α : Type} (L : List α) (g : α → Bs) (n : Nat) (hn : n < L.length) : (L.take (n + 1)).flatMap g = (L.take n).flatMap g ++ g L[n] := by
  rw [List.take_succ_eq_append_getElem hn, List.flatMap_append]; simp
theorem take_flat_le {α : Type} (L : List α) (g : α → Bs) (n : Nat) : ((L.take n).flatMap g).length ≤ (L.flatMap g).length := by
  have : L.flatMap g = (L.take n).flatMap g ++ (L.drop n).flatMap g := by rw [← List.flatMap_append, List.take_append_drop]
  rw [this, List.length_append]; omega

end Go.Proofs.YtedconnhligkeaaDoor
