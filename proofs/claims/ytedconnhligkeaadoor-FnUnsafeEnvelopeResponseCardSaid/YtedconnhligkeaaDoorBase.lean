/-
  WHAT VALUES READ AS, AND WHICH BLOCKS STAY: the words that all texts of this seat share. Plain lemmas on worlds.
-/
import Derived.Test.YtedconnhligkeaaDoorProg
import Derived.WalkKit
import Derived.ProofKit
import Derived.OpenShut
import Derived.BigQuiet
import Derived.Deep.QuietTactic
namespace Go.Proofs.YtedconnhligkeaaDoor
open Go.RowKit

/-- a byte as a cell -/
def bv (x : UInt8) : Value := .int .u8 (x.toNat : Int)

/-- outside the blocks A everything is as it was; blocks may be new -/
structure Keep (A : List Nat) (w w' : World) : Prop where
  os : w'.os = w.os
  tape : w'.tape = w.tape
  output : w'.output = w.output
  size : w.heap.size ≤ w'.heap.size
  block : ∀ k, k < w.heap.size → k ∉ A → w'.heap[k]? = w.heap[k]?

namespace Keep
variable {A B : List Nat} {w w1 w2 : World}
theorem refl (A : List Nat) (w : World) : Keep A w w := ⟨rfl, rfl, rfl, Nat.le_refl _, fun _ _ _ => rfl⟩
theorem trans (h : Keep A w w1) (k : Keep A w1 w2) : Keep A w w2 :=
  ⟨k.os.trans h.os, k.tape.trans h.tape, k.output.trans h.output, Nat.le_trans h.size k.size,
    fun i hi ha => (k.block i (Nat.lt_of_lt_of_le hi h.size) ha).trans (h.block i hi ha)⟩
theorem weaken (h : Keep A w w1) (hs : ∀ k, k ∈ A → k ∈ B) : Keep B w w1 :=
  ⟨h.os, h.tape, h.output, h.size, fun k hk hb => h.block k hk fun ha => hb (hs k ha)⟩
/-- blocks that were not there when it began count for nothing -/
theorem fresh (h : Keep A w w1) (hs : ∀ k, k ∈ A → k ∈ B ∨ w.heap.size ≤ k) : Keep B w w1 :=
  ⟨h.os, h.tape, h.output, h.size, fun k hk hb => h.block k hk fun ha => by
    rcases hs k ha with h1 | h1
    · exact hb h1
    · omega⟩
theorem drew (h : Keep A w w1) : Keep A w w1.drew := ⟨h.os, h.tape, h.output, h.size, h.block⟩
theorem alloc (h : Keep A w w1) (o : Obj) : Keep A w (w1.alloc o) :=
  h.trans ⟨rfl, rfl, rfl, by simp, fun k hk _ => Below.heap_alloc _ _ _ hk⟩
theorem setCell (h : Keep A w w1) {p : Addr} (hp : p.block ∈ A ∨ w.heap.size ≤ p.block) (u : Value) : Keep A w (w1.setCell p u) :=
  ⟨h.os, h.tape, h.output, by simp [World.setCell]; exact h.size, fun k hk ha => by
    rw [Below.heap_setCell _ _ _ _ (by
      intro e; subst e
      rcases hp with h1 | h1
      · exact ha h1
      · omega)]
    exact h.block k hk ha⟩
theorem grown (h : Keep A w w1) {row : Option Nat} (hg : w1.grownBy w2 row) (hr : ∀ k, row = some k → k ∈ A ∨ w.heap.size ≤ k) : Keep A w w2 :=
  ⟨hg.os.trans h.os, hg.tape.trans h.tape, hg.output.trans h.output, Nat.le_trans h.size hg.size, fun k hk ha =>
    (hg.block k (Nat.lt_of_lt_of_le hk h.size) (fun e => by
      rcases hr k e.symm with h1 | h1
      · exact ha h1
      · omega)).trans (h.block k hk ha)⟩
theorem cell (h : Keep A w w1) {p : Addr} (hp : p.block < w.heap.size) (ha : p.block ∉ A) : w1.cell? p = w.cell? p :=
  World.cell?_of_block (h.block _ hp ha)
theorem below (h : Keep [] w w1) : Below w.heap.size w w1 :=
  ⟨h.os, h.tape, h.output, h.size, fun k hk => h.block k hk (by simp)⟩
end Keep

/-- the blocks that are there and not among A -/
def Out (A : List Nat) (w : World) (k : Nat) : Prop := k < w.heap.size ∧ k ∉ A

/-- on the blocks F the two worlds agree -/
def SameOn (F : Nat → Prop) (w w' : World) : Prop := ∀ k, F k → w'.heap[k]? = w.heap[k]?
theorem Keep.sameOn {A : List Nat} {w w' : World} (h : Keep A w w') : SameOn (Out A w) w w' := fun k hk => h.block k hk.1 hk.2
theorem Out.grow {A : List Nat} {w w' : World} (h : Keep A w w') {k : Nat} (hk : Out A w k) : Out A w' k := ⟨Nat.lt_of_lt_of_le hk.1 h.size, hk.2⟩

/-- v is a slice of n elements whose cells are xs, all in blocks F -/
def RS (w : World) (F : Nat → Prop) (v : Value) (n : Nat) (xs : List Value) : Prop :=
  ∃ ao cap, v = .slice ao n cap ∧ n ≤ cap ∧ (ao = none → n = 0 ∧ cap = 0 ∧ xs = []) ∧
    ∀ a, ao = some a → a.spot = none ∧ ∀ i (h : i < xs.length), F a.block ∧ w.cell? ⟨a.block, a.off + i, none⟩ = some xs[i]

theorem RS.mono {w : World} {F G : Nat → Prop} {v : Value} {n : Nat} {xs : List Value} (h : RS w F v n xs) (hs : ∀ k, F k → G k) : RS w G v n xs := by
  obtain ⟨ao, cap, rfl, h1, h2, h3⟩ := h
  exact ⟨ao, cap, rfl, h1, h2, fun a ha => ⟨(h3 a ha).1, fun i hi => ⟨hs _ ((h3 a ha).2 i hi).1, ((h3 a ha).2 i hi).2⟩⟩⟩
theorem RS.same {w w' : World} {F : Nat → Prop} {v : Value} {n : Nat} {xs : List Value} (h : RS w F v n xs) (hs : SameOn F w w') : RS w' F v n xs := by
  obtain ⟨ao, cap, rfl, h1, h2, h3⟩ := h
  refine ⟨ao, cap, rfl, h1, h2, fun a ha => ⟨(h3 a ha).1, fun i hi => ?_⟩⟩
  obtain ⟨g1, g2⟩ := (h3 a ha).2 i hi
  exact ⟨g1, (World.cell?_of_block (w := w) (a := ⟨a.block, a.off + i, none⟩) (hs _ g1)).trans g2⟩
theorem RS.keep {A : List Nat} {w w' : World} {v : Value} {n : Nat} {xs : List Value} (h : RS w (Out A w) v n xs) (hk : Keep A w w') : RS w' (Out A w') v n xs :=
  (h.same hk.sameOn).mono fun _ => Out.grow hk

/-- v is a slice that reads as these bytes -/
def RB (w : World) (F : Nat → Prop) (v : Value) (l : List UInt8) : Prop := RS w F v l.length (l.map bv)
end Go.Proofs.YtedconnhligkeaaDoor
