/-
  HOW FAR A MESSAGE HAS BEEN READ: the reader, the message's block, and what stays.
-/
import Derived.Test.YtedconnhligkeaaDoorTgRead
import Derived.Test.YtedconnhligkeaaDoorRdDone
import Derived.Test.YtedconnhligkeaaDoorRdI64
import Derived.Test.YtedconnhligkeaaDoorRdB
import Derived.Test.YtedconnhligkeaaDoorRdNul
namespace Go.Proofs.YtedconnhligkeaaDoor
open Go.ChangeShapes Go.WideShapes Go.ChangeAt Go.RowKit

theorem World.heap_lt {w : World} {b : Nat} {o : Obj} (h : w.heap[b]? = some o) : b < w.heap.size := (Array.getElem?_eq_some_iff.1 h).1
/-- the call began in w; the reader's block is new -/
structure RdSt (w U : World) (b rb : Nat) (G : Nat → Prop) (s : St) (arr : Array Value) (t : TypeId) : Prop where
  rd : Rd U rb G s
  blk : U.heap[b]? = some (.cells arr t (0, 0))
  keep : Keep [b] w U
  there : There G w
  nb : ¬ G b
  lt : b < w.heap.size
  new : w.heap.size ≤ rb
namespace RdSt
variable {w U U' : World} {b rb j : Nat} {G : Nat → Prop} {s s' : St} {arr : Array Value} {t : TypeId} {v : Value}
theorem hG (h : RdSt w U b rb G s arr t) : There G U := h.there.mono h.keep.size
theorem nrb (h : RdSt w U b rb G s arr t) : ¬ G rb := fun e => by have := h.there _ e; have := h.new; omega
theorem call (h : RdSt w U b rb G s arr t) (r : Rd U' rb G s') (k : Keep [rb] U U') : RdSt w U' b rb G s' arr t := by
  have hn := h.new
  have hl := h.lt
  have hs := h.keep.size
  refine ⟨r, (k.block b (by omega) (by simp; omega)).trans h.blk, ?_, h.there, h.nb, hl, hn⟩
  exact ((h.keep.weaken (B := [b, rb]) (by simp)).trans (k.weaken (by simp))).fresh (by simp; omega)
theorem calm (h : RdSt w U b rb G s arr t) (k : Keep [] U U') : RdSt w U' b rb G s arr t := by
  have hl := h.lt
  have hs := h.keep.size
  exact ⟨h.rd.keepW h.hG h.rd.lt' k, (k.block b (by omega) (by simp)).trans h.blk, h.keep.trans (k.weaken (by simp)), h.there, h.nb, hl, h.new⟩
theorem set (h : RdSt w U b rb G s arr t) (j : Nat) (v : Value) : RdSt w (U.setCell ⟨b, j, none⟩ v) b rb G s (arr.setIfInBounds j v) t := by
  have hn := h.new
  have hl := h.lt
  have k : Keep [b] U (U.setCell ⟨b, j, none⟩ v) := (Keep.refl _ _).setCell (.inl (by simp)) _
  refine ⟨h.rd.keepA h.hG h.rd.lt' k (by intro i hi; simp at hi; subst hi; exact h.nb) (by simp; omega), heap_set h.blk v, h.keep.trans k, h.there, h.nb, hl, hn⟩
theorem cell (h : RdSt w U b rb G s arr t) (j : Nat) (v : Value) (hv : arr[j]? = some v) : U.cell? ⟨b, j, none⟩ = some v := cellOf h.blk j v hv
theorem free (h : RdSt w U b rb G s arr t) (j : Nat) : U.frozen? ⟨b, j, none⟩ = false := freeOf h.blk j
theorem mp {W Z : World} {v : Value} {l : List Tg} (h : RdSt w U b rb G s arr t) (m : MP W (New G U W) v l) (k : Keep [b] W Z) : MP Z (New G w Z) v l := by
  have hl := h.lt
  have hu := h.keep.size
  have hz := k.size
  refine m.keepF (fun i hi => k.block i hi.2 ?_) (fun i hi => ⟨hi.1.imp id (fun e => by omega), by have := hi.2; omega⟩)
  simp
  rintro rfl
  rcases hi.1 with e | e
  · exact h.nb e
  · omega
theorem ps {W Z : World} {v : Value} {o : Option Bs} (h : RdSt w U b rb G s arr t) (m : PS W (fun k => U.heap.size ≤ k ∧ k < W.heap.size) v o) (k : Keep [b, rb] W Z) : PS Z (New G w Z) v o := by
  have hl := h.lt
  have hu := h.keep.size
  have hz := k.size
  have hr := h.rd.lt'
  exact m.keepF (fun i hi => k.block i hi.2 (by have := hi.1; simp; omega)) (fun i hi => ⟨.inr (by have := hi.1; omega), by have := hi.2; omega⟩)
end RdSt
theorem PS.shape {w : World} {G : Nat → Prop} {v : Value} {o : Option Bs} (h : PS w G v o) : ∃ a, v = .pointer a := by
  rcases h with ⟨rfl, _⟩ | ⟨k, l, rfl, _⟩
  · exact ⟨_, rfl⟩
  · exact ⟨_, rfl⟩
end Go.Proofs.YtedconnhligkeaaDoor
