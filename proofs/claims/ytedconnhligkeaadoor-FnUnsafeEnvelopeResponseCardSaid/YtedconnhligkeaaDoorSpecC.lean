/-
  spec.at, Field.has, Field.null.
-/
import Derived.Test.YtedconnhligkeaaDoorSpecB
namespace Go.Proofs.YtedconnhligkeaaDoor
open Go.ChangeShapes Go.WideShapes Go.ChangeAt Go.RowKit

theorem RS.nil (w : World) (G : Nat → Prop) : RS w G (.slice none 0 0) 0 [] := ⟨none, 0, rfl, Nat.le_refl _, fun _ => ⟨rfl, rfl, rfl⟩, (fun a h => by cases h)⟩
theorem RB.nil (w : World) (G : Nat → Prop) : RB w G (.slice none 0 0) [] := RS.nil w G
theorem HTs.nil (w : World) (G : Nat → Prop) : HTs w G (.slice none 0 0) [] := ⟨[], rfl, (fun i h => by simp at h), by simp, RS.nil w G⟩
theorem HGs.nil (w : World) (G : Nat → Prop) : HGs w G (.slice none 0 0) [] := ⟨[], rfl, (fun i h => by simp at h), (fun x h => by cases h), by simp, RS.nil w G⟩
theorem HT.zero (w : World) (G : Nat → Prop) : HT w G T.zero [.int .i64 0, .slice none 0 0, .bool false, .slice none 0 0, .slice none 0 0] :=
  .mk 0 [] false [] [] _ _ _ [] (RB.nil w G) (by simp) rfl (fun i h => by simp at h) (RS.nil w G) (HGs.nil w G)

theorem RS.shape {w : World} {G : Nat → Prop} {v : Value} {n : Nat} {xs : List Value} (h : RS w G v n xs) : ∃ ao cap, v = .slice ao n cap := by
  obtain ⟨ao, cap, e, _⟩ := h
  exact ⟨ao, cap, e⟩
theorem HGs.shape {w : World} {G : Nat → Prop} {v : Value} {u : List Tg} (h : HGs w G v u) : ∃ ao cap, v = .slice ao u.length cap := by
  obtain ⟨_, _, _, _, _, h4⟩ := h
  exact h4.shape
/-- the blocks G were there -/
def There (G : Nat → Prop) (w : World) : Prop := ∀ k, G k → k < w.heap.size
theorem There.same {G : Nat → Prop} {w w' : World} (h : There G w) (hk : Keep [] w w') : SameOn G w w' := fun k hg => hk.block k (h k hg) (by simp)
theorem There.keep {G : Nat → Prop} {w w' : World} (h : There G w) (hk : Keep [] w w') : There G w' := fun k hg => Nat.lt_of_lt_of_le (h k hg) hk.size

/-- a field's cells, by name -/
theorem HF.cells {w : World} {G : Nat → Prop} {f : F} {c : List Value} (h : HF w G f c) : ∃ ao cap, c = [.int .i64 f.kind, .int .i64 f.frm, .int .i64 f.to, .int .i64 f.nul, .int .i64 f.tag, .int .i64 f.dfl, .int .i64 f.ofk, .slice ao f.sub.length cap] ∧ HFs w G (.slice ao f.sub.length cap) f.sub := by
  obtain ⟨v, rfl, h1⟩ := h.parts
  obtain ⟨ao, cap, rfl, _⟩ := h1.shape
  exact ⟨ao, cap, rfl, h1⟩
theorem HT.cells {w : World} {G : Nat → Prop} {t : T} {c : List Value} (h : HT w G t c) :
    ∃ az ps al pl au pu, c = [.int .i64 t.n, .slice az t.s.length ps, .bool t.null, .slice al t.l.length pl, .slice au t.u.length pu] ∧ RB w G (.slice az t.s.length ps) t.s ∧ HTs w G (.slice al t.l.length pl) t.l ∧ HGs w G (.slice au t.u.length pu) t.u ∧ -9223372036854775808 ≤ t.n ∧ t.n ≤ 9223372036854775807 ∧ t.s.length ≤ 1099511627776 ∧ t.l.length ≤ 1099511627776 := by
  obtain ⟨vs, vl, vu, rfl, k1, k2, k3, k4⟩ := h.parts
  obtain ⟨az, ps, rfl⟩ := RS.shape k1
  obtain ⟨al, pl, rfl, _⟩ := HTs.shape k2
  obtain ⟨au, pu, rfl⟩ := HGs.shape k3
  exact ⟨az, ps, al, pl, au, pu, rfl, k1, k2, k3, k4⟩

end Go.Proofs.YtedconnhligkeaaDoor
