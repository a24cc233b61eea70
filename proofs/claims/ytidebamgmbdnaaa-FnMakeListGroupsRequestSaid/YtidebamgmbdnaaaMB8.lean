/-
  append of octets, and where the new slice lies.
-/
import Derived.Test.YtidebamgmbdnaaaMB1
import Derived.Maps.AppendAt
namespace Go.Proofs.Ytidebamgmbdnaaa
open Go.ChangeShapes Go.WideShapes Go.ChangeAt Go.RowKit

/-- w' is w, but for v's own block and new ones; v' lies in one of these -/
structure Moved (w w' : World) (v v' : Value) : Prop where
  grown : w.grownBy w' v.ownBlock
  here : ∀ k, v'.ownBlock = some k → v.ownBlock = some k ∨ w.heap.size ≤ k
theorem Moved.trans {a b c : World} {v v1 v2 : Value} (h : Moved a b v v1) (k : Moved b c v1 v2) : Moved a c v v2 := by
  refine ⟨⟨k.grown.os.trans h.grown.os, k.grown.tape.trans h.grown.tape, k.grown.output.trans h.grown.output, Nat.le_trans h.grown.size k.grown.size, fun i hi hne => ?_⟩, fun i e => ?_⟩
  · refine (k.grown.block i (Nat.lt_of_lt_of_le hi h.grown.size) fun e => ?_).trans (h.grown.block i hi hne)
    rcases h.here i e.symm with q | q
    · exact hne q.symm
    · omega
  · rcases k.here i e with q | q
    · exact h.here i q
    · exact .inr (Nat.le_trans h.grown.size q)
theorem Moved.refl (w : World) (v : Value) : Moved w w v v := ⟨⟨rfl, rfl, rfl, Nat.le_refl _, fun _ _ _ => rfl⟩, fun _ e => .inl e⟩
theorem Moved.below {B : Nat} {w w' : World} {v v' : Value} {l : Bs} (h : Moved w w' v v') (hB : B ≤ w.heap.size) (ho : OB w B v l) : Below B w w' :=
  ⟨h.grown.os, h.grown.tape, h.grown.output, h.grown.size, fun k hk => h.grown.block k (by omega) (fun e => by have := (ho.lt k e.symm).1; omega)⟩
section
variable {w : World} {ops : Array Oper} {rest : List Oper} {o : Oper} {a : Act} {Q : Exit → Act → World → Prop}
set_option maxRecDepth 100000 in
theorem app_at (hgd : o.guard = none) (s x : Operand) (ho : o.op = .call { callee := .builtin .append, args := #[s, x], argTypes := #[22, 22] })
    (B : Nat) (v : Value) (acc : Bs) (hs : a.eval s = v) (hown : OB w B v acc) (xv : Value) (l : Bs) (G : Nat → Prop) (hx : a.eval x = xv) (hl : RB w G xv l)
    (hlen : acc.length + l.length ≤ 70368744177664) (hB : B ≤ w.heap.size)
    (h : ∀ v' w', OB w' B v' (acc ++ l) → Moved w w' v v' → wpList Try.prog ops Q rest (a.put o.dst v') w') : wpList Try.prog ops Q (o :: rest) a w := by
  obtain ⟨i0, hi, hz0, hz1, hz2⟩ := info_parts info_u8
  obtain ⟨ao, cap, rfl, h1, h2, h3⟩ := hl
  cases ao with
  | none =>
    obtain ⟨g1, g2, g3⟩ := h2 rfl
    have hnil : l = [] := List.eq_nil_of_length_eq_zero g1
    subst hnil
    subst g2
    have hrun := run_append_owned_none (P := Try.prog) (w := w) B 22 o.type 5 i0 1 Try.underlying22 hi v _ _ hown
    have hx' : a.eval x = .slice none 0 0 := hx
    refine wpList_plain hgd fun K hK => ?_
    unfold Oper.wp
    simp [execOp, ho, resolve, invoke, builtin, hs, hx', hrun, Result.andThen]
    exact hK _ _ (h v w (by simpa using hown) (Moved.refl _ _))
  | some ad =>
    obtain ⟨g1, g2⟩ := h3 ad rfl
    refine wpList_append_own_at w hgd s x _ ho B 5 i0 (.int .u8 0) 1 1 Try.underlying22 hi hz0 hz1 hz2 rfl (by decide) v acc.length (acc.map bv) hs hown ad l.length cap (l.map bv) hx (by simp) ?_ ?_ (by unfold maxLen; omega) (by omega) hB ?_
    · intro j u hj
      have hlt : j < (l.map bv).length := (List.getElem?_eq_some_iff.1 hj).1
      rw [List.getElem?_eq_getElem hlt] at hj
      have := (g2 j hlt).2
      rw [Option.some.inj hj] at this
      rw [← this]
      congr 1
      obtain ⟨b, o, sp⟩ := ad
      replace g1 := g1 (by omega)
      simp only at g1
      subst g1
      unfold Addr.add
      split
      · subst j; rfl
      · rfl
    · intro u hu
      obtain ⟨x, _, rfl⟩ := List.mem_map.1 hu
      rfl
    · intro v' w' hown' hg _ hat
      refine h v' w' (by unfold OB; rw [List.length_append, List.map_append]; exact hown') ⟨hg, fun k e => ?_⟩
      rcases hat with q | q
      · exact .inl (q ▸ e)
      · right
        rw [q] at e
        cases e
        exact Nat.le_refl _
theorem app_new_at (hgd : o.guard = none) (s x : Operand) (ho : o.op = .call { callee := .builtin .append, args := #[s, x], argTypes := #[22, 22] })
    (B : Nat) (v : Value) (acc : Bs) (hs : a.eval s = v) (hown : OB w B v acc) (cs : Array Value) (l : Bs) (n : Nat) (hx : a.eval x = .slice (some ⟨w.heap.size, 0, none⟩) n n) (hcs : cs.toList = l.map bv) (hn : n = l.length)
    (hlen : acc.length + l.length ≤ 70368744177664) (hB : B ≤ w.heap.size)
    (h : ∀ v' w', OB w' B v' (acc ++ l) → Moved w w' v v' → wpList Try.prog ops Q rest (a.put o.dst v') w') : wpList Try.prog ops Q (o :: rest) a (w.alloc (.cells cs 5)) := by
  subst hn
  refine app_at hgd s x ho B v acc hs (hown.alloc _) _ l (fun _ => True) hx ?_ hlen (by simp; omega) ?_
  · refine ⟨_, _, rfl, Nat.le_refl _, (fun h => by cases h), fun ad had => ?_⟩
    cases had
    refine ⟨fun _ => rfl, fun i hi => ⟨trivial, ?_⟩⟩
    have e : (l.map bv)[i]? = some (l.map bv)[i] := List.getElem?_eq_getElem hi
    rw [← e, ← hcs]
    have e2 : (w.alloc (.cells cs 5)).heap[w.heap.size]? = some (.cells cs 5) := heap_alloc_new w _
    simp only [World.cell?, e2]
    simp
  · intro v' w' h1 h2
    refine h v' w' h1 ⟨⟨h2.grown.os, h2.grown.tape, h2.grown.output, Nat.le_trans (by simp) h2.grown.size, fun k hk hne => ?_⟩, fun k e => ?_⟩
    · rw [h2.grown.block k (by simp; omega) hne, Below.heap_alloc _ _ _ hk]
    · rcases h2.here k e with q | q
      · exact .inl q
      · exact .inr (by simp at q; omega)
end
end Go.Proofs.Ytidebamgmbdnaaa
